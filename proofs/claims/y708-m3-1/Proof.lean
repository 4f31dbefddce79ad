import JvmDerived
import JvmDerived.Pilot.@@N@@Statement
import JvmDerived.Pilot.@@N@@Code
set_option linter.unusedVariables false
set_option linter.unusedSimpArgs false

namespace Jvm.Pilot.@@N@@
open Jvm Jvm.ClassFile Sem Op Lib Jvm.Free Jvm.Stand Jvm.LawKit Jvm.RoadKit Bundle Jvm.Pilot.@@N@@.Jvm.D
/-- the run from U comes to an end of which P holds -/
def own_Go (tb : Tables) (e : Env) (below : List Frame) (P : Outcome → State → Prop) (U : State) : Prop :=
  ∃ s₂ o, Steps tb e below U s₂ ∧ s₂.status = .running ∧ Ended s₂ below o ∧ P o s₂
theorem own_go {tb : Tables} {e : Env} {below : List Frame} {P : Outcome → State → Prop} {U U' : State} (k : ∀ t, Steps tb e below U' t → Steps tb e below U t) (h : own_Go tb e below P U') : own_Go tb e below P U := by
  obtain ⟨t, o, h1, h2⟩ := h
  exact ⟨t, o, k t h1, h2⟩
section Own
variable {p : Program} {l : Launch} {e : Env} {R : Room} {s : State} {m : MethodId} {args : Array Value} {below : List Frame} {meth : Method} {c : Code} {T : State} {locs : List Loc} {cells slots : Nat}
theorem own_retI (X : Stand p l e R s m args below meth c T locs cells slots) (hx : p.tables.exec = Jvm.exec) {pc : Nat} {Ls : Array Slot} {z : Int32} {rest : List Value} (hret : meth.sig.returnType = some .int) (hd : decode c.code pc = .ok (.ireturn, 1)) {fs : List Frame}
    (hl : ∀ (f : JFrame) (acts : List Action), f.method = m → f.locked = none → f.entered = [] → (doReturn e (T.setTop f) acts (some (.int z))).1 = T.setFrames fs) : Steps p.tables e below (T.setTop (mkF m pc Ls (.int z :: rest))) (T.setFrames fs) := by
  have hm' : T.vm.method? m = some meth := X.method'
  have hn : narrow .int (.int z) = .int z := rfl
  show Steps p.tables e below (T.setTop { method := m, pc := pc, locals := Ls, stack := _ :: rest, locked := none }) _
  jvm_step X.here [X.here.top, hx, hd, hm', hret, hn]
  first | (intro acts; rw [hl _ acts rfl rfl rfl]) | rw [hl _ _ rfl rfl rfl]
  exact Steps.refl _
theorem own_retJ (X : Stand p l e R s m args below meth c T locs cells slots) (hx : p.tables.exec = Jvm.exec) {pc : Nat} {Ls : Array Slot} {z : Int64} {rest : List Value} (hret : meth.sig.returnType = some .long) (hd : decode c.code pc = .ok (.lreturn, 1)) {fs : List Frame}
    (hl : ∀ (f : JFrame) (acts : List Action), f.method = m → f.locked = none → f.entered = [] → (doReturn e (T.setTop f) acts (some (.long z))).1 = T.setFrames fs) : Steps p.tables e below (T.setTop (mkF m pc Ls (.long z :: rest))) (T.setFrames fs) := by
  have hm' : T.vm.method? m = some meth := X.method'
  show Steps p.tables e below (T.setTop { method := m, pc := pc, locals := Ls, stack := _ :: rest, locked := none }) _
  jvm_step X.here [X.here.top, hx, hd, hm', hret, narrow]
  first | (intro acts; rw [hl _ acts rfl rfl rfl]) | rw [hl _ _ rfl rfl rfl]
  exact Steps.refl _
theorem own_mapI (xs : List Int32) (i : Nat) : (xs.map Value.int).getD i (.int 0) = .int (xs.getD i 0) := by
  simp only [List.getD_eq_getElem?_getD, List.getElem?_map]; cases xs[i]? <;> rfl
theorem own_mapJ (xs : List Int64) (i : Nat) : (xs.map Value.long).getD i (.long 0) = .long (xs.getD i 0) := by
  simp only [List.getD_eq_getElem?_getD, List.getElem?_map]; cases xs[i]? <;> rfl
theorem own_kx {h h' : Heap} (K : Keep h h' []) : Ext h h' := ⟨K.1, fun a c q => K.2.1 a c q (by simp)⟩
theorem own_retA (X : Stand p l e R s m args below meth c T locs cells slots) (hx : p.tables.exec = Jvm.exec) {pc : Nat} {Ls : Array Slot} {z : Addr} {rest : List Value} {C : String} (hret : meth.sig.returnType = some (.object C)) (hd : decode c.code pc = .ok (.areturn, 1)) {fs : List Frame}
    (hl : ∀ (f : JFrame) (acts : List Action), f.method = m → f.locked = none → f.entered = [] → (doReturn e (T.setTop f) acts (some (.ref z))).1 = T.setFrames fs) : Steps p.tables e below (T.setTop (mkF m pc Ls (.ref z :: rest))) (T.setFrames fs) := by
  have hm' : T.vm.method? m = some meth := X.method'
  show Steps p.tables e below (T.setTop { method := m, pc := pc, locals := Ls, stack := _ :: rest, locked := none }) _
  jvm_step X.here [X.here.top, hx, hd, hm', hret, Value.isRef, FieldType.isReference]
  first | (intro acts; rw [hl _ acts rfl rfl rfl]) | rw [hl _ _ rfl rfl rfl]
  exact Steps.refl _
theorem own_endH {Q : Option Value → Heap → List Loc → Prop} {kc ks n : Nat} {vm₁ : Vm} {Z : State} {EL : List (String × Nat)} (X : Stand p l e R (s.setVm vm₁) m args below meth c T locs cells slots) (hC : CHr Z EL s.vm s.heap T.vm T.heap) (hS : s.Since vm₁ n) (hn : n ≤ T.heap.size) (hlocks : meth.locks = false) {g : JFrame} {v : Option Value}
    (hv : meth.sig.returnType = none → v = none)
    (hs : ∀ fs, (∀ (f : JFrame) (acts : List Action), f.method = m → f.locked = none → f.entered = [] → (doReturn e (T.setTop f) acts v).1 = T.setFrames fs) → Steps p.tables e below (T.setTop g) (T.setFrames fs))
    (hQ : Q v T.heap locs) (h1 : cells ≤ kc) (h2 : slots ≤ ks) :
    own_Go p.tables e below (fun o U' => ∃ v L, o = .returned v ∧ Q v U'.heap L ∧ CHr Z EL s.vm s.heap U'.vm U'.heap ∧ ReturnedEndW s o U' L kc ks) (T.setTop g) := by
  obtain ⟨fs, hr, hrun, hended, h3, h4, h5, h6⟩ := X.leaveW hS hn (v := v) hv hlocks
  exact ⟨_, _, hs fs hr, hrun, hended, _, _, rfl, hQ, hC, h3, h4, h5, h6.mono h1 h2⟩
theorem own_endW {Q : Option Value → Heap → List Loc → Prop} {kc ks n : Nat} {vm₁ : Vm} (X : Stand p l e R (s.setVm vm₁) m args below meth c T locs cells slots) (hS : s.Since vm₁ n) (hn : n ≤ T.heap.size) (hlocks : meth.locks = false) {g : JFrame} {v : Option Value}
    (hv : meth.sig.returnType = none → v = none)
    (hs : ∀ fs, (∀ (f : JFrame) (acts : List Action), f.method = m → f.locked = none → f.entered = [] → (doReturn e (T.setTop f) acts v).1 = T.setFrames fs) → Steps p.tables e below (T.setTop g) (T.setFrames fs))
    (hQ : Q v T.heap locs) (h1 : cells ≤ kc) (h2 : slots ≤ ks) :
    own_Go p.tables e below (fun o U' => ∃ v L, o = .returned v ∧ Q v U'.heap L ∧ ReturnedEndW s o U' L kc ks) (T.setTop g) := by
  obtain ⟨fs, hr, hrun, hended, h3, h4, h5, h6⟩ := X.leaveW hS hn (v := v) hv hlocks
  exact ⟨_, _, hs fs hr, hrun, hended, _, _, rfl, hQ, h3, h4, h5, h6.mono h1 h2⟩
theorem own_end {Q : Option Value → Heap → List Loc → Prop} {kc ks : Nat} (X : Stand p l e R s m args below meth c T locs cells slots) (hlocks : meth.locks = false) {g : JFrame} {v : Option Value}
    (hv : meth.sig.returnType = none → v = none)
    (hs : ∀ fs, (∀ (f : JFrame) (acts : List Action), f.method = m → f.locked = none → f.entered = [] → (doReturn e (T.setTop f) acts v).1 = T.setFrames fs) → Steps p.tables e below (T.setTop g) (T.setFrames fs))
    (hQ : Q v T.heap locs) (h1 : cells ≤ kc) (h2 : slots ≤ ks) :
    own_Go p.tables e below (fun o U' => ∃ v L, o = .returned v ∧ Q v U'.heap L ∧ FrameEnd s o U' L kc ks) (T.setTop g) := by
  obtain ⟨fs, hr, hrun, hended, hW, hsame⟩ := X.leave (v := v) hv hlocks
  exact ⟨_, _, hs fs hr, hrun, hended, _, _, rfl, hQ, ⟨_, rfl⟩, hW, hsame.mono h1 h2⟩
end Own
theorem own_wS {Z : State} {a0 : Array Value} (hw : ∀ d ∈ tables_1, d.before a0 Z = true) : ∀ a ∈ Bundle.stringAtoms, a.before a0 Z = true := fun c hc =>
  hw c (by simpa using (List.all_eq_true.mp (by decide +kernel : (Bundle.stringAtoms.all fun c => tables_1.contains c) = true)) c hc)

/-- the constant's text, out of the sheet's own word -/
def own_text : String := match (tables_1[7]? : Option Jvm.Cond) with
  | some (Jvm.Cond.stringLink _ _ t) => t
  | _ => ""
theorem own_litw {Z : State} {a0 : Array Value} (hw : ∀ d ∈ tables_1, d.before a0 Z = true) : (Jvm.Cond.stringLink "com/example/pathwise/pathwise/model/Iri" 20 own_text).before a0 Z = true := hw _ (List.mem_of_getElem? (i := 7) rfl)
theorem own_lit : (∀ c ∈ own_text.toList, c.toNat < 256) ∧ own_text.toList.map (fun c => Value.int (Jvm.Lit.byteI c.toNat.toUInt16)) = [(.int (60 : Int32)), (.int (62 : Int32)), (.int (34 : Int32)), (.int (123 : Int32)), (.int (125 : Int32)), (.int (124 : Int32)), (.int (94 : Int32)), (.int (96 : Int32)), (.int (92 : Int32))] := by decide +kernel
theorem own_EL {Z : State} {a0 : Array Value} (hw : ∀ d ∈ tables_1, d.before a0 Z = true) : EW Z a0 consts_1 := EW.cons (own_litw hw) own_lit.1 EW.nil
theorem ds1_0 : decode jdk_42_method_154_code 0 = .ok (.getstatic 38, 3) := by decide +kernel
theorem ds1_3 : decode jdk_42_method_154_code 3 = .ok (.ifCond .eq 14, 3) := by decide +kernel
theorem ds1_6 : decode jdk_42_method_154_code 6 = .ok (.aload_n 0, 1) := by decide +kernel
theorem ds1_7 : decode jdk_42_method_154_code 7 = .ok (.getfield 15, 3) := by decide +kernel
theorem ds1_10 : decode jdk_42_method_154_code 10 = .ok (.ifCond .ne 7, 3) := by decide +kernel
theorem ds1_13 : decode jdk_42_method_154_code 13 = .ok (.iconst 1, 1) := by decide +kernel
theorem ds1_14 : decode jdk_42_method_154_code 14 = .ok (.goto 4, 3) := by decide +kernel
theorem ds1_18 : decode jdk_42_method_154_code 18 = .ok (.ireturn, 1) := by decide +kernel
theorem pns1 : plainName "java/lang/String" = true := by first | (simp [plainName, overriddenIn]; done) | decide +kernel
theorem efs1 (m : MethodId) (a0 : Addr) : entryFrame m #[(.ref a0)] 1 = mkF m 0 #[.val (.ref a0)] [] := by first | (simp [entryFrame, mkF, argsToLocals, Value.category]; done) | rfl
def own_Qs1 (Z : State) (a0 : Addr) (ab : Addr) (ka : ClassId) (wc : Int32) (h0 : Heap) (n0 : Nat) (v : Option Value) (h : Heap) (L : List Loc) : Prop := v = some (.int (1 : Int32)) ∧ Fr n0 L ∧ h = h0
set_option maxRecDepth 65536 in
set_option maxHeartbeats 40000000 in
theorem rms1 (l : Launch) (Z : State) (az : Array Value) (hw : ∀ d ∈ tables_1, d.before az Z = true) (ws : List Jvm.Cond) (a0 : Addr) (ab : Addr) (ka : ClassId) (wc : Int32) (h0 : Heap) (n0 : Nat) (Z0 : n0 ≤ h0.size) (F_a0_coder : Fld Z h0 a0 "java/lang/String" "coder" "B" (.int (0 : Int32))) (F_a0_value : Fld Z h0 a0 "java/lang/String" "value" "[B" (.ref ab)) (E_a0 : Exa Z h0 a0 "java/lang/String") (V_ab : Arv Z h0 ab ka .byte (9 : Int32) [(.int (60 : Int32)), (.int (62 : Int32)), (.int (34 : Int32)), (.int (123 : Int32)), (.int (125 : Int32)), (.int (124 : Int32)), (.int (94 : Int32)), (.int (96 : Int32)), (.int (92 : Int32))] (.int (0 : Int32))) (S_COMPACT_STRINGS : Sta Z h0 "java/lang/String" "COMPACT_STRINGS" "Z" (.int wc)) (hwc : ¬ (wc = (0 : Int32))) :
    MetFree l (⟨"java/lang/String", "isLatin1", "()Z"⟩ : MethodName) (head1 (Jvm.Cond.code (⟨"java/lang/String", "isLatin1", "()Z"⟩ : MethodName) jdk_42_method_154_code 1 (some .boolean) :: ws) ({ frames := 0, cells := 0, slots := 0, locals := 0 } : Room)) (fun a U => a = #[(.ref a0)] ∧ Z.Warmed39 U.vm ∧ U.heap = h0) (fun _ _ _ _ _ => True) (fun _ U o U' => ∃ v L, o = .returned v ∧ own_Qs1 Z a0 ab ka wc h0 n0 v U'.heap L ∧ FrameEnd U o U' L ({ frames := 0, cells := 0, slots := 0, locals := 0 } : Room).cells ({ frames := 0, cells := 0, slots := 0, locals := 0 } : Room).slots) := by
  refine MetFree.of_bodySF (plainFor_of_name pns1) hisR ?_
  intro p e s m args below meth c s₁ Bd hml0 hP hK
  obtain ⟨rfl, hZ, hh⟩ := hP
  have hx := Bd.exec
  have hby := Bd.bytes
  have hml : c.maxLocals = 1 := hml0
  have hown : s.vm.findClass "java/lang/String" = some m.cls := findClass_of_methodNamed Bd.named
  have hnm := (name_of_methodNamed Bd.named Bd.method).1
  have X0 : Stand p l e ({ frames := 0, cells := 0, slots := 0, locals := 0 } : Room) s m #[(.ref a0)] below meth c s₁ [] 0 0 := Stand.of_body Bd
  have e0 : s₁.heap = h0 := by rw [← hh, Bd.state]; rfl
  have N0 := Fr.nil n0
  show own_Go p.tables e below (fun o U' => ∃ v L, o = .returned v ∧ own_Qs1 Z a0 ab ka wc h0 n0 v U'.heap L ∧ FrameEnd s o U' L ({ frames := 0, cells := 0, slots := 0, locals := 0 } : Room).cells ({ frames := 0, cells := 0, slots := 0, locals := 0 } : Room).slots) (s₁.setTop (entryFrame m #[(.ref a0)] 1))
  refine own_go (fun _ k => castTop (efs1 m a0) k) ?_
  show own_Go p.tables e below _ (s₁.setTop (mkF m 0 #[.val (.ref a0)] []))
  obtain ⟨T1, X1, e1, st1⟩ := getS2 X0 hx hZ hown (host := "") (Or.inl (hw _ (List.mem_of_getElem? (i := 30) rfl))) Via.refl e0 S_COMPACT_STRINGS (g := (mkF m 0 #[.val (.ref a0)] [])) rfl (hb hby ds1_0)
  refine own_go st1 ?_
  show own_Go p.tables e below _ (T1.setTop (mkF m 3 #[.val (.ref a0)] [(.int wc)]))
  have hf3 : ¬ (wc = (0 : Int32)) := hwc
  refine own_go (fun _ k => XS.ifNo X1.here hx rfl (hb hby ds1_3) rfl ((if0 _ _).trans (feq hf3).1) k) ?_
  show own_Go p.tables e below _ (T1.setTop (mkF m 6 #[.val (.ref a0)] []))
  refine own_go (fun _ k => XS.aloadN X1.here hx rfl (hb hby ds1_6) rfl rfl k) ?_
  show own_Go p.tables e below _ (T1.setTop (mkF m 7 #[.val (.ref a0)] [(.ref a0)]))
  obtain ⟨T2, X2, e2, st2⟩ := getF X1 hx hZ hown (host := "") (Or.inl (hw _ (List.mem_of_getElem? (i := 31) rfl))) Via.refl e1 F_a0_coder (g := (mkF m 7 #[.val (.ref a0)] [(.ref a0)])) rfl rfl (hb hby ds1_7)
  refine own_go st2 ?_
  show own_Go p.tables e below _ (T2.setTop (mkF m 10 #[.val (.ref a0)] [(.int (0 : Int32))]))
  have hf10 : (0 : Int32) = (0 : Int32) := by decide
  refine own_go (fun _ k => XS.ifNo X2.here hx rfl (hb hby ds1_10) rfl ((if0 _ _).trans (teq hf10).2) k) ?_
  show own_Go p.tables e below _ (T2.setTop (mkF m 13 #[.val (.ref a0)] []))
  refine own_go (fun _ k => XS.iconst X2.here hx rfl (hb hby ds1_13) k) ?_
  show own_Go p.tables e below _ (T2.setTop (mkF m 14 #[.val (.ref a0)] [(.int (1 : Int32))]))
  refine own_go (fun _ k => XS.goto X2.here hx rfl (pc0 := 14) (pc' := 18) rfl (hb hby ds1_14) (by decide) (by decide) k) ?_
  show own_Go p.tables e below _ (T2.setTop (mkF m 18 #[.val (.ref a0)] [(.int (1 : Int32))]))
  refine own_end X2 Bd.notSynchronized (v := some (.int (1 : Int32))) (fun h => by rw [Bd.returns] at h; cases h) (fun fs hr => retN X2 hx (t := .boolean) Bd.returns (by simp) (hb hby ds1_18) hr) ?_ (by decide) (by decide)
  exact ⟨congrArg (fun z => some (Value.int z)) (by decide : (1 : Int32) = (1 : Int32)), N0, e2⟩
theorem ds2_0 : decode jdk_42_method_152_code 0 = .ok (.getstatic 38, 3) := by decide +kernel
theorem ds2_3 : decode jdk_42_method_152_code 3 = .ok (.ifCond .eq 10, 3) := by decide +kernel
theorem ds2_6 : decode jdk_42_method_152_code 6 = .ok (.aload_n 0, 1) := by decide +kernel
theorem ds2_7 : decode jdk_42_method_152_code 7 = .ok (.getfield 15, 3) := by decide +kernel
theorem ds2_10 : decode jdk_42_method_152_code 10 = .ok (.goto 4, 3) := by decide +kernel
theorem ds2_14 : decode jdk_42_method_152_code 14 = .ok (.ireturn, 1) := by decide +kernel
theorem pns2 : plainName "java/lang/String" = true := by first | (simp [plainName, overriddenIn]; done) | decide +kernel
theorem efs2 (m : MethodId) (a0 : Addr) : entryFrame m #[(.ref a0)] 1 = mkF m 0 #[.val (.ref a0)] [] := by first | (simp [entryFrame, mkF, argsToLocals, Value.category]; done) | rfl
def own_Qs2 (Z : State) (a0 : Addr) (ab : Addr) (ka : ClassId) (wc : Int32) (h0 : Heap) (n0 : Nat) (v : Option Value) (h : Heap) (L : List Loc) : Prop := v = some (.int (0 : Int32)) ∧ Fr n0 L ∧ h = h0
set_option maxRecDepth 65536 in
set_option maxHeartbeats 40000000 in
theorem rms2 (l : Launch) (Z : State) (az : Array Value) (hw : ∀ d ∈ tables_1, d.before az Z = true) (ws : List Jvm.Cond) (a0 : Addr) (ab : Addr) (ka : ClassId) (wc : Int32) (h0 : Heap) (n0 : Nat) (Z0 : n0 ≤ h0.size) (F_a0_coder : Fld Z h0 a0 "java/lang/String" "coder" "B" (.int (0 : Int32))) (F_a0_value : Fld Z h0 a0 "java/lang/String" "value" "[B" (.ref ab)) (E_a0 : Exa Z h0 a0 "java/lang/String") (V_ab : Arv Z h0 ab ka .byte (9 : Int32) [(.int (60 : Int32)), (.int (62 : Int32)), (.int (34 : Int32)), (.int (123 : Int32)), (.int (125 : Int32)), (.int (124 : Int32)), (.int (94 : Int32)), (.int (96 : Int32)), (.int (92 : Int32))] (.int (0 : Int32))) (S_COMPACT_STRINGS : Sta Z h0 "java/lang/String" "COMPACT_STRINGS" "Z" (.int wc)) (hwc : ¬ (wc = (0 : Int32))) :
    MetFree l (⟨"java/lang/String", "coder", "()B"⟩ : MethodName) (head1 (Jvm.Cond.code (⟨"java/lang/String", "coder", "()B"⟩ : MethodName) jdk_42_method_152_code 1 (some .byte) :: ws) ({ frames := 0, cells := 0, slots := 0, locals := 0 } : Room)) (fun a U => a = #[(.ref a0)] ∧ Z.Warmed39 U.vm ∧ U.heap = h0) (fun _ _ _ _ _ => True) (fun _ U o U' => ∃ v L, o = .returned v ∧ own_Qs2 Z a0 ab ka wc h0 n0 v U'.heap L ∧ FrameEnd U o U' L ({ frames := 0, cells := 0, slots := 0, locals := 0 } : Room).cells ({ frames := 0, cells := 0, slots := 0, locals := 0 } : Room).slots) := by
  refine MetFree.of_bodySF (plainFor_of_name pns2) hisR ?_
  intro p e s m args below meth c s₁ Bd hml0 hP hK
  obtain ⟨rfl, hZ, hh⟩ := hP
  have hx := Bd.exec
  have hby := Bd.bytes
  have hml : c.maxLocals = 1 := hml0
  have hown : s.vm.findClass "java/lang/String" = some m.cls := findClass_of_methodNamed Bd.named
  have hnm := (name_of_methodNamed Bd.named Bd.method).1
  have X0 : Stand p l e ({ frames := 0, cells := 0, slots := 0, locals := 0 } : Room) s m #[(.ref a0)] below meth c s₁ [] 0 0 := Stand.of_body Bd
  have e0 : s₁.heap = h0 := by rw [← hh, Bd.state]; rfl
  have N0 := Fr.nil n0
  show own_Go p.tables e below (fun o U' => ∃ v L, o = .returned v ∧ own_Qs2 Z a0 ab ka wc h0 n0 v U'.heap L ∧ FrameEnd s o U' L ({ frames := 0, cells := 0, slots := 0, locals := 0 } : Room).cells ({ frames := 0, cells := 0, slots := 0, locals := 0 } : Room).slots) (s₁.setTop (entryFrame m #[(.ref a0)] 1))
  refine own_go (fun _ k => castTop (efs2 m a0) k) ?_
  show own_Go p.tables e below _ (s₁.setTop (mkF m 0 #[.val (.ref a0)] []))
  obtain ⟨T1, X1, e1, st1⟩ := getS2 X0 hx hZ hown (host := "") (Or.inl (hw _ (List.mem_of_getElem? (i := 30) rfl))) Via.refl e0 S_COMPACT_STRINGS (g := (mkF m 0 #[.val (.ref a0)] [])) rfl (hb hby ds2_0)
  refine own_go st1 ?_
  show own_Go p.tables e below _ (T1.setTop (mkF m 3 #[.val (.ref a0)] [(.int wc)]))
  have hf3 : ¬ (wc = (0 : Int32)) := hwc
  refine own_go (fun _ k => XS.ifNo X1.here hx rfl (hb hby ds2_3) rfl ((if0 _ _).trans (feq hf3).1) k) ?_
  show own_Go p.tables e below _ (T1.setTop (mkF m 6 #[.val (.ref a0)] []))
  refine own_go (fun _ k => XS.aloadN X1.here hx rfl (hb hby ds2_6) rfl rfl k) ?_
  show own_Go p.tables e below _ (T1.setTop (mkF m 7 #[.val (.ref a0)] [(.ref a0)]))
  obtain ⟨T2, X2, e2, st2⟩ := getF X1 hx hZ hown (host := "") (Or.inl (hw _ (List.mem_of_getElem? (i := 31) rfl))) Via.refl e1 F_a0_coder (g := (mkF m 7 #[.val (.ref a0)] [(.ref a0)])) rfl rfl (hb hby ds2_7)
  refine own_go st2 ?_
  show own_Go p.tables e below _ (T2.setTop (mkF m 10 #[.val (.ref a0)] [(.int (0 : Int32))]))
  refine own_go (fun _ k => XS.goto X2.here hx rfl (pc0 := 10) (pc' := 14) rfl (hb hby ds2_10) (by decide) (by decide) k) ?_
  show own_Go p.tables e below _ (T2.setTop (mkF m 14 #[.val (.ref a0)] [(.int (0 : Int32))]))
  refine own_end X2 Bd.notSynchronized (v := some (.int (0 : Int32))) (fun h => by rw [Bd.returns] at h; cases h) (fun fs hr => retN X2 hx (t := .byte) Bd.returns (by simp) (hb hby ds2_14) hr) ?_ (by decide) (by decide)
  exact ⟨congrArg (fun z => some (Value.int z)) (by decide : (0 : Int32) = (0 : Int32)), N0, e2⟩
theorem ds3_0 : decode jdk_42_method_54_code 0 = .ok (.aload_n 0, 1) := by decide +kernel
theorem ds3_1 : decode jdk_42_method_54_code 1 = .ok (.getfield 9, 3) := by decide +kernel
theorem ds3_4 : decode jdk_42_method_54_code 4 = .ok (.arraylength, 1) := by decide +kernel
theorem ds3_5 : decode jdk_42_method_54_code 5 = .ok (.aload_n 0, 1) := by decide +kernel
theorem ds3_6 : decode jdk_42_method_54_code 6 = .ok (.invokevirtual 335, 3) := by decide +kernel
theorem ds3_9 : decode jdk_42_method_54_code 9 = .ok (.ishr, 1) := by decide +kernel
theorem ds3_10 : decode jdk_42_method_54_code 10 = .ok (.ireturn, 1) := by decide +kernel
theorem pns3 : plainName "java/lang/String" = true := by first | (simp [plainName, overriddenIn]; done) | decide +kernel
theorem pds3_0 : parseMethodDescriptor "()B" = some ⟨[], some .byte⟩ := by decide +kernel
theorem efs3 (m : MethodId) (a0 : Addr) : entryFrame m #[(.ref a0)] 1 = mkF m 0 #[.val (.ref a0)] [] := by first | (simp [entryFrame, mkF, argsToLocals, Value.category]; done) | rfl
def own_Qs3 (Z : State) (a0 : Addr) (ab : Addr) (ka : ClassId) (wc : Int32) (h0 : Heap) (n0 : Nat) (v : Option Value) (h : Heap) (L : List Loc) : Prop := v = some (.int (9 : Int32)) ∧ Fr n0 L ∧ h = h0
set_option maxRecDepth 65536 in
set_option maxHeartbeats 40000000 in
theorem rms3 (l : Launch) (Z : State) (az : Array Value) (hw : ∀ d ∈ tables_1, d.before az Z = true) (ws : List Jvm.Cond) (a0 : Addr) (ab : Addr) (ka : ClassId) (wc : Int32) (h0 : Heap) (n0 : Nat) (Z0 : n0 ≤ h0.size) (F_a0_coder : Fld Z h0 a0 "java/lang/String" "coder" "B" (.int (0 : Int32))) (F_a0_value : Fld Z h0 a0 "java/lang/String" "value" "[B" (.ref ab)) (E_a0 : Exa Z h0 a0 "java/lang/String") (V_ab : Arv Z h0 ab ka .byte (9 : Int32) [(.int (60 : Int32)), (.int (62 : Int32)), (.int (34 : Int32)), (.int (123 : Int32)), (.int (125 : Int32)), (.int (124 : Int32)), (.int (94 : Int32)), (.int (96 : Int32)), (.int (92 : Int32))] (.int (0 : Int32))) (S_COMPACT_STRINGS : Sta Z h0 "java/lang/String" "COMPACT_STRINGS" "Z" (.int wc)) (hwc : ¬ (wc = (0 : Int32))) :
    MetFree l (⟨"java/lang/String", "length", "()I"⟩ : MethodName) (head1 (Jvm.Cond.code (⟨"java/lang/String", "length", "()I"⟩ : MethodName) jdk_42_method_54_code 1 (some .int) :: ws) ({ frames := 1, cells := 0, slots := 0, locals := 13 } : Room)) (fun a U => a = #[(.ref a0)] ∧ Z.Warmed39 U.vm ∧ U.heap = h0) (fun _ _ _ _ _ => True) (fun _ U o U' => ∃ v L, o = .returned v ∧ own_Qs3 Z a0 ab ka wc h0 n0 v U'.heap L ∧ FrameEnd U o U' L ({ frames := 1, cells := 0, slots := 0, locals := 13 } : Room).cells ({ frames := 1, cells := 0, slots := 0, locals := 13 } : Room).slots) := by
  refine MetFree.of_bodySF (plainFor_of_name pns3) hisR ?_
  intro p e s m args below meth c s₁ Bd hml0 hP hK
  obtain ⟨rfl, hZ, hh⟩ := hP
  have hx := Bd.exec
  have hby := Bd.bytes
  have hml : c.maxLocals = 1 := hml0
  have hown : s.vm.findClass "java/lang/String" = some m.cls := findClass_of_methodNamed Bd.named
  have hnm := (name_of_methodNamed Bd.named Bd.method).1
  have X0 : Stand p l e ({ frames := 1, cells := 0, slots := 0, locals := 13 } : Room) s m #[(.ref a0)] below meth c s₁ [] 0 0 := Stand.of_body Bd
  have e0 : s₁.heap = h0 := by rw [← hh, Bd.state]; rfl
  have N0 := Fr.nil n0
  show own_Go p.tables e below (fun o U' => ∃ v L, o = .returned v ∧ own_Qs3 Z a0 ab ka wc h0 n0 v U'.heap L ∧ FrameEnd s o U' L ({ frames := 1, cells := 0, slots := 0, locals := 13 } : Room).cells ({ frames := 1, cells := 0, slots := 0, locals := 13 } : Room).slots) (s₁.setTop (entryFrame m #[(.ref a0)] 1))
  refine own_go (fun _ k => castTop (efs3 m a0) k) ?_
  show own_Go p.tables e below _ (s₁.setTop (mkF m 0 #[.val (.ref a0)] []))
  refine own_go (fun _ k => XS.aloadN X0.here hx rfl (hb hby ds3_0) rfl rfl k) ?_
  show own_Go p.tables e below _ (s₁.setTop (mkF m 1 #[.val (.ref a0)] [(.ref a0)]))
  obtain ⟨T1, X1, e1, st1⟩ := getF X0 hx hZ hown (host := "") (Or.inl (hw _ (List.mem_of_getElem? (i := 32) rfl))) Via.refl e0 F_a0_value (g := (mkF m 1 #[.val (.ref a0)] [(.ref a0)])) rfl rfl (hb hby ds3_1)
  refine own_go st1 ?_
  show own_Go p.tables e below _ (T1.setTop (mkF m 4 #[.val (.ref a0)] [(.ref ab)]))
  have vo2 := V_ab
  obtain ⟨cl2, Ar2, Aq2, AS2, AN2, AH2, AG2⟩ := vo2
  refine own_go (fun _ k => X1.arraylength hx (by rw [e1]; exact Ar2.1) (State.isArrayOf_alike hZ.alike Ar2.2.1) (g := (mkF m 4 #[.val (.ref a0)] [(.ref ab)])) rfl rfl (hb hby ds3_4) _ k) ?_
  rw [len_of AS2 AN2]
  show own_Go p.tables e below _ (T1.setTop (mkF m 5 #[.val (.ref a0)] [(.int (9 : Int32))]))
  refine own_go (fun _ k => XS.aloadN X1.here hx rfl (hb hby ds3_5) rfl rfl k) ?_
  show own_Go p.tables e below _ (T1.setTop (mkF m 6 #[.val (.ref a0)] [(.ref a0), (.int (9 : Int32))]))
  obtain ⟨cq3, kq3, q3a, q3b, q3c⟩ := isOf hZ e1 E_a0
  obtain ⟨_, _, ⟨T3, L3, k3, n3⟩, -, X3, ⟨Lc3, hQ3, l3, y3, z3⟩, st3⟩ := X1.virtualBack hx (y := (⟨"java/lang/String", "coder", "()B"⟩ : MethodName)) (z := (⟨"java/lang/String", "coder", "()B"⟩ : MethodName)) hown (mvT hZ (hw _ (List.mem_of_getElem? (i := 38) rfl))) (mvT hZ (hw _ (List.mem_of_getElem? (i := 39) rfl))) (notFace_of_selects (args := #[]) (mvT hZ (hw _ (List.mem_of_getElem? (i := 41) rfl)))) (mvT hZ (hw _ (List.mem_of_getElem? (i := 41) rfl))) (mvT hZ (hw _ (List.mem_of_getElem? (i := 40) rfl))) (by decide) (backOf (W := 1) (rms2 l Z az hw [] a0 ab ka wc h0 n0 Z0 F_a0_coder F_a0_value E_a0 V_ab S_COMPACT_STRINGS hwc) hZ (hw _ (List.mem_of_getElem? (i := 42) rfl)) (hw _ (List.mem_of_getElem? (i := 8) rfl)) (by decide) (by decide)) q3a q3c (g := (mkF m 6 #[.val (.ref a0)] [(.ref a0), (.int (9 : Int32))])) rfl (by rw [hml]; rfl) (Steps.refl _) (argsL := []) (rest := [(.int (9 : Int32))]) (lenOf pds3_0 rfl) rfl (by show 2 * 0 + _ ≤ _; exact Nat.le_of_eq rfl) (hb hby ds3_6) (fun _ _ => ⟨rfl, e1, (by decide : 0 + 0 ≤ _), (by decide : 0 + 0 ≤ _)⟩)
  dsimp only [Pt.U, Pt.locs, Pt.cells, Pt.slots] at X3 l3 y3 z3 st3 hQ3
  subst l3 y3 z3
  refine own_go (fun _ k => st3.trans k) ?_
  obtain ⟨rfl, N3q, e3⟩ := hQ3
  have N3 := Fr.app N0 N3q
  show own_Go p.tables e below _ (T3.setTop (mkF m 9 #[.val (.ref a0)] [(.int (0 : Int32)), (.int (9 : Int32))]))
  refine own_go (fun _ k => XS.ishr X3.here hx rfl (hb hby ds3_9) rfl k) ?_
  show own_Go p.tables e below _ (T3.setTop (mkF m 10 #[.val (.ref a0)] [(.int ((9 : Int32) >>> ((0 : Int32) &&& 31)))]))
  refine own_end X3 Bd.notSynchronized (v := some (.int ((9 : Int32) >>> ((0 : Int32) &&& 31)))) (fun h => by rw [Bd.returns] at h; cases h) (fun fs hr => own_retI X3 hx Bd.returns (hb hby ds3_10) hr) ?_ (by decide) (by decide)
  exact ⟨congrArg (fun z => some (Value.int z)) (by decide : ((9 : Int32) >>> ((0 : Int32) &&& 31)) = (9 : Int32)), N3, (e3 : T3.heap = h0)⟩
def own_fs4 (p0 : Int32) : Int32 :=
  (if p0 < (0 : Int32) then (0 : Int32) else (if (255 : Int32) < p0 then (0 : Int32) else (1 : Int32)))
theorem ds4_0 : decode jdk_43_method_4_code 0 = .ok (.iload_n 0, 1) := by decide +kernel
theorem ds4_1 : decode jdk_43_method_4_code 1 = .ok (.ifCond .lt 14, 3) := by decide +kernel
theorem ds4_4 : decode jdk_43_method_4_code 4 = .ok (.iload_n 0, 1) := by decide +kernel
theorem ds4_5 : decode jdk_43_method_4_code 5 = .ok (.sipush 255, 3) := by decide +kernel
theorem ds4_8 : decode jdk_43_method_4_code 8 = .ok (.if_icmp .gt 7, 3) := by decide +kernel
theorem ds4_11 : decode jdk_43_method_4_code 11 = .ok (.iconst 1, 1) := by decide +kernel
theorem ds4_12 : decode jdk_43_method_4_code 12 = .ok (.goto 4, 3) := by decide +kernel
theorem ds4_15 : decode jdk_43_method_4_code 15 = .ok (.iconst 0, 1) := by decide +kernel
theorem ds4_16 : decode jdk_43_method_4_code 16 = .ok (.ireturn, 1) := by decide +kernel
theorem pns4 : plainName "java/lang/StringLatin1" = true := by first | (simp [plainName, overriddenIn]; done) | decide +kernel
theorem efs4 (m : MethodId) (p0 : Int32) : entryFrame m #[(.int p0)] 1 = mkF m 0 #[.val (.int p0)] [] := by first | (simp [entryFrame, mkF, argsToLocals, Value.category]; done) | rfl
def own_Qs4 (Z : State) (p0 : Int32) (h0 : Heap) (n0 : Nat) (v : Option Value) (h : Heap) (L : List Loc) : Prop := v = some (.int (own_fs4 p0)) ∧ Fr n0 L ∧ h = h0
set_option maxRecDepth 65536 in
set_option maxHeartbeats 40000000 in
theorem rms4 (l : Launch) (Z : State) (az : Array Value) (hw : ∀ d ∈ tables_1, d.before az Z = true) (ws : List Jvm.Cond) (p0 : Int32) (h0 : Heap) (n0 : Nat) (Z0 : n0 ≤ h0.size) :
    MetFree l (⟨"java/lang/StringLatin1", "canEncode", "(I)Z"⟩ : MethodName) (head1 (Jvm.Cond.code (⟨"java/lang/StringLatin1", "canEncode", "(I)Z"⟩ : MethodName) jdk_43_method_4_code 1 (some .boolean) :: ws) ({ frames := 0, cells := 0, slots := 0, locals := 0 } : Room)) (fun a U => a = #[(.int p0)] ∧ Z.Warmed39 U.vm ∧ U.heap = h0) (fun _ _ _ _ _ => True) (fun _ U o U' => ∃ v L, o = .returned v ∧ own_Qs4 Z p0 h0 n0 v U'.heap L ∧ FrameEnd U o U' L ({ frames := 0, cells := 0, slots := 0, locals := 0 } : Room).cells ({ frames := 0, cells := 0, slots := 0, locals := 0 } : Room).slots) := by
  refine MetFree.of_bodySF (plainFor_of_name pns4) hisR ?_
  intro p e s m args below meth c s₁ Bd hml0 hP hK
  obtain ⟨rfl, hZ, hh⟩ := hP
  have hx := Bd.exec
  have hby := Bd.bytes
  have hml : c.maxLocals = 1 := hml0
  have hown : s.vm.findClass "java/lang/StringLatin1" = some m.cls := findClass_of_methodNamed Bd.named
  have hnm := (name_of_methodNamed Bd.named Bd.method).1
  have X0 : Stand p l e ({ frames := 0, cells := 0, slots := 0, locals := 0 } : Room) s m #[(.int p0)] below meth c s₁ [] 0 0 := Stand.of_body Bd
  have e0 : s₁.heap = h0 := by rw [← hh, Bd.state]; rfl
  have N0 := Fr.nil n0
  show own_Go p.tables e below (fun o U' => ∃ v L, o = .returned v ∧ own_Qs4 Z p0 h0 n0 v U'.heap L ∧ FrameEnd s o U' L ({ frames := 0, cells := 0, slots := 0, locals := 0 } : Room).cells ({ frames := 0, cells := 0, slots := 0, locals := 0 } : Room).slots) (s₁.setTop (entryFrame m #[(.int p0)] 1))
  refine own_go (fun _ k => castTop (efs4 m p0) k) ?_
  show own_Go p.tables e below _ (s₁.setTop (mkF m 0 #[.val (.int p0)] []))
  refine own_go (fun _ k => XS.iloadN X0.here hx rfl (hb hby ds4_0) rfl k) ?_
  show own_Go p.tables e below _ (s₁.setTop (mkF m 1 #[.val (.int p0)] [(.int p0)]))
  by_cases hc1 : p0 < (0 : Int32)
  · refine own_go (fun _ k => XS.ifYes X0.here hx rfl (pc0 := 1) (pc' := 15) rfl (hb hby ds4_1) rfl ((if0 _ _).trans (tlt hc1).1) (by decide) (by decide) k) ?_
    show own_Go p.tables e below _ (s₁.setTop (mkF m 15 #[.val (.int p0)] []))
    refine own_go (fun _ k => XS.iconst X0.here hx rfl (hb hby ds4_15) k) ?_
    show own_Go p.tables e below _ (s₁.setTop (mkF m 16 #[.val (.int p0)] [(.int (0 : Int32))]))
    refine own_end X0 Bd.notSynchronized (v := some (.int (0 : Int32))) (fun h => by rw [Bd.returns] at h; cases h) (fun fs hr => retN X0 hx (t := .boolean) Bd.returns (by simp) (hb hby ds4_16) hr) ?_ (by decide) (by decide)
    exact ⟨by rw [own_fs4, if_pos hc1], N0, e0⟩
  · refine own_go (fun _ k => XS.ifNo X0.here hx rfl (hb hby ds4_1) rfl ((if0 _ _).trans (flt hc1).1) k) ?_
    show own_Go p.tables e below _ (s₁.setTop (mkF m 4 #[.val (.int p0)] []))
    refine own_go (fun _ k => XS.iloadN X0.here hx rfl (hb hby ds4_4) rfl k) ?_
    show own_Go p.tables e below _ (s₁.setTop (mkF m 5 #[.val (.int p0)] [(.int p0)]))
    refine own_go (fun _ k => XS.sipush X0.here hx rfl (hb hby ds4_5) k) ?_
    show own_Go p.tables e below _ (s₁.setTop (mkF m 8 #[.val (.int p0)] [(.int (255 : Int32)), (.int p0)]))
    by_cases hc8 : (255 : Int32) < p0
    · refine own_go (fun _ k => XS.icmpYes X0.here hx rfl (pc0 := 8) (pc' := 15) rfl (hb hby ds4_8) rfl (tlt hc8).2.2.1 (by decide) (by decide) k) ?_
      show own_Go p.tables e below _ (s₁.setTop (mkF m 15 #[.val (.int p0)] []))
      refine own_go (fun _ k => XS.iconst X0.here hx rfl (hb hby ds4_15) k) ?_
      show own_Go p.tables e below _ (s₁.setTop (mkF m 16 #[.val (.int p0)] [(.int (0 : Int32))]))
      refine own_end X0 Bd.notSynchronized (v := some (.int (0 : Int32))) (fun h => by rw [Bd.returns] at h; cases h) (fun fs hr => retN X0 hx (t := .boolean) Bd.returns (by simp) (hb hby ds4_16) hr) ?_ (by decide) (by decide)
      exact ⟨by rw [own_fs4, if_neg hc1, if_pos hc8], N0, e0⟩
    · refine own_go (fun _ k => XS.icmpNo X0.here hx rfl (hb hby ds4_8) rfl (flt hc8).2.2.1 k) ?_
      show own_Go p.tables e below _ (s₁.setTop (mkF m 11 #[.val (.int p0)] []))
      refine own_go (fun _ k => XS.iconst X0.here hx rfl (hb hby ds4_11) k) ?_
      show own_Go p.tables e below _ (s₁.setTop (mkF m 12 #[.val (.int p0)] [(.int (1 : Int32))]))
      refine own_go (fun _ k => XS.goto X0.here hx rfl (pc0 := 12) (pc' := 16) rfl (hb hby ds4_12) (by decide) (by decide) k) ?_
      show own_Go p.tables e below _ (s₁.setTop (mkF m 16 #[.val (.int p0)] [(.int (1 : Int32))]))
      refine own_end X0 Bd.notSynchronized (v := some (.int (1 : Int32))) (fun h => by rw [Bd.returns] at h; cases h) (fun fs hr => retN X0 hx (t := .boolean) Bd.returns (by simp) (hb hby ds4_16) hr) ?_ (by decide) (by decide)
      exact ⟨by rw [own_fs4, if_neg hc1, if_neg hc8], N0, e0⟩
theorem ds5_0 : decode jdk_29_method_65_code 0 = .ok (.iload_n 0, 1) := by decide +kernel
theorem ds5_1 : decode jdk_29_method_65_code 1 = .ok (.iload_n 1, 1) := by decide +kernel
theorem ds5_2 : decode jdk_29_method_65_code 2 = .ok (.if_icmp .lt 7, 3) := by decide +kernel
theorem ds5_5 : decode jdk_29_method_65_code 5 = .ok (.iload_n 0, 1) := by decide +kernel
theorem ds5_6 : decode jdk_29_method_65_code 6 = .ok (.goto 4, 3) := by decide +kernel
theorem ds5_10 : decode jdk_29_method_65_code 10 = .ok (.ireturn, 1) := by decide +kernel
theorem efs5 (m : MethodId)  : entryFrame m #[(.int (0 : Int32)), (.int (0 : Int32))] 2 = mkF m 0 #[.val (.int (0 : Int32)), .val (.int (0 : Int32))] [] := by first | (simp [entryFrame, mkF, argsToLocals, Value.category]; done) | rfl
def own_Qs5 (Z : State)  (h0 : Heap) (n0 : Nat) (v : Option Value) (h : Heap) (L : List Loc) : Prop := v = some (.int (0 : Int32)) ∧ Fr n0 L ∧ h = h0
set_option maxRecDepth 65536 in
set_option maxHeartbeats 40000000 in
theorem rms5 (l : Launch) (Z : State) (az : Array Value) (hw : ∀ d ∈ tables_1, d.before az Z = true) (ws : List Jvm.Cond)  (h0 : Heap) (n0 : Nat) (Z0 : n0 ≤ h0.size) :
    MetFree l (⟨"java/lang/Math", "max", "(II)I"⟩ : MethodName) (head1 (Jvm.Cond.code (⟨"java/lang/Math", "max", "(II)I"⟩ : MethodName) jdk_29_method_65_code 2 (some .int) :: ws) ({ frames := 0, cells := 0, slots := 0, locals := 0 } : Room)) (fun a U => a = #[(.int (0 : Int32)), (.int (0 : Int32))] ∧ Z.Warmed39 U.vm ∧ U.heap = h0) (fun _ _ _ _ _ => True) (fun _ U o U' => ∃ v L, o = .returned v ∧ own_Qs5 Z  h0 n0 v U'.heap L ∧ FrameEnd U o U' L ({ frames := 0, cells := 0, slots := 0, locals := 0 } : Room).cells ({ frames := 0, cells := 0, slots := 0, locals := 0 } : Room).slots) := by
  refine MetFree.of_bodySF (Jvm.Free.JP.mathPlain rfl (by decide +kernel)) hisR ?_
  intro p e s m args below meth c s₁ Bd hml0 hP hK
  obtain ⟨rfl, hZ, hh⟩ := hP
  have hx := Bd.exec
  have hby := Bd.bytes
  have hml : c.maxLocals = 2 := hml0
  have hown : s.vm.findClass "java/lang/Math" = some m.cls := findClass_of_methodNamed Bd.named
  have hnm := (name_of_methodNamed Bd.named Bd.method).1
  have X0 : Stand p l e ({ frames := 0, cells := 0, slots := 0, locals := 0 } : Room) s m #[(.int (0 : Int32)), (.int (0 : Int32))] below meth c s₁ [] 0 0 := Stand.of_body Bd
  have e0 : s₁.heap = h0 := by rw [← hh, Bd.state]; rfl
  have N0 := Fr.nil n0
  show own_Go p.tables e below (fun o U' => ∃ v L, o = .returned v ∧ own_Qs5 Z  h0 n0 v U'.heap L ∧ FrameEnd s o U' L ({ frames := 0, cells := 0, slots := 0, locals := 0 } : Room).cells ({ frames := 0, cells := 0, slots := 0, locals := 0 } : Room).slots) (s₁.setTop (entryFrame m #[(.int (0 : Int32)), (.int (0 : Int32))] 2))
  refine own_go (fun _ k => castTop (efs5 m ) k) ?_
  show own_Go p.tables e below _ (s₁.setTop (mkF m 0 #[.val (.int (0 : Int32)), .val (.int (0 : Int32))] []))
  refine own_go (fun _ k => XS.iloadN X0.here hx rfl (hb hby ds5_0) rfl k) ?_
  show own_Go p.tables e below _ (s₁.setTop (mkF m 1 #[.val (.int (0 : Int32)), .val (.int (0 : Int32))] [(.int (0 : Int32))]))
  refine own_go (fun _ k => XS.iloadN X0.here hx rfl (hb hby ds5_1) rfl k) ?_
  show own_Go p.tables e below _ (s₁.setTop (mkF m 2 #[.val (.int (0 : Int32)), .val (.int (0 : Int32))] [(.int (0 : Int32)), (.int (0 : Int32))]))
  have hf2 : ¬ ((0 : Int32) < (0 : Int32)) := by decide
  refine own_go (fun _ k => XS.icmpNo X0.here hx rfl (hb hby ds5_2) rfl (flt hf2).1 k) ?_
  show own_Go p.tables e below _ (s₁.setTop (mkF m 5 #[.val (.int (0 : Int32)), .val (.int (0 : Int32))] []))
  refine own_go (fun _ k => XS.iloadN X0.here hx rfl (hb hby ds5_5) rfl k) ?_
  show own_Go p.tables e below _ (s₁.setTop (mkF m 6 #[.val (.int (0 : Int32)), .val (.int (0 : Int32))] [(.int (0 : Int32))]))
  refine own_go (fun _ k => XS.goto X0.here hx rfl (pc0 := 6) (pc' := 10) rfl (hb hby ds5_6) (by decide) (by decide) k) ?_
  show own_Go p.tables e below _ (s₁.setTop (mkF m 10 #[.val (.int (0 : Int32)), .val (.int (0 : Int32))] [(.int (0 : Int32))]))
  refine own_end X0 Bd.notSynchronized (v := some (.int (0 : Int32))) (fun h => by rw [Bd.returns] at h; cases h) (fun fs hr => own_retI X0 hx Bd.returns (hb hby ds5_10) hr) ?_ (by decide) (by decide)
  exact ⟨congrArg (fun z => some (Value.int z)) (by decide : (0 : Int32) = (0 : Int32)), N0, e0⟩
theorem ds6_0 : decode jdk_29_method_69_code 0 = .ok (.iload_n 0, 1) := by decide +kernel
theorem ds6_1 : decode jdk_29_method_69_code 1 = .ok (.iload_n 1, 1) := by decide +kernel
theorem ds6_2 : decode jdk_29_method_69_code 2 = .ok (.if_icmp .gt 7, 3) := by decide +kernel
theorem ds6_5 : decode jdk_29_method_69_code 5 = .ok (.iload_n 0, 1) := by decide +kernel
theorem ds6_6 : decode jdk_29_method_69_code 6 = .ok (.goto 4, 3) := by decide +kernel
theorem ds6_10 : decode jdk_29_method_69_code 10 = .ok (.ireturn, 1) := by decide +kernel
theorem efs6 (m : MethodId)  : entryFrame m #[(.int (9 : Int32)), (.int (9 : Int32))] 2 = mkF m 0 #[.val (.int (9 : Int32)), .val (.int (9 : Int32))] [] := by first | (simp [entryFrame, mkF, argsToLocals, Value.category]; done) | rfl
def own_Qs6 (Z : State)  (h0 : Heap) (n0 : Nat) (v : Option Value) (h : Heap) (L : List Loc) : Prop := v = some (.int (9 : Int32)) ∧ Fr n0 L ∧ h = h0
set_option maxRecDepth 65536 in
set_option maxHeartbeats 40000000 in
theorem rms6 (l : Launch) (Z : State) (az : Array Value) (hw : ∀ d ∈ tables_1, d.before az Z = true) (ws : List Jvm.Cond)  (h0 : Heap) (n0 : Nat) (Z0 : n0 ≤ h0.size) :
    MetFree l (⟨"java/lang/Math", "min", "(II)I"⟩ : MethodName) (head1 (Jvm.Cond.code (⟨"java/lang/Math", "min", "(II)I"⟩ : MethodName) jdk_29_method_69_code 2 (some .int) :: ws) ({ frames := 0, cells := 0, slots := 0, locals := 0 } : Room)) (fun a U => a = #[(.int (9 : Int32)), (.int (9 : Int32))] ∧ Z.Warmed39 U.vm ∧ U.heap = h0) (fun _ _ _ _ _ => True) (fun _ U o U' => ∃ v L, o = .returned v ∧ own_Qs6 Z  h0 n0 v U'.heap L ∧ FrameEnd U o U' L ({ frames := 0, cells := 0, slots := 0, locals := 0 } : Room).cells ({ frames := 0, cells := 0, slots := 0, locals := 0 } : Room).slots) := by
  refine MetFree.of_bodySF (Jvm.Free.JP.mathPlain rfl (by decide +kernel)) hisR ?_
  intro p e s m args below meth c s₁ Bd hml0 hP hK
  obtain ⟨rfl, hZ, hh⟩ := hP
  have hx := Bd.exec
  have hby := Bd.bytes
  have hml : c.maxLocals = 2 := hml0
  have hown : s.vm.findClass "java/lang/Math" = some m.cls := findClass_of_methodNamed Bd.named
  have hnm := (name_of_methodNamed Bd.named Bd.method).1
  have X0 : Stand p l e ({ frames := 0, cells := 0, slots := 0, locals := 0 } : Room) s m #[(.int (9 : Int32)), (.int (9 : Int32))] below meth c s₁ [] 0 0 := Stand.of_body Bd
  have e0 : s₁.heap = h0 := by rw [← hh, Bd.state]; rfl
  have N0 := Fr.nil n0
  show own_Go p.tables e below (fun o U' => ∃ v L, o = .returned v ∧ own_Qs6 Z  h0 n0 v U'.heap L ∧ FrameEnd s o U' L ({ frames := 0, cells := 0, slots := 0, locals := 0 } : Room).cells ({ frames := 0, cells := 0, slots := 0, locals := 0 } : Room).slots) (s₁.setTop (entryFrame m #[(.int (9 : Int32)), (.int (9 : Int32))] 2))
  refine own_go (fun _ k => castTop (efs6 m ) k) ?_
  show own_Go p.tables e below _ (s₁.setTop (mkF m 0 #[.val (.int (9 : Int32)), .val (.int (9 : Int32))] []))
  refine own_go (fun _ k => XS.iloadN X0.here hx rfl (hb hby ds6_0) rfl k) ?_
  show own_Go p.tables e below _ (s₁.setTop (mkF m 1 #[.val (.int (9 : Int32)), .val (.int (9 : Int32))] [(.int (9 : Int32))]))
  refine own_go (fun _ k => XS.iloadN X0.here hx rfl (hb hby ds6_1) rfl k) ?_
  show own_Go p.tables e below _ (s₁.setTop (mkF m 2 #[.val (.int (9 : Int32)), .val (.int (9 : Int32))] [(.int (9 : Int32)), (.int (9 : Int32))]))
  have hf2 : ¬ ((9 : Int32) < (9 : Int32)) := by decide
  refine own_go (fun _ k => XS.icmpNo X0.here hx rfl (hb hby ds6_2) rfl (flt hf2).2.2.1 k) ?_
  show own_Go p.tables e below _ (s₁.setTop (mkF m 5 #[.val (.int (9 : Int32)), .val (.int (9 : Int32))] []))
  refine own_go (fun _ k => XS.iloadN X0.here hx rfl (hb hby ds6_5) rfl k) ?_
  show own_Go p.tables e below _ (s₁.setTop (mkF m 6 #[.val (.int (9 : Int32)), .val (.int (9 : Int32))] [(.int (9 : Int32))]))
  refine own_go (fun _ k => XS.goto X0.here hx rfl (pc0 := 6) (pc' := 10) rfl (hb hby ds6_6) (by decide) (by decide) k) ?_
  show own_Go p.tables e below _ (s₁.setTop (mkF m 10 #[.val (.int (9 : Int32)), .val (.int (9 : Int32))] [(.int (9 : Int32))]))
  refine own_end X0 Bd.notSynchronized (v := some (.int (9 : Int32))) (fun h => by rw [Bd.returns] at h; cases h) (fun fs hr => own_retI X0 hx Bd.returns (hb hby ds6_10) hr) ?_ (by decide) (by decide)
  exact ⟨congrArg (fun z => some (Value.int z)) (by decide : (9 : Int32) = (9 : Int32)), N0, e0⟩
def own_fs7 (p1 : Int32) : Int32 :=
  (if (60 : Int32) = (p1.toInt8.toInt32) then (0 : Int32) else (if (62 : Int32) = (p1.toInt8.toInt32) then (1 : Int32) else (if (34 : Int32) = (p1.toInt8.toInt32) then (2 : Int32) else (if (123 : Int32) = (p1.toInt8.toInt32) then (3 : Int32) else (if (125 : Int32) = (p1.toInt8.toInt32) then (4 : Int32) else (if (124 : Int32) = (p1.toInt8.toInt32) then (5 : Int32) else (if (94 : Int32) = (p1.toInt8.toInt32) then (6 : Int32) else (if (96 : Int32) = (p1.toInt8.toInt32) then (7 : Int32) else (if (92 : Int32) = (p1.toInt8.toInt32) then (8 : Int32) else (-1 : Int32))))))))))
theorem ds7_0 : decode jdk_43_method_23_code 0 = .ok (.iload_n 1, 1) := by decide +kernel
theorem ds7_1 : decode jdk_43_method_23_code 1 = .ok (.i2b, 1) := by decide +kernel
theorem ds7_2 : decode jdk_43_method_23_code 2 = .ok (.istore 4, 2) := by decide +kernel
theorem ds7_4 : decode jdk_43_method_23_code 4 = .ok (.iload_n 2, 1) := by decide +kernel
theorem ds7_5 : decode jdk_43_method_23_code 5 = .ok (.istore 5, 2) := by decide +kernel
theorem ds7_7 : decode jdk_43_method_23_code 7 = .ok (.iload 5, 2) := by decide +kernel
theorem ds7_9 : decode jdk_43_method_23_code 9 = .ok (.iload_n 3, 1) := by decide +kernel
theorem ds7_10 : decode jdk_43_method_23_code 10 = .ok (.if_icmp .ge 21, 3) := by decide +kernel
theorem ds7_13 : decode jdk_43_method_23_code 13 = .ok (.aload_n 0, 1) := by decide +kernel
theorem ds7_14 : decode jdk_43_method_23_code 14 = .ok (.iload 5, 2) := by decide +kernel
theorem ds7_16 : decode jdk_43_method_23_code 16 = .ok (.baload, 1) := by decide +kernel
theorem ds7_17 : decode jdk_43_method_23_code 17 = .ok (.iload 4, 2) := by decide +kernel
theorem ds7_19 : decode jdk_43_method_23_code 19 = .ok (.if_icmp .ne 6, 3) := by decide +kernel
theorem ds7_22 : decode jdk_43_method_23_code 22 = .ok (.iload 5, 2) := by decide +kernel
theorem ds7_24 : decode jdk_43_method_23_code 24 = .ok (.ireturn, 1) := by decide +kernel
theorem ds7_25 : decode jdk_43_method_23_code 25 = .ok (.iinc 5 1, 3) := by decide +kernel
theorem ds7_28 : decode jdk_43_method_23_code 28 = .ok (.goto (-21), 3) := by decide +kernel
theorem ds7_31 : decode jdk_43_method_23_code 31 = .ok (.iconst (-1), 1) := by decide +kernel
theorem ds7_32 : decode jdk_43_method_23_code 32 = .ok (.ireturn, 1) := by decide +kernel
theorem pns7 : plainName "java/lang/StringLatin1" = true := by first | (simp [plainName, overriddenIn]; done) | decide +kernel
theorem efs7 (m : MethodId) (ab : Addr) (p1 : Int32) : entryFrame m #[(.ref ab), (.int p1), (.int (0 : Int32)), (.int (9 : Int32))] 6 = mkF m 0 #[.val (.ref ab), .val (.int p1), .val (.int (0 : Int32)), .val (.int (9 : Int32)), .unset, .unset] [] := by first | (simp [entryFrame, mkF, argsToLocals, Value.category]; done) | rfl
def own_Qs7 (Z : State) (ab : Addr) (p1 : Int32) (ka : ClassId) (h0 : Heap) (n0 : Nat) (v : Option Value) (h : Heap) (L : List Loc) : Prop := v = some (.int (own_fs7 p1)) ∧ Fr n0 L ∧ h = h0
set_option maxRecDepth 65536 in
set_option maxHeartbeats 40000000 in
theorem rms7 (l : Launch) (Z : State) (az : Array Value) (hw : ∀ d ∈ tables_1, d.before az Z = true) (ws : List Jvm.Cond) (ab : Addr) (p1 : Int32) (ka : ClassId) (h0 : Heap) (n0 : Nat) (Z0 : n0 ≤ h0.size) (V_ab : Arv Z h0 ab ka .byte (9 : Int32) [(.int (60 : Int32)), (.int (62 : Int32)), (.int (34 : Int32)), (.int (123 : Int32)), (.int (125 : Int32)), (.int (124 : Int32)), (.int (94 : Int32)), (.int (96 : Int32)), (.int (92 : Int32))] (.int (0 : Int32))) :
    MetFree l (⟨"java/lang/StringLatin1", "indexOfChar", "([BIII)I"⟩ : MethodName) (head1 (Jvm.Cond.code (⟨"java/lang/StringLatin1", "indexOfChar", "([BIII)I"⟩ : MethodName) jdk_43_method_23_code 6 (some .int) :: ws) ({ frames := 0, cells := 0, slots := 0, locals := 0 } : Room)) (fun a U => a = #[(.ref ab), (.int p1), (.int (0 : Int32)), (.int (9 : Int32))] ∧ Z.Warmed39 U.vm ∧ U.heap = h0) (fun _ _ _ _ _ => True) (fun _ U o U' => ∃ v L, o = .returned v ∧ own_Qs7 Z ab p1 ka h0 n0 v U'.heap L ∧ FrameEnd U o U' L ({ frames := 0, cells := 0, slots := 0, locals := 0 } : Room).cells ({ frames := 0, cells := 0, slots := 0, locals := 0 } : Room).slots) := by
  refine MetFree.of_bodySF (plainFor_of_name pns7) hisR ?_
  intro p e s m args below meth c s₁ Bd hml0 hP hK
  obtain ⟨rfl, hZ, hh⟩ := hP
  have hx := Bd.exec
  have hby := Bd.bytes
  have hml : c.maxLocals = 6 := hml0
  have hown : s.vm.findClass "java/lang/StringLatin1" = some m.cls := findClass_of_methodNamed Bd.named
  have hnm := (name_of_methodNamed Bd.named Bd.method).1
  have X0 : Stand p l e ({ frames := 0, cells := 0, slots := 0, locals := 0 } : Room) s m #[(.ref ab), (.int p1), (.int (0 : Int32)), (.int (9 : Int32))] below meth c s₁ [] 0 0 := Stand.of_body Bd
  have e0 : s₁.heap = h0 := by rw [← hh, Bd.state]; rfl
  have N0 := Fr.nil n0
  show own_Go p.tables e below (fun o U' => ∃ v L, o = .returned v ∧ own_Qs7 Z ab p1 ka h0 n0 v U'.heap L ∧ FrameEnd s o U' L ({ frames := 0, cells := 0, slots := 0, locals := 0 } : Room).cells ({ frames := 0, cells := 0, slots := 0, locals := 0 } : Room).slots) (s₁.setTop (entryFrame m #[(.ref ab), (.int p1), (.int (0 : Int32)), (.int (9 : Int32))] 6))
  refine own_go (fun _ k => castTop (efs7 m ab p1) k) ?_
  show own_Go p.tables e below _ (s₁.setTop (mkF m 0 #[.val (.ref ab), .val (.int p1), .val (.int (0 : Int32)), .val (.int (9 : Int32)), .unset, .unset] []))
  refine own_go (fun _ k => XS.iloadN X0.here hx rfl (hb hby ds7_0) rfl k) ?_
  show own_Go p.tables e below _ (s₁.setTop (mkF m 1 #[.val (.ref ab), .val (.int p1), .val (.int (0 : Int32)), .val (.int (9 : Int32)), .unset, .unset] [(.int p1)]))
  refine own_go (fun _ k => XS.i2b X0.here hx rfl (hb hby ds7_1) rfl k) ?_
  show own_Go p.tables e below _ (s₁.setTop (mkF m 2 #[.val (.ref ab), .val (.int p1), .val (.int (0 : Int32)), .val (.int (9 : Int32)), .unset, .unset] [(.int (p1.toInt8.toInt32))]))
  refine own_go (fun _ k => XS.istore X0.here hx rfl (hb hby ds7_2) rfl (l' := #[.val (.ref ab), .val (.int p1), .val (.int (0 : Int32)), .val (.int (9 : Int32)), .val (.int (p1.toInt8.toInt32)), .unset]) rfl k) ?_
  show own_Go p.tables e below _ (s₁.setTop (mkF m 4 #[.val (.ref ab), .val (.int p1), .val (.int (0 : Int32)), .val (.int (9 : Int32)), .val (.int (p1.toInt8.toInt32)), .unset] []))
  refine own_go (fun _ k => XS.iloadN X0.here hx rfl (hb hby ds7_4) rfl k) ?_
  show own_Go p.tables e below _ (s₁.setTop (mkF m 5 #[.val (.ref ab), .val (.int p1), .val (.int (0 : Int32)), .val (.int (9 : Int32)), .val (.int (p1.toInt8.toInt32)), .unset] [(.int (0 : Int32))]))
  refine own_go (fun _ k => XS.istore X0.here hx rfl (hb hby ds7_5) rfl (l' := #[.val (.ref ab), .val (.int p1), .val (.int (0 : Int32)), .val (.int (9 : Int32)), .val (.int (p1.toInt8.toInt32)), .val (.int (0 : Int32))]) rfl k) ?_
  show own_Go p.tables e below _ (s₁.setTop (mkF m 7 #[.val (.ref ab), .val (.int p1), .val (.int (0 : Int32)), .val (.int (9 : Int32)), .val (.int (p1.toInt8.toInt32)), .val (.int (0 : Int32))] []))
  refine own_go (fun _ k => XS.iload X0.here hx rfl (hb hby ds7_7) rfl k) ?_
  show own_Go p.tables e below _ (s₁.setTop (mkF m 9 #[.val (.ref ab), .val (.int p1), .val (.int (0 : Int32)), .val (.int (9 : Int32)), .val (.int (p1.toInt8.toInt32)), .val (.int (0 : Int32))] [(.int (0 : Int32))]))
  refine own_go (fun _ k => XS.iloadN X0.here hx rfl (hb hby ds7_9) rfl k) ?_
  show own_Go p.tables e below _ (s₁.setTop (mkF m 10 #[.val (.ref ab), .val (.int p1), .val (.int (0 : Int32)), .val (.int (9 : Int32)), .val (.int (p1.toInt8.toInt32)), .val (.int (0 : Int32))] [(.int (9 : Int32)), (.int (0 : Int32))]))
  have hf10 : (0 : Int32) < (9 : Int32) := by decide
  refine own_go (fun _ k => XS.icmpNo X0.here hx rfl (hb hby ds7_10) rfl (tlt hf10).2.1 k) ?_
  show own_Go p.tables e below _ (s₁.setTop (mkF m 13 #[.val (.ref ab), .val (.int p1), .val (.int (0 : Int32)), .val (.int (9 : Int32)), .val (.int (p1.toInt8.toInt32)), .val (.int (0 : Int32))] []))
  refine own_go (fun _ k => XS.aloadN X0.here hx rfl (hb hby ds7_13) rfl rfl k) ?_
  show own_Go p.tables e below _ (s₁.setTop (mkF m 14 #[.val (.ref ab), .val (.int p1), .val (.int (0 : Int32)), .val (.int (9 : Int32)), .val (.int (p1.toInt8.toInt32)), .val (.int (0 : Int32))] [(.ref ab)]))
  refine own_go (fun _ k => XS.iload X0.here hx rfl (hb hby ds7_14) rfl k) ?_
  show own_Go p.tables e below _ (s₁.setTop (mkF m 16 #[.val (.ref ab), .val (.int p1), .val (.int (0 : Int32)), .val (.int (9 : Int32)), .val (.int (p1.toInt8.toInt32)), .val (.int (0 : Int32))] [(.int (0 : Int32)), (.ref ab)]))
  have vo1 := V_ab
  obtain ⟨cl1, Ar1, Aq1, AS1, AN1, AH1, AG1⟩ := vo1
  have hin1 : ¬ ((0 : Int32) < 0 ∨ cl1.slots.size ≤ ((0 : Int32)).toNatClampNeg) := inb_of AS1 ⟨by decide, by decide⟩
  have hat1 : cl1.slots[((0 : Int32)).toNatClampNeg]? = some (.int (60 : Int32)) := Has.at AH1 hin1 rfl
  refine own_go (fun _ k => X0.baloadBytes hx (j := (0 : Int32)) (v := (.int (60 : Int32))) (by rw [e0]; exact Ar1.1) (State.isArrayOf_alike hZ.alike Ar1.2.1) Ar1.2.2 hin1 hat1 (g := (mkF m 16 #[.val (.ref ab), .val (.int p1), .val (.int (0 : Int32)), .val (.int (9 : Int32)), .val (.int (p1.toInt8.toInt32)), .val (.int (0 : Int32))] [(.int (0 : Int32)), (.ref ab)])) rfl rfl (hb hby ds7_16) _ k) ?_
  show own_Go p.tables e below _ (s₁.setTop (mkF m 17 #[.val (.ref ab), .val (.int p1), .val (.int (0 : Int32)), .val (.int (9 : Int32)), .val (.int (p1.toInt8.toInt32)), .val (.int (0 : Int32))] [(.int (60 : Int32))]))
  refine own_go (fun _ k => XS.iload X0.here hx rfl (hb hby ds7_17) rfl k) ?_
  show own_Go p.tables e below _ (s₁.setTop (mkF m 19 #[.val (.ref ab), .val (.int p1), .val (.int (0 : Int32)), .val (.int (9 : Int32)), .val (.int (p1.toInt8.toInt32)), .val (.int (0 : Int32))] [(.int (p1.toInt8.toInt32)), (.int (60 : Int32))]))
  by_cases hc19 : (60 : Int32) = (p1.toInt8.toInt32)
  · refine own_go (fun _ k => XS.icmpNo X0.here hx rfl (hb hby ds7_19) rfl (teq hc19).2 k) ?_
    show own_Go p.tables e below _ (s₁.setTop (mkF m 22 #[.val (.ref ab), .val (.int p1), .val (.int (0 : Int32)), .val (.int (9 : Int32)), .val (.int (p1.toInt8.toInt32)), .val (.int (0 : Int32))] []))
    refine own_go (fun _ k => XS.iload X0.here hx rfl (hb hby ds7_22) rfl k) ?_
    show own_Go p.tables e below _ (s₁.setTop (mkF m 24 #[.val (.ref ab), .val (.int p1), .val (.int (0 : Int32)), .val (.int (9 : Int32)), .val (.int (p1.toInt8.toInt32)), .val (.int (0 : Int32))] [(.int (0 : Int32))]))
    refine own_end X0 Bd.notSynchronized (v := some (.int (0 : Int32))) (fun h => by rw [Bd.returns] at h; cases h) (fun fs hr => own_retI X0 hx Bd.returns (hb hby ds7_24) hr) ?_ (by decide) (by decide)
    exact ⟨by rw [own_fs7, if_pos hc19], N0, e0⟩
  · refine own_go (fun _ k => XS.icmpYes X0.here hx rfl (pc0 := 19) (pc' := 25) rfl (hb hby ds7_19) rfl (feq hc19).2 (by decide) (by decide) k) ?_
    show own_Go p.tables e below _ (s₁.setTop (mkF m 25 #[.val (.ref ab), .val (.int p1), .val (.int (0 : Int32)), .val (.int (9 : Int32)), .val (.int (p1.toInt8.toInt32)), .val (.int (0 : Int32))] []))
    refine own_go (fun _ k => XS.iinc X0.here hx rfl (hb hby ds7_25) rfl (l' := #[.val (.ref ab), .val (.int p1), .val (.int (0 : Int32)), .val (.int (9 : Int32)), .val (.int (p1.toInt8.toInt32)), .val (.int (1 : Int32))]) rfl k) ?_
    show own_Go p.tables e below _ (s₁.setTop (mkF m 28 #[.val (.ref ab), .val (.int p1), .val (.int (0 : Int32)), .val (.int (9 : Int32)), .val (.int (p1.toInt8.toInt32)), .val (.int (1 : Int32))] []))
    refine own_go (fun _ k => XS.goto X0.here hx rfl (pc0 := 28) (pc' := 7) rfl (hb hby ds7_28) (by decide) (by decide) k) ?_
    show own_Go p.tables e below _ (s₁.setTop (mkF m 7 #[.val (.ref ab), .val (.int p1), .val (.int (0 : Int32)), .val (.int (9 : Int32)), .val (.int (p1.toInt8.toInt32)), .val (.int (1 : Int32))] []))
    refine own_go (fun _ k => XS.iload X0.here hx rfl (hb hby ds7_7) rfl k) ?_
    show own_Go p.tables e below _ (s₁.setTop (mkF m 9 #[.val (.ref ab), .val (.int p1), .val (.int (0 : Int32)), .val (.int (9 : Int32)), .val (.int (p1.toInt8.toInt32)), .val (.int (1 : Int32))] [(.int (1 : Int32))]))
    refine own_go (fun _ k => XS.iloadN X0.here hx rfl (hb hby ds7_9) rfl k) ?_
    show own_Go p.tables e below _ (s₁.setTop (mkF m 10 #[.val (.ref ab), .val (.int p1), .val (.int (0 : Int32)), .val (.int (9 : Int32)), .val (.int (p1.toInt8.toInt32)), .val (.int (1 : Int32))] [(.int (9 : Int32)), (.int (1 : Int32))]))
    have hf10 : (1 : Int32) < (9 : Int32) := by decide
    refine own_go (fun _ k => XS.icmpNo X0.here hx rfl (hb hby ds7_10) rfl (tlt hf10).2.1 k) ?_
    show own_Go p.tables e below _ (s₁.setTop (mkF m 13 #[.val (.ref ab), .val (.int p1), .val (.int (0 : Int32)), .val (.int (9 : Int32)), .val (.int (p1.toInt8.toInt32)), .val (.int (1 : Int32))] []))
    refine own_go (fun _ k => XS.aloadN X0.here hx rfl (hb hby ds7_13) rfl rfl k) ?_
    show own_Go p.tables e below _ (s₁.setTop (mkF m 14 #[.val (.ref ab), .val (.int p1), .val (.int (0 : Int32)), .val (.int (9 : Int32)), .val (.int (p1.toInt8.toInt32)), .val (.int (1 : Int32))] [(.ref ab)]))
    refine own_go (fun _ k => XS.iload X0.here hx rfl (hb hby ds7_14) rfl k) ?_
    show own_Go p.tables e below _ (s₁.setTop (mkF m 16 #[.val (.ref ab), .val (.int p1), .val (.int (0 : Int32)), .val (.int (9 : Int32)), .val (.int (p1.toInt8.toInt32)), .val (.int (1 : Int32))] [(.int (1 : Int32)), (.ref ab)]))
    have vo2 := V_ab
    obtain ⟨cl2, Ar2, Aq2, AS2, AN2, AH2, AG2⟩ := vo2
    have hin2 : ¬ ((1 : Int32) < 0 ∨ cl2.slots.size ≤ ((1 : Int32)).toNatClampNeg) := inb_of AS2 ⟨by decide, by decide⟩
    have hat2 : cl2.slots[((1 : Int32)).toNatClampNeg]? = some (.int (62 : Int32)) := Has.at AH2 hin2 rfl
    refine own_go (fun _ k => X0.baloadBytes hx (j := (1 : Int32)) (v := (.int (62 : Int32))) (by rw [e0]; exact Ar2.1) (State.isArrayOf_alike hZ.alike Ar2.2.1) Ar2.2.2 hin2 hat2 (g := (mkF m 16 #[.val (.ref ab), .val (.int p1), .val (.int (0 : Int32)), .val (.int (9 : Int32)), .val (.int (p1.toInt8.toInt32)), .val (.int (1 : Int32))] [(.int (1 : Int32)), (.ref ab)])) rfl rfl (hb hby ds7_16) _ k) ?_
    show own_Go p.tables e below _ (s₁.setTop (mkF m 17 #[.val (.ref ab), .val (.int p1), .val (.int (0 : Int32)), .val (.int (9 : Int32)), .val (.int (p1.toInt8.toInt32)), .val (.int (1 : Int32))] [(.int (62 : Int32))]))
    refine own_go (fun _ k => XS.iload X0.here hx rfl (hb hby ds7_17) rfl k) ?_
    show own_Go p.tables e below _ (s₁.setTop (mkF m 19 #[.val (.ref ab), .val (.int p1), .val (.int (0 : Int32)), .val (.int (9 : Int32)), .val (.int (p1.toInt8.toInt32)), .val (.int (1 : Int32))] [(.int (p1.toInt8.toInt32)), (.int (62 : Int32))]))
    by_cases hc19_2 : (62 : Int32) = (p1.toInt8.toInt32)
    · refine own_go (fun _ k => XS.icmpNo X0.here hx rfl (hb hby ds7_19) rfl (teq hc19_2).2 k) ?_
      show own_Go p.tables e below _ (s₁.setTop (mkF m 22 #[.val (.ref ab), .val (.int p1), .val (.int (0 : Int32)), .val (.int (9 : Int32)), .val (.int (p1.toInt8.toInt32)), .val (.int (1 : Int32))] []))
      refine own_go (fun _ k => XS.iload X0.here hx rfl (hb hby ds7_22) rfl k) ?_
      show own_Go p.tables e below _ (s₁.setTop (mkF m 24 #[.val (.ref ab), .val (.int p1), .val (.int (0 : Int32)), .val (.int (9 : Int32)), .val (.int (p1.toInt8.toInt32)), .val (.int (1 : Int32))] [(.int (1 : Int32))]))
      refine own_end X0 Bd.notSynchronized (v := some (.int (1 : Int32))) (fun h => by rw [Bd.returns] at h; cases h) (fun fs hr => own_retI X0 hx Bd.returns (hb hby ds7_24) hr) ?_ (by decide) (by decide)
      exact ⟨by rw [own_fs7, if_neg hc19, if_pos hc19_2], N0, e0⟩
    · refine own_go (fun _ k => XS.icmpYes X0.here hx rfl (pc0 := 19) (pc' := 25) rfl (hb hby ds7_19) rfl (feq hc19_2).2 (by decide) (by decide) k) ?_
      show own_Go p.tables e below _ (s₁.setTop (mkF m 25 #[.val (.ref ab), .val (.int p1), .val (.int (0 : Int32)), .val (.int (9 : Int32)), .val (.int (p1.toInt8.toInt32)), .val (.int (1 : Int32))] []))
      refine own_go (fun _ k => XS.iinc X0.here hx rfl (hb hby ds7_25) rfl (l' := #[.val (.ref ab), .val (.int p1), .val (.int (0 : Int32)), .val (.int (9 : Int32)), .val (.int (p1.toInt8.toInt32)), .val (.int (2 : Int32))]) rfl k) ?_
      show own_Go p.tables e below _ (s₁.setTop (mkF m 28 #[.val (.ref ab), .val (.int p1), .val (.int (0 : Int32)), .val (.int (9 : Int32)), .val (.int (p1.toInt8.toInt32)), .val (.int (2 : Int32))] []))
      refine own_go (fun _ k => XS.goto X0.here hx rfl (pc0 := 28) (pc' := 7) rfl (hb hby ds7_28) (by decide) (by decide) k) ?_
      show own_Go p.tables e below _ (s₁.setTop (mkF m 7 #[.val (.ref ab), .val (.int p1), .val (.int (0 : Int32)), .val (.int (9 : Int32)), .val (.int (p1.toInt8.toInt32)), .val (.int (2 : Int32))] []))
      refine own_go (fun _ k => XS.iload X0.here hx rfl (hb hby ds7_7) rfl k) ?_
      show own_Go p.tables e below _ (s₁.setTop (mkF m 9 #[.val (.ref ab), .val (.int p1), .val (.int (0 : Int32)), .val (.int (9 : Int32)), .val (.int (p1.toInt8.toInt32)), .val (.int (2 : Int32))] [(.int (2 : Int32))]))
      refine own_go (fun _ k => XS.iloadN X0.here hx rfl (hb hby ds7_9) rfl k) ?_
      show own_Go p.tables e below _ (s₁.setTop (mkF m 10 #[.val (.ref ab), .val (.int p1), .val (.int (0 : Int32)), .val (.int (9 : Int32)), .val (.int (p1.toInt8.toInt32)), .val (.int (2 : Int32))] [(.int (9 : Int32)), (.int (2 : Int32))]))
      have hf10 : (2 : Int32) < (9 : Int32) := by decide
      refine own_go (fun _ k => XS.icmpNo X0.here hx rfl (hb hby ds7_10) rfl (tlt hf10).2.1 k) ?_
      show own_Go p.tables e below _ (s₁.setTop (mkF m 13 #[.val (.ref ab), .val (.int p1), .val (.int (0 : Int32)), .val (.int (9 : Int32)), .val (.int (p1.toInt8.toInt32)), .val (.int (2 : Int32))] []))
      refine own_go (fun _ k => XS.aloadN X0.here hx rfl (hb hby ds7_13) rfl rfl k) ?_
      show own_Go p.tables e below _ (s₁.setTop (mkF m 14 #[.val (.ref ab), .val (.int p1), .val (.int (0 : Int32)), .val (.int (9 : Int32)), .val (.int (p1.toInt8.toInt32)), .val (.int (2 : Int32))] [(.ref ab)]))
      refine own_go (fun _ k => XS.iload X0.here hx rfl (hb hby ds7_14) rfl k) ?_
      show own_Go p.tables e below _ (s₁.setTop (mkF m 16 #[.val (.ref ab), .val (.int p1), .val (.int (0 : Int32)), .val (.int (9 : Int32)), .val (.int (p1.toInt8.toInt32)), .val (.int (2 : Int32))] [(.int (2 : Int32)), (.ref ab)]))
      have vo3 := V_ab
      obtain ⟨cl3, Ar3, Aq3, AS3, AN3, AH3, AG3⟩ := vo3
      have hin3 : ¬ ((2 : Int32) < 0 ∨ cl3.slots.size ≤ ((2 : Int32)).toNatClampNeg) := inb_of AS3 ⟨by decide, by decide⟩
      have hat3 : cl3.slots[((2 : Int32)).toNatClampNeg]? = some (.int (34 : Int32)) := Has.at AH3 hin3 rfl
      refine own_go (fun _ k => X0.baloadBytes hx (j := (2 : Int32)) (v := (.int (34 : Int32))) (by rw [e0]; exact Ar3.1) (State.isArrayOf_alike hZ.alike Ar3.2.1) Ar3.2.2 hin3 hat3 (g := (mkF m 16 #[.val (.ref ab), .val (.int p1), .val (.int (0 : Int32)), .val (.int (9 : Int32)), .val (.int (p1.toInt8.toInt32)), .val (.int (2 : Int32))] [(.int (2 : Int32)), (.ref ab)])) rfl rfl (hb hby ds7_16) _ k) ?_
      show own_Go p.tables e below _ (s₁.setTop (mkF m 17 #[.val (.ref ab), .val (.int p1), .val (.int (0 : Int32)), .val (.int (9 : Int32)), .val (.int (p1.toInt8.toInt32)), .val (.int (2 : Int32))] [(.int (34 : Int32))]))
      refine own_go (fun _ k => XS.iload X0.here hx rfl (hb hby ds7_17) rfl k) ?_
      show own_Go p.tables e below _ (s₁.setTop (mkF m 19 #[.val (.ref ab), .val (.int p1), .val (.int (0 : Int32)), .val (.int (9 : Int32)), .val (.int (p1.toInt8.toInt32)), .val (.int (2 : Int32))] [(.int (p1.toInt8.toInt32)), (.int (34 : Int32))]))
      by_cases hc19_3 : (34 : Int32) = (p1.toInt8.toInt32)
      · refine own_go (fun _ k => XS.icmpNo X0.here hx rfl (hb hby ds7_19) rfl (teq hc19_3).2 k) ?_
        show own_Go p.tables e below _ (s₁.setTop (mkF m 22 #[.val (.ref ab), .val (.int p1), .val (.int (0 : Int32)), .val (.int (9 : Int32)), .val (.int (p1.toInt8.toInt32)), .val (.int (2 : Int32))] []))
        refine own_go (fun _ k => XS.iload X0.here hx rfl (hb hby ds7_22) rfl k) ?_
        show own_Go p.tables e below _ (s₁.setTop (mkF m 24 #[.val (.ref ab), .val (.int p1), .val (.int (0 : Int32)), .val (.int (9 : Int32)), .val (.int (p1.toInt8.toInt32)), .val (.int (2 : Int32))] [(.int (2 : Int32))]))
        refine own_end X0 Bd.notSynchronized (v := some (.int (2 : Int32))) (fun h => by rw [Bd.returns] at h; cases h) (fun fs hr => own_retI X0 hx Bd.returns (hb hby ds7_24) hr) ?_ (by decide) (by decide)
        exact ⟨by rw [own_fs7, if_neg hc19, if_neg hc19_2, if_pos hc19_3], N0, e0⟩
      · refine own_go (fun _ k => XS.icmpYes X0.here hx rfl (pc0 := 19) (pc' := 25) rfl (hb hby ds7_19) rfl (feq hc19_3).2 (by decide) (by decide) k) ?_
        show own_Go p.tables e below _ (s₁.setTop (mkF m 25 #[.val (.ref ab), .val (.int p1), .val (.int (0 : Int32)), .val (.int (9 : Int32)), .val (.int (p1.toInt8.toInt32)), .val (.int (2 : Int32))] []))
        refine own_go (fun _ k => XS.iinc X0.here hx rfl (hb hby ds7_25) rfl (l' := #[.val (.ref ab), .val (.int p1), .val (.int (0 : Int32)), .val (.int (9 : Int32)), .val (.int (p1.toInt8.toInt32)), .val (.int (3 : Int32))]) rfl k) ?_
        show own_Go p.tables e below _ (s₁.setTop (mkF m 28 #[.val (.ref ab), .val (.int p1), .val (.int (0 : Int32)), .val (.int (9 : Int32)), .val (.int (p1.toInt8.toInt32)), .val (.int (3 : Int32))] []))
        refine own_go (fun _ k => XS.goto X0.here hx rfl (pc0 := 28) (pc' := 7) rfl (hb hby ds7_28) (by decide) (by decide) k) ?_
        show own_Go p.tables e below _ (s₁.setTop (mkF m 7 #[.val (.ref ab), .val (.int p1), .val (.int (0 : Int32)), .val (.int (9 : Int32)), .val (.int (p1.toInt8.toInt32)), .val (.int (3 : Int32))] []))
        refine own_go (fun _ k => XS.iload X0.here hx rfl (hb hby ds7_7) rfl k) ?_
        show own_Go p.tables e below _ (s₁.setTop (mkF m 9 #[.val (.ref ab), .val (.int p1), .val (.int (0 : Int32)), .val (.int (9 : Int32)), .val (.int (p1.toInt8.toInt32)), .val (.int (3 : Int32))] [(.int (3 : Int32))]))
        refine own_go (fun _ k => XS.iloadN X0.here hx rfl (hb hby ds7_9) rfl k) ?_
        show own_Go p.tables e below _ (s₁.setTop (mkF m 10 #[.val (.ref ab), .val (.int p1), .val (.int (0 : Int32)), .val (.int (9 : Int32)), .val (.int (p1.toInt8.toInt32)), .val (.int (3 : Int32))] [(.int (9 : Int32)), (.int (3 : Int32))]))
        have hf10 : (3 : Int32) < (9 : Int32) := by decide
        refine own_go (fun _ k => XS.icmpNo X0.here hx rfl (hb hby ds7_10) rfl (tlt hf10).2.1 k) ?_
        show own_Go p.tables e below _ (s₁.setTop (mkF m 13 #[.val (.ref ab), .val (.int p1), .val (.int (0 : Int32)), .val (.int (9 : Int32)), .val (.int (p1.toInt8.toInt32)), .val (.int (3 : Int32))] []))
        refine own_go (fun _ k => XS.aloadN X0.here hx rfl (hb hby ds7_13) rfl rfl k) ?_
        show own_Go p.tables e below _ (s₁.setTop (mkF m 14 #[.val (.ref ab), .val (.int p1), .val (.int (0 : Int32)), .val (.int (9 : Int32)), .val (.int (p1.toInt8.toInt32)), .val (.int (3 : Int32))] [(.ref ab)]))
        refine own_go (fun _ k => XS.iload X0.here hx rfl (hb hby ds7_14) rfl k) ?_
        show own_Go p.tables e below _ (s₁.setTop (mkF m 16 #[.val (.ref ab), .val (.int p1), .val (.int (0 : Int32)), .val (.int (9 : Int32)), .val (.int (p1.toInt8.toInt32)), .val (.int (3 : Int32))] [(.int (3 : Int32)), (.ref ab)]))
        have vo4 := V_ab
        obtain ⟨cl4, Ar4, Aq4, AS4, AN4, AH4, AG4⟩ := vo4
        have hin4 : ¬ ((3 : Int32) < 0 ∨ cl4.slots.size ≤ ((3 : Int32)).toNatClampNeg) := inb_of AS4 ⟨by decide, by decide⟩
        have hat4 : cl4.slots[((3 : Int32)).toNatClampNeg]? = some (.int (123 : Int32)) := Has.at AH4 hin4 rfl
        refine own_go (fun _ k => X0.baloadBytes hx (j := (3 : Int32)) (v := (.int (123 : Int32))) (by rw [e0]; exact Ar4.1) (State.isArrayOf_alike hZ.alike Ar4.2.1) Ar4.2.2 hin4 hat4 (g := (mkF m 16 #[.val (.ref ab), .val (.int p1), .val (.int (0 : Int32)), .val (.int (9 : Int32)), .val (.int (p1.toInt8.toInt32)), .val (.int (3 : Int32))] [(.int (3 : Int32)), (.ref ab)])) rfl rfl (hb hby ds7_16) _ k) ?_
        show own_Go p.tables e below _ (s₁.setTop (mkF m 17 #[.val (.ref ab), .val (.int p1), .val (.int (0 : Int32)), .val (.int (9 : Int32)), .val (.int (p1.toInt8.toInt32)), .val (.int (3 : Int32))] [(.int (123 : Int32))]))
        refine own_go (fun _ k => XS.iload X0.here hx rfl (hb hby ds7_17) rfl k) ?_
        show own_Go p.tables e below _ (s₁.setTop (mkF m 19 #[.val (.ref ab), .val (.int p1), .val (.int (0 : Int32)), .val (.int (9 : Int32)), .val (.int (p1.toInt8.toInt32)), .val (.int (3 : Int32))] [(.int (p1.toInt8.toInt32)), (.int (123 : Int32))]))
        by_cases hc19_4 : (123 : Int32) = (p1.toInt8.toInt32)
        · refine own_go (fun _ k => XS.icmpNo X0.here hx rfl (hb hby ds7_19) rfl (teq hc19_4).2 k) ?_
          show own_Go p.tables e below _ (s₁.setTop (mkF m 22 #[.val (.ref ab), .val (.int p1), .val (.int (0 : Int32)), .val (.int (9 : Int32)), .val (.int (p1.toInt8.toInt32)), .val (.int (3 : Int32))] []))
          refine own_go (fun _ k => XS.iload X0.here hx rfl (hb hby ds7_22) rfl k) ?_
          show own_Go p.tables e below _ (s₁.setTop (mkF m 24 #[.val (.ref ab), .val (.int p1), .val (.int (0 : Int32)), .val (.int (9 : Int32)), .val (.int (p1.toInt8.toInt32)), .val (.int (3 : Int32))] [(.int (3 : Int32))]))
          refine own_end X0 Bd.notSynchronized (v := some (.int (3 : Int32))) (fun h => by rw [Bd.returns] at h; cases h) (fun fs hr => own_retI X0 hx Bd.returns (hb hby ds7_24) hr) ?_ (by decide) (by decide)
          exact ⟨by rw [own_fs7, if_neg hc19, if_neg hc19_2, if_neg hc19_3, if_pos hc19_4], N0, e0⟩
        · refine own_go (fun _ k => XS.icmpYes X0.here hx rfl (pc0 := 19) (pc' := 25) rfl (hb hby ds7_19) rfl (feq hc19_4).2 (by decide) (by decide) k) ?_
          show own_Go p.tables e below _ (s₁.setTop (mkF m 25 #[.val (.ref ab), .val (.int p1), .val (.int (0 : Int32)), .val (.int (9 : Int32)), .val (.int (p1.toInt8.toInt32)), .val (.int (3 : Int32))] []))
          refine own_go (fun _ k => XS.iinc X0.here hx rfl (hb hby ds7_25) rfl (l' := #[.val (.ref ab), .val (.int p1), .val (.int (0 : Int32)), .val (.int (9 : Int32)), .val (.int (p1.toInt8.toInt32)), .val (.int (4 : Int32))]) rfl k) ?_
          show own_Go p.tables e below _ (s₁.setTop (mkF m 28 #[.val (.ref ab), .val (.int p1), .val (.int (0 : Int32)), .val (.int (9 : Int32)), .val (.int (p1.toInt8.toInt32)), .val (.int (4 : Int32))] []))
          refine own_go (fun _ k => XS.goto X0.here hx rfl (pc0 := 28) (pc' := 7) rfl (hb hby ds7_28) (by decide) (by decide) k) ?_
          show own_Go p.tables e below _ (s₁.setTop (mkF m 7 #[.val (.ref ab), .val (.int p1), .val (.int (0 : Int32)), .val (.int (9 : Int32)), .val (.int (p1.toInt8.toInt32)), .val (.int (4 : Int32))] []))
          refine own_go (fun _ k => XS.iload X0.here hx rfl (hb hby ds7_7) rfl k) ?_
          show own_Go p.tables e below _ (s₁.setTop (mkF m 9 #[.val (.ref ab), .val (.int p1), .val (.int (0 : Int32)), .val (.int (9 : Int32)), .val (.int (p1.toInt8.toInt32)), .val (.int (4 : Int32))] [(.int (4 : Int32))]))
          refine own_go (fun _ k => XS.iloadN X0.here hx rfl (hb hby ds7_9) rfl k) ?_
          show own_Go p.tables e below _ (s₁.setTop (mkF m 10 #[.val (.ref ab), .val (.int p1), .val (.int (0 : Int32)), .val (.int (9 : Int32)), .val (.int (p1.toInt8.toInt32)), .val (.int (4 : Int32))] [(.int (9 : Int32)), (.int (4 : Int32))]))
          have hf10 : (4 : Int32) < (9 : Int32) := by decide
          refine own_go (fun _ k => XS.icmpNo X0.here hx rfl (hb hby ds7_10) rfl (tlt hf10).2.1 k) ?_
          show own_Go p.tables e below _ (s₁.setTop (mkF m 13 #[.val (.ref ab), .val (.int p1), .val (.int (0 : Int32)), .val (.int (9 : Int32)), .val (.int (p1.toInt8.toInt32)), .val (.int (4 : Int32))] []))
          refine own_go (fun _ k => XS.aloadN X0.here hx rfl (hb hby ds7_13) rfl rfl k) ?_
          show own_Go p.tables e below _ (s₁.setTop (mkF m 14 #[.val (.ref ab), .val (.int p1), .val (.int (0 : Int32)), .val (.int (9 : Int32)), .val (.int (p1.toInt8.toInt32)), .val (.int (4 : Int32))] [(.ref ab)]))
          refine own_go (fun _ k => XS.iload X0.here hx rfl (hb hby ds7_14) rfl k) ?_
          show own_Go p.tables e below _ (s₁.setTop (mkF m 16 #[.val (.ref ab), .val (.int p1), .val (.int (0 : Int32)), .val (.int (9 : Int32)), .val (.int (p1.toInt8.toInt32)), .val (.int (4 : Int32))] [(.int (4 : Int32)), (.ref ab)]))
          have vo5 := V_ab
          obtain ⟨cl5, Ar5, Aq5, AS5, AN5, AH5, AG5⟩ := vo5
          have hin5 : ¬ ((4 : Int32) < 0 ∨ cl5.slots.size ≤ ((4 : Int32)).toNatClampNeg) := inb_of AS5 ⟨by decide, by decide⟩
          have hat5 : cl5.slots[((4 : Int32)).toNatClampNeg]? = some (.int (125 : Int32)) := Has.at AH5 hin5 rfl
          refine own_go (fun _ k => X0.baloadBytes hx (j := (4 : Int32)) (v := (.int (125 : Int32))) (by rw [e0]; exact Ar5.1) (State.isArrayOf_alike hZ.alike Ar5.2.1) Ar5.2.2 hin5 hat5 (g := (mkF m 16 #[.val (.ref ab), .val (.int p1), .val (.int (0 : Int32)), .val (.int (9 : Int32)), .val (.int (p1.toInt8.toInt32)), .val (.int (4 : Int32))] [(.int (4 : Int32)), (.ref ab)])) rfl rfl (hb hby ds7_16) _ k) ?_
          show own_Go p.tables e below _ (s₁.setTop (mkF m 17 #[.val (.ref ab), .val (.int p1), .val (.int (0 : Int32)), .val (.int (9 : Int32)), .val (.int (p1.toInt8.toInt32)), .val (.int (4 : Int32))] [(.int (125 : Int32))]))
          refine own_go (fun _ k => XS.iload X0.here hx rfl (hb hby ds7_17) rfl k) ?_
          show own_Go p.tables e below _ (s₁.setTop (mkF m 19 #[.val (.ref ab), .val (.int p1), .val (.int (0 : Int32)), .val (.int (9 : Int32)), .val (.int (p1.toInt8.toInt32)), .val (.int (4 : Int32))] [(.int (p1.toInt8.toInt32)), (.int (125 : Int32))]))
          by_cases hc19_5 : (125 : Int32) = (p1.toInt8.toInt32)
          · refine own_go (fun _ k => XS.icmpNo X0.here hx rfl (hb hby ds7_19) rfl (teq hc19_5).2 k) ?_
            show own_Go p.tables e below _ (s₁.setTop (mkF m 22 #[.val (.ref ab), .val (.int p1), .val (.int (0 : Int32)), .val (.int (9 : Int32)), .val (.int (p1.toInt8.toInt32)), .val (.int (4 : Int32))] []))
            refine own_go (fun _ k => XS.iload X0.here hx rfl (hb hby ds7_22) rfl k) ?_
            show own_Go p.tables e below _ (s₁.setTop (mkF m 24 #[.val (.ref ab), .val (.int p1), .val (.int (0 : Int32)), .val (.int (9 : Int32)), .val (.int (p1.toInt8.toInt32)), .val (.int (4 : Int32))] [(.int (4 : Int32))]))
            refine own_end X0 Bd.notSynchronized (v := some (.int (4 : Int32))) (fun h => by rw [Bd.returns] at h; cases h) (fun fs hr => own_retI X0 hx Bd.returns (hb hby ds7_24) hr) ?_ (by decide) (by decide)
            exact ⟨by rw [own_fs7, if_neg hc19, if_neg hc19_2, if_neg hc19_3, if_neg hc19_4, if_pos hc19_5], N0, e0⟩
          · refine own_go (fun _ k => XS.icmpYes X0.here hx rfl (pc0 := 19) (pc' := 25) rfl (hb hby ds7_19) rfl (feq hc19_5).2 (by decide) (by decide) k) ?_
            show own_Go p.tables e below _ (s₁.setTop (mkF m 25 #[.val (.ref ab), .val (.int p1), .val (.int (0 : Int32)), .val (.int (9 : Int32)), .val (.int (p1.toInt8.toInt32)), .val (.int (4 : Int32))] []))
            refine own_go (fun _ k => XS.iinc X0.here hx rfl (hb hby ds7_25) rfl (l' := #[.val (.ref ab), .val (.int p1), .val (.int (0 : Int32)), .val (.int (9 : Int32)), .val (.int (p1.toInt8.toInt32)), .val (.int (5 : Int32))]) rfl k) ?_
            show own_Go p.tables e below _ (s₁.setTop (mkF m 28 #[.val (.ref ab), .val (.int p1), .val (.int (0 : Int32)), .val (.int (9 : Int32)), .val (.int (p1.toInt8.toInt32)), .val (.int (5 : Int32))] []))
            refine own_go (fun _ k => XS.goto X0.here hx rfl (pc0 := 28) (pc' := 7) rfl (hb hby ds7_28) (by decide) (by decide) k) ?_
            show own_Go p.tables e below _ (s₁.setTop (mkF m 7 #[.val (.ref ab), .val (.int p1), .val (.int (0 : Int32)), .val (.int (9 : Int32)), .val (.int (p1.toInt8.toInt32)), .val (.int (5 : Int32))] []))
            refine own_go (fun _ k => XS.iload X0.here hx rfl (hb hby ds7_7) rfl k) ?_
            show own_Go p.tables e below _ (s₁.setTop (mkF m 9 #[.val (.ref ab), .val (.int p1), .val (.int (0 : Int32)), .val (.int (9 : Int32)), .val (.int (p1.toInt8.toInt32)), .val (.int (5 : Int32))] [(.int (5 : Int32))]))
            refine own_go (fun _ k => XS.iloadN X0.here hx rfl (hb hby ds7_9) rfl k) ?_
            show own_Go p.tables e below _ (s₁.setTop (mkF m 10 #[.val (.ref ab), .val (.int p1), .val (.int (0 : Int32)), .val (.int (9 : Int32)), .val (.int (p1.toInt8.toInt32)), .val (.int (5 : Int32))] [(.int (9 : Int32)), (.int (5 : Int32))]))
            have hf10 : (5 : Int32) < (9 : Int32) := by decide
            refine own_go (fun _ k => XS.icmpNo X0.here hx rfl (hb hby ds7_10) rfl (tlt hf10).2.1 k) ?_
            show own_Go p.tables e below _ (s₁.setTop (mkF m 13 #[.val (.ref ab), .val (.int p1), .val (.int (0 : Int32)), .val (.int (9 : Int32)), .val (.int (p1.toInt8.toInt32)), .val (.int (5 : Int32))] []))
            refine own_go (fun _ k => XS.aloadN X0.here hx rfl (hb hby ds7_13) rfl rfl k) ?_
            show own_Go p.tables e below _ (s₁.setTop (mkF m 14 #[.val (.ref ab), .val (.int p1), .val (.int (0 : Int32)), .val (.int (9 : Int32)), .val (.int (p1.toInt8.toInt32)), .val (.int (5 : Int32))] [(.ref ab)]))
            refine own_go (fun _ k => XS.iload X0.here hx rfl (hb hby ds7_14) rfl k) ?_
            show own_Go p.tables e below _ (s₁.setTop (mkF m 16 #[.val (.ref ab), .val (.int p1), .val (.int (0 : Int32)), .val (.int (9 : Int32)), .val (.int (p1.toInt8.toInt32)), .val (.int (5 : Int32))] [(.int (5 : Int32)), (.ref ab)]))
            have vo6 := V_ab
            obtain ⟨cl6, Ar6, Aq6, AS6, AN6, AH6, AG6⟩ := vo6
            have hin6 : ¬ ((5 : Int32) < 0 ∨ cl6.slots.size ≤ ((5 : Int32)).toNatClampNeg) := inb_of AS6 ⟨by decide, by decide⟩
            have hat6 : cl6.slots[((5 : Int32)).toNatClampNeg]? = some (.int (124 : Int32)) := Has.at AH6 hin6 rfl
            refine own_go (fun _ k => X0.baloadBytes hx (j := (5 : Int32)) (v := (.int (124 : Int32))) (by rw [e0]; exact Ar6.1) (State.isArrayOf_alike hZ.alike Ar6.2.1) Ar6.2.2 hin6 hat6 (g := (mkF m 16 #[.val (.ref ab), .val (.int p1), .val (.int (0 : Int32)), .val (.int (9 : Int32)), .val (.int (p1.toInt8.toInt32)), .val (.int (5 : Int32))] [(.int (5 : Int32)), (.ref ab)])) rfl rfl (hb hby ds7_16) _ k) ?_
            show own_Go p.tables e below _ (s₁.setTop (mkF m 17 #[.val (.ref ab), .val (.int p1), .val (.int (0 : Int32)), .val (.int (9 : Int32)), .val (.int (p1.toInt8.toInt32)), .val (.int (5 : Int32))] [(.int (124 : Int32))]))
            refine own_go (fun _ k => XS.iload X0.here hx rfl (hb hby ds7_17) rfl k) ?_
            show own_Go p.tables e below _ (s₁.setTop (mkF m 19 #[.val (.ref ab), .val (.int p1), .val (.int (0 : Int32)), .val (.int (9 : Int32)), .val (.int (p1.toInt8.toInt32)), .val (.int (5 : Int32))] [(.int (p1.toInt8.toInt32)), (.int (124 : Int32))]))
            by_cases hc19_6 : (124 : Int32) = (p1.toInt8.toInt32)
            · refine own_go (fun _ k => XS.icmpNo X0.here hx rfl (hb hby ds7_19) rfl (teq hc19_6).2 k) ?_
              show own_Go p.tables e below _ (s₁.setTop (mkF m 22 #[.val (.ref ab), .val (.int p1), .val (.int (0 : Int32)), .val (.int (9 : Int32)), .val (.int (p1.toInt8.toInt32)), .val (.int (5 : Int32))] []))
              refine own_go (fun _ k => XS.iload X0.here hx rfl (hb hby ds7_22) rfl k) ?_
              show own_Go p.tables e below _ (s₁.setTop (mkF m 24 #[.val (.ref ab), .val (.int p1), .val (.int (0 : Int32)), .val (.int (9 : Int32)), .val (.int (p1.toInt8.toInt32)), .val (.int (5 : Int32))] [(.int (5 : Int32))]))
              refine own_end X0 Bd.notSynchronized (v := some (.int (5 : Int32))) (fun h => by rw [Bd.returns] at h; cases h) (fun fs hr => own_retI X0 hx Bd.returns (hb hby ds7_24) hr) ?_ (by decide) (by decide)
              exact ⟨by rw [own_fs7, if_neg hc19, if_neg hc19_2, if_neg hc19_3, if_neg hc19_4, if_neg hc19_5, if_pos hc19_6], N0, e0⟩
            · refine own_go (fun _ k => XS.icmpYes X0.here hx rfl (pc0 := 19) (pc' := 25) rfl (hb hby ds7_19) rfl (feq hc19_6).2 (by decide) (by decide) k) ?_
              show own_Go p.tables e below _ (s₁.setTop (mkF m 25 #[.val (.ref ab), .val (.int p1), .val (.int (0 : Int32)), .val (.int (9 : Int32)), .val (.int (p1.toInt8.toInt32)), .val (.int (5 : Int32))] []))
              refine own_go (fun _ k => XS.iinc X0.here hx rfl (hb hby ds7_25) rfl (l' := #[.val (.ref ab), .val (.int p1), .val (.int (0 : Int32)), .val (.int (9 : Int32)), .val (.int (p1.toInt8.toInt32)), .val (.int (6 : Int32))]) rfl k) ?_
              show own_Go p.tables e below _ (s₁.setTop (mkF m 28 #[.val (.ref ab), .val (.int p1), .val (.int (0 : Int32)), .val (.int (9 : Int32)), .val (.int (p1.toInt8.toInt32)), .val (.int (6 : Int32))] []))
              refine own_go (fun _ k => XS.goto X0.here hx rfl (pc0 := 28) (pc' := 7) rfl (hb hby ds7_28) (by decide) (by decide) k) ?_
              show own_Go p.tables e below _ (s₁.setTop (mkF m 7 #[.val (.ref ab), .val (.int p1), .val (.int (0 : Int32)), .val (.int (9 : Int32)), .val (.int (p1.toInt8.toInt32)), .val (.int (6 : Int32))] []))
              refine own_go (fun _ k => XS.iload X0.here hx rfl (hb hby ds7_7) rfl k) ?_
              show own_Go p.tables e below _ (s₁.setTop (mkF m 9 #[.val (.ref ab), .val (.int p1), .val (.int (0 : Int32)), .val (.int (9 : Int32)), .val (.int (p1.toInt8.toInt32)), .val (.int (6 : Int32))] [(.int (6 : Int32))]))
              refine own_go (fun _ k => XS.iloadN X0.here hx rfl (hb hby ds7_9) rfl k) ?_
              show own_Go p.tables e below _ (s₁.setTop (mkF m 10 #[.val (.ref ab), .val (.int p1), .val (.int (0 : Int32)), .val (.int (9 : Int32)), .val (.int (p1.toInt8.toInt32)), .val (.int (6 : Int32))] [(.int (9 : Int32)), (.int (6 : Int32))]))
              have hf10 : (6 : Int32) < (9 : Int32) := by decide
              refine own_go (fun _ k => XS.icmpNo X0.here hx rfl (hb hby ds7_10) rfl (tlt hf10).2.1 k) ?_
              show own_Go p.tables e below _ (s₁.setTop (mkF m 13 #[.val (.ref ab), .val (.int p1), .val (.int (0 : Int32)), .val (.int (9 : Int32)), .val (.int (p1.toInt8.toInt32)), .val (.int (6 : Int32))] []))
              refine own_go (fun _ k => XS.aloadN X0.here hx rfl (hb hby ds7_13) rfl rfl k) ?_
              show own_Go p.tables e below _ (s₁.setTop (mkF m 14 #[.val (.ref ab), .val (.int p1), .val (.int (0 : Int32)), .val (.int (9 : Int32)), .val (.int (p1.toInt8.toInt32)), .val (.int (6 : Int32))] [(.ref ab)]))
              refine own_go (fun _ k => XS.iload X0.here hx rfl (hb hby ds7_14) rfl k) ?_
              show own_Go p.tables e below _ (s₁.setTop (mkF m 16 #[.val (.ref ab), .val (.int p1), .val (.int (0 : Int32)), .val (.int (9 : Int32)), .val (.int (p1.toInt8.toInt32)), .val (.int (6 : Int32))] [(.int (6 : Int32)), (.ref ab)]))
              have vo7 := V_ab
              obtain ⟨cl7, Ar7, Aq7, AS7, AN7, AH7, AG7⟩ := vo7
              have hin7 : ¬ ((6 : Int32) < 0 ∨ cl7.slots.size ≤ ((6 : Int32)).toNatClampNeg) := inb_of AS7 ⟨by decide, by decide⟩
              have hat7 : cl7.slots[((6 : Int32)).toNatClampNeg]? = some (.int (94 : Int32)) := Has.at AH7 hin7 rfl
              refine own_go (fun _ k => X0.baloadBytes hx (j := (6 : Int32)) (v := (.int (94 : Int32))) (by rw [e0]; exact Ar7.1) (State.isArrayOf_alike hZ.alike Ar7.2.1) Ar7.2.2 hin7 hat7 (g := (mkF m 16 #[.val (.ref ab), .val (.int p1), .val (.int (0 : Int32)), .val (.int (9 : Int32)), .val (.int (p1.toInt8.toInt32)), .val (.int (6 : Int32))] [(.int (6 : Int32)), (.ref ab)])) rfl rfl (hb hby ds7_16) _ k) ?_
              show own_Go p.tables e below _ (s₁.setTop (mkF m 17 #[.val (.ref ab), .val (.int p1), .val (.int (0 : Int32)), .val (.int (9 : Int32)), .val (.int (p1.toInt8.toInt32)), .val (.int (6 : Int32))] [(.int (94 : Int32))]))
              refine own_go (fun _ k => XS.iload X0.here hx rfl (hb hby ds7_17) rfl k) ?_
              show own_Go p.tables e below _ (s₁.setTop (mkF m 19 #[.val (.ref ab), .val (.int p1), .val (.int (0 : Int32)), .val (.int (9 : Int32)), .val (.int (p1.toInt8.toInt32)), .val (.int (6 : Int32))] [(.int (p1.toInt8.toInt32)), (.int (94 : Int32))]))
              by_cases hc19_7 : (94 : Int32) = (p1.toInt8.toInt32)
              · refine own_go (fun _ k => XS.icmpNo X0.here hx rfl (hb hby ds7_19) rfl (teq hc19_7).2 k) ?_
                show own_Go p.tables e below _ (s₁.setTop (mkF m 22 #[.val (.ref ab), .val (.int p1), .val (.int (0 : Int32)), .val (.int (9 : Int32)), .val (.int (p1.toInt8.toInt32)), .val (.int (6 : Int32))] []))
                refine own_go (fun _ k => XS.iload X0.here hx rfl (hb hby ds7_22) rfl k) ?_
                show own_Go p.tables e below _ (s₁.setTop (mkF m 24 #[.val (.ref ab), .val (.int p1), .val (.int (0 : Int32)), .val (.int (9 : Int32)), .val (.int (p1.toInt8.toInt32)), .val (.int (6 : Int32))] [(.int (6 : Int32))]))
                refine own_end X0 Bd.notSynchronized (v := some (.int (6 : Int32))) (fun h => by rw [Bd.returns] at h; cases h) (fun fs hr => own_retI X0 hx Bd.returns (hb hby ds7_24) hr) ?_ (by decide) (by decide)
                exact ⟨by rw [own_fs7, if_neg hc19, if_neg hc19_2, if_neg hc19_3, if_neg hc19_4, if_neg hc19_5, if_neg hc19_6, if_pos hc19_7], N0, e0⟩
              · refine own_go (fun _ k => XS.icmpYes X0.here hx rfl (pc0 := 19) (pc' := 25) rfl (hb hby ds7_19) rfl (feq hc19_7).2 (by decide) (by decide) k) ?_
                show own_Go p.tables e below _ (s₁.setTop (mkF m 25 #[.val (.ref ab), .val (.int p1), .val (.int (0 : Int32)), .val (.int (9 : Int32)), .val (.int (p1.toInt8.toInt32)), .val (.int (6 : Int32))] []))
                refine own_go (fun _ k => XS.iinc X0.here hx rfl (hb hby ds7_25) rfl (l' := #[.val (.ref ab), .val (.int p1), .val (.int (0 : Int32)), .val (.int (9 : Int32)), .val (.int (p1.toInt8.toInt32)), .val (.int (7 : Int32))]) rfl k) ?_
                show own_Go p.tables e below _ (s₁.setTop (mkF m 28 #[.val (.ref ab), .val (.int p1), .val (.int (0 : Int32)), .val (.int (9 : Int32)), .val (.int (p1.toInt8.toInt32)), .val (.int (7 : Int32))] []))
                refine own_go (fun _ k => XS.goto X0.here hx rfl (pc0 := 28) (pc' := 7) rfl (hb hby ds7_28) (by decide) (by decide) k) ?_
                show own_Go p.tables e below _ (s₁.setTop (mkF m 7 #[.val (.ref ab), .val (.int p1), .val (.int (0 : Int32)), .val (.int (9 : Int32)), .val (.int (p1.toInt8.toInt32)), .val (.int (7 : Int32))] []))
                refine own_go (fun _ k => XS.iload X0.here hx rfl (hb hby ds7_7) rfl k) ?_
                show own_Go p.tables e below _ (s₁.setTop (mkF m 9 #[.val (.ref ab), .val (.int p1), .val (.int (0 : Int32)), .val (.int (9 : Int32)), .val (.int (p1.toInt8.toInt32)), .val (.int (7 : Int32))] [(.int (7 : Int32))]))
                refine own_go (fun _ k => XS.iloadN X0.here hx rfl (hb hby ds7_9) rfl k) ?_
                show own_Go p.tables e below _ (s₁.setTop (mkF m 10 #[.val (.ref ab), .val (.int p1), .val (.int (0 : Int32)), .val (.int (9 : Int32)), .val (.int (p1.toInt8.toInt32)), .val (.int (7 : Int32))] [(.int (9 : Int32)), (.int (7 : Int32))]))
                have hf10 : (7 : Int32) < (9 : Int32) := by decide
                refine own_go (fun _ k => XS.icmpNo X0.here hx rfl (hb hby ds7_10) rfl (tlt hf10).2.1 k) ?_
                show own_Go p.tables e below _ (s₁.setTop (mkF m 13 #[.val (.ref ab), .val (.int p1), .val (.int (0 : Int32)), .val (.int (9 : Int32)), .val (.int (p1.toInt8.toInt32)), .val (.int (7 : Int32))] []))
                refine own_go (fun _ k => XS.aloadN X0.here hx rfl (hb hby ds7_13) rfl rfl k) ?_
                show own_Go p.tables e below _ (s₁.setTop (mkF m 14 #[.val (.ref ab), .val (.int p1), .val (.int (0 : Int32)), .val (.int (9 : Int32)), .val (.int (p1.toInt8.toInt32)), .val (.int (7 : Int32))] [(.ref ab)]))
                refine own_go (fun _ k => XS.iload X0.here hx rfl (hb hby ds7_14) rfl k) ?_
                show own_Go p.tables e below _ (s₁.setTop (mkF m 16 #[.val (.ref ab), .val (.int p1), .val (.int (0 : Int32)), .val (.int (9 : Int32)), .val (.int (p1.toInt8.toInt32)), .val (.int (7 : Int32))] [(.int (7 : Int32)), (.ref ab)]))
                have vo8 := V_ab
                obtain ⟨cl8, Ar8, Aq8, AS8, AN8, AH8, AG8⟩ := vo8
                have hin8 : ¬ ((7 : Int32) < 0 ∨ cl8.slots.size ≤ ((7 : Int32)).toNatClampNeg) := inb_of AS8 ⟨by decide, by decide⟩
                have hat8 : cl8.slots[((7 : Int32)).toNatClampNeg]? = some (.int (96 : Int32)) := Has.at AH8 hin8 rfl
                refine own_go (fun _ k => X0.baloadBytes hx (j := (7 : Int32)) (v := (.int (96 : Int32))) (by rw [e0]; exact Ar8.1) (State.isArrayOf_alike hZ.alike Ar8.2.1) Ar8.2.2 hin8 hat8 (g := (mkF m 16 #[.val (.ref ab), .val (.int p1), .val (.int (0 : Int32)), .val (.int (9 : Int32)), .val (.int (p1.toInt8.toInt32)), .val (.int (7 : Int32))] [(.int (7 : Int32)), (.ref ab)])) rfl rfl (hb hby ds7_16) _ k) ?_
                show own_Go p.tables e below _ (s₁.setTop (mkF m 17 #[.val (.ref ab), .val (.int p1), .val (.int (0 : Int32)), .val (.int (9 : Int32)), .val (.int (p1.toInt8.toInt32)), .val (.int (7 : Int32))] [(.int (96 : Int32))]))
                refine own_go (fun _ k => XS.iload X0.here hx rfl (hb hby ds7_17) rfl k) ?_
                show own_Go p.tables e below _ (s₁.setTop (mkF m 19 #[.val (.ref ab), .val (.int p1), .val (.int (0 : Int32)), .val (.int (9 : Int32)), .val (.int (p1.toInt8.toInt32)), .val (.int (7 : Int32))] [(.int (p1.toInt8.toInt32)), (.int (96 : Int32))]))
                by_cases hc19_8 : (96 : Int32) = (p1.toInt8.toInt32)
                · refine own_go (fun _ k => XS.icmpNo X0.here hx rfl (hb hby ds7_19) rfl (teq hc19_8).2 k) ?_
                  show own_Go p.tables e below _ (s₁.setTop (mkF m 22 #[.val (.ref ab), .val (.int p1), .val (.int (0 : Int32)), .val (.int (9 : Int32)), .val (.int (p1.toInt8.toInt32)), .val (.int (7 : Int32))] []))
                  refine own_go (fun _ k => XS.iload X0.here hx rfl (hb hby ds7_22) rfl k) ?_
                  show own_Go p.tables e below _ (s₁.setTop (mkF m 24 #[.val (.ref ab), .val (.int p1), .val (.int (0 : Int32)), .val (.int (9 : Int32)), .val (.int (p1.toInt8.toInt32)), .val (.int (7 : Int32))] [(.int (7 : Int32))]))
                  refine own_end X0 Bd.notSynchronized (v := some (.int (7 : Int32))) (fun h => by rw [Bd.returns] at h; cases h) (fun fs hr => own_retI X0 hx Bd.returns (hb hby ds7_24) hr) ?_ (by decide) (by decide)
                  exact ⟨by rw [own_fs7, if_neg hc19, if_neg hc19_2, if_neg hc19_3, if_neg hc19_4, if_neg hc19_5, if_neg hc19_6, if_neg hc19_7, if_pos hc19_8], N0, e0⟩
                · refine own_go (fun _ k => XS.icmpYes X0.here hx rfl (pc0 := 19) (pc' := 25) rfl (hb hby ds7_19) rfl (feq hc19_8).2 (by decide) (by decide) k) ?_
                  show own_Go p.tables e below _ (s₁.setTop (mkF m 25 #[.val (.ref ab), .val (.int p1), .val (.int (0 : Int32)), .val (.int (9 : Int32)), .val (.int (p1.toInt8.toInt32)), .val (.int (7 : Int32))] []))
                  refine own_go (fun _ k => XS.iinc X0.here hx rfl (hb hby ds7_25) rfl (l' := #[.val (.ref ab), .val (.int p1), .val (.int (0 : Int32)), .val (.int (9 : Int32)), .val (.int (p1.toInt8.toInt32)), .val (.int (8 : Int32))]) rfl k) ?_
                  show own_Go p.tables e below _ (s₁.setTop (mkF m 28 #[.val (.ref ab), .val (.int p1), .val (.int (0 : Int32)), .val (.int (9 : Int32)), .val (.int (p1.toInt8.toInt32)), .val (.int (8 : Int32))] []))
                  refine own_go (fun _ k => XS.goto X0.here hx rfl (pc0 := 28) (pc' := 7) rfl (hb hby ds7_28) (by decide) (by decide) k) ?_
                  show own_Go p.tables e below _ (s₁.setTop (mkF m 7 #[.val (.ref ab), .val (.int p1), .val (.int (0 : Int32)), .val (.int (9 : Int32)), .val (.int (p1.toInt8.toInt32)), .val (.int (8 : Int32))] []))
                  refine own_go (fun _ k => XS.iload X0.here hx rfl (hb hby ds7_7) rfl k) ?_
                  show own_Go p.tables e below _ (s₁.setTop (mkF m 9 #[.val (.ref ab), .val (.int p1), .val (.int (0 : Int32)), .val (.int (9 : Int32)), .val (.int (p1.toInt8.toInt32)), .val (.int (8 : Int32))] [(.int (8 : Int32))]))
                  refine own_go (fun _ k => XS.iloadN X0.here hx rfl (hb hby ds7_9) rfl k) ?_
                  show own_Go p.tables e below _ (s₁.setTop (mkF m 10 #[.val (.ref ab), .val (.int p1), .val (.int (0 : Int32)), .val (.int (9 : Int32)), .val (.int (p1.toInt8.toInt32)), .val (.int (8 : Int32))] [(.int (9 : Int32)), (.int (8 : Int32))]))
                  have hf10 : (8 : Int32) < (9 : Int32) := by decide
                  refine own_go (fun _ k => XS.icmpNo X0.here hx rfl (hb hby ds7_10) rfl (tlt hf10).2.1 k) ?_
                  show own_Go p.tables e below _ (s₁.setTop (mkF m 13 #[.val (.ref ab), .val (.int p1), .val (.int (0 : Int32)), .val (.int (9 : Int32)), .val (.int (p1.toInt8.toInt32)), .val (.int (8 : Int32))] []))
                  refine own_go (fun _ k => XS.aloadN X0.here hx rfl (hb hby ds7_13) rfl rfl k) ?_
                  show own_Go p.tables e below _ (s₁.setTop (mkF m 14 #[.val (.ref ab), .val (.int p1), .val (.int (0 : Int32)), .val (.int (9 : Int32)), .val (.int (p1.toInt8.toInt32)), .val (.int (8 : Int32))] [(.ref ab)]))
                  refine own_go (fun _ k => XS.iload X0.here hx rfl (hb hby ds7_14) rfl k) ?_
                  show own_Go p.tables e below _ (s₁.setTop (mkF m 16 #[.val (.ref ab), .val (.int p1), .val (.int (0 : Int32)), .val (.int (9 : Int32)), .val (.int (p1.toInt8.toInt32)), .val (.int (8 : Int32))] [(.int (8 : Int32)), (.ref ab)]))
                  have vo9 := V_ab
                  obtain ⟨cl9, Ar9, Aq9, AS9, AN9, AH9, AG9⟩ := vo9
                  have hin9 : ¬ ((8 : Int32) < 0 ∨ cl9.slots.size ≤ ((8 : Int32)).toNatClampNeg) := inb_of AS9 ⟨by decide, by decide⟩
                  have hat9 : cl9.slots[((8 : Int32)).toNatClampNeg]? = some (.int (92 : Int32)) := Has.at AH9 hin9 rfl
                  refine own_go (fun _ k => X0.baloadBytes hx (j := (8 : Int32)) (v := (.int (92 : Int32))) (by rw [e0]; exact Ar9.1) (State.isArrayOf_alike hZ.alike Ar9.2.1) Ar9.2.2 hin9 hat9 (g := (mkF m 16 #[.val (.ref ab), .val (.int p1), .val (.int (0 : Int32)), .val (.int (9 : Int32)), .val (.int (p1.toInt8.toInt32)), .val (.int (8 : Int32))] [(.int (8 : Int32)), (.ref ab)])) rfl rfl (hb hby ds7_16) _ k) ?_
                  show own_Go p.tables e below _ (s₁.setTop (mkF m 17 #[.val (.ref ab), .val (.int p1), .val (.int (0 : Int32)), .val (.int (9 : Int32)), .val (.int (p1.toInt8.toInt32)), .val (.int (8 : Int32))] [(.int (92 : Int32))]))
                  refine own_go (fun _ k => XS.iload X0.here hx rfl (hb hby ds7_17) rfl k) ?_
                  show own_Go p.tables e below _ (s₁.setTop (mkF m 19 #[.val (.ref ab), .val (.int p1), .val (.int (0 : Int32)), .val (.int (9 : Int32)), .val (.int (p1.toInt8.toInt32)), .val (.int (8 : Int32))] [(.int (p1.toInt8.toInt32)), (.int (92 : Int32))]))
                  by_cases hc19_9 : (92 : Int32) = (p1.toInt8.toInt32)
                  · refine own_go (fun _ k => XS.icmpNo X0.here hx rfl (hb hby ds7_19) rfl (teq hc19_9).2 k) ?_
                    show own_Go p.tables e below _ (s₁.setTop (mkF m 22 #[.val (.ref ab), .val (.int p1), .val (.int (0 : Int32)), .val (.int (9 : Int32)), .val (.int (p1.toInt8.toInt32)), .val (.int (8 : Int32))] []))
                    refine own_go (fun _ k => XS.iload X0.here hx rfl (hb hby ds7_22) rfl k) ?_
                    show own_Go p.tables e below _ (s₁.setTop (mkF m 24 #[.val (.ref ab), .val (.int p1), .val (.int (0 : Int32)), .val (.int (9 : Int32)), .val (.int (p1.toInt8.toInt32)), .val (.int (8 : Int32))] [(.int (8 : Int32))]))
                    refine own_end X0 Bd.notSynchronized (v := some (.int (8 : Int32))) (fun h => by rw [Bd.returns] at h; cases h) (fun fs hr => own_retI X0 hx Bd.returns (hb hby ds7_24) hr) ?_ (by decide) (by decide)
                    exact ⟨by rw [own_fs7, if_neg hc19, if_neg hc19_2, if_neg hc19_3, if_neg hc19_4, if_neg hc19_5, if_neg hc19_6, if_neg hc19_7, if_neg hc19_8, if_pos hc19_9], N0, e0⟩
                  · refine own_go (fun _ k => XS.icmpYes X0.here hx rfl (pc0 := 19) (pc' := 25) rfl (hb hby ds7_19) rfl (feq hc19_9).2 (by decide) (by decide) k) ?_
                    show own_Go p.tables e below _ (s₁.setTop (mkF m 25 #[.val (.ref ab), .val (.int p1), .val (.int (0 : Int32)), .val (.int (9 : Int32)), .val (.int (p1.toInt8.toInt32)), .val (.int (8 : Int32))] []))
                    refine own_go (fun _ k => XS.iinc X0.here hx rfl (hb hby ds7_25) rfl (l' := #[.val (.ref ab), .val (.int p1), .val (.int (0 : Int32)), .val (.int (9 : Int32)), .val (.int (p1.toInt8.toInt32)), .val (.int (9 : Int32))]) rfl k) ?_
                    show own_Go p.tables e below _ (s₁.setTop (mkF m 28 #[.val (.ref ab), .val (.int p1), .val (.int (0 : Int32)), .val (.int (9 : Int32)), .val (.int (p1.toInt8.toInt32)), .val (.int (9 : Int32))] []))
                    refine own_go (fun _ k => XS.goto X0.here hx rfl (pc0 := 28) (pc' := 7) rfl (hb hby ds7_28) (by decide) (by decide) k) ?_
                    show own_Go p.tables e below _ (s₁.setTop (mkF m 7 #[.val (.ref ab), .val (.int p1), .val (.int (0 : Int32)), .val (.int (9 : Int32)), .val (.int (p1.toInt8.toInt32)), .val (.int (9 : Int32))] []))
                    refine own_go (fun _ k => XS.iload X0.here hx rfl (hb hby ds7_7) rfl k) ?_
                    show own_Go p.tables e below _ (s₁.setTop (mkF m 9 #[.val (.ref ab), .val (.int p1), .val (.int (0 : Int32)), .val (.int (9 : Int32)), .val (.int (p1.toInt8.toInt32)), .val (.int (9 : Int32))] [(.int (9 : Int32))]))
                    refine own_go (fun _ k => XS.iloadN X0.here hx rfl (hb hby ds7_9) rfl k) ?_
                    show own_Go p.tables e below _ (s₁.setTop (mkF m 10 #[.val (.ref ab), .val (.int p1), .val (.int (0 : Int32)), .val (.int (9 : Int32)), .val (.int (p1.toInt8.toInt32)), .val (.int (9 : Int32))] [(.int (9 : Int32)), (.int (9 : Int32))]))
                    have hf10 : ¬ ((9 : Int32) < (9 : Int32)) := by decide
                    refine own_go (fun _ k => XS.icmpYes X0.here hx rfl (pc0 := 10) (pc' := 31) rfl (hb hby ds7_10) rfl (flt hf10).2.1 (by decide) (by decide) k) ?_
                    show own_Go p.tables e below _ (s₁.setTop (mkF m 31 #[.val (.ref ab), .val (.int p1), .val (.int (0 : Int32)), .val (.int (9 : Int32)), .val (.int (p1.toInt8.toInt32)), .val (.int (9 : Int32))] []))
                    refine own_go (fun _ k => XS.iconst X0.here hx rfl (hb hby ds7_31) k) ?_
                    show own_Go p.tables e below _ (s₁.setTop (mkF m 32 #[.val (.ref ab), .val (.int p1), .val (.int (0 : Int32)), .val (.int (9 : Int32)), .val (.int (p1.toInt8.toInt32)), .val (.int (9 : Int32))] [(.int (-1 : Int32))]))
                    refine own_end X0 Bd.notSynchronized (v := some (.int (-1 : Int32))) (fun h => by rw [Bd.returns] at h; cases h) (fun fs hr => own_retI X0 hx Bd.returns (hb hby ds7_32) hr) ?_ (by decide) (by decide)
                    exact ⟨by rw [own_fs7, if_neg hc19, if_neg hc19_2, if_neg hc19_3, if_neg hc19_4, if_neg hc19_5, if_neg hc19_6, if_neg hc19_7, if_neg hc19_8, if_neg hc19_9], N0, e0⟩
def own_fs8 (p1 : Int32) : Int32 :=
  (if (own_fs4 p1) = (0 : Int32) then (-1 : Int32) else (own_fs7 p1))
theorem ds8_0 : decode jdk_43_method_22_code 0 = .ok (.iload_n 1, 1) := by decide +kernel
theorem ds8_1 : decode jdk_43_method_22_code 1 = .ok (.invokestatic 88, 3) := by decide +kernel
theorem ds8_4 : decode jdk_43_method_22_code 4 = .ok (.ifCond .ne 5, 3) := by decide +kernel
theorem ds8_7 : decode jdk_43_method_22_code 7 = .ok (.iconst (-1), 1) := by decide +kernel
theorem ds8_8 : decode jdk_43_method_22_code 8 = .ok (.ireturn, 1) := by decide +kernel
theorem ds8_9 : decode jdk_43_method_22_code 9 = .ok (.iload_n 2, 1) := by decide +kernel
theorem ds8_10 : decode jdk_43_method_22_code 10 = .ok (.iconst 0, 1) := by decide +kernel
theorem ds8_11 : decode jdk_43_method_22_code 11 = .ok (.invokestatic 92, 3) := by decide +kernel
theorem ds8_14 : decode jdk_43_method_22_code 14 = .ok (.istore_n 2, 1) := by decide +kernel
theorem ds8_15 : decode jdk_43_method_22_code 15 = .ok (.iload_n 3, 1) := by decide +kernel
theorem ds8_16 : decode jdk_43_method_22_code 16 = .ok (.aload_n 0, 1) := by decide +kernel
theorem ds8_17 : decode jdk_43_method_22_code 17 = .ok (.arraylength, 1) := by decide +kernel
theorem ds8_18 : decode jdk_43_method_22_code 18 = .ok (.invokestatic 38, 3) := by decide +kernel
theorem ds8_21 : decode jdk_43_method_22_code 21 = .ok (.istore_n 3, 1) := by decide +kernel
theorem ds8_22 : decode jdk_43_method_22_code 22 = .ok (.iload_n 2, 1) := by decide +kernel
theorem ds8_23 : decode jdk_43_method_22_code 23 = .ok (.iload_n 3, 1) := by decide +kernel
theorem ds8_24 : decode jdk_43_method_22_code 24 = .ok (.if_icmp .lt 5, 3) := by decide +kernel
theorem ds8_29 : decode jdk_43_method_22_code 29 = .ok (.aload_n 0, 1) := by decide +kernel
theorem ds8_30 : decode jdk_43_method_22_code 30 = .ok (.iload_n 1, 1) := by decide +kernel
theorem ds8_31 : decode jdk_43_method_22_code 31 = .ok (.iload_n 2, 1) := by decide +kernel
theorem ds8_32 : decode jdk_43_method_22_code 32 = .ok (.iload_n 3, 1) := by decide +kernel
theorem ds8_33 : decode jdk_43_method_22_code 33 = .ok (.invokestatic 95, 3) := by decide +kernel
theorem ds8_36 : decode jdk_43_method_22_code 36 = .ok (.ireturn, 1) := by decide +kernel
theorem pns8 : plainName "java/lang/StringLatin1" = true := by first | (simp [plainName, overriddenIn]; done) | decide +kernel
theorem pds8_0 : parseMethodDescriptor "(I)Z" = some ⟨[.int], some .boolean⟩ := by decide +kernel
theorem pds8_1 : parseMethodDescriptor "(II)I" = some ⟨[.int, .int], some .int⟩ := by decide +kernel
theorem pds8_2 : parseMethodDescriptor "([BIII)I" = some ⟨[(.array .byte), .int, .int, .int], some .int⟩ := by decide +kernel
theorem efs8 (m : MethodId) (ab : Addr) (p1 : Int32) : entryFrame m #[(.ref ab), (.int p1), (.int (0 : Int32)), (.int (9 : Int32))] 4 = mkF m 0 #[.val (.ref ab), .val (.int p1), .val (.int (0 : Int32)), .val (.int (9 : Int32))] [] := by first | (simp [entryFrame, mkF, argsToLocals, Value.category]; done) | rfl
def own_Qs8 (Z : State) (ab : Addr) (p1 : Int32) (ka : ClassId) (h0 : Heap) (n0 : Nat) (v : Option Value) (h : Heap) (L : List Loc) : Prop := v = some (.int (own_fs8 p1)) ∧ Fr n0 L ∧ h = h0
set_option maxRecDepth 65536 in
set_option maxHeartbeats 40000000 in
theorem rms8 (l : Launch) (Z : State) (az : Array Value) (hw : ∀ d ∈ tables_1, d.before az Z = true) (ws : List Jvm.Cond) (ab : Addr) (p1 : Int32) (ka : ClassId) (h0 : Heap) (n0 : Nat) (Z0 : n0 ≤ h0.size) (V_ab : Arv Z h0 ab ka .byte (9 : Int32) [(.int (60 : Int32)), (.int (62 : Int32)), (.int (34 : Int32)), (.int (123 : Int32)), (.int (125 : Int32)), (.int (124 : Int32)), (.int (94 : Int32)), (.int (96 : Int32)), (.int (92 : Int32))] (.int (0 : Int32))) :
    MetFree l (⟨"java/lang/StringLatin1", "indexOf", "([BIII)I"⟩ : MethodName) (head1 (Jvm.Cond.code (⟨"java/lang/StringLatin1", "indexOf", "([BIII)I"⟩ : MethodName) jdk_43_method_22_code 4 (some .int) :: ws) ({ frames := 1, cells := 0, slots := 0, locals := 17 } : Room)) (fun a U => a = #[(.ref ab), (.int p1), (.int (0 : Int32)), (.int (9 : Int32))] ∧ Z.Warmed39 U.vm ∧ U.heap = h0) (fun _ _ _ _ _ => True) (fun _ U o U' => ∃ v L, o = .returned v ∧ own_Qs8 Z ab p1 ka h0 n0 v U'.heap L ∧ FrameEnd U o U' L ({ frames := 1, cells := 0, slots := 0, locals := 17 } : Room).cells ({ frames := 1, cells := 0, slots := 0, locals := 17 } : Room).slots) := by
  refine MetFree.of_bodySF (plainFor_of_name pns8) hisR ?_
  intro p e s m args below meth c s₁ Bd hml0 hP hK
  obtain ⟨rfl, hZ, hh⟩ := hP
  have hx := Bd.exec
  have hby := Bd.bytes
  have hml : c.maxLocals = 4 := hml0
  have hown : s.vm.findClass "java/lang/StringLatin1" = some m.cls := findClass_of_methodNamed Bd.named
  have hnm := (name_of_methodNamed Bd.named Bd.method).1
  have X0 : Stand p l e ({ frames := 1, cells := 0, slots := 0, locals := 17 } : Room) s m #[(.ref ab), (.int p1), (.int (0 : Int32)), (.int (9 : Int32))] below meth c s₁ [] 0 0 := Stand.of_body Bd
  have e0 : s₁.heap = h0 := by rw [← hh, Bd.state]; rfl
  have N0 := Fr.nil n0
  show own_Go p.tables e below (fun o U' => ∃ v L, o = .returned v ∧ own_Qs8 Z ab p1 ka h0 n0 v U'.heap L ∧ FrameEnd s o U' L ({ frames := 1, cells := 0, slots := 0, locals := 17 } : Room).cells ({ frames := 1, cells := 0, slots := 0, locals := 17 } : Room).slots) (s₁.setTop (entryFrame m #[(.ref ab), (.int p1), (.int (0 : Int32)), (.int (9 : Int32))] 4))
  refine own_go (fun _ k => castTop (efs8 m ab p1) k) ?_
  show own_Go p.tables e below _ (s₁.setTop (mkF m 0 #[.val (.ref ab), .val (.int p1), .val (.int (0 : Int32)), .val (.int (9 : Int32))] []))
  refine own_go (fun _ k => XS.iloadN X0.here hx rfl (hb hby ds8_0) rfl k) ?_
  show own_Go p.tables e below _ (s₁.setTop (mkF m 1 #[.val (.ref ab), .val (.int p1), .val (.int (0 : Int32)), .val (.int (9 : Int32))] [(.int p1)]))
  obtain ⟨_, _, ⟨T1, L1, k1, n1⟩, -, X1, ⟨Lc1, hQ1, l1, y1, z1⟩, st1⟩ := Jvm.LawKit.callS X0 hx (y := (⟨"java/lang/StringLatin1", "canEncode", "(I)Z"⟩ : MethodName)) hown (mvT hZ (hw _ (List.mem_of_getElem? (i := 47) rfl))) (mvT hZ (hw _ (List.mem_of_getElem? (i := 48) rfl))) (mvT hZ (hw _ (List.mem_of_getElem? (i := 45) rfl))) (mvT hZ (hw _ (List.mem_of_getElem? (i := 49) rfl))) (by decide) (backOf (W := 0) (rms4 l Z az hw [] p1 h0 n0 Z0) hZ (hw _ (List.mem_of_getElem? (i := 49) rfl)) (hw _ (List.mem_of_getElem? (i := 45) rfl)) (by decide) (by decide)) (g := (mkF m 1 #[.val (.ref ab), .val (.int p1), .val (.int (0 : Int32)), .val (.int (9 : Int32))] [(.int p1)])) rfl (by rw [hml]; rfl) (argsL := [(.int p1)]) (rest := []) (lenOf pds8_0 rfl) rfl (by show 2 * 0 + _ ≤ _; exact Nat.le_of_eq rfl) (hb hby ds8_1) (fun _ _ => ⟨rfl, e0, (by decide : 0 + 0 ≤ _), (by decide : 0 + 0 ≤ _)⟩)
  dsimp only [Pt.U, Pt.locs, Pt.cells, Pt.slots] at X1 l1 y1 z1 st1 hQ1
  subst l1 y1 z1
  refine own_go st1 ?_
  obtain ⟨rfl, N1q, e1⟩ := hQ1
  have N1 := Fr.app N0 N1q
  show own_Go p.tables e below _ (T1.setTop (mkF m 4 #[.val (.ref ab), .val (.int p1), .val (.int (0 : Int32)), .val (.int (9 : Int32))] [(.int (own_fs4 p1))]))
  by_cases hc4 : (own_fs4 p1) = (0 : Int32)
  · refine own_go (fun _ k => XS.ifNo X1.here hx rfl (hb hby ds8_4) rfl ((if0 _ _).trans (teq hc4).2) k) ?_
    show own_Go p.tables e below _ (T1.setTop (mkF m 7 #[.val (.ref ab), .val (.int p1), .val (.int (0 : Int32)), .val (.int (9 : Int32))] []))
    refine own_go (fun _ k => XS.iconst X1.here hx rfl (hb hby ds8_7) k) ?_
    show own_Go p.tables e below _ (T1.setTop (mkF m 8 #[.val (.ref ab), .val (.int p1), .val (.int (0 : Int32)), .val (.int (9 : Int32))] [(.int (-1 : Int32))]))
    refine own_end X1 Bd.notSynchronized (v := some (.int (-1 : Int32))) (fun h => by rw [Bd.returns] at h; cases h) (fun fs hr => own_retI X1 hx Bd.returns (hb hby ds8_8) hr) ?_ (by decide) (by decide)
    exact ⟨by rw [own_fs8, if_pos hc4], N1, (e1 : T1.heap = h0)⟩
  · refine own_go (fun _ k => XS.ifYes X1.here hx rfl (pc0 := 4) (pc' := 9) rfl (hb hby ds8_4) rfl ((if0 _ _).trans (feq hc4).2) (by decide) (by decide) k) ?_
    show own_Go p.tables e below _ (T1.setTop (mkF m 9 #[.val (.ref ab), .val (.int p1), .val (.int (0 : Int32)), .val (.int (9 : Int32))] []))
    refine own_go (fun _ k => XS.iloadN X1.here hx rfl (hb hby ds8_9) rfl k) ?_
    show own_Go p.tables e below _ (T1.setTop (mkF m 10 #[.val (.ref ab), .val (.int p1), .val (.int (0 : Int32)), .val (.int (9 : Int32))] [(.int (0 : Int32))]))
    refine own_go (fun _ k => XS.iconst X1.here hx rfl (hb hby ds8_10) k) ?_
    show own_Go p.tables e below _ (T1.setTop (mkF m 11 #[.val (.ref ab), .val (.int p1), .val (.int (0 : Int32)), .val (.int (9 : Int32))] [(.int (0 : Int32)), (.int (0 : Int32))]))
    obtain ⟨_, _, ⟨T2, L2, k2, n2⟩, -, X2, ⟨Lc2, hQ2, l2, y2, z2⟩, st2⟩ := Jvm.LawKit.callS X1 hx (y := (⟨"java/lang/Math", "max", "(II)I"⟩ : MethodName)) hown (mvT hZ (hw _ (List.mem_of_getElem? (i := 50) rfl))) (mvT hZ (hw _ (List.mem_of_getElem? (i := 51) rfl))) (mvT hZ (hw _ (List.mem_of_getElem? (i := 52) rfl))) (mvT hZ (hw _ (List.mem_of_getElem? (i := 53) rfl))) (by decide) (backOf (W := 0) (rms5 l Z az hw []  h0 n0 Z0) hZ (hw _ (List.mem_of_getElem? (i := 53) rfl)) (hw _ (List.mem_of_getElem? (i := 52) rfl)) (by decide) (by decide)) (g := (mkF m 11 #[.val (.ref ab), .val (.int p1), .val (.int (0 : Int32)), .val (.int (9 : Int32))] [(.int (0 : Int32)), (.int (0 : Int32))])) rfl (by rw [hml]; rfl) (argsL := [(.int (0 : Int32)), (.int (0 : Int32))]) (rest := []) (lenOf pds8_1 rfl) rfl (by show 2 * 0 + _ ≤ _; exact Nat.le_of_eq rfl) (hb hby ds8_11) (fun _ _ => ⟨rfl, (e1 : T1.heap = h0), (by decide : 0 + 0 ≤ _), (by decide : 0 + 0 ≤ _)⟩)
    dsimp only [Pt.U, Pt.locs, Pt.cells, Pt.slots] at X2 l2 y2 z2 st2 hQ2
    subst l2 y2 z2
    refine own_go st2 ?_
    obtain ⟨rfl, N2q, e2⟩ := hQ2
    have N2 := Fr.app N1 N2q
    show own_Go p.tables e below _ (T2.setTop (mkF m 14 #[.val (.ref ab), .val (.int p1), .val (.int (0 : Int32)), .val (.int (9 : Int32))] [(.int (0 : Int32))]))
    refine own_go (fun _ k => XS.istoreN X2.here hx rfl (hb hby ds8_14) rfl (l' := #[.val (.ref ab), .val (.int p1), .val (.int (0 : Int32)), .val (.int (9 : Int32))]) rfl k) ?_
    show own_Go p.tables e below _ (T2.setTop (mkF m 15 #[.val (.ref ab), .val (.int p1), .val (.int (0 : Int32)), .val (.int (9 : Int32))] []))
    refine own_go (fun _ k => XS.iloadN X2.here hx rfl (hb hby ds8_15) rfl k) ?_
    show own_Go p.tables e below _ (T2.setTop (mkF m 16 #[.val (.ref ab), .val (.int p1), .val (.int (0 : Int32)), .val (.int (9 : Int32))] [(.int (9 : Int32))]))
    refine own_go (fun _ k => XS.aloadN X2.here hx rfl (hb hby ds8_16) rfl rfl k) ?_
    show own_Go p.tables e below _ (T2.setTop (mkF m 17 #[.val (.ref ab), .val (.int p1), .val (.int (0 : Int32)), .val (.int (9 : Int32))] [(.ref ab), (.int (9 : Int32))]))
    have vo3 := V_ab
    obtain ⟨cl3, Ar3, Aq3, AS3, AN3, AH3, AG3⟩ := vo3
    refine own_go (fun _ k => X2.arraylength hx (by rw [(e2 : T2.heap = h0)]; exact Ar3.1) (State.isArrayOf_alike hZ.alike Ar3.2.1) (g := (mkF m 17 #[.val (.ref ab), .val (.int p1), .val (.int (0 : Int32)), .val (.int (9 : Int32))] [(.ref ab), (.int (9 : Int32))])) rfl rfl (hb hby ds8_17) _ k) ?_
    rw [len_of AS3 AN3]
    show own_Go p.tables e below _ (T2.setTop (mkF m 18 #[.val (.ref ab), .val (.int p1), .val (.int (0 : Int32)), .val (.int (9 : Int32))] [(.int (9 : Int32)), (.int (9 : Int32))]))
    obtain ⟨_, _, ⟨T4, L4, k4, n4⟩, -, X4, ⟨Lc4, hQ4, l4, y4, z4⟩, st4⟩ := Jvm.LawKit.callS X2 hx (y := (⟨"java/lang/Math", "min", "(II)I"⟩ : MethodName)) hown (mvT hZ (hw _ (List.mem_of_getElem? (i := 54) rfl))) (mvT hZ (hw _ (List.mem_of_getElem? (i := 55) rfl))) (mvT hZ (hw _ (List.mem_of_getElem? (i := 52) rfl))) (mvT hZ (hw _ (List.mem_of_getElem? (i := 56) rfl))) (by decide) (backOf (W := 0) (rms6 l Z az hw []  h0 n0 Z0) hZ (hw _ (List.mem_of_getElem? (i := 56) rfl)) (hw _ (List.mem_of_getElem? (i := 52) rfl)) (by decide) (by decide)) (g := (mkF m 18 #[.val (.ref ab), .val (.int p1), .val (.int (0 : Int32)), .val (.int (9 : Int32))] [(.int (9 : Int32)), (.int (9 : Int32))])) rfl (by rw [hml]; rfl) (argsL := [(.int (9 : Int32)), (.int (9 : Int32))]) (rest := []) (lenOf pds8_1 rfl) rfl (by show 2 * 0 + _ ≤ _; exact Nat.le_of_eq rfl) (hb hby ds8_18) (fun _ _ => ⟨rfl, (e2 : T2.heap = h0), (by decide : 0 + 0 ≤ _), (by decide : 0 + 0 ≤ _)⟩)
    dsimp only [Pt.U, Pt.locs, Pt.cells, Pt.slots] at X4 l4 y4 z4 st4 hQ4
    subst l4 y4 z4
    refine own_go st4 ?_
    obtain ⟨rfl, N4q, e4⟩ := hQ4
    have N4 := Fr.app N2 N4q
    show own_Go p.tables e below _ (T4.setTop (mkF m 21 #[.val (.ref ab), .val (.int p1), .val (.int (0 : Int32)), .val (.int (9 : Int32))] [(.int (9 : Int32))]))
    refine own_go (fun _ k => XS.istoreN X4.here hx rfl (hb hby ds8_21) rfl (l' := #[.val (.ref ab), .val (.int p1), .val (.int (0 : Int32)), .val (.int (9 : Int32))]) rfl k) ?_
    show own_Go p.tables e below _ (T4.setTop (mkF m 22 #[.val (.ref ab), .val (.int p1), .val (.int (0 : Int32)), .val (.int (9 : Int32))] []))
    refine own_go (fun _ k => XS.iloadN X4.here hx rfl (hb hby ds8_22) rfl k) ?_
    show own_Go p.tables e below _ (T4.setTop (mkF m 23 #[.val (.ref ab), .val (.int p1), .val (.int (0 : Int32)), .val (.int (9 : Int32))] [(.int (0 : Int32))]))
    refine own_go (fun _ k => XS.iloadN X4.here hx rfl (hb hby ds8_23) rfl k) ?_
    show own_Go p.tables e below _ (T4.setTop (mkF m 24 #[.val (.ref ab), .val (.int p1), .val (.int (0 : Int32)), .val (.int (9 : Int32))] [(.int (9 : Int32)), (.int (0 : Int32))]))
    have hf24 : (0 : Int32) < (9 : Int32) := by decide
    refine own_go (fun _ k => XS.icmpYes X4.here hx rfl (pc0 := 24) (pc' := 29) rfl (hb hby ds8_24) rfl (tlt hf24).1 (by decide) (by decide) k) ?_
    show own_Go p.tables e below _ (T4.setTop (mkF m 29 #[.val (.ref ab), .val (.int p1), .val (.int (0 : Int32)), .val (.int (9 : Int32))] []))
    refine own_go (fun _ k => XS.aloadN X4.here hx rfl (hb hby ds8_29) rfl rfl k) ?_
    show own_Go p.tables e below _ (T4.setTop (mkF m 30 #[.val (.ref ab), .val (.int p1), .val (.int (0 : Int32)), .val (.int (9 : Int32))] [(.ref ab)]))
    refine own_go (fun _ k => XS.iloadN X4.here hx rfl (hb hby ds8_30) rfl k) ?_
    show own_Go p.tables e below _ (T4.setTop (mkF m 31 #[.val (.ref ab), .val (.int p1), .val (.int (0 : Int32)), .val (.int (9 : Int32))] [(.int p1), (.ref ab)]))
    refine own_go (fun _ k => XS.iloadN X4.here hx rfl (hb hby ds8_31) rfl k) ?_
    show own_Go p.tables e below _ (T4.setTop (mkF m 32 #[.val (.ref ab), .val (.int p1), .val (.int (0 : Int32)), .val (.int (9 : Int32))] [(.int (0 : Int32)), (.int p1), (.ref ab)]))
    refine own_go (fun _ k => XS.iloadN X4.here hx rfl (hb hby ds8_32) rfl k) ?_
    show own_Go p.tables e below _ (T4.setTop (mkF m 33 #[.val (.ref ab), .val (.int p1), .val (.int (0 : Int32)), .val (.int (9 : Int32))] [(.int (9 : Int32)), (.int (0 : Int32)), (.int p1), (.ref ab)]))
    obtain ⟨_, _, ⟨T5, L5, k5, n5⟩, -, X5, ⟨Lc5, hQ5, l5, y5, z5⟩, st5⟩ := Jvm.LawKit.callS X4 hx (y := (⟨"java/lang/StringLatin1", "indexOfChar", "([BIII)I"⟩ : MethodName)) hown (mvT hZ (hw _ (List.mem_of_getElem? (i := 57) rfl))) (mvT hZ (hw _ (List.mem_of_getElem? (i := 58) rfl))) (mvT hZ (hw _ (List.mem_of_getElem? (i := 45) rfl))) (mvT hZ (hw _ (List.mem_of_getElem? (i := 59) rfl))) (by decide) (backOf (W := 0) (rms7 l Z az hw [] ab p1 ka h0 n0 Z0 V_ab) hZ (hw _ (List.mem_of_getElem? (i := 59) rfl)) (hw _ (List.mem_of_getElem? (i := 45) rfl)) (by decide) (by decide)) (g := (mkF m 33 #[.val (.ref ab), .val (.int p1), .val (.int (0 : Int32)), .val (.int (9 : Int32))] [(.int (9 : Int32)), (.int (0 : Int32)), (.int p1), (.ref ab)])) rfl (by rw [hml]; rfl) (argsL := [(.ref ab), (.int p1), (.int (0 : Int32)), (.int (9 : Int32))]) (rest := []) (lenOf pds8_2 rfl) rfl (by show 2 * 0 + _ ≤ _; exact Nat.le_of_eq rfl) (hb hby ds8_33) (fun _ _ => ⟨rfl, (e4 : T4.heap = h0), (by decide : 0 + 0 ≤ _), (by decide : 0 + 0 ≤ _)⟩)
    dsimp only [Pt.U, Pt.locs, Pt.cells, Pt.slots] at X5 l5 y5 z5 st5 hQ5
    subst l5 y5 z5
    refine own_go st5 ?_
    obtain ⟨rfl, N5q, e5⟩ := hQ5
    have N5 := Fr.app N4 N5q
    show own_Go p.tables e below _ (T5.setTop (mkF m 36 #[.val (.ref ab), .val (.int p1), .val (.int (0 : Int32)), .val (.int (9 : Int32))] [(.int (own_fs7 p1))]))
    refine own_end X5 Bd.notSynchronized (v := some (.int (own_fs7 p1))) (fun h => by rw [Bd.returns] at h; cases h) (fun fs hr => own_retI X5 hx Bd.returns (hb hby ds8_36) hr) ?_ (by decide) (by decide)
    exact ⟨by rw [own_fs8, if_neg hc4], N5, (e5 : T5.heap = h0)⟩
def own_fs9 (p1 : Int32) : Int32 :=
  (own_fs8 p1)
theorem ds9_0 : decode jdk_42_method_80_code 0 = .ok (.aload_n 0, 1) := by decide +kernel
theorem ds9_1 : decode jdk_42_method_80_code 1 = .ok (.invokevirtual 492, 3) := by decide +kernel
theorem ds9_4 : decode jdk_42_method_80_code 4 = .ok (.ifCond .eq 19, 3) := by decide +kernel
theorem ds9_7 : decode jdk_42_method_80_code 7 = .ok (.aload_n 0, 1) := by decide +kernel
theorem ds9_8 : decode jdk_42_method_80_code 8 = .ok (.getfield 9, 3) := by decide +kernel
theorem ds9_11 : decode jdk_42_method_80_code 11 = .ok (.iload_n 1, 1) := by decide +kernel
theorem ds9_12 : decode jdk_42_method_80_code 12 = .ok (.iload_n 2, 1) := by decide +kernel
theorem ds9_13 : decode jdk_42_method_80_code 13 = .ok (.aload_n 0, 1) := by decide +kernel
theorem ds9_14 : decode jdk_42_method_80_code 14 = .ok (.invokevirtual 505, 3) := by decide +kernel
theorem ds9_17 : decode jdk_42_method_80_code 17 = .ok (.invokestatic 637, 3) := by decide +kernel
theorem ds9_20 : decode jdk_42_method_80_code 20 = .ok (.goto 16, 3) := by decide +kernel
theorem ds9_36 : decode jdk_42_method_80_code 36 = .ok (.ireturn, 1) := by decide +kernel
theorem pns9 : plainName "java/lang/String" = true := by first | (simp [plainName, overriddenIn]; done) | decide +kernel
theorem pds9_0 : parseMethodDescriptor "()Z" = some ⟨[], some .boolean⟩ := by decide +kernel
theorem pds9_1 : parseMethodDescriptor "()I" = some ⟨[], some .int⟩ := by decide +kernel
theorem pds9_2 : parseMethodDescriptor "([BIII)I" = some ⟨[(.array .byte), .int, .int, .int], some .int⟩ := by decide +kernel
theorem efs9 (m : MethodId) (a0 : Addr) (p1 : Int32) : entryFrame m #[(.ref a0), (.int p1), (.int (0 : Int32))] 3 = mkF m 0 #[.val (.ref a0), .val (.int p1), .val (.int (0 : Int32))] [] := by first | (simp [entryFrame, mkF, argsToLocals, Value.category]; done) | rfl
def own_Qs9 (Z : State) (a0 : Addr) (p1 : Int32) (ab : Addr) (ka : ClassId) (wc : Int32) (h0 : Heap) (n0 : Nat) (v : Option Value) (h : Heap) (L : List Loc) : Prop := v = some (.int (own_fs9 p1)) ∧ Fr n0 L ∧ h = h0
set_option maxRecDepth 65536 in
set_option maxHeartbeats 40000000 in
theorem rms9 (l : Launch) (Z : State) (az : Array Value) (hw : ∀ d ∈ tables_1, d.before az Z = true) (ws : List Jvm.Cond) (a0 : Addr) (p1 : Int32) (ab : Addr) (ka : ClassId) (wc : Int32) (h0 : Heap) (n0 : Nat) (Z0 : n0 ≤ h0.size) (F_a0_coder : Fld Z h0 a0 "java/lang/String" "coder" "B" (.int (0 : Int32))) (F_a0_value : Fld Z h0 a0 "java/lang/String" "value" "[B" (.ref ab)) (E_a0 : Exa Z h0 a0 "java/lang/String") (V_ab : Arv Z h0 ab ka .byte (9 : Int32) [(.int (60 : Int32)), (.int (62 : Int32)), (.int (34 : Int32)), (.int (123 : Int32)), (.int (125 : Int32)), (.int (124 : Int32)), (.int (94 : Int32)), (.int (96 : Int32)), (.int (92 : Int32))] (.int (0 : Int32))) (S_COMPACT_STRINGS : Sta Z h0 "java/lang/String" "COMPACT_STRINGS" "Z" (.int wc)) (hwc : ¬ (wc = (0 : Int32))) :
    MetFree l (⟨"java/lang/String", "indexOf", "(II)I"⟩ : MethodName) (head1 (Jvm.Cond.code (⟨"java/lang/String", "indexOf", "(II)I"⟩ : MethodName) jdk_42_method_80_code 3 (some .int) :: ws) ({ frames := 2, cells := 0, slots := 0, locals := 32 } : Room)) (fun a U => a = #[(.ref a0), (.int p1), (.int (0 : Int32))] ∧ Z.Warmed39 U.vm ∧ U.heap = h0) (fun _ _ _ _ _ => True) (fun _ U o U' => ∃ v L, o = .returned v ∧ own_Qs9 Z a0 p1 ab ka wc h0 n0 v U'.heap L ∧ FrameEnd U o U' L ({ frames := 2, cells := 0, slots := 0, locals := 32 } : Room).cells ({ frames := 2, cells := 0, slots := 0, locals := 32 } : Room).slots) := by
  refine MetFree.of_bodySF (plainFor_of_name pns9) hisR ?_
  intro p e s m args below meth c s₁ Bd hml0 hP hK
  obtain ⟨rfl, hZ, hh⟩ := hP
  have hx := Bd.exec
  have hby := Bd.bytes
  have hml : c.maxLocals = 3 := hml0
  have hown : s.vm.findClass "java/lang/String" = some m.cls := findClass_of_methodNamed Bd.named
  have hnm := (name_of_methodNamed Bd.named Bd.method).1
  have X0 : Stand p l e ({ frames := 2, cells := 0, slots := 0, locals := 32 } : Room) s m #[(.ref a0), (.int p1), (.int (0 : Int32))] below meth c s₁ [] 0 0 := Stand.of_body Bd
  have e0 : s₁.heap = h0 := by rw [← hh, Bd.state]; rfl
  have N0 := Fr.nil n0
  show own_Go p.tables e below (fun o U' => ∃ v L, o = .returned v ∧ own_Qs9 Z a0 p1 ab ka wc h0 n0 v U'.heap L ∧ FrameEnd s o U' L ({ frames := 2, cells := 0, slots := 0, locals := 32 } : Room).cells ({ frames := 2, cells := 0, slots := 0, locals := 32 } : Room).slots) (s₁.setTop (entryFrame m #[(.ref a0), (.int p1), (.int (0 : Int32))] 3))
  refine own_go (fun _ k => castTop (efs9 m a0 p1) k) ?_
  show own_Go p.tables e below _ (s₁.setTop (mkF m 0 #[.val (.ref a0), .val (.int p1), .val (.int (0 : Int32))] []))
  refine own_go (fun _ k => XS.aloadN X0.here hx rfl (hb hby ds9_0) rfl rfl k) ?_
  show own_Go p.tables e below _ (s₁.setTop (mkF m 1 #[.val (.ref a0), .val (.int p1), .val (.int (0 : Int32))] [(.ref a0)]))
  obtain ⟨cq1, kq1, q1a, q1b, q1c⟩ := isOf hZ e0 E_a0
  obtain ⟨_, _, ⟨T1, L1, k1, n1⟩, -, X1, ⟨Lc1, hQ1, l1, y1, z1⟩, st1⟩ := X0.virtualBack hx (y := (⟨"java/lang/String", "isLatin1", "()Z"⟩ : MethodName)) (z := (⟨"java/lang/String", "isLatin1", "()Z"⟩ : MethodName)) hown (mvT hZ (hw _ (List.mem_of_getElem? (i := 25) rfl))) (mvT hZ (hw _ (List.mem_of_getElem? (i := 26) rfl))) (notFace_of_selects (args := #[]) (mvT hZ (hw _ (List.mem_of_getElem? (i := 28) rfl)))) (mvT hZ (hw _ (List.mem_of_getElem? (i := 28) rfl))) (mvT hZ (hw _ (List.mem_of_getElem? (i := 27) rfl))) (by decide) (backOf (W := 0) (rms1 l Z az hw [] a0 ab ka wc h0 n0 Z0 F_a0_coder F_a0_value E_a0 V_ab S_COMPACT_STRINGS hwc) hZ (hw _ (List.mem_of_getElem? (i := 29) rfl)) (hw _ (List.mem_of_getElem? (i := 8) rfl)) (by decide) (by decide)) q1a q1c (g := (mkF m 1 #[.val (.ref a0), .val (.int p1), .val (.int (0 : Int32))] [(.ref a0)])) rfl (by rw [hml]; rfl) (Steps.refl _) (argsL := []) (rest := []) (lenOf pds9_0 rfl) rfl (by show 2 * 0 + _ ≤ _; exact Nat.le_of_eq rfl) (hb hby ds9_1) (fun _ _ => ⟨rfl, e0, (by decide : 0 + 0 ≤ _), (by decide : 0 + 0 ≤ _)⟩)
  dsimp only [Pt.U, Pt.locs, Pt.cells, Pt.slots] at X1 l1 y1 z1 st1 hQ1
  subst l1 y1 z1
  refine own_go (fun _ k => st1.trans k) ?_
  obtain ⟨rfl, N1q, e1⟩ := hQ1
  have N1 := Fr.app N0 N1q
  show own_Go p.tables e below _ (T1.setTop (mkF m 4 #[.val (.ref a0), .val (.int p1), .val (.int (0 : Int32))] [(.int (1 : Int32))]))
  have hf4 : ¬ ((1 : Int32) = (0 : Int32)) := by decide
  refine own_go (fun _ k => XS.ifNo X1.here hx rfl (hb hby ds9_4) rfl ((if0 _ _).trans (feq hf4).1) k) ?_
  show own_Go p.tables e below _ (T1.setTop (mkF m 7 #[.val (.ref a0), .val (.int p1), .val (.int (0 : Int32))] []))
  refine own_go (fun _ k => XS.aloadN X1.here hx rfl (hb hby ds9_7) rfl rfl k) ?_
  show own_Go p.tables e below _ (T1.setTop (mkF m 8 #[.val (.ref a0), .val (.int p1), .val (.int (0 : Int32))] [(.ref a0)]))
  obtain ⟨T2, X2, e2, st2⟩ := getF X1 hx hZ hown (host := "") (Or.inl (hw _ (List.mem_of_getElem? (i := 32) rfl))) Via.refl (e1 : T1.heap = h0) F_a0_value (g := (mkF m 8 #[.val (.ref a0), .val (.int p1), .val (.int (0 : Int32))] [(.ref a0)])) rfl rfl (hb hby ds9_8)
  refine own_go st2 ?_
  show own_Go p.tables e below _ (T2.setTop (mkF m 11 #[.val (.ref a0), .val (.int p1), .val (.int (0 : Int32))] [(.ref ab)]))
  refine own_go (fun _ k => XS.iloadN X2.here hx rfl (hb hby ds9_11) rfl k) ?_
  show own_Go p.tables e below _ (T2.setTop (mkF m 12 #[.val (.ref a0), .val (.int p1), .val (.int (0 : Int32))] [(.int p1), (.ref ab)]))
  refine own_go (fun _ k => XS.iloadN X2.here hx rfl (hb hby ds9_12) rfl k) ?_
  show own_Go p.tables e below _ (T2.setTop (mkF m 13 #[.val (.ref a0), .val (.int p1), .val (.int (0 : Int32))] [(.int (0 : Int32)), (.int p1), (.ref ab)]))
  refine own_go (fun _ k => XS.aloadN X2.here hx rfl (hb hby ds9_13) rfl rfl k) ?_
  show own_Go p.tables e below _ (T2.setTop (mkF m 14 #[.val (.ref a0), .val (.int p1), .val (.int (0 : Int32))] [(.ref a0), (.int (0 : Int32)), (.int p1), (.ref ab)]))
  obtain ⟨cq3, kq3, q3a, q3b, q3c⟩ := isOf hZ e2 E_a0
  obtain ⟨_, _, ⟨T3, L3, k3, n3⟩, -, X3, ⟨Lc3, hQ3, l3, y3, z3⟩, st3⟩ := X2.virtualBack hx (y := (⟨"java/lang/String", "length", "()I"⟩ : MethodName)) (z := (⟨"java/lang/String", "length", "()I"⟩ : MethodName)) hown (mvT hZ (hw _ (List.mem_of_getElem? (i := 33) rfl))) (mvT hZ (hw _ (List.mem_of_getElem? (i := 34) rfl))) (notFace_of_selects (args := #[]) (mvT hZ (hw _ (List.mem_of_getElem? (i := 36) rfl)))) (mvT hZ (hw _ (List.mem_of_getElem? (i := 36) rfl))) (mvT hZ (hw _ (List.mem_of_getElem? (i := 35) rfl))) (by decide) (backOf (W := 3) (rms3 l Z az hw [] a0 ab ka wc h0 n0 Z0 F_a0_coder F_a0_value E_a0 V_ab S_COMPACT_STRINGS hwc) hZ (hw _ (List.mem_of_getElem? (i := 37) rfl)) (hw _ (List.mem_of_getElem? (i := 8) rfl)) (by decide) (by decide)) q3a q3c (g := (mkF m 14 #[.val (.ref a0), .val (.int p1), .val (.int (0 : Int32))] [(.ref a0), (.int (0 : Int32)), (.int p1), (.ref ab)])) rfl (by rw [hml]; rfl) (Steps.refl _) (argsL := []) (rest := [(.int (0 : Int32)), (.int p1), (.ref ab)]) (lenOf pds9_1 rfl) rfl (by show 2 * 0 + _ ≤ _; exact Nat.le_of_eq rfl) (hb hby ds9_14) (fun _ _ => ⟨rfl, e2, (by decide : 0 + 0 ≤ _), (by decide : 0 + 0 ≤ _)⟩)
  dsimp only [Pt.U, Pt.locs, Pt.cells, Pt.slots] at X3 l3 y3 z3 st3 hQ3
  subst l3 y3 z3
  refine own_go (fun _ k => st3.trans k) ?_
  obtain ⟨rfl, N3q, e3⟩ := hQ3
  have N3 := Fr.app N1 N3q
  show own_Go p.tables e below _ (T3.setTop (mkF m 17 #[.val (.ref a0), .val (.int p1), .val (.int (0 : Int32))] [(.int (9 : Int32)), (.int (0 : Int32)), (.int p1), (.ref ab)]))
  obtain ⟨_, _, ⟨T4, L4, k4, n4⟩, -, X4, ⟨Lc4, hQ4, l4, y4, z4⟩, st4⟩ := Jvm.LawKit.callS X3 hx (y := (⟨"java/lang/StringLatin1", "indexOf", "([BIII)I"⟩ : MethodName)) hown (mvT hZ (hw _ (List.mem_of_getElem? (i := 43) rfl))) (mvT hZ (hw _ (List.mem_of_getElem? (i := 44) rfl))) (mvT hZ (hw _ (List.mem_of_getElem? (i := 45) rfl))) (mvT hZ (hw _ (List.mem_of_getElem? (i := 46) rfl))) (by decide) (backOf (W := 0) (rms8 l Z az hw [] ab p1 ka h0 n0 Z0 V_ab) hZ (hw _ (List.mem_of_getElem? (i := 46) rfl)) (hw _ (List.mem_of_getElem? (i := 45) rfl)) (by decide) (by decide)) (g := (mkF m 17 #[.val (.ref a0), .val (.int p1), .val (.int (0 : Int32))] [(.int (9 : Int32)), (.int (0 : Int32)), (.int p1), (.ref ab)])) rfl (by rw [hml]; rfl) (argsL := [(.ref ab), (.int p1), (.int (0 : Int32)), (.int (9 : Int32))]) (rest := []) (lenOf pds9_2 rfl) rfl (by show 2 * 0 + _ ≤ _; exact Nat.le_of_eq rfl) (hb hby ds9_17) (fun _ _ => ⟨rfl, (e3 : T3.heap = h0), (by decide : 0 + 0 ≤ _), (by decide : 0 + 0 ≤ _)⟩)
  dsimp only [Pt.U, Pt.locs, Pt.cells, Pt.slots] at X4 l4 y4 z4 st4 hQ4
  subst l4 y4 z4
  refine own_go st4 ?_
  obtain ⟨rfl, N4q, e4⟩ := hQ4
  have N4 := Fr.app N3 N4q
  show own_Go p.tables e below _ (T4.setTop (mkF m 20 #[.val (.ref a0), .val (.int p1), .val (.int (0 : Int32))] [(.int (own_fs8 p1))]))
  refine own_go (fun _ k => XS.goto X4.here hx rfl (pc0 := 20) (pc' := 36) rfl (hb hby ds9_20) (by decide) (by decide) k) ?_
  show own_Go p.tables e below _ (T4.setTop (mkF m 36 #[.val (.ref a0), .val (.int p1), .val (.int (0 : Int32))] [(.int (own_fs8 p1))]))
  refine own_end X4 Bd.notSynchronized (v := some (.int (own_fs8 p1))) (fun h => by rw [Bd.returns] at h; cases h) (fun fs hr => own_retI X4 hx Bd.returns (hb hby ds9_36) hr) ?_ (by decide) (by decide)
  exact ⟨by rw [own_fs9], N4, (e4 : T4.heap = h0)⟩
def own_fs10 (p1 : Int32) : Int32 :=
  (own_fs9 p1)
theorem ds10_0 : decode jdk_42_method_79_code 0 = .ok (.aload_n 0, 1) := by decide +kernel
theorem ds10_1 : decode jdk_42_method_79_code 1 = .ok (.iload_n 1, 1) := by decide +kernel
theorem ds10_2 : decode jdk_42_method_79_code 2 = .ok (.iconst 0, 1) := by decide +kernel
theorem ds10_3 : decode jdk_42_method_79_code 3 = .ok (.invokevirtual 633, 3) := by decide +kernel
theorem ds10_6 : decode jdk_42_method_79_code 6 = .ok (.ireturn, 1) := by decide +kernel
theorem pns10 : plainName "java/lang/String" = true := by first | (simp [plainName, overriddenIn]; done) | decide +kernel
theorem pds10_0 : parseMethodDescriptor "(II)I" = some ⟨[.int, .int], some .int⟩ := by decide +kernel
theorem efs10 (m : MethodId) (a0 : Addr) (p1 : Int32) : entryFrame m #[(.ref a0), (.int p1)] 2 = mkF m 0 #[.val (.ref a0), .val (.int p1)] [] := by first | (simp [entryFrame, mkF, argsToLocals, Value.category]; done) | rfl
def own_Qs10 (Z : State) (a0 : Addr) (p1 : Int32) (ab : Addr) (ka : ClassId) (wc : Int32) (h0 : Heap) (n0 : Nat) (v : Option Value) (h : Heap) (L : List Loc) : Prop := v = some (.int (own_fs10 p1)) ∧ Fr n0 L ∧ h = h0
set_option maxRecDepth 65536 in
set_option maxHeartbeats 40000000 in
theorem rms10 (l : Launch) (Z : State) (az : Array Value) (hw : ∀ d ∈ tables_1, d.before az Z = true) (ws : List Jvm.Cond) (a0 : Addr) (p1 : Int32) (ab : Addr) (ka : ClassId) (wc : Int32) (h0 : Heap) (n0 : Nat) (Z0 : n0 ≤ h0.size) (F_a0_coder : Fld Z h0 a0 "java/lang/String" "coder" "B" (.int (0 : Int32))) (F_a0_value : Fld Z h0 a0 "java/lang/String" "value" "[B" (.ref ab)) (E_a0 : Exa Z h0 a0 "java/lang/String") (V_ab : Arv Z h0 ab ka .byte (9 : Int32) [(.int (60 : Int32)), (.int (62 : Int32)), (.int (34 : Int32)), (.int (123 : Int32)), (.int (125 : Int32)), (.int (124 : Int32)), (.int (94 : Int32)), (.int (96 : Int32)), (.int (92 : Int32))] (.int (0 : Int32))) (S_COMPACT_STRINGS : Sta Z h0 "java/lang/String" "COMPACT_STRINGS" "Z" (.int wc)) (hwc : ¬ (wc = (0 : Int32))) :
    MetFree l (⟨"java/lang/String", "indexOf", "(I)I"⟩ : MethodName) (head1 (Jvm.Cond.code (⟨"java/lang/String", "indexOf", "(I)I"⟩ : MethodName) jdk_42_method_79_code 2 (some .int) :: ws) ({ frames := 3, cells := 0, slots := 0, locals := 46 } : Room)) (fun a U => a = #[(.ref a0), (.int p1)] ∧ Z.Warmed39 U.vm ∧ U.heap = h0) (fun _ _ _ _ _ => True) (fun _ U o U' => ∃ v L, o = .returned v ∧ own_Qs10 Z a0 p1 ab ka wc h0 n0 v U'.heap L ∧ FrameEnd U o U' L ({ frames := 3, cells := 0, slots := 0, locals := 46 } : Room).cells ({ frames := 3, cells := 0, slots := 0, locals := 46 } : Room).slots) := by
  refine MetFree.of_bodySF (plainFor_of_name pns10) hisR ?_
  intro p e s m args below meth c s₁ Bd hml0 hP hK
  obtain ⟨rfl, hZ, hh⟩ := hP
  have hx := Bd.exec
  have hby := Bd.bytes
  have hml : c.maxLocals = 2 := hml0
  have hown : s.vm.findClass "java/lang/String" = some m.cls := findClass_of_methodNamed Bd.named
  have hnm := (name_of_methodNamed Bd.named Bd.method).1
  have X0 : Stand p l e ({ frames := 3, cells := 0, slots := 0, locals := 46 } : Room) s m #[(.ref a0), (.int p1)] below meth c s₁ [] 0 0 := Stand.of_body Bd
  have e0 : s₁.heap = h0 := by rw [← hh, Bd.state]; rfl
  have N0 := Fr.nil n0
  show own_Go p.tables e below (fun o U' => ∃ v L, o = .returned v ∧ own_Qs10 Z a0 p1 ab ka wc h0 n0 v U'.heap L ∧ FrameEnd s o U' L ({ frames := 3, cells := 0, slots := 0, locals := 46 } : Room).cells ({ frames := 3, cells := 0, slots := 0, locals := 46 } : Room).slots) (s₁.setTop (entryFrame m #[(.ref a0), (.int p1)] 2))
  refine own_go (fun _ k => castTop (efs10 m a0 p1) k) ?_
  show own_Go p.tables e below _ (s₁.setTop (mkF m 0 #[.val (.ref a0), .val (.int p1)] []))
  refine own_go (fun _ k => XS.aloadN X0.here hx rfl (hb hby ds10_0) rfl rfl k) ?_
  show own_Go p.tables e below _ (s₁.setTop (mkF m 1 #[.val (.ref a0), .val (.int p1)] [(.ref a0)]))
  refine own_go (fun _ k => XS.iloadN X0.here hx rfl (hb hby ds10_1) rfl k) ?_
  show own_Go p.tables e below _ (s₁.setTop (mkF m 2 #[.val (.ref a0), .val (.int p1)] [(.int p1), (.ref a0)]))
  refine own_go (fun _ k => XS.iconst X0.here hx rfl (hb hby ds10_2) k) ?_
  show own_Go p.tables e below _ (s₁.setTop (mkF m 3 #[.val (.ref a0), .val (.int p1)] [(.int (0 : Int32)), (.int p1), (.ref a0)]))
  obtain ⟨cq1, kq1, q1a, q1b, q1c⟩ := isOf hZ e0 E_a0
  obtain ⟨_, _, ⟨T1, L1, k1, n1⟩, -, X1, ⟨Lc1, hQ1, l1, y1, z1⟩, st1⟩ := X0.virtualBack hx (y := (⟨"java/lang/String", "indexOf", "(II)I"⟩ : MethodName)) (z := (⟨"java/lang/String", "indexOf", "(II)I"⟩ : MethodName)) hown (mvT hZ (hw _ (List.mem_of_getElem? (i := 20) rfl))) (mvT hZ (hw _ (List.mem_of_getElem? (i := 21) rfl))) (notFace_of_selects (args := #[]) (mvT hZ (hw _ (List.mem_of_getElem? (i := 23) rfl)))) (mvT hZ (hw _ (List.mem_of_getElem? (i := 23) rfl))) (mvT hZ (hw _ (List.mem_of_getElem? (i := 22) rfl))) (by decide) (backOf (W := 0) (rms9 l Z az hw [] a0 p1 ab ka wc h0 n0 Z0 F_a0_coder F_a0_value E_a0 V_ab S_COMPACT_STRINGS hwc) hZ (hw _ (List.mem_of_getElem? (i := 24) rfl)) (hw _ (List.mem_of_getElem? (i := 8) rfl)) (by decide) (by decide)) q1a q1c (g := (mkF m 3 #[.val (.ref a0), .val (.int p1)] [(.int (0 : Int32)), (.int p1), (.ref a0)])) rfl (by rw [hml]; rfl) (Steps.refl _) (argsL := [(.int p1), (.int (0 : Int32))]) (rest := []) (lenOf pds10_0 rfl) rfl (by show 2 * 0 + _ ≤ _; exact Nat.le_of_eq rfl) (hb hby ds10_3) (fun _ _ => ⟨rfl, e0, (by decide : 0 + 0 ≤ _), (by decide : 0 + 0 ≤ _)⟩)
  dsimp only [Pt.U, Pt.locs, Pt.cells, Pt.slots] at X1 l1 y1 z1 st1 hQ1
  subst l1 y1 z1
  refine own_go (fun _ k => st1.trans k) ?_
  obtain ⟨rfl, N1q, e1⟩ := hQ1
  have N1 := Fr.app N0 N1q
  show own_Go p.tables e below _ (T1.setTop (mkF m 6 #[.val (.ref a0), .val (.int p1)] [(.int (own_fs9 p1))]))
  refine own_end X1 Bd.notSynchronized (v := some (.int (own_fs9 p1))) (fun h => by rw [Bd.returns] at h; cases h) (fun fs hr => own_retI X1 hx Bd.returns (hb hby ds10_6) hr) ?_ (by decide) (by decide)
  exact ⟨by rw [own_fs10], N1, (e1 : T1.heap = h0)⟩
def own_f1 (p0 : Int32) : Int32 :=
  (if (32 : Int32) < p0 then (if (own_fs10 p0) < (0 : Int32) then (1 : Int32) else (0 : Int32)) else (0 : Int32))
theorem d1_0 : decode prog_35_method_2_code 0 = .ok (.iload_n 0, 1) := by decide +kernel
theorem d1_1 : decode prog_35_method_2_code 1 = .ok (.bipush 32, 2) := by decide +kernel
theorem d1_3 : decode prog_35_method_2_code 3 = .ok (.if_icmp .le 16, 3) := by decide +kernel
theorem d1_6 : decode prog_35_method_2_code 6 = .ok (.ldc 20, 2) := by decide +kernel
theorem d1_8 : decode prog_35_method_2_code 8 = .ok (.iload_n 0, 1) := by decide +kernel
theorem d1_9 : decode prog_35_method_2_code 9 = .ok (.invokevirtual 22, 3) := by decide +kernel
theorem d1_12 : decode prog_35_method_2_code 12 = .ok (.ifCond .ge 7, 3) := by decide +kernel
theorem d1_15 : decode prog_35_method_2_code 15 = .ok (.iconst 1, 1) := by decide +kernel
theorem d1_16 : decode prog_35_method_2_code 16 = .ok (.goto 4, 3) := by decide +kernel
theorem d1_19 : decode prog_35_method_2_code 19 = .ok (.iconst 0, 1) := by decide +kernel
theorem d1_20 : decode prog_35_method_2_code 20 = .ok (.ireturn, 1) := by decide +kernel
theorem pn1 : plainName "com/example/pathwise/pathwise/model/Iri" = true := by first | (simp [plainName, overriddenIn]; done) | decide +kernel
theorem pd1_0 : parseMethodDescriptor "(I)I" = some ⟨[.int], some .int⟩ := by decide +kernel
theorem ef1 (m : MethodId) (p0 : Int32) : entryFrame m #[(.int p0)] 1 = mkF m 0 #[.val (.int p0)] [] := by first | (simp [entryFrame, mkF, argsToLocals, Value.category]; done) | rfl
def own_Q1 (Z : State) (p0 : Int32) (wc : Int32) (h0 : Heap) (n0 : Nat) (v : Option Value) (h : Heap) (L : List Loc) : Prop := v = some (.int (own_f1 p0)) ∧ Fr n0 L ∧ Keep h0 h []
set_option maxRecDepth 65536 in
set_option maxHeartbeats 40000000 in
theorem rm1 (l : Launch) (Z : State) (az : Array Value) (hw : ∀ d ∈ tables_1, d.before az Z = true) (ws : List Jvm.Cond) (p0 : Int32) (wc : Int32) (h0 : Heap) (n0 : Nat) (Z0 : n0 ≤ h0.size) (S_COMPACT_STRINGS : Sta Z h0 "java/lang/String" "COMPACT_STRINGS" "Z" (.int wc)) (hwc : ¬ (wc = (0 : Int32))) :
    MetFree l (⟨"com/example/pathwise/pathwise/model/Iri", "allows", "(I)Z"⟩ : MethodName) (head1 (Jvm.Cond.code (⟨"com/example/pathwise/pathwise/model/Iri", "allows", "(I)Z"⟩ : MethodName) prog_35_method_2_code 1 (some .boolean) :: ws) ({ frames := 4, cells := 2, slots := 40, locals := 59 } : Room)) (fun a U => a = #[(.int p0)] ∧ Z.Warmed39 U.vm ∧ U.heap = h0 ∧ CHv Z consts_1 U.vm h0) (fun _ _ _ _ _ => True) (fun _ U o U' => ∃ v L, o = .returned v ∧ own_Q1 Z p0 wc h0 n0 v U'.heap L ∧ CHr Z consts_1 U.vm U.heap U'.vm U'.heap ∧ ReturnedEndW U o U' L ({ frames := 4, cells := 2, slots := 40, locals := 59 } : Room).cells ({ frames := 4, cells := 2, slots := 40, locals := 59 } : Room).slots) := by
  refine MetFree.of_bodySF (plainFor_of_name pn1) hisR ?_
  intro p e s m args below meth c s₁ Bd hml0 hP hK
  obtain ⟨rfl, hZ, hh, HC⟩ := hP
  have hx := Bd.exec
  have hby := Bd.bytes
  have hml : c.maxLocals = 1 := hml0
  have hZ : Z.Warmed39 (s.setVm s.vm).vm := hZ
  have hown : (s.setVm s.vm).vm.findClass "com/example/pathwise/pathwise/model/Iri" = some m.cls := findClass_of_methodNamed Bd.named
  have hnm := (name_of_methodNamed Bd.named Bd.method).1
  have X0 : Stand p l e ({ frames := 4, cells := 2, slots := 40, locals := 59 } : Room) (s.setVm s.vm) m #[(.int p0)] below meth c s₁ [] 0 0 := by rw [State.setVm_self]; exact Stand.of_body Bd
  have e0 : s₁.heap = h0 := by rw [← hh, Bd.state]; rfl
  have N0 := Fr.nil n0
  have hS : s.Since s.vm h0.size := (State.WarmedH.refl s).since _
  have hk : h0.size ≤ h0.size := Nat.le_refl _
  have hEL := own_EL hw
  have CR := CHr.refl HC
  show own_Go p.tables e below (fun o U' => ∃ v L, o = .returned v ∧ own_Q1 Z p0 wc h0 n0 v U'.heap L ∧ CHr Z consts_1 s.vm s.heap U'.vm U'.heap ∧ ReturnedEndW s o U' L ({ frames := 4, cells := 2, slots := 40, locals := 59 } : Room).cells ({ frames := 4, cells := 2, slots := 40, locals := 59 } : Room).slots) (s₁.setTop (entryFrame m #[(.int p0)] 1))
  refine own_go (fun _ k => castTop (ef1 m p0) k) ?_
  show own_Go p.tables e below _ (s₁.setTop (mkF m 0 #[.val (.int p0)] []))
  refine own_go (fun _ k => XS.iloadN X0.here hx rfl (hb hby d1_0) rfl k) ?_
  show own_Go p.tables e below _ (s₁.setTop (mkF m 1 #[.val (.int p0)] [(.int p0)]))
  refine own_go (fun _ k => XS.bipush X0.here hx rfl (hb hby d1_1) k) ?_
  show own_Go p.tables e below _ (s₁.setTop (mkF m 3 #[.val (.int p0)] [(.int (32 : Int32)), (.int p0)]))
  by_cases hc3 : (32 : Int32) < p0
  · refine own_go (fun _ k => XS.icmpNo X0.here hx rfl (hb hby d1_3) rfl (tlt hc3).2.2.2 k) ?_
    show own_Go p.tables e below _ (s₁.setTop (mkF m 6 #[.val (.int p0)] []))
    obtain ⟨a1, T1, h1, k1, b1, kb1, X1, e1, E1, hS, hk, hZ, hown, Ex1, Fc1, Fv1, Av1, -, -, hC1, -, -, st1⟩ := ldcCH X0 hx hZ hown (hw _ (List.mem_of_getElem? (i := 7) rfl)) (own_wS hw) e0 hS hk hEL (List.mem_of_getElem? (i := 0) rfl) HC (vs := [(.int (60 : Int32)), (.int (62 : Int32)), (.int (34 : Int32)), (.int (123 : Int32)), (.int (125 : Int32)), (.int (124 : Int32)), (.int (94 : Int32)), (.int (96 : Int32)), (.int (92 : Int32))]) (z := (9 : Int32)) own_lit (by decide) (by decide) (g := (mkF m 6 #[.val (.int p0)] [])) rfl (hb hby d1_6) (n := 36) (by decide +kernel) (by decide) (by decide) (by decide)
    have CR := CR.trans hC1
    have HC := hC1.1
    have c1_0 := S_COMPACT_STRINGS.ext E1
    have Z1 : n0 ≤ h1.size := Nat.le_trans Z0 E1.1
    have K1 : Keep h0 h1 [] := (Keep.refl _ _).ext E1
    refine own_go st1 ?_
    show own_Go p.tables e below _ (T1.setTop (mkF m 8 #[.val (.int p0)] [(.ref a1)]))
    refine own_go (fun _ k => XS.iloadN X1.here hx rfl (hb hby d1_8) rfl k) ?_
    show own_Go p.tables e below _ (T1.setTop (mkF m 9 #[.val (.int p0)] [(.int p0), (.ref a1)]))
    obtain ⟨cq2, kq2, q2a, q2b, q2c⟩ := isOf hZ e1 Ex1
    obtain ⟨_, _, ⟨T2, L2, k2, n2⟩, -, X2, ⟨Lc2, hQ2, l2, y2, z2⟩, st2⟩ := X1.virtualBack hx (y := (⟨"java/lang/String", "indexOf", "(I)I"⟩ : MethodName)) (z := (⟨"java/lang/String", "indexOf", "(I)I"⟩ : MethodName)) hown (mvT hZ (hw _ (List.mem_of_getElem? (i := 15) rfl))) (mvT hZ (hw _ (List.mem_of_getElem? (i := 16) rfl))) (notFace_of_selects (args := #[]) (mvT hZ (hw _ (List.mem_of_getElem? (i := 18) rfl)))) (mvT hZ (hw _ (List.mem_of_getElem? (i := 18) rfl))) (mvT hZ (hw _ (List.mem_of_getElem? (i := 17) rfl))) (by decide) (backOf (W := 0) (rms10 l Z az hw [] a1 p0 b1 kb1 wc h1 n0 Z1 Fc1 Fv1 Ex1 Av1 c1_0 hwc) hZ (hw _ (List.mem_of_getElem? (i := 19) rfl)) (hw _ (List.mem_of_getElem? (i := 8) rfl)) (by decide) (by decide)) q2a q2c (g := (mkF m 9 #[.val (.int p0)] [(.int p0), (.ref a1)])) rfl (by rw [hml]; rfl) (Steps.refl _) (argsL := [(.int p0)]) (rest := []) (lenOf pd1_0 rfl) rfl (by show 2 * 0 + _ ≤ _; exact Nat.le_of_eq rfl) (hb hby d1_9) (fun _ _ => ⟨rfl, e1, (by decide : 2 + 0 ≤ _), (by decide : 40 + 0 ≤ _)⟩)
    dsimp only [Pt.U, Pt.locs, Pt.cells, Pt.slots] at X2 l2 y2 z2 st2 hQ2
    subst l2 y2 z2
    refine own_go (fun _ k => st2.trans k) ?_
    obtain ⟨rfl, N2q, e2⟩ := hQ2
    have N2 := Fr.app N0 N2q
    show own_Go p.tables e below _ (T2.setTop (mkF m 12 #[.val (.int p0)] [(.int (own_fs10 p0))]))
    by_cases hc12 : (own_fs10 p0) < (0 : Int32)
    · refine own_go (fun _ k => XS.ifNo X2.here hx rfl (hb hby d1_12) rfl ((if0 _ _).trans (tlt hc12).2.1) k) ?_
      show own_Go p.tables e below _ (T2.setTop (mkF m 15 #[.val (.int p0)] []))
      refine own_go (fun _ k => XS.iconst X2.here hx rfl (hb hby d1_15) k) ?_
      show own_Go p.tables e below _ (T2.setTop (mkF m 16 #[.val (.int p0)] [(.int (1 : Int32))]))
      refine own_go (fun _ k => XS.goto X2.here hx rfl (pc0 := 16) (pc' := 20) rfl (hb hby d1_16) (by decide) (by decide) k) ?_
      show own_Go p.tables e below _ (T2.setTop (mkF m 20 #[.val (.int p0)] [(.int (1 : Int32))]))
      refine own_endH X2 (by rw [hh, (e2 : T2.heap = h1)]; exact CR.trans (CHv.at X2 hZ hEL HC)) hS (by rw [(e2 : T2.heap = h1)]; exact hk) Bd.notSynchronized (v := some (.int (1 : Int32))) (fun h => by rw [Bd.returns] at h; cases h) (fun fs hr => retN X2 hx (t := .boolean) Bd.returns (by simp) (hb hby d1_20) hr) ?_ (by decide) (by decide)
      show own_Q1 Z p0 wc h0 n0 _ T2.heap _
      rw [(e2 : T2.heap = h1)]
      exact ⟨by rw [own_f1, if_pos hc3, if_pos hc12], N2, K1⟩
    · refine own_go (fun _ k => XS.ifYes X2.here hx rfl (pc0 := 12) (pc' := 19) rfl (hb hby d1_12) rfl ((if0 _ _).trans (flt hc12).2.1) (by decide) (by decide) k) ?_
      show own_Go p.tables e below _ (T2.setTop (mkF m 19 #[.val (.int p0)] []))
      refine own_go (fun _ k => XS.iconst X2.here hx rfl (hb hby d1_19) k) ?_
      show own_Go p.tables e below _ (T2.setTop (mkF m 20 #[.val (.int p0)] [(.int (0 : Int32))]))
      refine own_endH X2 (by rw [hh, (e2 : T2.heap = h1)]; exact CR.trans (CHv.at X2 hZ hEL HC)) hS (by rw [(e2 : T2.heap = h1)]; exact hk) Bd.notSynchronized (v := some (.int (0 : Int32))) (fun h => by rw [Bd.returns] at h; cases h) (fun fs hr => retN X2 hx (t := .boolean) Bd.returns (by simp) (hb hby d1_20) hr) ?_ (by decide) (by decide)
      show own_Q1 Z p0 wc h0 n0 _ T2.heap _
      rw [(e2 : T2.heap = h1)]
      exact ⟨by rw [own_f1, if_pos hc3, if_neg hc12], N2, K1⟩
  · refine own_go (fun _ k => XS.icmpYes X0.here hx rfl (pc0 := 3) (pc' := 19) rfl (hb hby d1_3) rfl (flt hc3).2.2.2 (by decide) (by decide) k) ?_
    show own_Go p.tables e below _ (s₁.setTop (mkF m 19 #[.val (.int p0)] []))
    refine own_go (fun _ k => XS.iconst X0.here hx rfl (hb hby d1_19) k) ?_
    show own_Go p.tables e below _ (s₁.setTop (mkF m 20 #[.val (.int p0)] [(.int (0 : Int32))]))
    refine own_endH X0 (by rw [hh, e0]; exact CR.trans (CHv.at X0 hZ hEL HC)) hS (by rw [e0]; exact hk) Bd.notSynchronized (v := some (.int (0 : Int32))) (fun h => by rw [Bd.returns] at h; cases h) (fun fs hr => retN X0 hx (t := .boolean) Bd.returns (by simp) (hb hby d1_20) hr) ?_ (by decide) (by decide)
    show own_Q1 Z p0 wc h0 n0 _ s₁.heap _
    rw [e0]
    exact ⟨by rw [own_f1, if_neg hc3], N0, (Keep.refl _ _)⟩
def own_e (vc : Int32) : Int32 := (if (32 : Int32) < vc then (if (if vc = (60 : Int32) then (1 : Int32) else (if vc = (62 : Int32) then (1 : Int32) else (if vc = (34 : Int32) then (1 : Int32) else (if vc = (123 : Int32) then (1 : Int32) else (if vc = (125 : Int32) then (1 : Int32) else (if vc = (124 : Int32) then (1 : Int32) else (if vc = (94 : Int32) then (1 : Int32) else (if vc = (96 : Int32) then (1 : Int32) else (if vc = (92 : Int32) then (1 : Int32) else (0 : Int32)))))))))) = (0 : Int32) then (1 : Int32) else (0 : Int32)) else (0 : Int32))
theorem own_in (p : Int32) : ¬ ((p &&& (15 : Int32)) < 0) ∧ (p &&& (15 : Int32)) < (16 : Int32) := by
  have e := c_mask p 15 4 (by decide) (by decide)
  have k0 : (0 : Int32).toInt = 0 := by decide
  have k1 : (16 : Int32).toInt = 16 := by decide
  simp only [Int32.lt_iff_toInt_lt, k0, k1]
  omega
theorem own_fin : ∀ n : Fin 256, own_f1 (Int32.ofNat n.val) = own_e (Int32.ofNat n.val) := by decide +kernel
theorem own_val (c : Int32) : own_f1 c = own_e c := by
  have k0 : (0 : Int32).toInt = 0 := by decide
  have k1 : (32 : Int32).toInt = 32 := by decide
  have k2 : (255 : Int32).toInt = 255 := by decide
  have k3 : (-1 : Int32).toInt = -1 := by decide
  have r := rng32 c
  by_cases h : 0 ≤ c.toInt ∧ c.toInt < 256
  · have e : c = Int32.ofNat c.toInt.toNat := by
      rw [← Int32.toInt_inj, Int32.toInt_ofNat_of_lt (by omega)]; omega
    have q := own_fin ⟨c.toInt.toNat, by omega⟩
    rw [e]; exact q
  · by_cases g : (32 : Int32) < c
    · have g' : 32 < c.toInt := by rw [Int32.lt_iff_toInt_lt, k1] at g; exact g
      have a1 : own_fs4 c = 0 := by
        simp only [own_fs4, Int32.lt_iff_toInt_lt, k0, k2]
        repeat' split
        all_goals first | rfl | (exfalso; omega)
      have a2 : own_fs10 c = -1 := by simp [own_fs10, own_fs9, own_fs8, a1]
      have ne : ∀ z : Int32, z.toInt < 256 → ¬ (c = z) := fun z hz q => by subst q; omega
      have n1 := ne 60 (by decide)
      have n2 := ne 62 (by decide)
      have n3 := ne 34 (by decide)
      have n4 := ne 123 (by decide)
      have n5 := ne 125 (by decide)
      have n6 := ne 124 (by decide)
      have n7 := ne 94 (by decide)
      have n8 := ne 96 (by decide)
      have n9 := ne 92 (by decide)
      rw [own_f1, own_e, a2]
      simp only [if_pos g, if_neg n1, if_neg n2, if_neg n3, if_neg n4, if_neg n5, if_neg n6, if_neg n7, if_neg n8, if_neg n9]
      decide
    · rw [own_f1, own_e, if_neg g, if_neg g]
theorem pn0 : plainName "com/example/pathwise/pathwise/model/IriAllowsPinLaw" = true := by first | (simp [plainName, overriddenIn]; done) | decide +kernel
theorem pd0_0 : parseMethodDescriptor "(I)Z" = some ⟨[.int], some .boolean⟩ := by decide +kernel
theorem ef0 (m : MethodId) (p0 : Int32) (p1 : Int32) : entryFrame m #[(.int p0), (.int p1)] maxLocals = mkF m 0 #[.val (.int p0), .val (.int p1), .unset, .unset, .unset, .unset, .unset] [] := by first | (simp [entryFrame, mkF, argsToLocals, Value.category, maxLocals]; done) | rfl
def own_Q0 (Z : State) (p0 : Int32) (p1 : Int32) (wc : Int32) (h0 : Heap) (n0 : Nat) (v : Option Value) (h : Heap) (L : List Loc) : Prop := v = some (.int 1) ∧ Fr n0 L
set_option maxRecDepth 65536 in
set_option maxHeartbeats 40000000 in
theorem rm0 (l : Launch) (Z : State) (az : Array Value) (hw : ∀ d ∈ tables_1, d.before az Z = true) (ws : List Jvm.Cond) (p0 : Int32) (p1 : Int32) (wc : Int32) (h0 : Heap) (n0 : Nat) (Z0 : n0 ≤ h0.size) (S_COMPACT_STRINGS : Sta Z h0 "java/lang/String" "COMPACT_STRINGS" "Z" (.int wc)) (hwc : ¬ (wc = (0 : Int32))) :
    MetFree l x (head1 (Jvm.Cond.code x code maxLocals ret :: ws) room_1) (fun a U => a = #[(.int p0), (.int p1)] ∧ Z.Warmed39 U.vm ∧ U.heap = h0 ∧ CHv Z consts_1 U.vm h0) (fun _ _ _ _ _ => True) (fun _ U o U' => ∃ v L, o = .returned v ∧ own_Q0 Z p0 p1 wc h0 n0 v U'.heap L ∧ CHr Z consts_1 U.vm U.heap U'.vm U'.heap ∧ ReturnedEndW U o U' L 16 1152) := by
  refine MetFree.of_bodySF (plainFor_of_name pn0) hisR ?_
  intro p e s m args below meth c s₁ Bd hml0 hP hK
  obtain ⟨rfl, hZ, hh, HC⟩ := hP
  have hx := Bd.exec
  have hby := Bd.bytes
  have hml : c.maxLocals = 7 := hml0
  have hZ : Z.Warmed39 (s.setVm s.vm).vm := hZ
  have hown : (s.setVm s.vm).vm.findClass "com/example/pathwise/pathwise/model/IriAllowsPinLaw" = some m.cls := findClass_of_methodNamed Bd.named
  have hnm := (name_of_methodNamed Bd.named Bd.method).1
  have X0 : Stand p l e room_1 (s.setVm s.vm) m #[(.int p0), (.int p1)] below meth c s₁ [] 0 0 := by rw [State.setVm_self]; exact Stand.of_body Bd
  have e0 : s₁.heap = h0 := by rw [← hh, Bd.state]; rfl
  have N0 := Fr.nil n0
  have hS : s.Since s.vm h0.size := (State.WarmedH.refl s).since _
  have hk : h0.size ≤ h0.size := Nat.le_refl _
  have hEL := own_EL hw
  have CR := CHr.refl HC
  show own_Go p.tables e below (fun o U' => ∃ v L, o = .returned v ∧ own_Q0 Z p0 p1 wc h0 n0 v U'.heap L ∧ CHr Z consts_1 s.vm s.heap U'.vm U'.heap ∧ ReturnedEndW s o U' L 16 1152) (s₁.setTop (entryFrame m #[(.int p0), (.int p1)] maxLocals))
  refine own_go (fun _ k => castTop (ef0 m p0 p1) k) ?_
  show own_Go p.tables e below _ (s₁.setTop (mkF m 0 #[.val (.int p0), .val (.int p1), .unset, .unset, .unset, .unset, .unset] []))
  refine own_go (fun _ k => XS.iloadN X0.here hx rfl (hb hby at_0) rfl k) ?_
  show own_Go p.tables e below _ (s₁.setTop (mkF m 1 #[.val (.int p0), .val (.int p1), .unset, .unset, .unset, .unset, .unset] [(.int p0)]))
  refine own_go (fun _ k => XS.iconst X0.here hx rfl (hb hby at_1) k) ?_
  show own_Go p.tables e below _ (s₁.setTop (mkF m 2 #[.val (.int p0), .val (.int p1), .unset, .unset, .unset, .unset, .unset] [(.int (3 : Int32)), (.int p0)]))
  refine own_go (fun _ k => XS.iand X0.here hx rfl (hb hby at_2) rfl k) ?_
  show own_Go p.tables e below _ (s₁.setTop (mkF m 3 #[.val (.int p0), .val (.int p1), .unset, .unset, .unset, .unset, .unset] [(.int (p0 &&& (3 : Int32)))]))
  refine own_go (fun _ k => XS.istoreN X0.here hx rfl (hb hby at_3) rfl (l' := #[.val (.int p0), .val (.int p1), .val (.int (p0 &&& (3 : Int32))), .unset, .unset, .unset, .unset]) rfl k) ?_
  show own_Go p.tables e below _ (s₁.setTop (mkF m 4 #[.val (.int p0), .val (.int p1), .val (.int (p0 &&& (3 : Int32))), .unset, .unset, .unset, .unset] []))
  obtain ⟨vk, hvk⟩ : ∃ z : Int32, z = (p0 &&& (3 : Int32)) := ⟨_, rfl⟩
  rw [← hvk]
  show own_Go p.tables e below _ (s₁.setTop (mkF m 4 #[.val (.int p0), .val (.int p1), .val (.int vk), .unset, .unset, .unset, .unset] []))
  refine own_go (fun _ k => XS.bipush X0.here hx rfl (hb hby at_4) k) ?_
  show own_Go p.tables e below _ (s₁.setTop (mkF m 6 #[.val (.int p0), .val (.int p1), .val (.int vk), .unset, .unset, .unset, .unset] [(.int (16 : Int32))]))
  obtain ⟨T1, h1, k1, X1, e1, E1, A1, st1⟩ := newP X0 hx hZ (hw _ (List.mem_of_getElem? (i := 0) rfl)) e0 (g := (mkF m 6 #[.val (.int p0), .val (.int p1), .val (.int vk), .unset, .unset, .unset, .unset] [(.int (16 : Int32))])) rfl (hb hby at_6) rfl (by decide) (cap := 16) (by decide) (by decide) (by decide) (by decide)
  obtain ⟨b1, g1⟩ : ∃ z, z = h0.size := ⟨_, rfl⟩
  rw [← g1] at A1 st1
  have g_b1 : n0 ≤ b1 := Nat.le_trans Z0 (Nat.le_of_eq g1.symm)
  have c1_0 := S_COMPACT_STRINGS.ext E1
  have Z1 : n0 ≤ h1.size := Nat.le_trans Z0 E1.1
  have hk := Nat.le_trans hk E1.1
  have sf1 : Safe Z consts_1 s.vm h0 b1 := Safe.new (Nat.le_of_eq g1.symm)
  have sf1_b1 := Safe.ext E1 HC sf1
  have CR := CR.trans (CHr.ext E1 HC)
  have HC := HC.ext E1
  have V1 : Arv Z h1 b1 k1 .int (16 : Int32) [(.int (0 : Int32)), (.int (0 : Int32)), (.int (0 : Int32)), (.int (0 : Int32)), (.int (0 : Int32)), (.int (0 : Int32)), (.int (0 : Int32)), (.int (0 : Int32)), (.int (0 : Int32)), (.int (0 : Int32)), (.int (0 : Int32)), (.int (0 : Int32)), (.int (0 : Int32)), (.int (0 : Int32)), (.int (0 : Int32)), (.int (0 : Int32))] (.int (0 : Int32)) := (Arv.new A1 (by decide)).pad (pad_rep [] (.int (0 : Int32)) 16)
  refine own_go st1 ?_
  show own_Go p.tables e below _ (T1.setTop (mkF m 8 #[.val (.int p0), .val (.int p1), .val (.int vk), .unset, .unset, .unset, .unset] [(.ref b1)]))
  refine own_go (fun _ k => XS.dup X1.here hx rfl (hb hby at_8) rfl rfl k) ?_
  show own_Go p.tables e below _ (T1.setTop (mkF m 9 #[.val (.int p0), .val (.int p1), .val (.int vk), .unset, .unset, .unset, .unset] [(.ref b1), (.ref b1)]))
  refine own_go (fun _ k => XS.iconst X1.here hx rfl (hb hby at_9) k) ?_
  show own_Go p.tables e below _ (T1.setTop (mkF m 10 #[.val (.int p0), .val (.int p1), .val (.int vk), .unset, .unset, .unset, .unset] [(.int (0 : Int32)), (.ref b1), (.ref b1)]))
  refine own_go (fun _ k => XS.bipush X1.here hx rfl (hb hby at_10) k) ?_
  show own_Go p.tables e below _ (T1.setTop (mkF m 12 #[.val (.int p0), .val (.int p1), .val (.int vk), .unset, .unset, .unset, .unset] [(.int (32 : Int32)), (.int (0 : Int32)), (.ref b1), (.ref b1)]))
  have vo2 := V1
  obtain ⟨cl2, Ar2, Aq2, AS2, AN2, AH2, AG2⟩ := vo2
  have hin3 : ¬ ((0 : Int32) < 0 ∨ cl2.slots.size ≤ ((0 : Int32)).toNatClampNeg) := inb_of AS2 ⟨by decide, by decide⟩
  obtain ⟨T3, h3, X3, e3, W3, st3⟩ := stI X1 hx hZ e1 Ar2 (j := (0 : Int32)) hin3 (g := (mkF m 12 #[.val (.int p0), .val (.int p1), .val (.int vk), .unset, .unset, .unset, .unset] [(.int (32 : Int32)), (.int (0 : Int32)), (.ref b1), (.ref b1)])) rfl rfl (hb hby at_12)
  have V3 : Arv Z h3 b1 k1 .int (16 : Int32) [(.int (32 : Int32)), (.int (0 : Int32)), (.int (0 : Int32)), (.int (0 : Int32)), (.int (0 : Int32)), (.int (0 : Int32)), (.int (0 : Int32)), (.int (0 : Int32)), (.int (0 : Int32)), (.int (0 : Int32)), (.int (0 : Int32)), (.int (0 : Int32)), (.int (0 : Int32)), (.int (0 : Int32)), (.int (0 : Int32)), (.int (0 : Int32))] (.int (0 : Int32)) := Arv.set Ar2 Aq2 AS2 AN2 AH2 AG2 rfl W3 0 rfl (Nat.le_of_ble_eq_true rfl)
  have N3 := Fr.snoc X3 N0 g_b1
  have sf3_b1 := Safe.wr W3 sf1_b1 HC sf1_b1
  have CR := CR.trans (CHr.wr W3 sf1_b1 HC)
  have HC := HC.wr W3 sf1_b1
  have c3_0 := c1_0.wr W3
  have Z3 : n0 ≤ h3.size := Nat.le_trans Z1 (Keep.of_wr W3).1
  have hk := Nat.le_trans hk (Keep.of_wr W3).1
  refine own_go st3 ?_
  show own_Go p.tables e below _ (T3.setTop (mkF m 13 #[.val (.int p0), .val (.int p1), .val (.int vk), .unset, .unset, .unset, .unset] [(.ref b1)]))
  refine own_go (fun _ k => XS.dup X3.here hx rfl (hb hby at_13) rfl rfl k) ?_
  show own_Go p.tables e below _ (T3.setTop (mkF m 14 #[.val (.int p0), .val (.int p1), .val (.int vk), .unset, .unset, .unset, .unset] [(.ref b1), (.ref b1)]))
  refine own_go (fun _ k => XS.iconst X3.here hx rfl (hb hby at_14) k) ?_
  show own_Go p.tables e below _ (T3.setTop (mkF m 15 #[.val (.int p0), .val (.int p1), .val (.int vk), .unset, .unset, .unset, .unset] [(.int (1 : Int32)), (.ref b1), (.ref b1)]))
  refine own_go (fun _ k => XS.bipush X3.here hx rfl (hb hby at_15) k) ?_
  show own_Go p.tables e below _ (T3.setTop (mkF m 17 #[.val (.int p0), .val (.int p1), .val (.int vk), .unset, .unset, .unset, .unset] [(.int (33 : Int32)), (.int (1 : Int32)), (.ref b1), (.ref b1)]))
  have vo4 := V3
  obtain ⟨cl4, Ar4, Aq4, AS4, AN4, AH4, AG4⟩ := vo4
  have hin5 : ¬ ((1 : Int32) < 0 ∨ cl4.slots.size ≤ ((1 : Int32)).toNatClampNeg) := inb_of AS4 ⟨by decide, by decide⟩
  obtain ⟨T5, h5, X5, e5, W5, st5⟩ := stI X3 hx hZ e3 Ar4 (j := (1 : Int32)) hin5 (g := (mkF m 17 #[.val (.int p0), .val (.int p1), .val (.int vk), .unset, .unset, .unset, .unset] [(.int (33 : Int32)), (.int (1 : Int32)), (.ref b1), (.ref b1)])) rfl rfl (hb hby at_17)
  have V5 : Arv Z h5 b1 k1 .int (16 : Int32) [(.int (32 : Int32)), (.int (33 : Int32)), (.int (0 : Int32)), (.int (0 : Int32)), (.int (0 : Int32)), (.int (0 : Int32)), (.int (0 : Int32)), (.int (0 : Int32)), (.int (0 : Int32)), (.int (0 : Int32)), (.int (0 : Int32)), (.int (0 : Int32)), (.int (0 : Int32)), (.int (0 : Int32)), (.int (0 : Int32)), (.int (0 : Int32))] (.int (0 : Int32)) := Arv.set Ar4 Aq4 AS4 AN4 AH4 AG4 rfl W5 1 rfl (Nat.le_of_ble_eq_true rfl)
  have N5 := Fr.snoc X5 N3 g_b1
  have sf5_b1 := Safe.wr W5 sf3_b1 HC sf3_b1
  have CR := CR.trans (CHr.wr W5 sf3_b1 HC)
  have HC := HC.wr W5 sf3_b1
  have c5_0 := c3_0.wr W5
  have Z5 : n0 ≤ h5.size := Nat.le_trans Z3 (Keep.of_wr W5).1
  have hk := Nat.le_trans hk (Keep.of_wr W5).1
  refine own_go st5 ?_
  show own_Go p.tables e below _ (T5.setTop (mkF m 18 #[.val (.int p0), .val (.int p1), .val (.int vk), .unset, .unset, .unset, .unset] [(.ref b1)]))
  refine own_go (fun _ k => XS.dup X5.here hx rfl (hb hby at_18) rfl rfl k) ?_
  show own_Go p.tables e below _ (T5.setTop (mkF m 19 #[.val (.int p0), .val (.int p1), .val (.int vk), .unset, .unset, .unset, .unset] [(.ref b1), (.ref b1)]))
  refine own_go (fun _ k => XS.iconst X5.here hx rfl (hb hby at_19) k) ?_
  show own_Go p.tables e below _ (T5.setTop (mkF m 20 #[.val (.int p0), .val (.int p1), .val (.int vk), .unset, .unset, .unset, .unset] [(.int (2 : Int32)), (.ref b1), (.ref b1)]))
  refine own_go (fun _ k => XS.iconst X5.here hx rfl (hb hby at_20) k) ?_
  show own_Go p.tables e below _ (T5.setTop (mkF m 21 #[.val (.int p0), .val (.int p1), .val (.int vk), .unset, .unset, .unset, .unset] [(.int (0 : Int32)), (.int (2 : Int32)), (.ref b1), (.ref b1)]))
  have vo6 := V5
  obtain ⟨cl6, Ar6, Aq6, AS6, AN6, AH6, AG6⟩ := vo6
  have hin7 : ¬ ((2 : Int32) < 0 ∨ cl6.slots.size ≤ ((2 : Int32)).toNatClampNeg) := inb_of AS6 ⟨by decide, by decide⟩
  obtain ⟨T7, h7, X7, e7, W7, st7⟩ := stI X5 hx hZ e5 Ar6 (j := (2 : Int32)) hin7 (g := (mkF m 21 #[.val (.int p0), .val (.int p1), .val (.int vk), .unset, .unset, .unset, .unset] [(.int (0 : Int32)), (.int (2 : Int32)), (.ref b1), (.ref b1)])) rfl rfl (hb hby at_21)
  have V7 : Arv Z h7 b1 k1 .int (16 : Int32) [(.int (32 : Int32)), (.int (33 : Int32)), (.int (0 : Int32)), (.int (0 : Int32)), (.int (0 : Int32)), (.int (0 : Int32)), (.int (0 : Int32)), (.int (0 : Int32)), (.int (0 : Int32)), (.int (0 : Int32)), (.int (0 : Int32)), (.int (0 : Int32)), (.int (0 : Int32)), (.int (0 : Int32)), (.int (0 : Int32)), (.int (0 : Int32))] (.int (0 : Int32)) := Arv.set Ar6 Aq6 AS6 AN6 AH6 AG6 rfl W7 2 rfl (Nat.le_of_ble_eq_true rfl)
  have N7 := Fr.snoc X7 N5 g_b1
  have sf7_b1 := Safe.wr W7 sf5_b1 HC sf5_b1
  have CR := CR.trans (CHr.wr W7 sf5_b1 HC)
  have HC := HC.wr W7 sf5_b1
  have c7_0 := c5_0.wr W7
  have Z7 : n0 ≤ h7.size := Nat.le_trans Z5 (Keep.of_wr W7).1
  have hk := Nat.le_trans hk (Keep.of_wr W7).1
  refine own_go st7 ?_
  show own_Go p.tables e below _ (T7.setTop (mkF m 22 #[.val (.int p0), .val (.int p1), .val (.int vk), .unset, .unset, .unset, .unset] [(.ref b1)]))
  refine own_go (fun _ k => XS.dup X7.here hx rfl (hb hby at_22) rfl rfl k) ?_
  show own_Go p.tables e below _ (T7.setTop (mkF m 23 #[.val (.int p0), .val (.int p1), .val (.int vk), .unset, .unset, .unset, .unset] [(.ref b1), (.ref b1)]))
  refine own_go (fun _ k => XS.iconst X7.here hx rfl (hb hby at_23) k) ?_
  show own_Go p.tables e below _ (T7.setTop (mkF m 24 #[.val (.int p0), .val (.int p1), .val (.int vk), .unset, .unset, .unset, .unset] [(.int (3 : Int32)), (.ref b1), (.ref b1)]))
  refine own_go (fun _ k => XS.iconst X7.here hx rfl (hb hby at_24) k) ?_
  show own_Go p.tables e below _ (T7.setTop (mkF m 25 #[.val (.int p0), .val (.int p1), .val (.int vk), .unset, .unset, .unset, .unset] [(.int (-1 : Int32)), (.int (3 : Int32)), (.ref b1), (.ref b1)]))
  have vo8 := V7
  obtain ⟨cl8, Ar8, Aq8, AS8, AN8, AH8, AG8⟩ := vo8
  have hin9 : ¬ ((3 : Int32) < 0 ∨ cl8.slots.size ≤ ((3 : Int32)).toNatClampNeg) := inb_of AS8 ⟨by decide, by decide⟩
  obtain ⟨T9, h9, X9, e9, W9, st9⟩ := stI X7 hx hZ e7 Ar8 (j := (3 : Int32)) hin9 (g := (mkF m 25 #[.val (.int p0), .val (.int p1), .val (.int vk), .unset, .unset, .unset, .unset] [(.int (-1 : Int32)), (.int (3 : Int32)), (.ref b1), (.ref b1)])) rfl rfl (hb hby at_25)
  have V9 : Arv Z h9 b1 k1 .int (16 : Int32) [(.int (32 : Int32)), (.int (33 : Int32)), (.int (0 : Int32)), (.int (-1 : Int32)), (.int (0 : Int32)), (.int (0 : Int32)), (.int (0 : Int32)), (.int (0 : Int32)), (.int (0 : Int32)), (.int (0 : Int32)), (.int (0 : Int32)), (.int (0 : Int32)), (.int (0 : Int32)), (.int (0 : Int32)), (.int (0 : Int32)), (.int (0 : Int32))] (.int (0 : Int32)) := Arv.set Ar8 Aq8 AS8 AN8 AH8 AG8 rfl W9 3 rfl (Nat.le_of_ble_eq_true rfl)
  have N9 := Fr.snoc X9 N7 g_b1
  have sf9_b1 := Safe.wr W9 sf7_b1 HC sf7_b1
  have CR := CR.trans (CHr.wr W9 sf7_b1 HC)
  have HC := HC.wr W9 sf7_b1
  have c9_0 := c7_0.wr W9
  have Z9 : n0 ≤ h9.size := Nat.le_trans Z7 (Keep.of_wr W9).1
  have hk := Nat.le_trans hk (Keep.of_wr W9).1
  refine own_go st9 ?_
  show own_Go p.tables e below _ (T9.setTop (mkF m 26 #[.val (.int p0), .val (.int p1), .val (.int vk), .unset, .unset, .unset, .unset] [(.ref b1)]))
  refine own_go (fun _ k => XS.dup X9.here hx rfl (hb hby at_26) rfl rfl k) ?_
  show own_Go p.tables e below _ (T9.setTop (mkF m 27 #[.val (.int p0), .val (.int p1), .val (.int vk), .unset, .unset, .unset, .unset] [(.ref b1), (.ref b1)]))
  refine own_go (fun _ k => XS.iconst X9.here hx rfl (hb hby at_27) k) ?_
  show own_Go p.tables e below _ (T9.setTop (mkF m 28 #[.val (.int p0), .val (.int p1), .val (.int vk), .unset, .unset, .unset, .unset] [(.int (4 : Int32)), (.ref b1), (.ref b1)]))
  refine own_go (fun _ k => XS.bipush X9.here hx rfl (hb hby at_28) k) ?_
  show own_Go p.tables e below _ (T9.setTop (mkF m 30 #[.val (.int p0), .val (.int p1), .val (.int vk), .unset, .unset, .unset, .unset] [(.int (60 : Int32)), (.int (4 : Int32)), (.ref b1), (.ref b1)]))
  have vo10 := V9
  obtain ⟨cl10, Ar10, Aq10, AS10, AN10, AH10, AG10⟩ := vo10
  have hin11 : ¬ ((4 : Int32) < 0 ∨ cl10.slots.size ≤ ((4 : Int32)).toNatClampNeg) := inb_of AS10 ⟨by decide, by decide⟩
  obtain ⟨T11, h11, X11, e11, W11, st11⟩ := stI X9 hx hZ e9 Ar10 (j := (4 : Int32)) hin11 (g := (mkF m 30 #[.val (.int p0), .val (.int p1), .val (.int vk), .unset, .unset, .unset, .unset] [(.int (60 : Int32)), (.int (4 : Int32)), (.ref b1), (.ref b1)])) rfl rfl (hb hby at_30)
  have V11 : Arv Z h11 b1 k1 .int (16 : Int32) [(.int (32 : Int32)), (.int (33 : Int32)), (.int (0 : Int32)), (.int (-1 : Int32)), (.int (60 : Int32)), (.int (0 : Int32)), (.int (0 : Int32)), (.int (0 : Int32)), (.int (0 : Int32)), (.int (0 : Int32)), (.int (0 : Int32)), (.int (0 : Int32)), (.int (0 : Int32)), (.int (0 : Int32)), (.int (0 : Int32)), (.int (0 : Int32))] (.int (0 : Int32)) := Arv.set Ar10 Aq10 AS10 AN10 AH10 AG10 rfl W11 4 rfl (Nat.le_of_ble_eq_true rfl)
  have N11 := Fr.snoc X11 N9 g_b1
  have sf11_b1 := Safe.wr W11 sf9_b1 HC sf9_b1
  have CR := CR.trans (CHr.wr W11 sf9_b1 HC)
  have HC := HC.wr W11 sf9_b1
  have c11_0 := c9_0.wr W11
  have Z11 : n0 ≤ h11.size := Nat.le_trans Z9 (Keep.of_wr W11).1
  have hk := Nat.le_trans hk (Keep.of_wr W11).1
  refine own_go st11 ?_
  show own_Go p.tables e below _ (T11.setTop (mkF m 31 #[.val (.int p0), .val (.int p1), .val (.int vk), .unset, .unset, .unset, .unset] [(.ref b1)]))
  refine own_go (fun _ k => XS.dup X11.here hx rfl (hb hby at_31) rfl rfl k) ?_
  show own_Go p.tables e below _ (T11.setTop (mkF m 32 #[.val (.int p0), .val (.int p1), .val (.int vk), .unset, .unset, .unset, .unset] [(.ref b1), (.ref b1)]))
  refine own_go (fun _ k => XS.iconst X11.here hx rfl (hb hby at_32) k) ?_
  show own_Go p.tables e below _ (T11.setTop (mkF m 33 #[.val (.int p0), .val (.int p1), .val (.int vk), .unset, .unset, .unset, .unset] [(.int (5 : Int32)), (.ref b1), (.ref b1)]))
  refine own_go (fun _ k => XS.bipush X11.here hx rfl (hb hby at_33) k) ?_
  show own_Go p.tables e below _ (T11.setTop (mkF m 35 #[.val (.int p0), .val (.int p1), .val (.int vk), .unset, .unset, .unset, .unset] [(.int (62 : Int32)), (.int (5 : Int32)), (.ref b1), (.ref b1)]))
  have vo12 := V11
  obtain ⟨cl12, Ar12, Aq12, AS12, AN12, AH12, AG12⟩ := vo12
  have hin13 : ¬ ((5 : Int32) < 0 ∨ cl12.slots.size ≤ ((5 : Int32)).toNatClampNeg) := inb_of AS12 ⟨by decide, by decide⟩
  obtain ⟨T13, h13, X13, e13, W13, st13⟩ := stI X11 hx hZ e11 Ar12 (j := (5 : Int32)) hin13 (g := (mkF m 35 #[.val (.int p0), .val (.int p1), .val (.int vk), .unset, .unset, .unset, .unset] [(.int (62 : Int32)), (.int (5 : Int32)), (.ref b1), (.ref b1)])) rfl rfl (hb hby at_35)
  have V13 : Arv Z h13 b1 k1 .int (16 : Int32) [(.int (32 : Int32)), (.int (33 : Int32)), (.int (0 : Int32)), (.int (-1 : Int32)), (.int (60 : Int32)), (.int (62 : Int32)), (.int (0 : Int32)), (.int (0 : Int32)), (.int (0 : Int32)), (.int (0 : Int32)), (.int (0 : Int32)), (.int (0 : Int32)), (.int (0 : Int32)), (.int (0 : Int32)), (.int (0 : Int32)), (.int (0 : Int32))] (.int (0 : Int32)) := Arv.set Ar12 Aq12 AS12 AN12 AH12 AG12 rfl W13 5 rfl (Nat.le_of_ble_eq_true rfl)
  have N13 := Fr.snoc X13 N11 g_b1
  have sf13_b1 := Safe.wr W13 sf11_b1 HC sf11_b1
  have CR := CR.trans (CHr.wr W13 sf11_b1 HC)
  have HC := HC.wr W13 sf11_b1
  have c13_0 := c11_0.wr W13
  have Z13 : n0 ≤ h13.size := Nat.le_trans Z11 (Keep.of_wr W13).1
  have hk := Nat.le_trans hk (Keep.of_wr W13).1
  refine own_go st13 ?_
  show own_Go p.tables e below _ (T13.setTop (mkF m 36 #[.val (.int p0), .val (.int p1), .val (.int vk), .unset, .unset, .unset, .unset] [(.ref b1)]))
  refine own_go (fun _ k => XS.dup X13.here hx rfl (hb hby at_36) rfl rfl k) ?_
  show own_Go p.tables e below _ (T13.setTop (mkF m 37 #[.val (.int p0), .val (.int p1), .val (.int vk), .unset, .unset, .unset, .unset] [(.ref b1), (.ref b1)]))
  refine own_go (fun _ k => XS.bipush X13.here hx rfl (hb hby at_37) k) ?_
  show own_Go p.tables e below _ (T13.setTop (mkF m 39 #[.val (.int p0), .val (.int p1), .val (.int vk), .unset, .unset, .unset, .unset] [(.int (6 : Int32)), (.ref b1), (.ref b1)]))
  refine own_go (fun _ k => XS.bipush X13.here hx rfl (hb hby at_39) k) ?_
  show own_Go p.tables e below _ (T13.setTop (mkF m 41 #[.val (.int p0), .val (.int p1), .val (.int vk), .unset, .unset, .unset, .unset] [(.int (34 : Int32)), (.int (6 : Int32)), (.ref b1), (.ref b1)]))
  have vo14 := V13
  obtain ⟨cl14, Ar14, Aq14, AS14, AN14, AH14, AG14⟩ := vo14
  have hin15 : ¬ ((6 : Int32) < 0 ∨ cl14.slots.size ≤ ((6 : Int32)).toNatClampNeg) := inb_of AS14 ⟨by decide, by decide⟩
  obtain ⟨T15, h15, X15, e15, W15, st15⟩ := stI X13 hx hZ e13 Ar14 (j := (6 : Int32)) hin15 (g := (mkF m 41 #[.val (.int p0), .val (.int p1), .val (.int vk), .unset, .unset, .unset, .unset] [(.int (34 : Int32)), (.int (6 : Int32)), (.ref b1), (.ref b1)])) rfl rfl (hb hby at_41)
  have V15 : Arv Z h15 b1 k1 .int (16 : Int32) [(.int (32 : Int32)), (.int (33 : Int32)), (.int (0 : Int32)), (.int (-1 : Int32)), (.int (60 : Int32)), (.int (62 : Int32)), (.int (34 : Int32)), (.int (0 : Int32)), (.int (0 : Int32)), (.int (0 : Int32)), (.int (0 : Int32)), (.int (0 : Int32)), (.int (0 : Int32)), (.int (0 : Int32)), (.int (0 : Int32)), (.int (0 : Int32))] (.int (0 : Int32)) := Arv.set Ar14 Aq14 AS14 AN14 AH14 AG14 rfl W15 6 rfl (Nat.le_of_ble_eq_true rfl)
  have N15 := Fr.snoc X15 N13 g_b1
  have sf15_b1 := Safe.wr W15 sf13_b1 HC sf13_b1
  have CR := CR.trans (CHr.wr W15 sf13_b1 HC)
  have HC := HC.wr W15 sf13_b1
  have c15_0 := c13_0.wr W15
  have Z15 : n0 ≤ h15.size := Nat.le_trans Z13 (Keep.of_wr W15).1
  have hk := Nat.le_trans hk (Keep.of_wr W15).1
  refine own_go st15 ?_
  show own_Go p.tables e below _ (T15.setTop (mkF m 42 #[.val (.int p0), .val (.int p1), .val (.int vk), .unset, .unset, .unset, .unset] [(.ref b1)]))
  refine own_go (fun _ k => XS.dup X15.here hx rfl (hb hby at_42) rfl rfl k) ?_
  show own_Go p.tables e below _ (T15.setTop (mkF m 43 #[.val (.int p0), .val (.int p1), .val (.int vk), .unset, .unset, .unset, .unset] [(.ref b1), (.ref b1)]))
  refine own_go (fun _ k => XS.bipush X15.here hx rfl (hb hby at_43) k) ?_
  show own_Go p.tables e below _ (T15.setTop (mkF m 45 #[.val (.int p0), .val (.int p1), .val (.int vk), .unset, .unset, .unset, .unset] [(.int (7 : Int32)), (.ref b1), (.ref b1)]))
  refine own_go (fun _ k => XS.bipush X15.here hx rfl (hb hby at_45) k) ?_
  show own_Go p.tables e below _ (T15.setTop (mkF m 47 #[.val (.int p0), .val (.int p1), .val (.int vk), .unset, .unset, .unset, .unset] [(.int (123 : Int32)), (.int (7 : Int32)), (.ref b1), (.ref b1)]))
  have vo16 := V15
  obtain ⟨cl16, Ar16, Aq16, AS16, AN16, AH16, AG16⟩ := vo16
  have hin17 : ¬ ((7 : Int32) < 0 ∨ cl16.slots.size ≤ ((7 : Int32)).toNatClampNeg) := inb_of AS16 ⟨by decide, by decide⟩
  obtain ⟨T17, h17, X17, e17, W17, st17⟩ := stI X15 hx hZ e15 Ar16 (j := (7 : Int32)) hin17 (g := (mkF m 47 #[.val (.int p0), .val (.int p1), .val (.int vk), .unset, .unset, .unset, .unset] [(.int (123 : Int32)), (.int (7 : Int32)), (.ref b1), (.ref b1)])) rfl rfl (hb hby at_47)
  have V17 : Arv Z h17 b1 k1 .int (16 : Int32) [(.int (32 : Int32)), (.int (33 : Int32)), (.int (0 : Int32)), (.int (-1 : Int32)), (.int (60 : Int32)), (.int (62 : Int32)), (.int (34 : Int32)), (.int (123 : Int32)), (.int (0 : Int32)), (.int (0 : Int32)), (.int (0 : Int32)), (.int (0 : Int32)), (.int (0 : Int32)), (.int (0 : Int32)), (.int (0 : Int32)), (.int (0 : Int32))] (.int (0 : Int32)) := Arv.set Ar16 Aq16 AS16 AN16 AH16 AG16 rfl W17 7 rfl (Nat.le_of_ble_eq_true rfl)
  have N17 := Fr.snoc X17 N15 g_b1
  have sf17_b1 := Safe.wr W17 sf15_b1 HC sf15_b1
  have CR := CR.trans (CHr.wr W17 sf15_b1 HC)
  have HC := HC.wr W17 sf15_b1
  have c17_0 := c15_0.wr W17
  have Z17 : n0 ≤ h17.size := Nat.le_trans Z15 (Keep.of_wr W17).1
  have hk := Nat.le_trans hk (Keep.of_wr W17).1
  refine own_go st17 ?_
  show own_Go p.tables e below _ (T17.setTop (mkF m 48 #[.val (.int p0), .val (.int p1), .val (.int vk), .unset, .unset, .unset, .unset] [(.ref b1)]))
  refine own_go (fun _ k => XS.dup X17.here hx rfl (hb hby at_48) rfl rfl k) ?_
  show own_Go p.tables e below _ (T17.setTop (mkF m 49 #[.val (.int p0), .val (.int p1), .val (.int vk), .unset, .unset, .unset, .unset] [(.ref b1), (.ref b1)]))
  refine own_go (fun _ k => XS.bipush X17.here hx rfl (hb hby at_49) k) ?_
  show own_Go p.tables e below _ (T17.setTop (mkF m 51 #[.val (.int p0), .val (.int p1), .val (.int vk), .unset, .unset, .unset, .unset] [(.int (8 : Int32)), (.ref b1), (.ref b1)]))
  refine own_go (fun _ k => XS.bipush X17.here hx rfl (hb hby at_51) k) ?_
  show own_Go p.tables e below _ (T17.setTop (mkF m 53 #[.val (.int p0), .val (.int p1), .val (.int vk), .unset, .unset, .unset, .unset] [(.int (125 : Int32)), (.int (8 : Int32)), (.ref b1), (.ref b1)]))
  have vo18 := V17
  obtain ⟨cl18, Ar18, Aq18, AS18, AN18, AH18, AG18⟩ := vo18
  have hin19 : ¬ ((8 : Int32) < 0 ∨ cl18.slots.size ≤ ((8 : Int32)).toNatClampNeg) := inb_of AS18 ⟨by decide, by decide⟩
  obtain ⟨T19, h19, X19, e19, W19, st19⟩ := stI X17 hx hZ e17 Ar18 (j := (8 : Int32)) hin19 (g := (mkF m 53 #[.val (.int p0), .val (.int p1), .val (.int vk), .unset, .unset, .unset, .unset] [(.int (125 : Int32)), (.int (8 : Int32)), (.ref b1), (.ref b1)])) rfl rfl (hb hby at_53)
  have V19 : Arv Z h19 b1 k1 .int (16 : Int32) [(.int (32 : Int32)), (.int (33 : Int32)), (.int (0 : Int32)), (.int (-1 : Int32)), (.int (60 : Int32)), (.int (62 : Int32)), (.int (34 : Int32)), (.int (123 : Int32)), (.int (125 : Int32)), (.int (0 : Int32)), (.int (0 : Int32)), (.int (0 : Int32)), (.int (0 : Int32)), (.int (0 : Int32)), (.int (0 : Int32)), (.int (0 : Int32))] (.int (0 : Int32)) := Arv.set Ar18 Aq18 AS18 AN18 AH18 AG18 rfl W19 8 rfl (Nat.le_of_ble_eq_true rfl)
  have N19 := Fr.snoc X19 N17 g_b1
  have sf19_b1 := Safe.wr W19 sf17_b1 HC sf17_b1
  have CR := CR.trans (CHr.wr W19 sf17_b1 HC)
  have HC := HC.wr W19 sf17_b1
  have c19_0 := c17_0.wr W19
  have Z19 : n0 ≤ h19.size := Nat.le_trans Z17 (Keep.of_wr W19).1
  have hk := Nat.le_trans hk (Keep.of_wr W19).1
  refine own_go st19 ?_
  show own_Go p.tables e below _ (T19.setTop (mkF m 54 #[.val (.int p0), .val (.int p1), .val (.int vk), .unset, .unset, .unset, .unset] [(.ref b1)]))
  refine own_go (fun _ k => XS.dup X19.here hx rfl (hb hby at_54) rfl rfl k) ?_
  show own_Go p.tables e below _ (T19.setTop (mkF m 55 #[.val (.int p0), .val (.int p1), .val (.int vk), .unset, .unset, .unset, .unset] [(.ref b1), (.ref b1)]))
  refine own_go (fun _ k => XS.bipush X19.here hx rfl (hb hby at_55) k) ?_
  show own_Go p.tables e below _ (T19.setTop (mkF m 57 #[.val (.int p0), .val (.int p1), .val (.int vk), .unset, .unset, .unset, .unset] [(.int (9 : Int32)), (.ref b1), (.ref b1)]))
  refine own_go (fun _ k => XS.bipush X19.here hx rfl (hb hby at_57) k) ?_
  show own_Go p.tables e below _ (T19.setTop (mkF m 59 #[.val (.int p0), .val (.int p1), .val (.int vk), .unset, .unset, .unset, .unset] [(.int (124 : Int32)), (.int (9 : Int32)), (.ref b1), (.ref b1)]))
  have vo20 := V19
  obtain ⟨cl20, Ar20, Aq20, AS20, AN20, AH20, AG20⟩ := vo20
  have hin21 : ¬ ((9 : Int32) < 0 ∨ cl20.slots.size ≤ ((9 : Int32)).toNatClampNeg) := inb_of AS20 ⟨by decide, by decide⟩
  obtain ⟨T21, h21, X21, e21, W21, st21⟩ := stI X19 hx hZ e19 Ar20 (j := (9 : Int32)) hin21 (g := (mkF m 59 #[.val (.int p0), .val (.int p1), .val (.int vk), .unset, .unset, .unset, .unset] [(.int (124 : Int32)), (.int (9 : Int32)), (.ref b1), (.ref b1)])) rfl rfl (hb hby at_59)
  have V21 : Arv Z h21 b1 k1 .int (16 : Int32) [(.int (32 : Int32)), (.int (33 : Int32)), (.int (0 : Int32)), (.int (-1 : Int32)), (.int (60 : Int32)), (.int (62 : Int32)), (.int (34 : Int32)), (.int (123 : Int32)), (.int (125 : Int32)), (.int (124 : Int32)), (.int (0 : Int32)), (.int (0 : Int32)), (.int (0 : Int32)), (.int (0 : Int32)), (.int (0 : Int32)), (.int (0 : Int32))] (.int (0 : Int32)) := Arv.set Ar20 Aq20 AS20 AN20 AH20 AG20 rfl W21 9 rfl (Nat.le_of_ble_eq_true rfl)
  have N21 := Fr.snoc X21 N19 g_b1
  have sf21_b1 := Safe.wr W21 sf19_b1 HC sf19_b1
  have CR := CR.trans (CHr.wr W21 sf19_b1 HC)
  have HC := HC.wr W21 sf19_b1
  have c21_0 := c19_0.wr W21
  have Z21 : n0 ≤ h21.size := Nat.le_trans Z19 (Keep.of_wr W21).1
  have hk := Nat.le_trans hk (Keep.of_wr W21).1
  refine own_go st21 ?_
  show own_Go p.tables e below _ (T21.setTop (mkF m 60 #[.val (.int p0), .val (.int p1), .val (.int vk), .unset, .unset, .unset, .unset] [(.ref b1)]))
  refine own_go (fun _ k => XS.dup X21.here hx rfl (hb hby at_60) rfl rfl k) ?_
  show own_Go p.tables e below _ (T21.setTop (mkF m 61 #[.val (.int p0), .val (.int p1), .val (.int vk), .unset, .unset, .unset, .unset] [(.ref b1), (.ref b1)]))
  refine own_go (fun _ k => XS.bipush X21.here hx rfl (hb hby at_61) k) ?_
  show own_Go p.tables e below _ (T21.setTop (mkF m 63 #[.val (.int p0), .val (.int p1), .val (.int vk), .unset, .unset, .unset, .unset] [(.int (10 : Int32)), (.ref b1), (.ref b1)]))
  refine own_go (fun _ k => XS.bipush X21.here hx rfl (hb hby at_63) k) ?_
  show own_Go p.tables e below _ (T21.setTop (mkF m 65 #[.val (.int p0), .val (.int p1), .val (.int vk), .unset, .unset, .unset, .unset] [(.int (94 : Int32)), (.int (10 : Int32)), (.ref b1), (.ref b1)]))
  have vo22 := V21
  obtain ⟨cl22, Ar22, Aq22, AS22, AN22, AH22, AG22⟩ := vo22
  have hin23 : ¬ ((10 : Int32) < 0 ∨ cl22.slots.size ≤ ((10 : Int32)).toNatClampNeg) := inb_of AS22 ⟨by decide, by decide⟩
  obtain ⟨T23, h23, X23, e23, W23, st23⟩ := stI X21 hx hZ e21 Ar22 (j := (10 : Int32)) hin23 (g := (mkF m 65 #[.val (.int p0), .val (.int p1), .val (.int vk), .unset, .unset, .unset, .unset] [(.int (94 : Int32)), (.int (10 : Int32)), (.ref b1), (.ref b1)])) rfl rfl (hb hby at_65)
  have V23 : Arv Z h23 b1 k1 .int (16 : Int32) [(.int (32 : Int32)), (.int (33 : Int32)), (.int (0 : Int32)), (.int (-1 : Int32)), (.int (60 : Int32)), (.int (62 : Int32)), (.int (34 : Int32)), (.int (123 : Int32)), (.int (125 : Int32)), (.int (124 : Int32)), (.int (94 : Int32)), (.int (0 : Int32)), (.int (0 : Int32)), (.int (0 : Int32)), (.int (0 : Int32)), (.int (0 : Int32))] (.int (0 : Int32)) := Arv.set Ar22 Aq22 AS22 AN22 AH22 AG22 rfl W23 10 rfl (Nat.le_of_ble_eq_true rfl)
  have N23 := Fr.snoc X23 N21 g_b1
  have sf23_b1 := Safe.wr W23 sf21_b1 HC sf21_b1
  have CR := CR.trans (CHr.wr W23 sf21_b1 HC)
  have HC := HC.wr W23 sf21_b1
  have c23_0 := c21_0.wr W23
  have Z23 : n0 ≤ h23.size := Nat.le_trans Z21 (Keep.of_wr W23).1
  have hk := Nat.le_trans hk (Keep.of_wr W23).1
  refine own_go st23 ?_
  show own_Go p.tables e below _ (T23.setTop (mkF m 66 #[.val (.int p0), .val (.int p1), .val (.int vk), .unset, .unset, .unset, .unset] [(.ref b1)]))
  refine own_go (fun _ k => XS.dup X23.here hx rfl (hb hby at_66) rfl rfl k) ?_
  show own_Go p.tables e below _ (T23.setTop (mkF m 67 #[.val (.int p0), .val (.int p1), .val (.int vk), .unset, .unset, .unset, .unset] [(.ref b1), (.ref b1)]))
  refine own_go (fun _ k => XS.bipush X23.here hx rfl (hb hby at_67) k) ?_
  show own_Go p.tables e below _ (T23.setTop (mkF m 69 #[.val (.int p0), .val (.int p1), .val (.int vk), .unset, .unset, .unset, .unset] [(.int (11 : Int32)), (.ref b1), (.ref b1)]))
  refine own_go (fun _ k => XS.bipush X23.here hx rfl (hb hby at_69) k) ?_
  show own_Go p.tables e below _ (T23.setTop (mkF m 71 #[.val (.int p0), .val (.int p1), .val (.int vk), .unset, .unset, .unset, .unset] [(.int (96 : Int32)), (.int (11 : Int32)), (.ref b1), (.ref b1)]))
  have vo24 := V23
  obtain ⟨cl24, Ar24, Aq24, AS24, AN24, AH24, AG24⟩ := vo24
  have hin25 : ¬ ((11 : Int32) < 0 ∨ cl24.slots.size ≤ ((11 : Int32)).toNatClampNeg) := inb_of AS24 ⟨by decide, by decide⟩
  obtain ⟨T25, h25, X25, e25, W25, st25⟩ := stI X23 hx hZ e23 Ar24 (j := (11 : Int32)) hin25 (g := (mkF m 71 #[.val (.int p0), .val (.int p1), .val (.int vk), .unset, .unset, .unset, .unset] [(.int (96 : Int32)), (.int (11 : Int32)), (.ref b1), (.ref b1)])) rfl rfl (hb hby at_71)
  have V25 : Arv Z h25 b1 k1 .int (16 : Int32) [(.int (32 : Int32)), (.int (33 : Int32)), (.int (0 : Int32)), (.int (-1 : Int32)), (.int (60 : Int32)), (.int (62 : Int32)), (.int (34 : Int32)), (.int (123 : Int32)), (.int (125 : Int32)), (.int (124 : Int32)), (.int (94 : Int32)), (.int (96 : Int32)), (.int (0 : Int32)), (.int (0 : Int32)), (.int (0 : Int32)), (.int (0 : Int32))] (.int (0 : Int32)) := Arv.set Ar24 Aq24 AS24 AN24 AH24 AG24 rfl W25 11 rfl (Nat.le_of_ble_eq_true rfl)
  have N25 := Fr.snoc X25 N23 g_b1
  have sf25_b1 := Safe.wr W25 sf23_b1 HC sf23_b1
  have CR := CR.trans (CHr.wr W25 sf23_b1 HC)
  have HC := HC.wr W25 sf23_b1
  have c25_0 := c23_0.wr W25
  have Z25 : n0 ≤ h25.size := Nat.le_trans Z23 (Keep.of_wr W25).1
  have hk := Nat.le_trans hk (Keep.of_wr W25).1
  refine own_go st25 ?_
  show own_Go p.tables e below _ (T25.setTop (mkF m 72 #[.val (.int p0), .val (.int p1), .val (.int vk), .unset, .unset, .unset, .unset] [(.ref b1)]))
  refine own_go (fun _ k => XS.dup X25.here hx rfl (hb hby at_72) rfl rfl k) ?_
  show own_Go p.tables e below _ (T25.setTop (mkF m 73 #[.val (.int p0), .val (.int p1), .val (.int vk), .unset, .unset, .unset, .unset] [(.ref b1), (.ref b1)]))
  refine own_go (fun _ k => XS.bipush X25.here hx rfl (hb hby at_73) k) ?_
  show own_Go p.tables e below _ (T25.setTop (mkF m 75 #[.val (.int p0), .val (.int p1), .val (.int vk), .unset, .unset, .unset, .unset] [(.int (12 : Int32)), (.ref b1), (.ref b1)]))
  refine own_go (fun _ k => XS.bipush X25.here hx rfl (hb hby at_75) k) ?_
  show own_Go p.tables e below _ (T25.setTop (mkF m 77 #[.val (.int p0), .val (.int p1), .val (.int vk), .unset, .unset, .unset, .unset] [(.int (92 : Int32)), (.int (12 : Int32)), (.ref b1), (.ref b1)]))
  have vo26 := V25
  obtain ⟨cl26, Ar26, Aq26, AS26, AN26, AH26, AG26⟩ := vo26
  have hin27 : ¬ ((12 : Int32) < 0 ∨ cl26.slots.size ≤ ((12 : Int32)).toNatClampNeg) := inb_of AS26 ⟨by decide, by decide⟩
  obtain ⟨T27, h27, X27, e27, W27, st27⟩ := stI X25 hx hZ e25 Ar26 (j := (12 : Int32)) hin27 (g := (mkF m 77 #[.val (.int p0), .val (.int p1), .val (.int vk), .unset, .unset, .unset, .unset] [(.int (92 : Int32)), (.int (12 : Int32)), (.ref b1), (.ref b1)])) rfl rfl (hb hby at_77)
  have V27 : Arv Z h27 b1 k1 .int (16 : Int32) [(.int (32 : Int32)), (.int (33 : Int32)), (.int (0 : Int32)), (.int (-1 : Int32)), (.int (60 : Int32)), (.int (62 : Int32)), (.int (34 : Int32)), (.int (123 : Int32)), (.int (125 : Int32)), (.int (124 : Int32)), (.int (94 : Int32)), (.int (96 : Int32)), (.int (92 : Int32)), (.int (0 : Int32)), (.int (0 : Int32)), (.int (0 : Int32))] (.int (0 : Int32)) := Arv.set Ar26 Aq26 AS26 AN26 AH26 AG26 rfl W27 12 rfl (Nat.le_of_ble_eq_true rfl)
  have N27 := Fr.snoc X27 N25 g_b1
  have sf27_b1 := Safe.wr W27 sf25_b1 HC sf25_b1
  have CR := CR.trans (CHr.wr W27 sf25_b1 HC)
  have HC := HC.wr W27 sf25_b1
  have c27_0 := c25_0.wr W27
  have Z27 : n0 ≤ h27.size := Nat.le_trans Z25 (Keep.of_wr W27).1
  have hk := Nat.le_trans hk (Keep.of_wr W27).1
  refine own_go st27 ?_
  show own_Go p.tables e below _ (T27.setTop (mkF m 78 #[.val (.int p0), .val (.int p1), .val (.int vk), .unset, .unset, .unset, .unset] [(.ref b1)]))
  refine own_go (fun _ k => XS.dup X27.here hx rfl (hb hby at_78) rfl rfl k) ?_
  show own_Go p.tables e below _ (T27.setTop (mkF m 79 #[.val (.int p0), .val (.int p1), .val (.int vk), .unset, .unset, .unset, .unset] [(.ref b1), (.ref b1)]))
  refine own_go (fun _ k => XS.bipush X27.here hx rfl (hb hby at_79) k) ?_
  show own_Go p.tables e below _ (T27.setTop (mkF m 81 #[.val (.int p0), .val (.int p1), .val (.int vk), .unset, .unset, .unset, .unset] [(.int (13 : Int32)), (.ref b1), (.ref b1)]))
  refine own_go (fun _ k => XS.bipush X27.here hx rfl (hb hby at_81) k) ?_
  show own_Go p.tables e below _ (T27.setTop (mkF m 83 #[.val (.int p0), .val (.int p1), .val (.int vk), .unset, .unset, .unset, .unset] [(.int (127 : Int32)), (.int (13 : Int32)), (.ref b1), (.ref b1)]))
  have vo28 := V27
  obtain ⟨cl28, Ar28, Aq28, AS28, AN28, AH28, AG28⟩ := vo28
  have hin29 : ¬ ((13 : Int32) < 0 ∨ cl28.slots.size ≤ ((13 : Int32)).toNatClampNeg) := inb_of AS28 ⟨by decide, by decide⟩
  obtain ⟨T29, h29, X29, e29, W29, st29⟩ := stI X27 hx hZ e27 Ar28 (j := (13 : Int32)) hin29 (g := (mkF m 83 #[.val (.int p0), .val (.int p1), .val (.int vk), .unset, .unset, .unset, .unset] [(.int (127 : Int32)), (.int (13 : Int32)), (.ref b1), (.ref b1)])) rfl rfl (hb hby at_83)
  have V29 : Arv Z h29 b1 k1 .int (16 : Int32) [(.int (32 : Int32)), (.int (33 : Int32)), (.int (0 : Int32)), (.int (-1 : Int32)), (.int (60 : Int32)), (.int (62 : Int32)), (.int (34 : Int32)), (.int (123 : Int32)), (.int (125 : Int32)), (.int (124 : Int32)), (.int (94 : Int32)), (.int (96 : Int32)), (.int (92 : Int32)), (.int (127 : Int32)), (.int (0 : Int32)), (.int (0 : Int32))] (.int (0 : Int32)) := Arv.set Ar28 Aq28 AS28 AN28 AH28 AG28 rfl W29 13 rfl (Nat.le_of_ble_eq_true rfl)
  have N29 := Fr.snoc X29 N27 g_b1
  have sf29_b1 := Safe.wr W29 sf27_b1 HC sf27_b1
  have CR := CR.trans (CHr.wr W29 sf27_b1 HC)
  have HC := HC.wr W29 sf27_b1
  have c29_0 := c27_0.wr W29
  have Z29 : n0 ≤ h29.size := Nat.le_trans Z27 (Keep.of_wr W29).1
  have hk := Nat.le_trans hk (Keep.of_wr W29).1
  refine own_go st29 ?_
  show own_Go p.tables e below _ (T29.setTop (mkF m 84 #[.val (.int p0), .val (.int p1), .val (.int vk), .unset, .unset, .unset, .unset] [(.ref b1)]))
  refine own_go (fun _ k => XS.dup X29.here hx rfl (hb hby at_84) rfl rfl k) ?_
  show own_Go p.tables e below _ (T29.setTop (mkF m 85 #[.val (.int p0), .val (.int p1), .val (.int vk), .unset, .unset, .unset, .unset] [(.ref b1), (.ref b1)]))
  refine own_go (fun _ k => XS.bipush X29.here hx rfl (hb hby at_85) k) ?_
  show own_Go p.tables e below _ (T29.setTop (mkF m 87 #[.val (.int p0), .val (.int p1), .val (.int vk), .unset, .unset, .unset, .unset] [(.int (14 : Int32)), (.ref b1), (.ref b1)]))
  refine own_go (fun _ k => X29.ldcInt hx hown (mvT hZ (hw _ (List.mem_of_getElem? (i := 1) rfl))) (g := (mkF m 87 #[.val (.int p0), .val (.int p1), .val (.int vk), .unset, .unset, .unset, .unset] [(.int (14 : Int32)), (.ref b1), (.ref b1)])) rfl (hb hby at_87) _ k) ?_
  show own_Go p.tables e below _ (T29.setTop (mkF m 89 #[.val (.int p0), .val (.int p1), .val (.int vk), .unset, .unset, .unset, .unset] [(.int (1114111 : Int32)), (.int (14 : Int32)), (.ref b1), (.ref b1)]))
  have vo30 := V29
  obtain ⟨cl30, Ar30, Aq30, AS30, AN30, AH30, AG30⟩ := vo30
  have hin31 : ¬ ((14 : Int32) < 0 ∨ cl30.slots.size ≤ ((14 : Int32)).toNatClampNeg) := inb_of AS30 ⟨by decide, by decide⟩
  obtain ⟨T31, h31, X31, e31, W31, st31⟩ := stI X29 hx hZ e29 Ar30 (j := (14 : Int32)) hin31 (g := (mkF m 89 #[.val (.int p0), .val (.int p1), .val (.int vk), .unset, .unset, .unset, .unset] [(.int (1114111 : Int32)), (.int (14 : Int32)), (.ref b1), (.ref b1)])) rfl rfl (hb hby at_89)
  have V31 : Arv Z h31 b1 k1 .int (16 : Int32) [(.int (32 : Int32)), (.int (33 : Int32)), (.int (0 : Int32)), (.int (-1 : Int32)), (.int (60 : Int32)), (.int (62 : Int32)), (.int (34 : Int32)), (.int (123 : Int32)), (.int (125 : Int32)), (.int (124 : Int32)), (.int (94 : Int32)), (.int (96 : Int32)), (.int (92 : Int32)), (.int (127 : Int32)), (.int (1114111 : Int32)), (.int (0 : Int32))] (.int (0 : Int32)) := Arv.set Ar30 Aq30 AS30 AN30 AH30 AG30 rfl W31 14 rfl (Nat.le_of_ble_eq_true rfl)
  have N31 := Fr.snoc X31 N29 g_b1
  have sf31_b1 := Safe.wr W31 sf29_b1 HC sf29_b1
  have CR := CR.trans (CHr.wr W31 sf29_b1 HC)
  have HC := HC.wr W31 sf29_b1
  have c31_0 := c29_0.wr W31
  have Z31 : n0 ≤ h31.size := Nat.le_trans Z29 (Keep.of_wr W31).1
  have hk := Nat.le_trans hk (Keep.of_wr W31).1
  refine own_go st31 ?_
  show own_Go p.tables e below _ (T31.setTop (mkF m 90 #[.val (.int p0), .val (.int p1), .val (.int vk), .unset, .unset, .unset, .unset] [(.ref b1)]))
  refine own_go (fun _ k => XS.dup X31.here hx rfl (hb hby at_90) rfl rfl k) ?_
  show own_Go p.tables e below _ (T31.setTop (mkF m 91 #[.val (.int p0), .val (.int p1), .val (.int vk), .unset, .unset, .unset, .unset] [(.ref b1), (.ref b1)]))
  refine own_go (fun _ k => XS.bipush X31.here hx rfl (hb hby at_91) k) ?_
  show own_Go p.tables e below _ (T31.setTop (mkF m 93 #[.val (.int p0), .val (.int p1), .val (.int vk), .unset, .unset, .unset, .unset] [(.int (15 : Int32)), (.ref b1), (.ref b1)]))
  refine own_go (fun _ k => X31.ldcInt hx hown (mvT hZ (hw _ (List.mem_of_getElem? (i := 2) rfl))) (g := (mkF m 93 #[.val (.int p0), .val (.int p1), .val (.int vk), .unset, .unset, .unset, .unset] [(.int (15 : Int32)), (.ref b1), (.ref b1)])) rfl (hb hby at_93) _ k) ?_
  show own_Go p.tables e below _ (T31.setTop (mkF m 95 #[.val (.int p0), .val (.int p1), .val (.int vk), .unset, .unset, .unset, .unset] [(.int (-2147483648 : Int32)), (.int (15 : Int32)), (.ref b1), (.ref b1)]))
  have vo32 := V31
  obtain ⟨cl32, Ar32, Aq32, AS32, AN32, AH32, AG32⟩ := vo32
  have hin33 : ¬ ((15 : Int32) < 0 ∨ cl32.slots.size ≤ ((15 : Int32)).toNatClampNeg) := inb_of AS32 ⟨by decide, by decide⟩
  obtain ⟨T33, h33, X33, e33, W33, st33⟩ := stI X31 hx hZ e31 Ar32 (j := (15 : Int32)) hin33 (g := (mkF m 95 #[.val (.int p0), .val (.int p1), .val (.int vk), .unset, .unset, .unset, .unset] [(.int (-2147483648 : Int32)), (.int (15 : Int32)), (.ref b1), (.ref b1)])) rfl rfl (hb hby at_95)
  have V33 : Arv Z h33 b1 k1 .int (16 : Int32) [(.int (32 : Int32)), (.int (33 : Int32)), (.int (0 : Int32)), (.int (-1 : Int32)), (.int (60 : Int32)), (.int (62 : Int32)), (.int (34 : Int32)), (.int (123 : Int32)), (.int (125 : Int32)), (.int (124 : Int32)), (.int (94 : Int32)), (.int (96 : Int32)), (.int (92 : Int32)), (.int (127 : Int32)), (.int (1114111 : Int32)), (.int (-2147483648 : Int32))] (.int (0 : Int32)) := Arv.set Ar32 Aq32 AS32 AN32 AH32 AG32 rfl W33 15 rfl (Nat.le_of_ble_eq_true rfl)
  have N33 := Fr.snoc X33 N31 g_b1
  have sf33_b1 := Safe.wr W33 sf31_b1 HC sf31_b1
  have CR := CR.trans (CHr.wr W33 sf31_b1 HC)
  have HC := HC.wr W33 sf31_b1
  have c33_0 := c31_0.wr W33
  have Z33 : n0 ≤ h33.size := Nat.le_trans Z31 (Keep.of_wr W33).1
  have hk := Nat.le_trans hk (Keep.of_wr W33).1
  refine own_go st33 ?_
  show own_Go p.tables e below _ (T33.setTop (mkF m 96 #[.val (.int p0), .val (.int p1), .val (.int vk), .unset, .unset, .unset, .unset] [(.ref b1)]))
  refine own_go (fun _ k => XS.astoreN X33.here hx rfl (hb hby at_96) rfl rfl (l' := #[.val (.int p0), .val (.int p1), .val (.int vk), .val (.ref b1), .unset, .unset, .unset]) rfl k) ?_
  show own_Go p.tables e below _ (T33.setTop (mkF m 97 #[.val (.int p0), .val (.int p1), .val (.int vk), .val (.ref b1), .unset, .unset, .unset] []))
  refine own_go (fun _ k => XS.iloadN X33.here hx rfl (hb hby at_97) rfl k) ?_
  show own_Go p.tables e below _ (T33.setTop (mkF m 98 #[.val (.int p0), .val (.int p1), .val (.int vk), .val (.ref b1), .unset, .unset, .unset] [(.int vk)]))
  by_cases hc98 : vk = (0 : Int32)
  · refine own_go (fun _ k => XS.ifNo X33.here hx rfl (hb hby at_98) rfl ((if0 _ _).trans (teq hc98).2) k) ?_
    show own_Go p.tables e below _ (T33.setTop (mkF m 101 #[.val (.int p0), .val (.int p1), .val (.int vk), .val (.ref b1), .unset, .unset, .unset] []))
    refine own_go (fun _ k => XS.iloadN X33.here hx rfl (hb hby at_101) rfl k) ?_
    show own_Go p.tables e below _ (T33.setTop (mkF m 102 #[.val (.int p0), .val (.int p1), .val (.int vk), .val (.ref b1), .unset, .unset, .unset] [(.int p1)]))
    refine own_go (fun _ k => XS.istore X33.here hx rfl (hb hby at_102) rfl (l' := #[.val (.int p0), .val (.int p1), .val (.int vk), .val (.ref b1), .val (.int p1), .unset, .unset]) rfl k) ?_
    show own_Go p.tables e below _ (T33.setTop (mkF m 104 #[.val (.int p0), .val (.int p1), .val (.int vk), .val (.ref b1), .val (.int p1), .unset, .unset] []))
    refine own_go (fun _ k => XS.goto X33.here hx rfl (pc0 := 104) (pc' := 144) rfl (hb hby at_104) (by decide) (by decide) k) ?_
    show own_Go p.tables e below _ (T33.setTop (mkF m 144 #[.val (.int p0), .val (.int p1), .val (.int vk), .val (.ref b1), .val (.int p1), .unset, .unset] []))
    refine own_go (fun _ k => XS.iload X33.here hx rfl (hb hby at_144) rfl k) ?_
    show own_Go p.tables e below _ (T33.setTop (mkF m 146 #[.val (.int p0), .val (.int p1), .val (.int vk), .val (.ref b1), .val (.int p1), .unset, .unset] [(.int p1)]))
    refine own_go (fun _ k => XS.bipush X33.here hx rfl (hb hby at_146) k) ?_
    show own_Go p.tables e below _ (T33.setTop (mkF m 148 #[.val (.int p0), .val (.int p1), .val (.int vk), .val (.ref b1), .val (.int p1), .unset, .unset] [(.int (60 : Int32)), (.int p1)]))
    have sg34 : ∀ t, Steps p.tables e below (T33.setTop (mkF m 212 #[.val (.int p0), .val (.int p1), .val (.int vk), .val (.ref b1), .val (.int p1), .unset, .unset] [(.int (if p1 = (60 : Int32) then (1 : Int32) else (if p1 = (62 : Int32) then (1 : Int32) else (if p1 = (34 : Int32) then (1 : Int32) else (if p1 = (123 : Int32) then (1 : Int32) else (if p1 = (125 : Int32) then (1 : Int32) else (if p1 = (124 : Int32) then (1 : Int32) else (if p1 = (94 : Int32) then (1 : Int32) else (if p1 = (96 : Int32) then (1 : Int32) else (if p1 = (92 : Int32) then (1 : Int32) else (0 : Int32)))))))))))])) t → Steps p.tables e below (T33.setTop (mkF m 148 #[.val (.int p0), .val (.int p1), .val (.int vk), .val (.ref b1), .val (.int p1), .unset, .unset] [(.int (60 : Int32)), (.int p1)])) t := by
      intro t k
      by_cases hc148 : p1 = (60 : Int32)
      · try simp only [if_pos hc148] at k
        refine XS.icmpYes X33.here hx rfl (pc0 := 148) (pc' := 207) rfl (hb hby at_148) rfl (teq hc148).1 (by decide) (by decide) ?_
        show Steps p.tables e below (T33.setTop (mkF m 207 #[.val (.int p0), .val (.int p1), .val (.int vk), .val (.ref b1), .val (.int p1), .unset, .unset] [])) _
        refine XS.iconst X33.here hx rfl (hb hby at_207) ?_
        show Steps p.tables e below (T33.setTop (mkF m 208 #[.val (.int p0), .val (.int p1), .val (.int vk), .val (.ref b1), .val (.int p1), .unset, .unset] [(.int (1 : Int32))])) _
        refine XS.goto X33.here hx rfl (pc0 := 208) (pc' := 212) rfl (hb hby at_208) (by decide) (by decide) ?_
        show Steps p.tables e below (T33.setTop (mkF m 212 #[.val (.int p0), .val (.int p1), .val (.int vk), .val (.ref b1), .val (.int p1), .unset, .unset] [(.int (1 : Int32))])) _
        exact k
      · try simp only [if_neg hc148] at k
        refine XS.icmpNo X33.here hx rfl (hb hby at_148) rfl (feq hc148).1 ?_
        show Steps p.tables e below (T33.setTop (mkF m 151 #[.val (.int p0), .val (.int p1), .val (.int vk), .val (.ref b1), .val (.int p1), .unset, .unset] [])) _
        refine XS.iload X33.here hx rfl (hb hby at_151) rfl ?_
        show Steps p.tables e below (T33.setTop (mkF m 153 #[.val (.int p0), .val (.int p1), .val (.int vk), .val (.ref b1), .val (.int p1), .unset, .unset] [(.int p1)])) _
        refine XS.bipush X33.here hx rfl (hb hby at_153) ?_
        show Steps p.tables e below (T33.setTop (mkF m 155 #[.val (.int p0), .val (.int p1), .val (.int vk), .val (.ref b1), .val (.int p1), .unset, .unset] [(.int (62 : Int32)), (.int p1)])) _
        by_cases hc155 : p1 = (62 : Int32)
        · try simp only [if_pos hc155] at k
          refine XS.icmpYes X33.here hx rfl (pc0 := 155) (pc' := 207) rfl (hb hby at_155) rfl (teq hc155).1 (by decide) (by decide) ?_
          show Steps p.tables e below (T33.setTop (mkF m 207 #[.val (.int p0), .val (.int p1), .val (.int vk), .val (.ref b1), .val (.int p1), .unset, .unset] [])) _
          refine XS.iconst X33.here hx rfl (hb hby at_207) ?_
          show Steps p.tables e below (T33.setTop (mkF m 208 #[.val (.int p0), .val (.int p1), .val (.int vk), .val (.ref b1), .val (.int p1), .unset, .unset] [(.int (1 : Int32))])) _
          refine XS.goto X33.here hx rfl (pc0 := 208) (pc' := 212) rfl (hb hby at_208) (by decide) (by decide) ?_
          show Steps p.tables e below (T33.setTop (mkF m 212 #[.val (.int p0), .val (.int p1), .val (.int vk), .val (.ref b1), .val (.int p1), .unset, .unset] [(.int (1 : Int32))])) _
          exact k
        · try simp only [if_neg hc155] at k
          refine XS.icmpNo X33.here hx rfl (hb hby at_155) rfl (feq hc155).1 ?_
          show Steps p.tables e below (T33.setTop (mkF m 158 #[.val (.int p0), .val (.int p1), .val (.int vk), .val (.ref b1), .val (.int p1), .unset, .unset] [])) _
          refine XS.iload X33.here hx rfl (hb hby at_158) rfl ?_
          show Steps p.tables e below (T33.setTop (mkF m 160 #[.val (.int p0), .val (.int p1), .val (.int vk), .val (.ref b1), .val (.int p1), .unset, .unset] [(.int p1)])) _
          refine XS.bipush X33.here hx rfl (hb hby at_160) ?_
          show Steps p.tables e below (T33.setTop (mkF m 162 #[.val (.int p0), .val (.int p1), .val (.int vk), .val (.ref b1), .val (.int p1), .unset, .unset] [(.int (34 : Int32)), (.int p1)])) _
          by_cases hc162 : p1 = (34 : Int32)
          · try simp only [if_pos hc162] at k
            refine XS.icmpYes X33.here hx rfl (pc0 := 162) (pc' := 207) rfl (hb hby at_162) rfl (teq hc162).1 (by decide) (by decide) ?_
            show Steps p.tables e below (T33.setTop (mkF m 207 #[.val (.int p0), .val (.int p1), .val (.int vk), .val (.ref b1), .val (.int p1), .unset, .unset] [])) _
            refine XS.iconst X33.here hx rfl (hb hby at_207) ?_
            show Steps p.tables e below (T33.setTop (mkF m 208 #[.val (.int p0), .val (.int p1), .val (.int vk), .val (.ref b1), .val (.int p1), .unset, .unset] [(.int (1 : Int32))])) _
            refine XS.goto X33.here hx rfl (pc0 := 208) (pc' := 212) rfl (hb hby at_208) (by decide) (by decide) ?_
            show Steps p.tables e below (T33.setTop (mkF m 212 #[.val (.int p0), .val (.int p1), .val (.int vk), .val (.ref b1), .val (.int p1), .unset, .unset] [(.int (1 : Int32))])) _
            exact k
          · try simp only [if_neg hc162] at k
            refine XS.icmpNo X33.here hx rfl (hb hby at_162) rfl (feq hc162).1 ?_
            show Steps p.tables e below (T33.setTop (mkF m 165 #[.val (.int p0), .val (.int p1), .val (.int vk), .val (.ref b1), .val (.int p1), .unset, .unset] [])) _
            refine XS.iload X33.here hx rfl (hb hby at_165) rfl ?_
            show Steps p.tables e below (T33.setTop (mkF m 167 #[.val (.int p0), .val (.int p1), .val (.int vk), .val (.ref b1), .val (.int p1), .unset, .unset] [(.int p1)])) _
            refine XS.bipush X33.here hx rfl (hb hby at_167) ?_
            show Steps p.tables e below (T33.setTop (mkF m 169 #[.val (.int p0), .val (.int p1), .val (.int vk), .val (.ref b1), .val (.int p1), .unset, .unset] [(.int (123 : Int32)), (.int p1)])) _
            by_cases hc169 : p1 = (123 : Int32)
            · try simp only [if_pos hc169] at k
              refine XS.icmpYes X33.here hx rfl (pc0 := 169) (pc' := 207) rfl (hb hby at_169) rfl (teq hc169).1 (by decide) (by decide) ?_
              show Steps p.tables e below (T33.setTop (mkF m 207 #[.val (.int p0), .val (.int p1), .val (.int vk), .val (.ref b1), .val (.int p1), .unset, .unset] [])) _
              refine XS.iconst X33.here hx rfl (hb hby at_207) ?_
              show Steps p.tables e below (T33.setTop (mkF m 208 #[.val (.int p0), .val (.int p1), .val (.int vk), .val (.ref b1), .val (.int p1), .unset, .unset] [(.int (1 : Int32))])) _
              refine XS.goto X33.here hx rfl (pc0 := 208) (pc' := 212) rfl (hb hby at_208) (by decide) (by decide) ?_
              show Steps p.tables e below (T33.setTop (mkF m 212 #[.val (.int p0), .val (.int p1), .val (.int vk), .val (.ref b1), .val (.int p1), .unset, .unset] [(.int (1 : Int32))])) _
              exact k
            · try simp only [if_neg hc169] at k
              refine XS.icmpNo X33.here hx rfl (hb hby at_169) rfl (feq hc169).1 ?_
              show Steps p.tables e below (T33.setTop (mkF m 172 #[.val (.int p0), .val (.int p1), .val (.int vk), .val (.ref b1), .val (.int p1), .unset, .unset] [])) _
              refine XS.iload X33.here hx rfl (hb hby at_172) rfl ?_
              show Steps p.tables e below (T33.setTop (mkF m 174 #[.val (.int p0), .val (.int p1), .val (.int vk), .val (.ref b1), .val (.int p1), .unset, .unset] [(.int p1)])) _
              refine XS.bipush X33.here hx rfl (hb hby at_174) ?_
              show Steps p.tables e below (T33.setTop (mkF m 176 #[.val (.int p0), .val (.int p1), .val (.int vk), .val (.ref b1), .val (.int p1), .unset, .unset] [(.int (125 : Int32)), (.int p1)])) _
              by_cases hc176 : p1 = (125 : Int32)
              · try simp only [if_pos hc176] at k
                refine XS.icmpYes X33.here hx rfl (pc0 := 176) (pc' := 207) rfl (hb hby at_176) rfl (teq hc176).1 (by decide) (by decide) ?_
                show Steps p.tables e below (T33.setTop (mkF m 207 #[.val (.int p0), .val (.int p1), .val (.int vk), .val (.ref b1), .val (.int p1), .unset, .unset] [])) _
                refine XS.iconst X33.here hx rfl (hb hby at_207) ?_
                show Steps p.tables e below (T33.setTop (mkF m 208 #[.val (.int p0), .val (.int p1), .val (.int vk), .val (.ref b1), .val (.int p1), .unset, .unset] [(.int (1 : Int32))])) _
                refine XS.goto X33.here hx rfl (pc0 := 208) (pc' := 212) rfl (hb hby at_208) (by decide) (by decide) ?_
                show Steps p.tables e below (T33.setTop (mkF m 212 #[.val (.int p0), .val (.int p1), .val (.int vk), .val (.ref b1), .val (.int p1), .unset, .unset] [(.int (1 : Int32))])) _
                exact k
              · try simp only [if_neg hc176] at k
                refine XS.icmpNo X33.here hx rfl (hb hby at_176) rfl (feq hc176).1 ?_
                show Steps p.tables e below (T33.setTop (mkF m 179 #[.val (.int p0), .val (.int p1), .val (.int vk), .val (.ref b1), .val (.int p1), .unset, .unset] [])) _
                refine XS.iload X33.here hx rfl (hb hby at_179) rfl ?_
                show Steps p.tables e below (T33.setTop (mkF m 181 #[.val (.int p0), .val (.int p1), .val (.int vk), .val (.ref b1), .val (.int p1), .unset, .unset] [(.int p1)])) _
                refine XS.bipush X33.here hx rfl (hb hby at_181) ?_
                show Steps p.tables e below (T33.setTop (mkF m 183 #[.val (.int p0), .val (.int p1), .val (.int vk), .val (.ref b1), .val (.int p1), .unset, .unset] [(.int (124 : Int32)), (.int p1)])) _
                by_cases hc183 : p1 = (124 : Int32)
                · try simp only [if_pos hc183] at k
                  refine XS.icmpYes X33.here hx rfl (pc0 := 183) (pc' := 207) rfl (hb hby at_183) rfl (teq hc183).1 (by decide) (by decide) ?_
                  show Steps p.tables e below (T33.setTop (mkF m 207 #[.val (.int p0), .val (.int p1), .val (.int vk), .val (.ref b1), .val (.int p1), .unset, .unset] [])) _
                  refine XS.iconst X33.here hx rfl (hb hby at_207) ?_
                  show Steps p.tables e below (T33.setTop (mkF m 208 #[.val (.int p0), .val (.int p1), .val (.int vk), .val (.ref b1), .val (.int p1), .unset, .unset] [(.int (1 : Int32))])) _
                  refine XS.goto X33.here hx rfl (pc0 := 208) (pc' := 212) rfl (hb hby at_208) (by decide) (by decide) ?_
                  show Steps p.tables e below (T33.setTop (mkF m 212 #[.val (.int p0), .val (.int p1), .val (.int vk), .val (.ref b1), .val (.int p1), .unset, .unset] [(.int (1 : Int32))])) _
                  exact k
                · try simp only [if_neg hc183] at k
                  refine XS.icmpNo X33.here hx rfl (hb hby at_183) rfl (feq hc183).1 ?_
                  show Steps p.tables e below (T33.setTop (mkF m 186 #[.val (.int p0), .val (.int p1), .val (.int vk), .val (.ref b1), .val (.int p1), .unset, .unset] [])) _
                  refine XS.iload X33.here hx rfl (hb hby at_186) rfl ?_
                  show Steps p.tables e below (T33.setTop (mkF m 188 #[.val (.int p0), .val (.int p1), .val (.int vk), .val (.ref b1), .val (.int p1), .unset, .unset] [(.int p1)])) _
                  refine XS.bipush X33.here hx rfl (hb hby at_188) ?_
                  show Steps p.tables e below (T33.setTop (mkF m 190 #[.val (.int p0), .val (.int p1), .val (.int vk), .val (.ref b1), .val (.int p1), .unset, .unset] [(.int (94 : Int32)), (.int p1)])) _
                  by_cases hc190 : p1 = (94 : Int32)
                  · try simp only [if_pos hc190] at k
                    refine XS.icmpYes X33.here hx rfl (pc0 := 190) (pc' := 207) rfl (hb hby at_190) rfl (teq hc190).1 (by decide) (by decide) ?_
                    show Steps p.tables e below (T33.setTop (mkF m 207 #[.val (.int p0), .val (.int p1), .val (.int vk), .val (.ref b1), .val (.int p1), .unset, .unset] [])) _
                    refine XS.iconst X33.here hx rfl (hb hby at_207) ?_
                    show Steps p.tables e below (T33.setTop (mkF m 208 #[.val (.int p0), .val (.int p1), .val (.int vk), .val (.ref b1), .val (.int p1), .unset, .unset] [(.int (1 : Int32))])) _
                    refine XS.goto X33.here hx rfl (pc0 := 208) (pc' := 212) rfl (hb hby at_208) (by decide) (by decide) ?_
                    show Steps p.tables e below (T33.setTop (mkF m 212 #[.val (.int p0), .val (.int p1), .val (.int vk), .val (.ref b1), .val (.int p1), .unset, .unset] [(.int (1 : Int32))])) _
                    exact k
                  · try simp only [if_neg hc190] at k
                    refine XS.icmpNo X33.here hx rfl (hb hby at_190) rfl (feq hc190).1 ?_
                    show Steps p.tables e below (T33.setTop (mkF m 193 #[.val (.int p0), .val (.int p1), .val (.int vk), .val (.ref b1), .val (.int p1), .unset, .unset] [])) _
                    refine XS.iload X33.here hx rfl (hb hby at_193) rfl ?_
                    show Steps p.tables e below (T33.setTop (mkF m 195 #[.val (.int p0), .val (.int p1), .val (.int vk), .val (.ref b1), .val (.int p1), .unset, .unset] [(.int p1)])) _
                    refine XS.bipush X33.here hx rfl (hb hby at_195) ?_
                    show Steps p.tables e below (T33.setTop (mkF m 197 #[.val (.int p0), .val (.int p1), .val (.int vk), .val (.ref b1), .val (.int p1), .unset, .unset] [(.int (96 : Int32)), (.int p1)])) _
                    by_cases hc197 : p1 = (96 : Int32)
                    · try simp only [if_pos hc197] at k
                      refine XS.icmpYes X33.here hx rfl (pc0 := 197) (pc' := 207) rfl (hb hby at_197) rfl (teq hc197).1 (by decide) (by decide) ?_
                      show Steps p.tables e below (T33.setTop (mkF m 207 #[.val (.int p0), .val (.int p1), .val (.int vk), .val (.ref b1), .val (.int p1), .unset, .unset] [])) _
                      refine XS.iconst X33.here hx rfl (hb hby at_207) ?_
                      show Steps p.tables e below (T33.setTop (mkF m 208 #[.val (.int p0), .val (.int p1), .val (.int vk), .val (.ref b1), .val (.int p1), .unset, .unset] [(.int (1 : Int32))])) _
                      refine XS.goto X33.here hx rfl (pc0 := 208) (pc' := 212) rfl (hb hby at_208) (by decide) (by decide) ?_
                      show Steps p.tables e below (T33.setTop (mkF m 212 #[.val (.int p0), .val (.int p1), .val (.int vk), .val (.ref b1), .val (.int p1), .unset, .unset] [(.int (1 : Int32))])) _
                      exact k
                    · try simp only [if_neg hc197] at k
                      refine XS.icmpNo X33.here hx rfl (hb hby at_197) rfl (feq hc197).1 ?_
                      show Steps p.tables e below (T33.setTop (mkF m 200 #[.val (.int p0), .val (.int p1), .val (.int vk), .val (.ref b1), .val (.int p1), .unset, .unset] [])) _
                      refine XS.iload X33.here hx rfl (hb hby at_200) rfl ?_
                      show Steps p.tables e below (T33.setTop (mkF m 202 #[.val (.int p0), .val (.int p1), .val (.int vk), .val (.ref b1), .val (.int p1), .unset, .unset] [(.int p1)])) _
                      refine XS.bipush X33.here hx rfl (hb hby at_202) ?_
                      show Steps p.tables e below (T33.setTop (mkF m 204 #[.val (.int p0), .val (.int p1), .val (.int vk), .val (.ref b1), .val (.int p1), .unset, .unset] [(.int (92 : Int32)), (.int p1)])) _
                      by_cases hc204 : p1 = (92 : Int32)
                      · try simp only [if_pos hc204] at k
                        refine XS.icmpNo X33.here hx rfl (hb hby at_204) rfl (teq hc204).2 ?_
                        show Steps p.tables e below (T33.setTop (mkF m 207 #[.val (.int p0), .val (.int p1), .val (.int vk), .val (.ref b1), .val (.int p1), .unset, .unset] [])) _
                        refine XS.iconst X33.here hx rfl (hb hby at_207) ?_
                        show Steps p.tables e below (T33.setTop (mkF m 208 #[.val (.int p0), .val (.int p1), .val (.int vk), .val (.ref b1), .val (.int p1), .unset, .unset] [(.int (1 : Int32))])) _
                        refine XS.goto X33.here hx rfl (pc0 := 208) (pc' := 212) rfl (hb hby at_208) (by decide) (by decide) ?_
                        show Steps p.tables e below (T33.setTop (mkF m 212 #[.val (.int p0), .val (.int p1), .val (.int vk), .val (.ref b1), .val (.int p1), .unset, .unset] [(.int (1 : Int32))])) _
                        exact k
                      · try simp only [if_neg hc204] at k
                        refine XS.icmpYes X33.here hx rfl (pc0 := 204) (pc' := 211) rfl (hb hby at_204) rfl (feq hc204).2 (by decide) (by decide) ?_
                        show Steps p.tables e below (T33.setTop (mkF m 211 #[.val (.int p0), .val (.int p1), .val (.int vk), .val (.ref b1), .val (.int p1), .unset, .unset] [])) _
                        refine XS.iconst X33.here hx rfl (hb hby at_211) ?_
                        show Steps p.tables e below (T33.setTop (mkF m 212 #[.val (.int p0), .val (.int p1), .val (.int vk), .val (.ref b1), .val (.int p1), .unset, .unset] [(.int (0 : Int32))])) _
                        exact k
    refine own_go sg34 ?_
    show own_Go p.tables e below _ (T33.setTop (mkF m 212 #[.val (.int p0), .val (.int p1), .val (.int vk), .val (.ref b1), .val (.int p1), .unset, .unset] [(.int (if p1 = (60 : Int32) then (1 : Int32) else (if p1 = (62 : Int32) then (1 : Int32) else (if p1 = (34 : Int32) then (1 : Int32) else (if p1 = (123 : Int32) then (1 : Int32) else (if p1 = (125 : Int32) then (1 : Int32) else (if p1 = (124 : Int32) then (1 : Int32) else (if p1 = (94 : Int32) then (1 : Int32) else (if p1 = (96 : Int32) then (1 : Int32) else (if p1 = (92 : Int32) then (1 : Int32) else (0 : Int32)))))))))))]))
    refine own_go (fun _ k => XS.istore X33.here hx rfl (hb hby at_212) rfl (l' := #[.val (.int p0), .val (.int p1), .val (.int vk), .val (.ref b1), .val (.int p1), .val (.int (if p1 = (60 : Int32) then (1 : Int32) else (if p1 = (62 : Int32) then (1 : Int32) else (if p1 = (34 : Int32) then (1 : Int32) else (if p1 = (123 : Int32) then (1 : Int32) else (if p1 = (125 : Int32) then (1 : Int32) else (if p1 = (124 : Int32) then (1 : Int32) else (if p1 = (94 : Int32) then (1 : Int32) else (if p1 = (96 : Int32) then (1 : Int32) else (if p1 = (92 : Int32) then (1 : Int32) else (0 : Int32))))))))))), .unset]) rfl k) ?_
    show own_Go p.tables e below _ (T33.setTop (mkF m 214 #[.val (.int p0), .val (.int p1), .val (.int vk), .val (.ref b1), .val (.int p1), .val (.int (if p1 = (60 : Int32) then (1 : Int32) else (if p1 = (62 : Int32) then (1 : Int32) else (if p1 = (34 : Int32) then (1 : Int32) else (if p1 = (123 : Int32) then (1 : Int32) else (if p1 = (125 : Int32) then (1 : Int32) else (if p1 = (124 : Int32) then (1 : Int32) else (if p1 = (94 : Int32) then (1 : Int32) else (if p1 = (96 : Int32) then (1 : Int32) else (if p1 = (92 : Int32) then (1 : Int32) else (0 : Int32))))))))))), .unset] []))
    refine own_go (fun _ k => XS.iload X33.here hx rfl (hb hby at_214) rfl k) ?_
    show own_Go p.tables e below _ (T33.setTop (mkF m 216 #[.val (.int p0), .val (.int p1), .val (.int vk), .val (.ref b1), .val (.int p1), .val (.int (if p1 = (60 : Int32) then (1 : Int32) else (if p1 = (62 : Int32) then (1 : Int32) else (if p1 = (34 : Int32) then (1 : Int32) else (if p1 = (123 : Int32) then (1 : Int32) else (if p1 = (125 : Int32) then (1 : Int32) else (if p1 = (124 : Int32) then (1 : Int32) else (if p1 = (94 : Int32) then (1 : Int32) else (if p1 = (96 : Int32) then (1 : Int32) else (if p1 = (92 : Int32) then (1 : Int32) else (0 : Int32))))))))))), .unset] [(.int p1)]))
    refine own_go (fun _ k => XS.bipush X33.here hx rfl (hb hby at_216) k) ?_
    show own_Go p.tables e below _ (T33.setTop (mkF m 218 #[.val (.int p0), .val (.int p1), .val (.int vk), .val (.ref b1), .val (.int p1), .val (.int (if p1 = (60 : Int32) then (1 : Int32) else (if p1 = (62 : Int32) then (1 : Int32) else (if p1 = (34 : Int32) then (1 : Int32) else (if p1 = (123 : Int32) then (1 : Int32) else (if p1 = (125 : Int32) then (1 : Int32) else (if p1 = (124 : Int32) then (1 : Int32) else (if p1 = (94 : Int32) then (1 : Int32) else (if p1 = (96 : Int32) then (1 : Int32) else (if p1 = (92 : Int32) then (1 : Int32) else (0 : Int32))))))))))), .unset] [(.int (32 : Int32)), (.int p1)]))
    have sg35 : ∀ t, Steps p.tables e below (T33.setTop (mkF m 241 #[.val (.int p0), .val (.int p1), .val (.int vk), .val (.ref b1), .val (.int p1), .val (.int (if p1 = (60 : Int32) then (1 : Int32) else (if p1 = (62 : Int32) then (1 : Int32) else (if p1 = (34 : Int32) then (1 : Int32) else (if p1 = (123 : Int32) then (1 : Int32) else (if p1 = (125 : Int32) then (1 : Int32) else (if p1 = (124 : Int32) then (1 : Int32) else (if p1 = (94 : Int32) then (1 : Int32) else (if p1 = (96 : Int32) then (1 : Int32) else (if p1 = (92 : Int32) then (1 : Int32) else (0 : Int32))))))))))), .val (.int (if (32 : Int32) < p1 then (if (if p1 = (60 : Int32) then (1 : Int32) else (if p1 = (62 : Int32) then (1 : Int32) else (if p1 = (34 : Int32) then (1 : Int32) else (if p1 = (123 : Int32) then (1 : Int32) else (if p1 = (125 : Int32) then (1 : Int32) else (if p1 = (124 : Int32) then (1 : Int32) else (if p1 = (94 : Int32) then (1 : Int32) else (if p1 = (96 : Int32) then (1 : Int32) else (if p1 = (92 : Int32) then (1 : Int32) else (0 : Int32)))))))))) = (0 : Int32) then (1 : Int32) else (0 : Int32)) else (0 : Int32)))] [])) t → Steps p.tables e below (T33.setTop (mkF m 218 #[.val (.int p0), .val (.int p1), .val (.int vk), .val (.ref b1), .val (.int p1), .val (.int (if p1 = (60 : Int32) then (1 : Int32) else (if p1 = (62 : Int32) then (1 : Int32) else (if p1 = (34 : Int32) then (1 : Int32) else (if p1 = (123 : Int32) then (1 : Int32) else (if p1 = (125 : Int32) then (1 : Int32) else (if p1 = (124 : Int32) then (1 : Int32) else (if p1 = (94 : Int32) then (1 : Int32) else (if p1 = (96 : Int32) then (1 : Int32) else (if p1 = (92 : Int32) then (1 : Int32) else (0 : Int32))))))))))), .unset] [(.int (32 : Int32)), (.int p1)])) t := by
      intro t k
      by_cases hc218 : (32 : Int32) < p1
      · try simp only [if_pos hc218] at k
        refine XS.icmpYes X33.here hx rfl (pc0 := 218) (pc' := 227) rfl (hb hby at_218) rfl (tlt hc218).2.2.1 (by decide) (by decide) ?_
        show Steps p.tables e below (T33.setTop (mkF m 227 #[.val (.int p0), .val (.int p1), .val (.int vk), .val (.ref b1), .val (.int p1), .val (.int (if p1 = (60 : Int32) then (1 : Int32) else (if p1 = (62 : Int32) then (1 : Int32) else (if p1 = (34 : Int32) then (1 : Int32) else (if p1 = (123 : Int32) then (1 : Int32) else (if p1 = (125 : Int32) then (1 : Int32) else (if p1 = (124 : Int32) then (1 : Int32) else (if p1 = (94 : Int32) then (1 : Int32) else (if p1 = (96 : Int32) then (1 : Int32) else (if p1 = (92 : Int32) then (1 : Int32) else (0 : Int32))))))))))), .unset] [])) _
        refine XS.iload X33.here hx rfl (hb hby at_227) rfl ?_
        show Steps p.tables e below (T33.setTop (mkF m 229 #[.val (.int p0), .val (.int p1), .val (.int vk), .val (.ref b1), .val (.int p1), .val (.int (if p1 = (60 : Int32) then (1 : Int32) else (if p1 = (62 : Int32) then (1 : Int32) else (if p1 = (34 : Int32) then (1 : Int32) else (if p1 = (123 : Int32) then (1 : Int32) else (if p1 = (125 : Int32) then (1 : Int32) else (if p1 = (124 : Int32) then (1 : Int32) else (if p1 = (94 : Int32) then (1 : Int32) else (if p1 = (96 : Int32) then (1 : Int32) else (if p1 = (92 : Int32) then (1 : Int32) else (0 : Int32))))))))))), .unset] [(.int (if p1 = (60 : Int32) then (1 : Int32) else (if p1 = (62 : Int32) then (1 : Int32) else (if p1 = (34 : Int32) then (1 : Int32) else (if p1 = (123 : Int32) then (1 : Int32) else (if p1 = (125 : Int32) then (1 : Int32) else (if p1 = (124 : Int32) then (1 : Int32) else (if p1 = (94 : Int32) then (1 : Int32) else (if p1 = (96 : Int32) then (1 : Int32) else (if p1 = (92 : Int32) then (1 : Int32) else (0 : Int32)))))))))))])) _
        by_cases hc229 : (if p1 = (60 : Int32) then (1 : Int32) else (if p1 = (62 : Int32) then (1 : Int32) else (if p1 = (34 : Int32) then (1 : Int32) else (if p1 = (123 : Int32) then (1 : Int32) else (if p1 = (125 : Int32) then (1 : Int32) else (if p1 = (124 : Int32) then (1 : Int32) else (if p1 = (94 : Int32) then (1 : Int32) else (if p1 = (96 : Int32) then (1 : Int32) else (if p1 = (92 : Int32) then (1 : Int32) else (0 : Int32)))))))))) = (0 : Int32)
        · try simp only [if_pos hc229] at k
          refine XS.ifYes X33.here hx rfl (pc0 := 229) (pc' := 238) rfl (hb hby at_229) rfl ((if0 _ _).trans (teq hc229).1) (by decide) (by decide) ?_
          show Steps p.tables e below (T33.setTop (mkF m 238 #[.val (.int p0), .val (.int p1), .val (.int vk), .val (.ref b1), .val (.int p1), .val (.int (if p1 = (60 : Int32) then (1 : Int32) else (if p1 = (62 : Int32) then (1 : Int32) else (if p1 = (34 : Int32) then (1 : Int32) else (if p1 = (123 : Int32) then (1 : Int32) else (if p1 = (125 : Int32) then (1 : Int32) else (if p1 = (124 : Int32) then (1 : Int32) else (if p1 = (94 : Int32) then (1 : Int32) else (if p1 = (96 : Int32) then (1 : Int32) else (if p1 = (92 : Int32) then (1 : Int32) else (0 : Int32))))))))))), .unset] [])) _
          refine XS.iconst X33.here hx rfl (hb hby at_238) ?_
          show Steps p.tables e below (T33.setTop (mkF m 239 #[.val (.int p0), .val (.int p1), .val (.int vk), .val (.ref b1), .val (.int p1), .val (.int (if p1 = (60 : Int32) then (1 : Int32) else (if p1 = (62 : Int32) then (1 : Int32) else (if p1 = (34 : Int32) then (1 : Int32) else (if p1 = (123 : Int32) then (1 : Int32) else (if p1 = (125 : Int32) then (1 : Int32) else (if p1 = (124 : Int32) then (1 : Int32) else (if p1 = (94 : Int32) then (1 : Int32) else (if p1 = (96 : Int32) then (1 : Int32) else (if p1 = (92 : Int32) then (1 : Int32) else (0 : Int32))))))))))), .unset] [(.int (1 : Int32))])) _
          refine XS.istore X33.here hx rfl (hb hby at_239) rfl (l' := #[.val (.int p0), .val (.int p1), .val (.int vk), .val (.ref b1), .val (.int p1), .val (.int (if p1 = (60 : Int32) then (1 : Int32) else (if p1 = (62 : Int32) then (1 : Int32) else (if p1 = (34 : Int32) then (1 : Int32) else (if p1 = (123 : Int32) then (1 : Int32) else (if p1 = (125 : Int32) then (1 : Int32) else (if p1 = (124 : Int32) then (1 : Int32) else (if p1 = (94 : Int32) then (1 : Int32) else (if p1 = (96 : Int32) then (1 : Int32) else (if p1 = (92 : Int32) then (1 : Int32) else (0 : Int32))))))))))), .val (.int (1 : Int32))]) rfl ?_
          show Steps p.tables e below (T33.setTop (mkF m 241 #[.val (.int p0), .val (.int p1), .val (.int vk), .val (.ref b1), .val (.int p1), .val (.int (if p1 = (60 : Int32) then (1 : Int32) else (if p1 = (62 : Int32) then (1 : Int32) else (if p1 = (34 : Int32) then (1 : Int32) else (if p1 = (123 : Int32) then (1 : Int32) else (if p1 = (125 : Int32) then (1 : Int32) else (if p1 = (124 : Int32) then (1 : Int32) else (if p1 = (94 : Int32) then (1 : Int32) else (if p1 = (96 : Int32) then (1 : Int32) else (if p1 = (92 : Int32) then (1 : Int32) else (0 : Int32))))))))))), .val (.int (1 : Int32))] [])) _
          exact k
        · try simp only [if_neg hc229] at k
          refine XS.ifNo X33.here hx rfl (hb hby at_229) rfl ((if0 _ _).trans (feq hc229).1) ?_
          show Steps p.tables e below (T33.setTop (mkF m 232 #[.val (.int p0), .val (.int p1), .val (.int vk), .val (.ref b1), .val (.int p1), .val (.int (if p1 = (60 : Int32) then (1 : Int32) else (if p1 = (62 : Int32) then (1 : Int32) else (if p1 = (34 : Int32) then (1 : Int32) else (if p1 = (123 : Int32) then (1 : Int32) else (if p1 = (125 : Int32) then (1 : Int32) else (if p1 = (124 : Int32) then (1 : Int32) else (if p1 = (94 : Int32) then (1 : Int32) else (if p1 = (96 : Int32) then (1 : Int32) else (if p1 = (92 : Int32) then (1 : Int32) else (0 : Int32))))))))))), .unset] [])) _
          refine XS.iconst X33.here hx rfl (hb hby at_232) ?_
          show Steps p.tables e below (T33.setTop (mkF m 233 #[.val (.int p0), .val (.int p1), .val (.int vk), .val (.ref b1), .val (.int p1), .val (.int (if p1 = (60 : Int32) then (1 : Int32) else (if p1 = (62 : Int32) then (1 : Int32) else (if p1 = (34 : Int32) then (1 : Int32) else (if p1 = (123 : Int32) then (1 : Int32) else (if p1 = (125 : Int32) then (1 : Int32) else (if p1 = (124 : Int32) then (1 : Int32) else (if p1 = (94 : Int32) then (1 : Int32) else (if p1 = (96 : Int32) then (1 : Int32) else (if p1 = (92 : Int32) then (1 : Int32) else (0 : Int32))))))))))), .unset] [(.int (0 : Int32))])) _
          refine XS.istore X33.here hx rfl (hb hby at_233) rfl (l' := #[.val (.int p0), .val (.int p1), .val (.int vk), .val (.ref b1), .val (.int p1), .val (.int (if p1 = (60 : Int32) then (1 : Int32) else (if p1 = (62 : Int32) then (1 : Int32) else (if p1 = (34 : Int32) then (1 : Int32) else (if p1 = (123 : Int32) then (1 : Int32) else (if p1 = (125 : Int32) then (1 : Int32) else (if p1 = (124 : Int32) then (1 : Int32) else (if p1 = (94 : Int32) then (1 : Int32) else (if p1 = (96 : Int32) then (1 : Int32) else (if p1 = (92 : Int32) then (1 : Int32) else (0 : Int32))))))))))), .val (.int (0 : Int32))]) rfl ?_
          show Steps p.tables e below (T33.setTop (mkF m 235 #[.val (.int p0), .val (.int p1), .val (.int vk), .val (.ref b1), .val (.int p1), .val (.int (if p1 = (60 : Int32) then (1 : Int32) else (if p1 = (62 : Int32) then (1 : Int32) else (if p1 = (34 : Int32) then (1 : Int32) else (if p1 = (123 : Int32) then (1 : Int32) else (if p1 = (125 : Int32) then (1 : Int32) else (if p1 = (124 : Int32) then (1 : Int32) else (if p1 = (94 : Int32) then (1 : Int32) else (if p1 = (96 : Int32) then (1 : Int32) else (if p1 = (92 : Int32) then (1 : Int32) else (0 : Int32))))))))))), .val (.int (0 : Int32))] [])) _
          refine XS.goto X33.here hx rfl (pc0 := 235) (pc' := 241) rfl (hb hby at_235) (by decide) (by decide) ?_
          show Steps p.tables e below (T33.setTop (mkF m 241 #[.val (.int p0), .val (.int p1), .val (.int vk), .val (.ref b1), .val (.int p1), .val (.int (if p1 = (60 : Int32) then (1 : Int32) else (if p1 = (62 : Int32) then (1 : Int32) else (if p1 = (34 : Int32) then (1 : Int32) else (if p1 = (123 : Int32) then (1 : Int32) else (if p1 = (125 : Int32) then (1 : Int32) else (if p1 = (124 : Int32) then (1 : Int32) else (if p1 = (94 : Int32) then (1 : Int32) else (if p1 = (96 : Int32) then (1 : Int32) else (if p1 = (92 : Int32) then (1 : Int32) else (0 : Int32))))))))))), .val (.int (0 : Int32))] [])) _
          exact k
      · try simp only [if_neg hc218] at k
        refine XS.icmpNo X33.here hx rfl (hb hby at_218) rfl (flt hc218).2.2.1 ?_
        show Steps p.tables e below (T33.setTop (mkF m 221 #[.val (.int p0), .val (.int p1), .val (.int vk), .val (.ref b1), .val (.int p1), .val (.int (if p1 = (60 : Int32) then (1 : Int32) else (if p1 = (62 : Int32) then (1 : Int32) else (if p1 = (34 : Int32) then (1 : Int32) else (if p1 = (123 : Int32) then (1 : Int32) else (if p1 = (125 : Int32) then (1 : Int32) else (if p1 = (124 : Int32) then (1 : Int32) else (if p1 = (94 : Int32) then (1 : Int32) else (if p1 = (96 : Int32) then (1 : Int32) else (if p1 = (92 : Int32) then (1 : Int32) else (0 : Int32))))))))))), .unset] [])) _
        refine XS.iconst X33.here hx rfl (hb hby at_221) ?_
        show Steps p.tables e below (T33.setTop (mkF m 222 #[.val (.int p0), .val (.int p1), .val (.int vk), .val (.ref b1), .val (.int p1), .val (.int (if p1 = (60 : Int32) then (1 : Int32) else (if p1 = (62 : Int32) then (1 : Int32) else (if p1 = (34 : Int32) then (1 : Int32) else (if p1 = (123 : Int32) then (1 : Int32) else (if p1 = (125 : Int32) then (1 : Int32) else (if p1 = (124 : Int32) then (1 : Int32) else (if p1 = (94 : Int32) then (1 : Int32) else (if p1 = (96 : Int32) then (1 : Int32) else (if p1 = (92 : Int32) then (1 : Int32) else (0 : Int32))))))))))), .unset] [(.int (0 : Int32))])) _
        refine XS.istore X33.here hx rfl (hb hby at_222) rfl (l' := #[.val (.int p0), .val (.int p1), .val (.int vk), .val (.ref b1), .val (.int p1), .val (.int (if p1 = (60 : Int32) then (1 : Int32) else (if p1 = (62 : Int32) then (1 : Int32) else (if p1 = (34 : Int32) then (1 : Int32) else (if p1 = (123 : Int32) then (1 : Int32) else (if p1 = (125 : Int32) then (1 : Int32) else (if p1 = (124 : Int32) then (1 : Int32) else (if p1 = (94 : Int32) then (1 : Int32) else (if p1 = (96 : Int32) then (1 : Int32) else (if p1 = (92 : Int32) then (1 : Int32) else (0 : Int32))))))))))), .val (.int (0 : Int32))]) rfl ?_
        show Steps p.tables e below (T33.setTop (mkF m 224 #[.val (.int p0), .val (.int p1), .val (.int vk), .val (.ref b1), .val (.int p1), .val (.int (if p1 = (60 : Int32) then (1 : Int32) else (if p1 = (62 : Int32) then (1 : Int32) else (if p1 = (34 : Int32) then (1 : Int32) else (if p1 = (123 : Int32) then (1 : Int32) else (if p1 = (125 : Int32) then (1 : Int32) else (if p1 = (124 : Int32) then (1 : Int32) else (if p1 = (94 : Int32) then (1 : Int32) else (if p1 = (96 : Int32) then (1 : Int32) else (if p1 = (92 : Int32) then (1 : Int32) else (0 : Int32))))))))))), .val (.int (0 : Int32))] [])) _
        refine XS.goto X33.here hx rfl (pc0 := 224) (pc' := 241) rfl (hb hby at_224) (by decide) (by decide) ?_
        show Steps p.tables e below (T33.setTop (mkF m 241 #[.val (.int p0), .val (.int p1), .val (.int vk), .val (.ref b1), .val (.int p1), .val (.int (if p1 = (60 : Int32) then (1 : Int32) else (if p1 = (62 : Int32) then (1 : Int32) else (if p1 = (34 : Int32) then (1 : Int32) else (if p1 = (123 : Int32) then (1 : Int32) else (if p1 = (125 : Int32) then (1 : Int32) else (if p1 = (124 : Int32) then (1 : Int32) else (if p1 = (94 : Int32) then (1 : Int32) else (if p1 = (96 : Int32) then (1 : Int32) else (if p1 = (92 : Int32) then (1 : Int32) else (0 : Int32))))))))))), .val (.int (0 : Int32))] [])) _
        exact k
    refine own_go sg35 ?_
    show own_Go p.tables e below _ (T33.setTop (mkF m 241 #[.val (.int p0), .val (.int p1), .val (.int vk), .val (.ref b1), .val (.int p1), .val (.int (if p1 = (60 : Int32) then (1 : Int32) else (if p1 = (62 : Int32) then (1 : Int32) else (if p1 = (34 : Int32) then (1 : Int32) else (if p1 = (123 : Int32) then (1 : Int32) else (if p1 = (125 : Int32) then (1 : Int32) else (if p1 = (124 : Int32) then (1 : Int32) else (if p1 = (94 : Int32) then (1 : Int32) else (if p1 = (96 : Int32) then (1 : Int32) else (if p1 = (92 : Int32) then (1 : Int32) else (0 : Int32))))))))))), .val (.int (if (32 : Int32) < p1 then (if (if p1 = (60 : Int32) then (1 : Int32) else (if p1 = (62 : Int32) then (1 : Int32) else (if p1 = (34 : Int32) then (1 : Int32) else (if p1 = (123 : Int32) then (1 : Int32) else (if p1 = (125 : Int32) then (1 : Int32) else (if p1 = (124 : Int32) then (1 : Int32) else (if p1 = (94 : Int32) then (1 : Int32) else (if p1 = (96 : Int32) then (1 : Int32) else (if p1 = (92 : Int32) then (1 : Int32) else (0 : Int32)))))))))) = (0 : Int32) then (1 : Int32) else (0 : Int32)) else (0 : Int32)))] []))
    refine own_go (fun _ k => XS.iload X33.here hx rfl (hb hby at_241) rfl k) ?_
    show own_Go p.tables e below _ (T33.setTop (mkF m 243 #[.val (.int p0), .val (.int p1), .val (.int vk), .val (.ref b1), .val (.int p1), .val (.int (if p1 = (60 : Int32) then (1 : Int32) else (if p1 = (62 : Int32) then (1 : Int32) else (if p1 = (34 : Int32) then (1 : Int32) else (if p1 = (123 : Int32) then (1 : Int32) else (if p1 = (125 : Int32) then (1 : Int32) else (if p1 = (124 : Int32) then (1 : Int32) else (if p1 = (94 : Int32) then (1 : Int32) else (if p1 = (96 : Int32) then (1 : Int32) else (if p1 = (92 : Int32) then (1 : Int32) else (0 : Int32))))))))))), .val (.int (if (32 : Int32) < p1 then (if (if p1 = (60 : Int32) then (1 : Int32) else (if p1 = (62 : Int32) then (1 : Int32) else (if p1 = (34 : Int32) then (1 : Int32) else (if p1 = (123 : Int32) then (1 : Int32) else (if p1 = (125 : Int32) then (1 : Int32) else (if p1 = (124 : Int32) then (1 : Int32) else (if p1 = (94 : Int32) then (1 : Int32) else (if p1 = (96 : Int32) then (1 : Int32) else (if p1 = (92 : Int32) then (1 : Int32) else (0 : Int32)))))))))) = (0 : Int32) then (1 : Int32) else (0 : Int32)) else (0 : Int32)))] [(.int p1)]))
    obtain ⟨_, _, ⟨T36, L36, k36, n36⟩, -, X36, hS36, hg36, ⟨Lc36, hQ36, l36, y36, z36, hC36⟩, st36⟩ := callSS X33 hx (y := (⟨"com/example/pathwise/pathwise/model/Iri", "allows", "(I)Z"⟩ : MethodName)) hown (mvT hZ (hw _ (List.mem_of_getElem? (i := 3) rfl))) (mvT hZ (hw _ (List.mem_of_getElem? (i := 4) rfl))) (mvT hZ (hw _ (List.mem_of_getElem? (i := 5) rfl))) (mvT hZ (hw _ (List.mem_of_getElem? (i := 6) rfl))) (by decide) (backOfSH (W := 0) (rm1 l Z az hw [] p1 wc h33 n0 Z33 c33_0 hwc) hZ (hw _ (List.mem_of_getElem? (i := 6) rfl)) (hw _ (List.mem_of_getElem? (i := 5) rfl)) (by decide) (by decide) hEL HC) (g := (mkF m 243 #[.val (.int p0), .val (.int p1), .val (.int vk), .val (.ref b1), .val (.int p1), .val (.int (if p1 = (60 : Int32) then (1 : Int32) else (if p1 = (62 : Int32) then (1 : Int32) else (if p1 = (34 : Int32) then (1 : Int32) else (if p1 = (123 : Int32) then (1 : Int32) else (if p1 = (125 : Int32) then (1 : Int32) else (if p1 = (124 : Int32) then (1 : Int32) else (if p1 = (94 : Int32) then (1 : Int32) else (if p1 = (96 : Int32) then (1 : Int32) else (if p1 = (92 : Int32) then (1 : Int32) else (0 : Int32))))))))))), .val (.int (if (32 : Int32) < p1 then (if (if p1 = (60 : Int32) then (1 : Int32) else (if p1 = (62 : Int32) then (1 : Int32) else (if p1 = (34 : Int32) then (1 : Int32) else (if p1 = (123 : Int32) then (1 : Int32) else (if p1 = (125 : Int32) then (1 : Int32) else (if p1 = (124 : Int32) then (1 : Int32) else (if p1 = (94 : Int32) then (1 : Int32) else (if p1 = (96 : Int32) then (1 : Int32) else (if p1 = (92 : Int32) then (1 : Int32) else (0 : Int32)))))))))) = (0 : Int32) then (1 : Int32) else (0 : Int32)) else (0 : Int32)))] [(.int p1)])) rfl (by rw [hml]; rfl) (argsL := [(.int p1)]) (rest := []) (lenOf pd0_0 rfl) rfl (by show 2 * 0 + _ ≤ _; exact Nat.le_of_eq rfl) (hb hby at_243) (fun _ _ => ⟨rfl, e33, (by decide : 1 + 2 ≤ _), (by decide : 16 + 40 ≤ _)⟩)
    dsimp only [Pt.U, Pt.locs, Pt.cells, Pt.slots] at X36 hS36 hg36 l36 y36 z36 st36 hQ36 hC36
    subst l36 y36 z36
    obtain ⟨X36, hS, hZ, hown⟩ := rebS hS (by rw [e33]; exact hk) X36 hS36 hg36 hZ hown
    have CR := CR.trans hC36
    have HC := hC36.1
    refine own_go (fun _ k => st36.trans k) ?_
    obtain ⟨rfl, N36q, K36⟩ := hQ36
    have N36 := Fr.app N33 N36q
    have E36 := own_kx K36
    have c36_0 := c33_0.ext E36
    have c36_2 := V33.ext E36
    have Z36 : n0 ≤ T36.heap.size := Nat.le_trans Z33 K36.1
    have hk := Nat.le_refl T36.heap.size
    show own_Go p.tables e below _ (T36.setTop (mkF m 246 #[.val (.int p0), .val (.int p1), .val (.int vk), .val (.ref b1), .val (.int p1), .val (.int (if p1 = (60 : Int32) then (1 : Int32) else (if p1 = (62 : Int32) then (1 : Int32) else (if p1 = (34 : Int32) then (1 : Int32) else (if p1 = (123 : Int32) then (1 : Int32) else (if p1 = (125 : Int32) then (1 : Int32) else (if p1 = (124 : Int32) then (1 : Int32) else (if p1 = (94 : Int32) then (1 : Int32) else (if p1 = (96 : Int32) then (1 : Int32) else (if p1 = (92 : Int32) then (1 : Int32) else (0 : Int32))))))))))), .val (.int (if (32 : Int32) < p1 then (if (if p1 = (60 : Int32) then (1 : Int32) else (if p1 = (62 : Int32) then (1 : Int32) else (if p1 = (34 : Int32) then (1 : Int32) else (if p1 = (123 : Int32) then (1 : Int32) else (if p1 = (125 : Int32) then (1 : Int32) else (if p1 = (124 : Int32) then (1 : Int32) else (if p1 = (94 : Int32) then (1 : Int32) else (if p1 = (96 : Int32) then (1 : Int32) else (if p1 = (92 : Int32) then (1 : Int32) else (0 : Int32)))))))))) = (0 : Int32) then (1 : Int32) else (0 : Int32)) else (0 : Int32)))] [(.int (own_f1 p1))]))
    refine own_go (fun _ k => XS.iload X36.here hx rfl (hb hby at_246) rfl k) ?_
    show own_Go p.tables e below _ (T36.setTop (mkF m 248 #[.val (.int p0), .val (.int p1), .val (.int vk), .val (.ref b1), .val (.int p1), .val (.int (if p1 = (60 : Int32) then (1 : Int32) else (if p1 = (62 : Int32) then (1 : Int32) else (if p1 = (34 : Int32) then (1 : Int32) else (if p1 = (123 : Int32) then (1 : Int32) else (if p1 = (125 : Int32) then (1 : Int32) else (if p1 = (124 : Int32) then (1 : Int32) else (if p1 = (94 : Int32) then (1 : Int32) else (if p1 = (96 : Int32) then (1 : Int32) else (if p1 = (92 : Int32) then (1 : Int32) else (0 : Int32))))))))))), .val (.int (if (32 : Int32) < p1 then (if (if p1 = (60 : Int32) then (1 : Int32) else (if p1 = (62 : Int32) then (1 : Int32) else (if p1 = (34 : Int32) then (1 : Int32) else (if p1 = (123 : Int32) then (1 : Int32) else (if p1 = (125 : Int32) then (1 : Int32) else (if p1 = (124 : Int32) then (1 : Int32) else (if p1 = (94 : Int32) then (1 : Int32) else (if p1 = (96 : Int32) then (1 : Int32) else (if p1 = (92 : Int32) then (1 : Int32) else (0 : Int32)))))))))) = (0 : Int32) then (1 : Int32) else (0 : Int32)) else (0 : Int32)))] [(.int (if (32 : Int32) < p1 then (if (if p1 = (60 : Int32) then (1 : Int32) else (if p1 = (62 : Int32) then (1 : Int32) else (if p1 = (34 : Int32) then (1 : Int32) else (if p1 = (123 : Int32) then (1 : Int32) else (if p1 = (125 : Int32) then (1 : Int32) else (if p1 = (124 : Int32) then (1 : Int32) else (if p1 = (94 : Int32) then (1 : Int32) else (if p1 = (96 : Int32) then (1 : Int32) else (if p1 = (92 : Int32) then (1 : Int32) else (0 : Int32)))))))))) = (0 : Int32) then (1 : Int32) else (0 : Int32)) else (0 : Int32))), (.int (own_f1 p1))]))
    have hf248 : (own_f1 p1) = (if (32 : Int32) < p1 then (if (if p1 = (60 : Int32) then (1 : Int32) else (if p1 = (62 : Int32) then (1 : Int32) else (if p1 = (34 : Int32) then (1 : Int32) else (if p1 = (123 : Int32) then (1 : Int32) else (if p1 = (125 : Int32) then (1 : Int32) else (if p1 = (124 : Int32) then (1 : Int32) else (if p1 = (94 : Int32) then (1 : Int32) else (if p1 = (96 : Int32) then (1 : Int32) else (if p1 = (92 : Int32) then (1 : Int32) else (0 : Int32)))))))))) = (0 : Int32) then (1 : Int32) else (0 : Int32)) else (0 : Int32)) := own_val p1
    refine own_go (fun _ k => XS.icmpNo X36.here hx rfl (hb hby at_248) rfl (teq hf248).2 k) ?_
    show own_Go p.tables e below _ (T36.setTop (mkF m 251 #[.val (.int p0), .val (.int p1), .val (.int vk), .val (.ref b1), .val (.int p1), .val (.int (if p1 = (60 : Int32) then (1 : Int32) else (if p1 = (62 : Int32) then (1 : Int32) else (if p1 = (34 : Int32) then (1 : Int32) else (if p1 = (123 : Int32) then (1 : Int32) else (if p1 = (125 : Int32) then (1 : Int32) else (if p1 = (124 : Int32) then (1 : Int32) else (if p1 = (94 : Int32) then (1 : Int32) else (if p1 = (96 : Int32) then (1 : Int32) else (if p1 = (92 : Int32) then (1 : Int32) else (0 : Int32))))))))))), .val (.int (if (32 : Int32) < p1 then (if (if p1 = (60 : Int32) then (1 : Int32) else (if p1 = (62 : Int32) then (1 : Int32) else (if p1 = (34 : Int32) then (1 : Int32) else (if p1 = (123 : Int32) then (1 : Int32) else (if p1 = (125 : Int32) then (1 : Int32) else (if p1 = (124 : Int32) then (1 : Int32) else (if p1 = (94 : Int32) then (1 : Int32) else (if p1 = (96 : Int32) then (1 : Int32) else (if p1 = (92 : Int32) then (1 : Int32) else (0 : Int32)))))))))) = (0 : Int32) then (1 : Int32) else (0 : Int32)) else (0 : Int32)))] []))
    refine own_go (fun _ k => XS.iconst X36.here hx rfl (hb hby at_251) k) ?_
    show own_Go p.tables e below _ (T36.setTop (mkF m 252 #[.val (.int p0), .val (.int p1), .val (.int vk), .val (.ref b1), .val (.int p1), .val (.int (if p1 = (60 : Int32) then (1 : Int32) else (if p1 = (62 : Int32) then (1 : Int32) else (if p1 = (34 : Int32) then (1 : Int32) else (if p1 = (123 : Int32) then (1 : Int32) else (if p1 = (125 : Int32) then (1 : Int32) else (if p1 = (124 : Int32) then (1 : Int32) else (if p1 = (94 : Int32) then (1 : Int32) else (if p1 = (96 : Int32) then (1 : Int32) else (if p1 = (92 : Int32) then (1 : Int32) else (0 : Int32))))))))))), .val (.int (if (32 : Int32) < p1 then (if (if p1 = (60 : Int32) then (1 : Int32) else (if p1 = (62 : Int32) then (1 : Int32) else (if p1 = (34 : Int32) then (1 : Int32) else (if p1 = (123 : Int32) then (1 : Int32) else (if p1 = (125 : Int32) then (1 : Int32) else (if p1 = (124 : Int32) then (1 : Int32) else (if p1 = (94 : Int32) then (1 : Int32) else (if p1 = (96 : Int32) then (1 : Int32) else (if p1 = (92 : Int32) then (1 : Int32) else (0 : Int32)))))))))) = (0 : Int32) then (1 : Int32) else (0 : Int32)) else (0 : Int32)))] [(.int (1 : Int32))]))
    refine own_go (fun _ k => XS.goto X36.here hx rfl (pc0 := 252) (pc' := 256) rfl (hb hby at_252) (by decide) (by decide) k) ?_
    show own_Go p.tables e below _ (T36.setTop (mkF m 256 #[.val (.int p0), .val (.int p1), .val (.int vk), .val (.ref b1), .val (.int p1), .val (.int (if p1 = (60 : Int32) then (1 : Int32) else (if p1 = (62 : Int32) then (1 : Int32) else (if p1 = (34 : Int32) then (1 : Int32) else (if p1 = (123 : Int32) then (1 : Int32) else (if p1 = (125 : Int32) then (1 : Int32) else (if p1 = (124 : Int32) then (1 : Int32) else (if p1 = (94 : Int32) then (1 : Int32) else (if p1 = (96 : Int32) then (1 : Int32) else (if p1 = (92 : Int32) then (1 : Int32) else (0 : Int32))))))))))), .val (.int (if (32 : Int32) < p1 then (if (if p1 = (60 : Int32) then (1 : Int32) else (if p1 = (62 : Int32) then (1 : Int32) else (if p1 = (34 : Int32) then (1 : Int32) else (if p1 = (123 : Int32) then (1 : Int32) else (if p1 = (125 : Int32) then (1 : Int32) else (if p1 = (124 : Int32) then (1 : Int32) else (if p1 = (94 : Int32) then (1 : Int32) else (if p1 = (96 : Int32) then (1 : Int32) else (if p1 = (92 : Int32) then (1 : Int32) else (0 : Int32)))))))))) = (0 : Int32) then (1 : Int32) else (0 : Int32)) else (0 : Int32)))] [(.int (1 : Int32))]))
    refine own_endH X36 (by rw [hh, (rfl : T36.heap = T36.heap)]; exact CR.trans (CHv.at X36 hZ hEL HC)) hS (hk) Bd.notSynchronized (v := some (.int (1 : Int32))) (fun h => by rw [Bd.returns] at h; cases h) (fun fs hr => retN X36 hx (t := .boolean) Bd.returns (by simp) (hb hby at_256) hr) ?_ (by decide) (by decide)
    exact ⟨rfl, N36⟩
  · refine own_go (fun _ k => XS.ifYes X33.here hx rfl (pc0 := 98) (pc' := 107) rfl (hb hby at_98) rfl ((if0 _ _).trans (feq hc98).2) (by decide) (by decide) k) ?_
    show own_Go p.tables e below _ (T33.setTop (mkF m 107 #[.val (.int p0), .val (.int p1), .val (.int vk), .val (.ref b1), .unset, .unset, .unset] []))
    refine own_go (fun _ k => XS.iloadN X33.here hx rfl (hb hby at_107) rfl k) ?_
    show own_Go p.tables e below _ (T33.setTop (mkF m 108 #[.val (.int p0), .val (.int p1), .val (.int vk), .val (.ref b1), .unset, .unset, .unset] [(.int vk)]))
    refine own_go (fun _ k => XS.iconst X33.here hx rfl (hb hby at_108) k) ?_
    show own_Go p.tables e below _ (T33.setTop (mkF m 109 #[.val (.int p0), .val (.int p1), .val (.int vk), .val (.ref b1), .unset, .unset, .unset] [(.int (1 : Int32)), (.int vk)]))
    by_cases hc109 : vk = (1 : Int32)
    · refine own_go (fun _ k => XS.icmpNo X33.here hx rfl (hb hby at_109) rfl (teq hc109).2 k) ?_
      show own_Go p.tables e below _ (T33.setTop (mkF m 112 #[.val (.int p0), .val (.int p1), .val (.int vk), .val (.ref b1), .unset, .unset, .unset] []))
      refine own_go (fun _ k => XS.iloadN X33.here hx rfl (hb hby at_112) rfl k) ?_
      show own_Go p.tables e below _ (T33.setTop (mkF m 113 #[.val (.int p0), .val (.int p1), .val (.int vk), .val (.ref b1), .unset, .unset, .unset] [(.int p1)]))
      refine own_go (fun _ k => XS.sipush X33.here hx rfl (hb hby at_113) k) ?_
      show own_Go p.tables e below _ (T33.setTop (mkF m 116 #[.val (.int p0), .val (.int p1), .val (.int vk), .val (.ref b1), .unset, .unset, .unset] [(.int (255 : Int32)), (.int p1)]))
      refine own_go (fun _ k => XS.iand X33.here hx rfl (hb hby at_116) rfl k) ?_
      show own_Go p.tables e below _ (T33.setTop (mkF m 117 #[.val (.int p0), .val (.int p1), .val (.int vk), .val (.ref b1), .unset, .unset, .unset] [(.int (p1 &&& (255 : Int32)))]))
      refine own_go (fun _ k => XS.istore X33.here hx rfl (hb hby at_117) rfl (l' := #[.val (.int p0), .val (.int p1), .val (.int vk), .val (.ref b1), .val (.int (p1 &&& (255 : Int32))), .unset, .unset]) rfl k) ?_
      show own_Go p.tables e below _ (T33.setTop (mkF m 119 #[.val (.int p0), .val (.int p1), .val (.int vk), .val (.ref b1), .val (.int (p1 &&& (255 : Int32))), .unset, .unset] []))
      refine own_go (fun _ k => XS.goto X33.here hx rfl (pc0 := 119) (pc' := 144) rfl (hb hby at_119) (by decide) (by decide) k) ?_
      show own_Go p.tables e below _ (T33.setTop (mkF m 144 #[.val (.int p0), .val (.int p1), .val (.int vk), .val (.ref b1), .val (.int (p1 &&& (255 : Int32))), .unset, .unset] []))
      obtain ⟨vc, hvc⟩ : ∃ z : Int32, z = (p1 &&& (255 : Int32)) := ⟨_, rfl⟩
      rw [← hvc]
      show own_Go p.tables e below _ (T33.setTop (mkF m 144 #[.val (.int p0), .val (.int p1), .val (.int vk), .val (.ref b1), .val (.int vc), .unset, .unset] []))
      refine own_go (fun _ k => XS.iload X33.here hx rfl (hb hby at_144) rfl k) ?_
      show own_Go p.tables e below _ (T33.setTop (mkF m 146 #[.val (.int p0), .val (.int p1), .val (.int vk), .val (.ref b1), .val (.int vc), .unset, .unset] [(.int vc)]))
      refine own_go (fun _ k => XS.bipush X33.here hx rfl (hb hby at_146) k) ?_
      show own_Go p.tables e below _ (T33.setTop (mkF m 148 #[.val (.int p0), .val (.int p1), .val (.int vk), .val (.ref b1), .val (.int vc), .unset, .unset] [(.int (60 : Int32)), (.int vc)]))
      have sg37 : ∀ t, Steps p.tables e below (T33.setTop (mkF m 212 #[.val (.int p0), .val (.int p1), .val (.int vk), .val (.ref b1), .val (.int vc), .unset, .unset] [(.int (if vc = (60 : Int32) then (1 : Int32) else (if vc = (62 : Int32) then (1 : Int32) else (if vc = (34 : Int32) then (1 : Int32) else (if vc = (123 : Int32) then (1 : Int32) else (if vc = (125 : Int32) then (1 : Int32) else (if vc = (124 : Int32) then (1 : Int32) else (if vc = (94 : Int32) then (1 : Int32) else (if vc = (96 : Int32) then (1 : Int32) else (if vc = (92 : Int32) then (1 : Int32) else (0 : Int32)))))))))))])) t → Steps p.tables e below (T33.setTop (mkF m 148 #[.val (.int p0), .val (.int p1), .val (.int vk), .val (.ref b1), .val (.int vc), .unset, .unset] [(.int (60 : Int32)), (.int vc)])) t := by
        intro t k
        by_cases hc148 : vc = (60 : Int32)
        · try simp only [if_pos hc148] at k
          refine XS.icmpYes X33.here hx rfl (pc0 := 148) (pc' := 207) rfl (hb hby at_148) rfl (teq hc148).1 (by decide) (by decide) ?_
          show Steps p.tables e below (T33.setTop (mkF m 207 #[.val (.int p0), .val (.int p1), .val (.int vk), .val (.ref b1), .val (.int vc), .unset, .unset] [])) _
          refine XS.iconst X33.here hx rfl (hb hby at_207) ?_
          show Steps p.tables e below (T33.setTop (mkF m 208 #[.val (.int p0), .val (.int p1), .val (.int vk), .val (.ref b1), .val (.int vc), .unset, .unset] [(.int (1 : Int32))])) _
          refine XS.goto X33.here hx rfl (pc0 := 208) (pc' := 212) rfl (hb hby at_208) (by decide) (by decide) ?_
          show Steps p.tables e below (T33.setTop (mkF m 212 #[.val (.int p0), .val (.int p1), .val (.int vk), .val (.ref b1), .val (.int vc), .unset, .unset] [(.int (1 : Int32))])) _
          exact k
        · try simp only [if_neg hc148] at k
          refine XS.icmpNo X33.here hx rfl (hb hby at_148) rfl (feq hc148).1 ?_
          show Steps p.tables e below (T33.setTop (mkF m 151 #[.val (.int p0), .val (.int p1), .val (.int vk), .val (.ref b1), .val (.int vc), .unset, .unset] [])) _
          refine XS.iload X33.here hx rfl (hb hby at_151) rfl ?_
          show Steps p.tables e below (T33.setTop (mkF m 153 #[.val (.int p0), .val (.int p1), .val (.int vk), .val (.ref b1), .val (.int vc), .unset, .unset] [(.int vc)])) _
          refine XS.bipush X33.here hx rfl (hb hby at_153) ?_
          show Steps p.tables e below (T33.setTop (mkF m 155 #[.val (.int p0), .val (.int p1), .val (.int vk), .val (.ref b1), .val (.int vc), .unset, .unset] [(.int (62 : Int32)), (.int vc)])) _
          by_cases hc155 : vc = (62 : Int32)
          · try simp only [if_pos hc155] at k
            refine XS.icmpYes X33.here hx rfl (pc0 := 155) (pc' := 207) rfl (hb hby at_155) rfl (teq hc155).1 (by decide) (by decide) ?_
            show Steps p.tables e below (T33.setTop (mkF m 207 #[.val (.int p0), .val (.int p1), .val (.int vk), .val (.ref b1), .val (.int vc), .unset, .unset] [])) _
            refine XS.iconst X33.here hx rfl (hb hby at_207) ?_
            show Steps p.tables e below (T33.setTop (mkF m 208 #[.val (.int p0), .val (.int p1), .val (.int vk), .val (.ref b1), .val (.int vc), .unset, .unset] [(.int (1 : Int32))])) _
            refine XS.goto X33.here hx rfl (pc0 := 208) (pc' := 212) rfl (hb hby at_208) (by decide) (by decide) ?_
            show Steps p.tables e below (T33.setTop (mkF m 212 #[.val (.int p0), .val (.int p1), .val (.int vk), .val (.ref b1), .val (.int vc), .unset, .unset] [(.int (1 : Int32))])) _
            exact k
          · try simp only [if_neg hc155] at k
            refine XS.icmpNo X33.here hx rfl (hb hby at_155) rfl (feq hc155).1 ?_
            show Steps p.tables e below (T33.setTop (mkF m 158 #[.val (.int p0), .val (.int p1), .val (.int vk), .val (.ref b1), .val (.int vc), .unset, .unset] [])) _
            refine XS.iload X33.here hx rfl (hb hby at_158) rfl ?_
            show Steps p.tables e below (T33.setTop (mkF m 160 #[.val (.int p0), .val (.int p1), .val (.int vk), .val (.ref b1), .val (.int vc), .unset, .unset] [(.int vc)])) _
            refine XS.bipush X33.here hx rfl (hb hby at_160) ?_
            show Steps p.tables e below (T33.setTop (mkF m 162 #[.val (.int p0), .val (.int p1), .val (.int vk), .val (.ref b1), .val (.int vc), .unset, .unset] [(.int (34 : Int32)), (.int vc)])) _
            by_cases hc162 : vc = (34 : Int32)
            · try simp only [if_pos hc162] at k
              refine XS.icmpYes X33.here hx rfl (pc0 := 162) (pc' := 207) rfl (hb hby at_162) rfl (teq hc162).1 (by decide) (by decide) ?_
              show Steps p.tables e below (T33.setTop (mkF m 207 #[.val (.int p0), .val (.int p1), .val (.int vk), .val (.ref b1), .val (.int vc), .unset, .unset] [])) _
              refine XS.iconst X33.here hx rfl (hb hby at_207) ?_
              show Steps p.tables e below (T33.setTop (mkF m 208 #[.val (.int p0), .val (.int p1), .val (.int vk), .val (.ref b1), .val (.int vc), .unset, .unset] [(.int (1 : Int32))])) _
              refine XS.goto X33.here hx rfl (pc0 := 208) (pc' := 212) rfl (hb hby at_208) (by decide) (by decide) ?_
              show Steps p.tables e below (T33.setTop (mkF m 212 #[.val (.int p0), .val (.int p1), .val (.int vk), .val (.ref b1), .val (.int vc), .unset, .unset] [(.int (1 : Int32))])) _
              exact k
            · try simp only [if_neg hc162] at k
              refine XS.icmpNo X33.here hx rfl (hb hby at_162) rfl (feq hc162).1 ?_
              show Steps p.tables e below (T33.setTop (mkF m 165 #[.val (.int p0), .val (.int p1), .val (.int vk), .val (.ref b1), .val (.int vc), .unset, .unset] [])) _
              refine XS.iload X33.here hx rfl (hb hby at_165) rfl ?_
              show Steps p.tables e below (T33.setTop (mkF m 167 #[.val (.int p0), .val (.int p1), .val (.int vk), .val (.ref b1), .val (.int vc), .unset, .unset] [(.int vc)])) _
              refine XS.bipush X33.here hx rfl (hb hby at_167) ?_
              show Steps p.tables e below (T33.setTop (mkF m 169 #[.val (.int p0), .val (.int p1), .val (.int vk), .val (.ref b1), .val (.int vc), .unset, .unset] [(.int (123 : Int32)), (.int vc)])) _
              by_cases hc169 : vc = (123 : Int32)
              · try simp only [if_pos hc169] at k
                refine XS.icmpYes X33.here hx rfl (pc0 := 169) (pc' := 207) rfl (hb hby at_169) rfl (teq hc169).1 (by decide) (by decide) ?_
                show Steps p.tables e below (T33.setTop (mkF m 207 #[.val (.int p0), .val (.int p1), .val (.int vk), .val (.ref b1), .val (.int vc), .unset, .unset] [])) _
                refine XS.iconst X33.here hx rfl (hb hby at_207) ?_
                show Steps p.tables e below (T33.setTop (mkF m 208 #[.val (.int p0), .val (.int p1), .val (.int vk), .val (.ref b1), .val (.int vc), .unset, .unset] [(.int (1 : Int32))])) _
                refine XS.goto X33.here hx rfl (pc0 := 208) (pc' := 212) rfl (hb hby at_208) (by decide) (by decide) ?_
                show Steps p.tables e below (T33.setTop (mkF m 212 #[.val (.int p0), .val (.int p1), .val (.int vk), .val (.ref b1), .val (.int vc), .unset, .unset] [(.int (1 : Int32))])) _
                exact k
              · try simp only [if_neg hc169] at k
                refine XS.icmpNo X33.here hx rfl (hb hby at_169) rfl (feq hc169).1 ?_
                show Steps p.tables e below (T33.setTop (mkF m 172 #[.val (.int p0), .val (.int p1), .val (.int vk), .val (.ref b1), .val (.int vc), .unset, .unset] [])) _
                refine XS.iload X33.here hx rfl (hb hby at_172) rfl ?_
                show Steps p.tables e below (T33.setTop (mkF m 174 #[.val (.int p0), .val (.int p1), .val (.int vk), .val (.ref b1), .val (.int vc), .unset, .unset] [(.int vc)])) _
                refine XS.bipush X33.here hx rfl (hb hby at_174) ?_
                show Steps p.tables e below (T33.setTop (mkF m 176 #[.val (.int p0), .val (.int p1), .val (.int vk), .val (.ref b1), .val (.int vc), .unset, .unset] [(.int (125 : Int32)), (.int vc)])) _
                by_cases hc176 : vc = (125 : Int32)
                · try simp only [if_pos hc176] at k
                  refine XS.icmpYes X33.here hx rfl (pc0 := 176) (pc' := 207) rfl (hb hby at_176) rfl (teq hc176).1 (by decide) (by decide) ?_
                  show Steps p.tables e below (T33.setTop (mkF m 207 #[.val (.int p0), .val (.int p1), .val (.int vk), .val (.ref b1), .val (.int vc), .unset, .unset] [])) _
                  refine XS.iconst X33.here hx rfl (hb hby at_207) ?_
                  show Steps p.tables e below (T33.setTop (mkF m 208 #[.val (.int p0), .val (.int p1), .val (.int vk), .val (.ref b1), .val (.int vc), .unset, .unset] [(.int (1 : Int32))])) _
                  refine XS.goto X33.here hx rfl (pc0 := 208) (pc' := 212) rfl (hb hby at_208) (by decide) (by decide) ?_
                  show Steps p.tables e below (T33.setTop (mkF m 212 #[.val (.int p0), .val (.int p1), .val (.int vk), .val (.ref b1), .val (.int vc), .unset, .unset] [(.int (1 : Int32))])) _
                  exact k
                · try simp only [if_neg hc176] at k
                  refine XS.icmpNo X33.here hx rfl (hb hby at_176) rfl (feq hc176).1 ?_
                  show Steps p.tables e below (T33.setTop (mkF m 179 #[.val (.int p0), .val (.int p1), .val (.int vk), .val (.ref b1), .val (.int vc), .unset, .unset] [])) _
                  refine XS.iload X33.here hx rfl (hb hby at_179) rfl ?_
                  show Steps p.tables e below (T33.setTop (mkF m 181 #[.val (.int p0), .val (.int p1), .val (.int vk), .val (.ref b1), .val (.int vc), .unset, .unset] [(.int vc)])) _
                  refine XS.bipush X33.here hx rfl (hb hby at_181) ?_
                  show Steps p.tables e below (T33.setTop (mkF m 183 #[.val (.int p0), .val (.int p1), .val (.int vk), .val (.ref b1), .val (.int vc), .unset, .unset] [(.int (124 : Int32)), (.int vc)])) _
                  by_cases hc183 : vc = (124 : Int32)
                  · try simp only [if_pos hc183] at k
                    refine XS.icmpYes X33.here hx rfl (pc0 := 183) (pc' := 207) rfl (hb hby at_183) rfl (teq hc183).1 (by decide) (by decide) ?_
                    show Steps p.tables e below (T33.setTop (mkF m 207 #[.val (.int p0), .val (.int p1), .val (.int vk), .val (.ref b1), .val (.int vc), .unset, .unset] [])) _
                    refine XS.iconst X33.here hx rfl (hb hby at_207) ?_
                    show Steps p.tables e below (T33.setTop (mkF m 208 #[.val (.int p0), .val (.int p1), .val (.int vk), .val (.ref b1), .val (.int vc), .unset, .unset] [(.int (1 : Int32))])) _
                    refine XS.goto X33.here hx rfl (pc0 := 208) (pc' := 212) rfl (hb hby at_208) (by decide) (by decide) ?_
                    show Steps p.tables e below (T33.setTop (mkF m 212 #[.val (.int p0), .val (.int p1), .val (.int vk), .val (.ref b1), .val (.int vc), .unset, .unset] [(.int (1 : Int32))])) _
                    exact k
                  · try simp only [if_neg hc183] at k
                    refine XS.icmpNo X33.here hx rfl (hb hby at_183) rfl (feq hc183).1 ?_
                    show Steps p.tables e below (T33.setTop (mkF m 186 #[.val (.int p0), .val (.int p1), .val (.int vk), .val (.ref b1), .val (.int vc), .unset, .unset] [])) _
                    refine XS.iload X33.here hx rfl (hb hby at_186) rfl ?_
                    show Steps p.tables e below (T33.setTop (mkF m 188 #[.val (.int p0), .val (.int p1), .val (.int vk), .val (.ref b1), .val (.int vc), .unset, .unset] [(.int vc)])) _
                    refine XS.bipush X33.here hx rfl (hb hby at_188) ?_
                    show Steps p.tables e below (T33.setTop (mkF m 190 #[.val (.int p0), .val (.int p1), .val (.int vk), .val (.ref b1), .val (.int vc), .unset, .unset] [(.int (94 : Int32)), (.int vc)])) _
                    by_cases hc190 : vc = (94 : Int32)
                    · try simp only [if_pos hc190] at k
                      refine XS.icmpYes X33.here hx rfl (pc0 := 190) (pc' := 207) rfl (hb hby at_190) rfl (teq hc190).1 (by decide) (by decide) ?_
                      show Steps p.tables e below (T33.setTop (mkF m 207 #[.val (.int p0), .val (.int p1), .val (.int vk), .val (.ref b1), .val (.int vc), .unset, .unset] [])) _
                      refine XS.iconst X33.here hx rfl (hb hby at_207) ?_
                      show Steps p.tables e below (T33.setTop (mkF m 208 #[.val (.int p0), .val (.int p1), .val (.int vk), .val (.ref b1), .val (.int vc), .unset, .unset] [(.int (1 : Int32))])) _
                      refine XS.goto X33.here hx rfl (pc0 := 208) (pc' := 212) rfl (hb hby at_208) (by decide) (by decide) ?_
                      show Steps p.tables e below (T33.setTop (mkF m 212 #[.val (.int p0), .val (.int p1), .val (.int vk), .val (.ref b1), .val (.int vc), .unset, .unset] [(.int (1 : Int32))])) _
                      exact k
                    · try simp only [if_neg hc190] at k
                      refine XS.icmpNo X33.here hx rfl (hb hby at_190) rfl (feq hc190).1 ?_
                      show Steps p.tables e below (T33.setTop (mkF m 193 #[.val (.int p0), .val (.int p1), .val (.int vk), .val (.ref b1), .val (.int vc), .unset, .unset] [])) _
                      refine XS.iload X33.here hx rfl (hb hby at_193) rfl ?_
                      show Steps p.tables e below (T33.setTop (mkF m 195 #[.val (.int p0), .val (.int p1), .val (.int vk), .val (.ref b1), .val (.int vc), .unset, .unset] [(.int vc)])) _
                      refine XS.bipush X33.here hx rfl (hb hby at_195) ?_
                      show Steps p.tables e below (T33.setTop (mkF m 197 #[.val (.int p0), .val (.int p1), .val (.int vk), .val (.ref b1), .val (.int vc), .unset, .unset] [(.int (96 : Int32)), (.int vc)])) _
                      by_cases hc197 : vc = (96 : Int32)
                      · try simp only [if_pos hc197] at k
                        refine XS.icmpYes X33.here hx rfl (pc0 := 197) (pc' := 207) rfl (hb hby at_197) rfl (teq hc197).1 (by decide) (by decide) ?_
                        show Steps p.tables e below (T33.setTop (mkF m 207 #[.val (.int p0), .val (.int p1), .val (.int vk), .val (.ref b1), .val (.int vc), .unset, .unset] [])) _
                        refine XS.iconst X33.here hx rfl (hb hby at_207) ?_
                        show Steps p.tables e below (T33.setTop (mkF m 208 #[.val (.int p0), .val (.int p1), .val (.int vk), .val (.ref b1), .val (.int vc), .unset, .unset] [(.int (1 : Int32))])) _
                        refine XS.goto X33.here hx rfl (pc0 := 208) (pc' := 212) rfl (hb hby at_208) (by decide) (by decide) ?_
                        show Steps p.tables e below (T33.setTop (mkF m 212 #[.val (.int p0), .val (.int p1), .val (.int vk), .val (.ref b1), .val (.int vc), .unset, .unset] [(.int (1 : Int32))])) _
                        exact k
                      · try simp only [if_neg hc197] at k
                        refine XS.icmpNo X33.here hx rfl (hb hby at_197) rfl (feq hc197).1 ?_
                        show Steps p.tables e below (T33.setTop (mkF m 200 #[.val (.int p0), .val (.int p1), .val (.int vk), .val (.ref b1), .val (.int vc), .unset, .unset] [])) _
                        refine XS.iload X33.here hx rfl (hb hby at_200) rfl ?_
                        show Steps p.tables e below (T33.setTop (mkF m 202 #[.val (.int p0), .val (.int p1), .val (.int vk), .val (.ref b1), .val (.int vc), .unset, .unset] [(.int vc)])) _
                        refine XS.bipush X33.here hx rfl (hb hby at_202) ?_
                        show Steps p.tables e below (T33.setTop (mkF m 204 #[.val (.int p0), .val (.int p1), .val (.int vk), .val (.ref b1), .val (.int vc), .unset, .unset] [(.int (92 : Int32)), (.int vc)])) _
                        by_cases hc204 : vc = (92 : Int32)
                        · try simp only [if_pos hc204] at k
                          refine XS.icmpNo X33.here hx rfl (hb hby at_204) rfl (teq hc204).2 ?_
                          show Steps p.tables e below (T33.setTop (mkF m 207 #[.val (.int p0), .val (.int p1), .val (.int vk), .val (.ref b1), .val (.int vc), .unset, .unset] [])) _
                          refine XS.iconst X33.here hx rfl (hb hby at_207) ?_
                          show Steps p.tables e below (T33.setTop (mkF m 208 #[.val (.int p0), .val (.int p1), .val (.int vk), .val (.ref b1), .val (.int vc), .unset, .unset] [(.int (1 : Int32))])) _
                          refine XS.goto X33.here hx rfl (pc0 := 208) (pc' := 212) rfl (hb hby at_208) (by decide) (by decide) ?_
                          show Steps p.tables e below (T33.setTop (mkF m 212 #[.val (.int p0), .val (.int p1), .val (.int vk), .val (.ref b1), .val (.int vc), .unset, .unset] [(.int (1 : Int32))])) _
                          exact k
                        · try simp only [if_neg hc204] at k
                          refine XS.icmpYes X33.here hx rfl (pc0 := 204) (pc' := 211) rfl (hb hby at_204) rfl (feq hc204).2 (by decide) (by decide) ?_
                          show Steps p.tables e below (T33.setTop (mkF m 211 #[.val (.int p0), .val (.int p1), .val (.int vk), .val (.ref b1), .val (.int vc), .unset, .unset] [])) _
                          refine XS.iconst X33.here hx rfl (hb hby at_211) ?_
                          show Steps p.tables e below (T33.setTop (mkF m 212 #[.val (.int p0), .val (.int p1), .val (.int vk), .val (.ref b1), .val (.int vc), .unset, .unset] [(.int (0 : Int32))])) _
                          exact k
      refine own_go sg37 ?_
      show own_Go p.tables e below _ (T33.setTop (mkF m 212 #[.val (.int p0), .val (.int p1), .val (.int vk), .val (.ref b1), .val (.int vc), .unset, .unset] [(.int (if vc = (60 : Int32) then (1 : Int32) else (if vc = (62 : Int32) then (1 : Int32) else (if vc = (34 : Int32) then (1 : Int32) else (if vc = (123 : Int32) then (1 : Int32) else (if vc = (125 : Int32) then (1 : Int32) else (if vc = (124 : Int32) then (1 : Int32) else (if vc = (94 : Int32) then (1 : Int32) else (if vc = (96 : Int32) then (1 : Int32) else (if vc = (92 : Int32) then (1 : Int32) else (0 : Int32)))))))))))]))
      refine own_go (fun _ k => XS.istore X33.here hx rfl (hb hby at_212) rfl (l' := #[.val (.int p0), .val (.int p1), .val (.int vk), .val (.ref b1), .val (.int vc), .val (.int (if vc = (60 : Int32) then (1 : Int32) else (if vc = (62 : Int32) then (1 : Int32) else (if vc = (34 : Int32) then (1 : Int32) else (if vc = (123 : Int32) then (1 : Int32) else (if vc = (125 : Int32) then (1 : Int32) else (if vc = (124 : Int32) then (1 : Int32) else (if vc = (94 : Int32) then (1 : Int32) else (if vc = (96 : Int32) then (1 : Int32) else (if vc = (92 : Int32) then (1 : Int32) else (0 : Int32))))))))))), .unset]) rfl k) ?_
      show own_Go p.tables e below _ (T33.setTop (mkF m 214 #[.val (.int p0), .val (.int p1), .val (.int vk), .val (.ref b1), .val (.int vc), .val (.int (if vc = (60 : Int32) then (1 : Int32) else (if vc = (62 : Int32) then (1 : Int32) else (if vc = (34 : Int32) then (1 : Int32) else (if vc = (123 : Int32) then (1 : Int32) else (if vc = (125 : Int32) then (1 : Int32) else (if vc = (124 : Int32) then (1 : Int32) else (if vc = (94 : Int32) then (1 : Int32) else (if vc = (96 : Int32) then (1 : Int32) else (if vc = (92 : Int32) then (1 : Int32) else (0 : Int32))))))))))), .unset] []))
      refine own_go (fun _ k => XS.iload X33.here hx rfl (hb hby at_214) rfl k) ?_
      show own_Go p.tables e below _ (T33.setTop (mkF m 216 #[.val (.int p0), .val (.int p1), .val (.int vk), .val (.ref b1), .val (.int vc), .val (.int (if vc = (60 : Int32) then (1 : Int32) else (if vc = (62 : Int32) then (1 : Int32) else (if vc = (34 : Int32) then (1 : Int32) else (if vc = (123 : Int32) then (1 : Int32) else (if vc = (125 : Int32) then (1 : Int32) else (if vc = (124 : Int32) then (1 : Int32) else (if vc = (94 : Int32) then (1 : Int32) else (if vc = (96 : Int32) then (1 : Int32) else (if vc = (92 : Int32) then (1 : Int32) else (0 : Int32))))))))))), .unset] [(.int vc)]))
      refine own_go (fun _ k => XS.bipush X33.here hx rfl (hb hby at_216) k) ?_
      show own_Go p.tables e below _ (T33.setTop (mkF m 218 #[.val (.int p0), .val (.int p1), .val (.int vk), .val (.ref b1), .val (.int vc), .val (.int (if vc = (60 : Int32) then (1 : Int32) else (if vc = (62 : Int32) then (1 : Int32) else (if vc = (34 : Int32) then (1 : Int32) else (if vc = (123 : Int32) then (1 : Int32) else (if vc = (125 : Int32) then (1 : Int32) else (if vc = (124 : Int32) then (1 : Int32) else (if vc = (94 : Int32) then (1 : Int32) else (if vc = (96 : Int32) then (1 : Int32) else (if vc = (92 : Int32) then (1 : Int32) else (0 : Int32))))))))))), .unset] [(.int (32 : Int32)), (.int vc)]))
      have sg38 : ∀ t, Steps p.tables e below (T33.setTop (mkF m 241 #[.val (.int p0), .val (.int p1), .val (.int vk), .val (.ref b1), .val (.int vc), .val (.int (if vc = (60 : Int32) then (1 : Int32) else (if vc = (62 : Int32) then (1 : Int32) else (if vc = (34 : Int32) then (1 : Int32) else (if vc = (123 : Int32) then (1 : Int32) else (if vc = (125 : Int32) then (1 : Int32) else (if vc = (124 : Int32) then (1 : Int32) else (if vc = (94 : Int32) then (1 : Int32) else (if vc = (96 : Int32) then (1 : Int32) else (if vc = (92 : Int32) then (1 : Int32) else (0 : Int32))))))))))), .val (.int (if (32 : Int32) < vc then (if (if vc = (60 : Int32) then (1 : Int32) else (if vc = (62 : Int32) then (1 : Int32) else (if vc = (34 : Int32) then (1 : Int32) else (if vc = (123 : Int32) then (1 : Int32) else (if vc = (125 : Int32) then (1 : Int32) else (if vc = (124 : Int32) then (1 : Int32) else (if vc = (94 : Int32) then (1 : Int32) else (if vc = (96 : Int32) then (1 : Int32) else (if vc = (92 : Int32) then (1 : Int32) else (0 : Int32)))))))))) = (0 : Int32) then (1 : Int32) else (0 : Int32)) else (0 : Int32)))] [])) t → Steps p.tables e below (T33.setTop (mkF m 218 #[.val (.int p0), .val (.int p1), .val (.int vk), .val (.ref b1), .val (.int vc), .val (.int (if vc = (60 : Int32) then (1 : Int32) else (if vc = (62 : Int32) then (1 : Int32) else (if vc = (34 : Int32) then (1 : Int32) else (if vc = (123 : Int32) then (1 : Int32) else (if vc = (125 : Int32) then (1 : Int32) else (if vc = (124 : Int32) then (1 : Int32) else (if vc = (94 : Int32) then (1 : Int32) else (if vc = (96 : Int32) then (1 : Int32) else (if vc = (92 : Int32) then (1 : Int32) else (0 : Int32))))))))))), .unset] [(.int (32 : Int32)), (.int vc)])) t := by
        intro t k
        by_cases hc218 : (32 : Int32) < vc
        · try simp only [if_pos hc218] at k
          refine XS.icmpYes X33.here hx rfl (pc0 := 218) (pc' := 227) rfl (hb hby at_218) rfl (tlt hc218).2.2.1 (by decide) (by decide) ?_
          show Steps p.tables e below (T33.setTop (mkF m 227 #[.val (.int p0), .val (.int p1), .val (.int vk), .val (.ref b1), .val (.int vc), .val (.int (if vc = (60 : Int32) then (1 : Int32) else (if vc = (62 : Int32) then (1 : Int32) else (if vc = (34 : Int32) then (1 : Int32) else (if vc = (123 : Int32) then (1 : Int32) else (if vc = (125 : Int32) then (1 : Int32) else (if vc = (124 : Int32) then (1 : Int32) else (if vc = (94 : Int32) then (1 : Int32) else (if vc = (96 : Int32) then (1 : Int32) else (if vc = (92 : Int32) then (1 : Int32) else (0 : Int32))))))))))), .unset] [])) _
          refine XS.iload X33.here hx rfl (hb hby at_227) rfl ?_
          show Steps p.tables e below (T33.setTop (mkF m 229 #[.val (.int p0), .val (.int p1), .val (.int vk), .val (.ref b1), .val (.int vc), .val (.int (if vc = (60 : Int32) then (1 : Int32) else (if vc = (62 : Int32) then (1 : Int32) else (if vc = (34 : Int32) then (1 : Int32) else (if vc = (123 : Int32) then (1 : Int32) else (if vc = (125 : Int32) then (1 : Int32) else (if vc = (124 : Int32) then (1 : Int32) else (if vc = (94 : Int32) then (1 : Int32) else (if vc = (96 : Int32) then (1 : Int32) else (if vc = (92 : Int32) then (1 : Int32) else (0 : Int32))))))))))), .unset] [(.int (if vc = (60 : Int32) then (1 : Int32) else (if vc = (62 : Int32) then (1 : Int32) else (if vc = (34 : Int32) then (1 : Int32) else (if vc = (123 : Int32) then (1 : Int32) else (if vc = (125 : Int32) then (1 : Int32) else (if vc = (124 : Int32) then (1 : Int32) else (if vc = (94 : Int32) then (1 : Int32) else (if vc = (96 : Int32) then (1 : Int32) else (if vc = (92 : Int32) then (1 : Int32) else (0 : Int32)))))))))))])) _
          by_cases hc229 : (if vc = (60 : Int32) then (1 : Int32) else (if vc = (62 : Int32) then (1 : Int32) else (if vc = (34 : Int32) then (1 : Int32) else (if vc = (123 : Int32) then (1 : Int32) else (if vc = (125 : Int32) then (1 : Int32) else (if vc = (124 : Int32) then (1 : Int32) else (if vc = (94 : Int32) then (1 : Int32) else (if vc = (96 : Int32) then (1 : Int32) else (if vc = (92 : Int32) then (1 : Int32) else (0 : Int32)))))))))) = (0 : Int32)
          · try simp only [if_pos hc229] at k
            refine XS.ifYes X33.here hx rfl (pc0 := 229) (pc' := 238) rfl (hb hby at_229) rfl ((if0 _ _).trans (teq hc229).1) (by decide) (by decide) ?_
            show Steps p.tables e below (T33.setTop (mkF m 238 #[.val (.int p0), .val (.int p1), .val (.int vk), .val (.ref b1), .val (.int vc), .val (.int (if vc = (60 : Int32) then (1 : Int32) else (if vc = (62 : Int32) then (1 : Int32) else (if vc = (34 : Int32) then (1 : Int32) else (if vc = (123 : Int32) then (1 : Int32) else (if vc = (125 : Int32) then (1 : Int32) else (if vc = (124 : Int32) then (1 : Int32) else (if vc = (94 : Int32) then (1 : Int32) else (if vc = (96 : Int32) then (1 : Int32) else (if vc = (92 : Int32) then (1 : Int32) else (0 : Int32))))))))))), .unset] [])) _
            refine XS.iconst X33.here hx rfl (hb hby at_238) ?_
            show Steps p.tables e below (T33.setTop (mkF m 239 #[.val (.int p0), .val (.int p1), .val (.int vk), .val (.ref b1), .val (.int vc), .val (.int (if vc = (60 : Int32) then (1 : Int32) else (if vc = (62 : Int32) then (1 : Int32) else (if vc = (34 : Int32) then (1 : Int32) else (if vc = (123 : Int32) then (1 : Int32) else (if vc = (125 : Int32) then (1 : Int32) else (if vc = (124 : Int32) then (1 : Int32) else (if vc = (94 : Int32) then (1 : Int32) else (if vc = (96 : Int32) then (1 : Int32) else (if vc = (92 : Int32) then (1 : Int32) else (0 : Int32))))))))))), .unset] [(.int (1 : Int32))])) _
            refine XS.istore X33.here hx rfl (hb hby at_239) rfl (l' := #[.val (.int p0), .val (.int p1), .val (.int vk), .val (.ref b1), .val (.int vc), .val (.int (if vc = (60 : Int32) then (1 : Int32) else (if vc = (62 : Int32) then (1 : Int32) else (if vc = (34 : Int32) then (1 : Int32) else (if vc = (123 : Int32) then (1 : Int32) else (if vc = (125 : Int32) then (1 : Int32) else (if vc = (124 : Int32) then (1 : Int32) else (if vc = (94 : Int32) then (1 : Int32) else (if vc = (96 : Int32) then (1 : Int32) else (if vc = (92 : Int32) then (1 : Int32) else (0 : Int32))))))))))), .val (.int (1 : Int32))]) rfl ?_
            show Steps p.tables e below (T33.setTop (mkF m 241 #[.val (.int p0), .val (.int p1), .val (.int vk), .val (.ref b1), .val (.int vc), .val (.int (if vc = (60 : Int32) then (1 : Int32) else (if vc = (62 : Int32) then (1 : Int32) else (if vc = (34 : Int32) then (1 : Int32) else (if vc = (123 : Int32) then (1 : Int32) else (if vc = (125 : Int32) then (1 : Int32) else (if vc = (124 : Int32) then (1 : Int32) else (if vc = (94 : Int32) then (1 : Int32) else (if vc = (96 : Int32) then (1 : Int32) else (if vc = (92 : Int32) then (1 : Int32) else (0 : Int32))))))))))), .val (.int (1 : Int32))] [])) _
            exact k
          · try simp only [if_neg hc229] at k
            refine XS.ifNo X33.here hx rfl (hb hby at_229) rfl ((if0 _ _).trans (feq hc229).1) ?_
            show Steps p.tables e below (T33.setTop (mkF m 232 #[.val (.int p0), .val (.int p1), .val (.int vk), .val (.ref b1), .val (.int vc), .val (.int (if vc = (60 : Int32) then (1 : Int32) else (if vc = (62 : Int32) then (1 : Int32) else (if vc = (34 : Int32) then (1 : Int32) else (if vc = (123 : Int32) then (1 : Int32) else (if vc = (125 : Int32) then (1 : Int32) else (if vc = (124 : Int32) then (1 : Int32) else (if vc = (94 : Int32) then (1 : Int32) else (if vc = (96 : Int32) then (1 : Int32) else (if vc = (92 : Int32) then (1 : Int32) else (0 : Int32))))))))))), .unset] [])) _
            refine XS.iconst X33.here hx rfl (hb hby at_232) ?_
            show Steps p.tables e below (T33.setTop (mkF m 233 #[.val (.int p0), .val (.int p1), .val (.int vk), .val (.ref b1), .val (.int vc), .val (.int (if vc = (60 : Int32) then (1 : Int32) else (if vc = (62 : Int32) then (1 : Int32) else (if vc = (34 : Int32) then (1 : Int32) else (if vc = (123 : Int32) then (1 : Int32) else (if vc = (125 : Int32) then (1 : Int32) else (if vc = (124 : Int32) then (1 : Int32) else (if vc = (94 : Int32) then (1 : Int32) else (if vc = (96 : Int32) then (1 : Int32) else (if vc = (92 : Int32) then (1 : Int32) else (0 : Int32))))))))))), .unset] [(.int (0 : Int32))])) _
            refine XS.istore X33.here hx rfl (hb hby at_233) rfl (l' := #[.val (.int p0), .val (.int p1), .val (.int vk), .val (.ref b1), .val (.int vc), .val (.int (if vc = (60 : Int32) then (1 : Int32) else (if vc = (62 : Int32) then (1 : Int32) else (if vc = (34 : Int32) then (1 : Int32) else (if vc = (123 : Int32) then (1 : Int32) else (if vc = (125 : Int32) then (1 : Int32) else (if vc = (124 : Int32) then (1 : Int32) else (if vc = (94 : Int32) then (1 : Int32) else (if vc = (96 : Int32) then (1 : Int32) else (if vc = (92 : Int32) then (1 : Int32) else (0 : Int32))))))))))), .val (.int (0 : Int32))]) rfl ?_
            show Steps p.tables e below (T33.setTop (mkF m 235 #[.val (.int p0), .val (.int p1), .val (.int vk), .val (.ref b1), .val (.int vc), .val (.int (if vc = (60 : Int32) then (1 : Int32) else (if vc = (62 : Int32) then (1 : Int32) else (if vc = (34 : Int32) then (1 : Int32) else (if vc = (123 : Int32) then (1 : Int32) else (if vc = (125 : Int32) then (1 : Int32) else (if vc = (124 : Int32) then (1 : Int32) else (if vc = (94 : Int32) then (1 : Int32) else (if vc = (96 : Int32) then (1 : Int32) else (if vc = (92 : Int32) then (1 : Int32) else (0 : Int32))))))))))), .val (.int (0 : Int32))] [])) _
            refine XS.goto X33.here hx rfl (pc0 := 235) (pc' := 241) rfl (hb hby at_235) (by decide) (by decide) ?_
            show Steps p.tables e below (T33.setTop (mkF m 241 #[.val (.int p0), .val (.int p1), .val (.int vk), .val (.ref b1), .val (.int vc), .val (.int (if vc = (60 : Int32) then (1 : Int32) else (if vc = (62 : Int32) then (1 : Int32) else (if vc = (34 : Int32) then (1 : Int32) else (if vc = (123 : Int32) then (1 : Int32) else (if vc = (125 : Int32) then (1 : Int32) else (if vc = (124 : Int32) then (1 : Int32) else (if vc = (94 : Int32) then (1 : Int32) else (if vc = (96 : Int32) then (1 : Int32) else (if vc = (92 : Int32) then (1 : Int32) else (0 : Int32))))))))))), .val (.int (0 : Int32))] [])) _
            exact k
        · try simp only [if_neg hc218] at k
          refine XS.icmpNo X33.here hx rfl (hb hby at_218) rfl (flt hc218).2.2.1 ?_
          show Steps p.tables e below (T33.setTop (mkF m 221 #[.val (.int p0), .val (.int p1), .val (.int vk), .val (.ref b1), .val (.int vc), .val (.int (if vc = (60 : Int32) then (1 : Int32) else (if vc = (62 : Int32) then (1 : Int32) else (if vc = (34 : Int32) then (1 : Int32) else (if vc = (123 : Int32) then (1 : Int32) else (if vc = (125 : Int32) then (1 : Int32) else (if vc = (124 : Int32) then (1 : Int32) else (if vc = (94 : Int32) then (1 : Int32) else (if vc = (96 : Int32) then (1 : Int32) else (if vc = (92 : Int32) then (1 : Int32) else (0 : Int32))))))))))), .unset] [])) _
          refine XS.iconst X33.here hx rfl (hb hby at_221) ?_
          show Steps p.tables e below (T33.setTop (mkF m 222 #[.val (.int p0), .val (.int p1), .val (.int vk), .val (.ref b1), .val (.int vc), .val (.int (if vc = (60 : Int32) then (1 : Int32) else (if vc = (62 : Int32) then (1 : Int32) else (if vc = (34 : Int32) then (1 : Int32) else (if vc = (123 : Int32) then (1 : Int32) else (if vc = (125 : Int32) then (1 : Int32) else (if vc = (124 : Int32) then (1 : Int32) else (if vc = (94 : Int32) then (1 : Int32) else (if vc = (96 : Int32) then (1 : Int32) else (if vc = (92 : Int32) then (1 : Int32) else (0 : Int32))))))))))), .unset] [(.int (0 : Int32))])) _
          refine XS.istore X33.here hx rfl (hb hby at_222) rfl (l' := #[.val (.int p0), .val (.int p1), .val (.int vk), .val (.ref b1), .val (.int vc), .val (.int (if vc = (60 : Int32) then (1 : Int32) else (if vc = (62 : Int32) then (1 : Int32) else (if vc = (34 : Int32) then (1 : Int32) else (if vc = (123 : Int32) then (1 : Int32) else (if vc = (125 : Int32) then (1 : Int32) else (if vc = (124 : Int32) then (1 : Int32) else (if vc = (94 : Int32) then (1 : Int32) else (if vc = (96 : Int32) then (1 : Int32) else (if vc = (92 : Int32) then (1 : Int32) else (0 : Int32))))))))))), .val (.int (0 : Int32))]) rfl ?_
          show Steps p.tables e below (T33.setTop (mkF m 224 #[.val (.int p0), .val (.int p1), .val (.int vk), .val (.ref b1), .val (.int vc), .val (.int (if vc = (60 : Int32) then (1 : Int32) else (if vc = (62 : Int32) then (1 : Int32) else (if vc = (34 : Int32) then (1 : Int32) else (if vc = (123 : Int32) then (1 : Int32) else (if vc = (125 : Int32) then (1 : Int32) else (if vc = (124 : Int32) then (1 : Int32) else (if vc = (94 : Int32) then (1 : Int32) else (if vc = (96 : Int32) then (1 : Int32) else (if vc = (92 : Int32) then (1 : Int32) else (0 : Int32))))))))))), .val (.int (0 : Int32))] [])) _
          refine XS.goto X33.here hx rfl (pc0 := 224) (pc' := 241) rfl (hb hby at_224) (by decide) (by decide) ?_
          show Steps p.tables e below (T33.setTop (mkF m 241 #[.val (.int p0), .val (.int p1), .val (.int vk), .val (.ref b1), .val (.int vc), .val (.int (if vc = (60 : Int32) then (1 : Int32) else (if vc = (62 : Int32) then (1 : Int32) else (if vc = (34 : Int32) then (1 : Int32) else (if vc = (123 : Int32) then (1 : Int32) else (if vc = (125 : Int32) then (1 : Int32) else (if vc = (124 : Int32) then (1 : Int32) else (if vc = (94 : Int32) then (1 : Int32) else (if vc = (96 : Int32) then (1 : Int32) else (if vc = (92 : Int32) then (1 : Int32) else (0 : Int32))))))))))), .val (.int (0 : Int32))] [])) _
          exact k
      refine own_go sg38 ?_
      show own_Go p.tables e below _ (T33.setTop (mkF m 241 #[.val (.int p0), .val (.int p1), .val (.int vk), .val (.ref b1), .val (.int vc), .val (.int (if vc = (60 : Int32) then (1 : Int32) else (if vc = (62 : Int32) then (1 : Int32) else (if vc = (34 : Int32) then (1 : Int32) else (if vc = (123 : Int32) then (1 : Int32) else (if vc = (125 : Int32) then (1 : Int32) else (if vc = (124 : Int32) then (1 : Int32) else (if vc = (94 : Int32) then (1 : Int32) else (if vc = (96 : Int32) then (1 : Int32) else (if vc = (92 : Int32) then (1 : Int32) else (0 : Int32))))))))))), .val (.int (if (32 : Int32) < vc then (if (if vc = (60 : Int32) then (1 : Int32) else (if vc = (62 : Int32) then (1 : Int32) else (if vc = (34 : Int32) then (1 : Int32) else (if vc = (123 : Int32) then (1 : Int32) else (if vc = (125 : Int32) then (1 : Int32) else (if vc = (124 : Int32) then (1 : Int32) else (if vc = (94 : Int32) then (1 : Int32) else (if vc = (96 : Int32) then (1 : Int32) else (if vc = (92 : Int32) then (1 : Int32) else (0 : Int32)))))))))) = (0 : Int32) then (1 : Int32) else (0 : Int32)) else (0 : Int32)))] []))
      refine own_go (fun _ k => XS.iload X33.here hx rfl (hb hby at_241) rfl k) ?_
      show own_Go p.tables e below _ (T33.setTop (mkF m 243 #[.val (.int p0), .val (.int p1), .val (.int vk), .val (.ref b1), .val (.int vc), .val (.int (if vc = (60 : Int32) then (1 : Int32) else (if vc = (62 : Int32) then (1 : Int32) else (if vc = (34 : Int32) then (1 : Int32) else (if vc = (123 : Int32) then (1 : Int32) else (if vc = (125 : Int32) then (1 : Int32) else (if vc = (124 : Int32) then (1 : Int32) else (if vc = (94 : Int32) then (1 : Int32) else (if vc = (96 : Int32) then (1 : Int32) else (if vc = (92 : Int32) then (1 : Int32) else (0 : Int32))))))))))), .val (.int (if (32 : Int32) < vc then (if (if vc = (60 : Int32) then (1 : Int32) else (if vc = (62 : Int32) then (1 : Int32) else (if vc = (34 : Int32) then (1 : Int32) else (if vc = (123 : Int32) then (1 : Int32) else (if vc = (125 : Int32) then (1 : Int32) else (if vc = (124 : Int32) then (1 : Int32) else (if vc = (94 : Int32) then (1 : Int32) else (if vc = (96 : Int32) then (1 : Int32) else (if vc = (92 : Int32) then (1 : Int32) else (0 : Int32)))))))))) = (0 : Int32) then (1 : Int32) else (0 : Int32)) else (0 : Int32)))] [(.int vc)]))
      obtain ⟨_, _, ⟨T39, L39, k39, n39⟩, -, X39, hS39, hg39, ⟨Lc39, hQ39, l39, y39, z39, hC39⟩, st39⟩ := callSS X33 hx (y := (⟨"com/example/pathwise/pathwise/model/Iri", "allows", "(I)Z"⟩ : MethodName)) hown (mvT hZ (hw _ (List.mem_of_getElem? (i := 3) rfl))) (mvT hZ (hw _ (List.mem_of_getElem? (i := 4) rfl))) (mvT hZ (hw _ (List.mem_of_getElem? (i := 5) rfl))) (mvT hZ (hw _ (List.mem_of_getElem? (i := 6) rfl))) (by decide) (backOfSH (W := 0) (rm1 l Z az hw [] vc wc h33 n0 Z33 c33_0 hwc) hZ (hw _ (List.mem_of_getElem? (i := 6) rfl)) (hw _ (List.mem_of_getElem? (i := 5) rfl)) (by decide) (by decide) hEL HC) (g := (mkF m 243 #[.val (.int p0), .val (.int p1), .val (.int vk), .val (.ref b1), .val (.int vc), .val (.int (if vc = (60 : Int32) then (1 : Int32) else (if vc = (62 : Int32) then (1 : Int32) else (if vc = (34 : Int32) then (1 : Int32) else (if vc = (123 : Int32) then (1 : Int32) else (if vc = (125 : Int32) then (1 : Int32) else (if vc = (124 : Int32) then (1 : Int32) else (if vc = (94 : Int32) then (1 : Int32) else (if vc = (96 : Int32) then (1 : Int32) else (if vc = (92 : Int32) then (1 : Int32) else (0 : Int32))))))))))), .val (.int (if (32 : Int32) < vc then (if (if vc = (60 : Int32) then (1 : Int32) else (if vc = (62 : Int32) then (1 : Int32) else (if vc = (34 : Int32) then (1 : Int32) else (if vc = (123 : Int32) then (1 : Int32) else (if vc = (125 : Int32) then (1 : Int32) else (if vc = (124 : Int32) then (1 : Int32) else (if vc = (94 : Int32) then (1 : Int32) else (if vc = (96 : Int32) then (1 : Int32) else (if vc = (92 : Int32) then (1 : Int32) else (0 : Int32)))))))))) = (0 : Int32) then (1 : Int32) else (0 : Int32)) else (0 : Int32)))] [(.int vc)])) rfl (by rw [hml]; rfl) (argsL := [(.int vc)]) (rest := []) (lenOf pd0_0 rfl) rfl (by show 2 * 0 + _ ≤ _; exact Nat.le_of_eq rfl) (hb hby at_243) (fun _ _ => ⟨rfl, e33, (by decide : 1 + 2 ≤ _), (by decide : 16 + 40 ≤ _)⟩)
      dsimp only [Pt.U, Pt.locs, Pt.cells, Pt.slots] at X39 hS39 hg39 l39 y39 z39 st39 hQ39 hC39
      subst l39 y39 z39
      obtain ⟨X39, hS, hZ, hown⟩ := rebS hS (by rw [e33]; exact hk) X39 hS39 hg39 hZ hown
      have CR := CR.trans hC39
      have HC := hC39.1
      refine own_go (fun _ k => st39.trans k) ?_
      obtain ⟨rfl, N39q, K39⟩ := hQ39
      have N39 := Fr.app N33 N39q
      have E39 := own_kx K39
      have c39_0 := c33_0.ext E39
      have c39_2 := V33.ext E39
      have Z39 : n0 ≤ T39.heap.size := Nat.le_trans Z33 K39.1
      have hk := Nat.le_refl T39.heap.size
      show own_Go p.tables e below _ (T39.setTop (mkF m 246 #[.val (.int p0), .val (.int p1), .val (.int vk), .val (.ref b1), .val (.int vc), .val (.int (if vc = (60 : Int32) then (1 : Int32) else (if vc = (62 : Int32) then (1 : Int32) else (if vc = (34 : Int32) then (1 : Int32) else (if vc = (123 : Int32) then (1 : Int32) else (if vc = (125 : Int32) then (1 : Int32) else (if vc = (124 : Int32) then (1 : Int32) else (if vc = (94 : Int32) then (1 : Int32) else (if vc = (96 : Int32) then (1 : Int32) else (if vc = (92 : Int32) then (1 : Int32) else (0 : Int32))))))))))), .val (.int (if (32 : Int32) < vc then (if (if vc = (60 : Int32) then (1 : Int32) else (if vc = (62 : Int32) then (1 : Int32) else (if vc = (34 : Int32) then (1 : Int32) else (if vc = (123 : Int32) then (1 : Int32) else (if vc = (125 : Int32) then (1 : Int32) else (if vc = (124 : Int32) then (1 : Int32) else (if vc = (94 : Int32) then (1 : Int32) else (if vc = (96 : Int32) then (1 : Int32) else (if vc = (92 : Int32) then (1 : Int32) else (0 : Int32)))))))))) = (0 : Int32) then (1 : Int32) else (0 : Int32)) else (0 : Int32)))] [(.int (own_f1 vc))]))
      refine own_go (fun _ k => XS.iload X39.here hx rfl (hb hby at_246) rfl k) ?_
      show own_Go p.tables e below _ (T39.setTop (mkF m 248 #[.val (.int p0), .val (.int p1), .val (.int vk), .val (.ref b1), .val (.int vc), .val (.int (if vc = (60 : Int32) then (1 : Int32) else (if vc = (62 : Int32) then (1 : Int32) else (if vc = (34 : Int32) then (1 : Int32) else (if vc = (123 : Int32) then (1 : Int32) else (if vc = (125 : Int32) then (1 : Int32) else (if vc = (124 : Int32) then (1 : Int32) else (if vc = (94 : Int32) then (1 : Int32) else (if vc = (96 : Int32) then (1 : Int32) else (if vc = (92 : Int32) then (1 : Int32) else (0 : Int32))))))))))), .val (.int (if (32 : Int32) < vc then (if (if vc = (60 : Int32) then (1 : Int32) else (if vc = (62 : Int32) then (1 : Int32) else (if vc = (34 : Int32) then (1 : Int32) else (if vc = (123 : Int32) then (1 : Int32) else (if vc = (125 : Int32) then (1 : Int32) else (if vc = (124 : Int32) then (1 : Int32) else (if vc = (94 : Int32) then (1 : Int32) else (if vc = (96 : Int32) then (1 : Int32) else (if vc = (92 : Int32) then (1 : Int32) else (0 : Int32)))))))))) = (0 : Int32) then (1 : Int32) else (0 : Int32)) else (0 : Int32)))] [(.int (if (32 : Int32) < vc then (if (if vc = (60 : Int32) then (1 : Int32) else (if vc = (62 : Int32) then (1 : Int32) else (if vc = (34 : Int32) then (1 : Int32) else (if vc = (123 : Int32) then (1 : Int32) else (if vc = (125 : Int32) then (1 : Int32) else (if vc = (124 : Int32) then (1 : Int32) else (if vc = (94 : Int32) then (1 : Int32) else (if vc = (96 : Int32) then (1 : Int32) else (if vc = (92 : Int32) then (1 : Int32) else (0 : Int32)))))))))) = (0 : Int32) then (1 : Int32) else (0 : Int32)) else (0 : Int32))), (.int (own_f1 vc))]))
      have hf248 : (own_f1 vc) = (if (32 : Int32) < vc then (if (if vc = (60 : Int32) then (1 : Int32) else (if vc = (62 : Int32) then (1 : Int32) else (if vc = (34 : Int32) then (1 : Int32) else (if vc = (123 : Int32) then (1 : Int32) else (if vc = (125 : Int32) then (1 : Int32) else (if vc = (124 : Int32) then (1 : Int32) else (if vc = (94 : Int32) then (1 : Int32) else (if vc = (96 : Int32) then (1 : Int32) else (if vc = (92 : Int32) then (1 : Int32) else (0 : Int32)))))))))) = (0 : Int32) then (1 : Int32) else (0 : Int32)) else (0 : Int32)) := own_val vc
      refine own_go (fun _ k => XS.icmpNo X39.here hx rfl (hb hby at_248) rfl (teq hf248).2 k) ?_
      show own_Go p.tables e below _ (T39.setTop (mkF m 251 #[.val (.int p0), .val (.int p1), .val (.int vk), .val (.ref b1), .val (.int vc), .val (.int (if vc = (60 : Int32) then (1 : Int32) else (if vc = (62 : Int32) then (1 : Int32) else (if vc = (34 : Int32) then (1 : Int32) else (if vc = (123 : Int32) then (1 : Int32) else (if vc = (125 : Int32) then (1 : Int32) else (if vc = (124 : Int32) then (1 : Int32) else (if vc = (94 : Int32) then (1 : Int32) else (if vc = (96 : Int32) then (1 : Int32) else (if vc = (92 : Int32) then (1 : Int32) else (0 : Int32))))))))))), .val (.int (if (32 : Int32) < vc then (if (if vc = (60 : Int32) then (1 : Int32) else (if vc = (62 : Int32) then (1 : Int32) else (if vc = (34 : Int32) then (1 : Int32) else (if vc = (123 : Int32) then (1 : Int32) else (if vc = (125 : Int32) then (1 : Int32) else (if vc = (124 : Int32) then (1 : Int32) else (if vc = (94 : Int32) then (1 : Int32) else (if vc = (96 : Int32) then (1 : Int32) else (if vc = (92 : Int32) then (1 : Int32) else (0 : Int32)))))))))) = (0 : Int32) then (1 : Int32) else (0 : Int32)) else (0 : Int32)))] []))
      refine own_go (fun _ k => XS.iconst X39.here hx rfl (hb hby at_251) k) ?_
      show own_Go p.tables e below _ (T39.setTop (mkF m 252 #[.val (.int p0), .val (.int p1), .val (.int vk), .val (.ref b1), .val (.int vc), .val (.int (if vc = (60 : Int32) then (1 : Int32) else (if vc = (62 : Int32) then (1 : Int32) else (if vc = (34 : Int32) then (1 : Int32) else (if vc = (123 : Int32) then (1 : Int32) else (if vc = (125 : Int32) then (1 : Int32) else (if vc = (124 : Int32) then (1 : Int32) else (if vc = (94 : Int32) then (1 : Int32) else (if vc = (96 : Int32) then (1 : Int32) else (if vc = (92 : Int32) then (1 : Int32) else (0 : Int32))))))))))), .val (.int (if (32 : Int32) < vc then (if (if vc = (60 : Int32) then (1 : Int32) else (if vc = (62 : Int32) then (1 : Int32) else (if vc = (34 : Int32) then (1 : Int32) else (if vc = (123 : Int32) then (1 : Int32) else (if vc = (125 : Int32) then (1 : Int32) else (if vc = (124 : Int32) then (1 : Int32) else (if vc = (94 : Int32) then (1 : Int32) else (if vc = (96 : Int32) then (1 : Int32) else (if vc = (92 : Int32) then (1 : Int32) else (0 : Int32)))))))))) = (0 : Int32) then (1 : Int32) else (0 : Int32)) else (0 : Int32)))] [(.int (1 : Int32))]))
      refine own_go (fun _ k => XS.goto X39.here hx rfl (pc0 := 252) (pc' := 256) rfl (hb hby at_252) (by decide) (by decide) k) ?_
      show own_Go p.tables e below _ (T39.setTop (mkF m 256 #[.val (.int p0), .val (.int p1), .val (.int vk), .val (.ref b1), .val (.int vc), .val (.int (if vc = (60 : Int32) then (1 : Int32) else (if vc = (62 : Int32) then (1 : Int32) else (if vc = (34 : Int32) then (1 : Int32) else (if vc = (123 : Int32) then (1 : Int32) else (if vc = (125 : Int32) then (1 : Int32) else (if vc = (124 : Int32) then (1 : Int32) else (if vc = (94 : Int32) then (1 : Int32) else (if vc = (96 : Int32) then (1 : Int32) else (if vc = (92 : Int32) then (1 : Int32) else (0 : Int32))))))))))), .val (.int (if (32 : Int32) < vc then (if (if vc = (60 : Int32) then (1 : Int32) else (if vc = (62 : Int32) then (1 : Int32) else (if vc = (34 : Int32) then (1 : Int32) else (if vc = (123 : Int32) then (1 : Int32) else (if vc = (125 : Int32) then (1 : Int32) else (if vc = (124 : Int32) then (1 : Int32) else (if vc = (94 : Int32) then (1 : Int32) else (if vc = (96 : Int32) then (1 : Int32) else (if vc = (92 : Int32) then (1 : Int32) else (0 : Int32)))))))))) = (0 : Int32) then (1 : Int32) else (0 : Int32)) else (0 : Int32)))] [(.int (1 : Int32))]))
      refine own_endH X39 (by rw [hh, (rfl : T39.heap = T39.heap)]; exact CR.trans (CHv.at X39 hZ hEL HC)) hS (hk) Bd.notSynchronized (v := some (.int (1 : Int32))) (fun h => by rw [Bd.returns] at h; cases h) (fun fs hr => retN X39 hx (t := .boolean) Bd.returns (by simp) (hb hby at_256) hr) ?_ (by decide) (by decide)
      exact ⟨rfl, N39⟩
    · refine own_go (fun _ k => XS.icmpYes X33.here hx rfl (pc0 := 109) (pc' := 122) rfl (hb hby at_109) rfl (feq hc109).2 (by decide) (by decide) k) ?_
      show own_Go p.tables e below _ (T33.setTop (mkF m 122 #[.val (.int p0), .val (.int p1), .val (.int vk), .val (.ref b1), .unset, .unset, .unset] []))
      refine own_go (fun _ k => XS.iloadN X33.here hx rfl (hb hby at_122) rfl k) ?_
      show own_Go p.tables e below _ (T33.setTop (mkF m 123 #[.val (.int p0), .val (.int p1), .val (.int vk), .val (.ref b1), .unset, .unset, .unset] [(.int vk)]))
      refine own_go (fun _ k => XS.iconst X33.here hx rfl (hb hby at_123) k) ?_
      show own_Go p.tables e below _ (T33.setTop (mkF m 124 #[.val (.int p0), .val (.int p1), .val (.int vk), .val (.ref b1), .unset, .unset, .unset] [(.int (2 : Int32)), (.int vk)]))
      by_cases hc124 : vk = (2 : Int32)
      · refine own_go (fun _ k => XS.icmpNo X33.here hx rfl (hb hby at_124) rfl (teq hc124).2 k) ?_
        show own_Go p.tables e below _ (T33.setTop (mkF m 127 #[.val (.int p0), .val (.int p1), .val (.int vk), .val (.ref b1), .unset, .unset, .unset] []))
        refine own_go (fun _ k => XS.aloadN X33.here hx rfl (hb hby at_127) rfl rfl k) ?_
        show own_Go p.tables e below _ (T33.setTop (mkF m 128 #[.val (.int p0), .val (.int p1), .val (.int vk), .val (.ref b1), .unset, .unset, .unset] [(.ref b1)]))
        refine own_go (fun _ k => XS.iloadN X33.here hx rfl (hb hby at_128) rfl k) ?_
        show own_Go p.tables e below _ (T33.setTop (mkF m 129 #[.val (.int p0), .val (.int p1), .val (.int vk), .val (.ref b1), .unset, .unset, .unset] [(.int p1), (.ref b1)]))
        refine own_go (fun _ k => XS.bipush X33.here hx rfl (hb hby at_129) k) ?_
        show own_Go p.tables e below _ (T33.setTop (mkF m 131 #[.val (.int p0), .val (.int p1), .val (.int vk), .val (.ref b1), .unset, .unset, .unset] [(.int (15 : Int32)), (.int p1), (.ref b1)]))
        refine own_go (fun _ k => XS.iand X33.here hx rfl (hb hby at_131) rfl k) ?_
        show own_Go p.tables e below _ (T33.setTop (mkF m 132 #[.val (.int p0), .val (.int p1), .val (.int vk), .val (.ref b1), .unset, .unset, .unset] [(.int (p1 &&& (15 : Int32))), (.ref b1)]))
        have vo40 := V33
        obtain ⟨cl40, Ar40, Aq40, AS40, AN40, AH40, AG40⟩ := vo40
        have hin40 : ¬ ((p1 &&& (15 : Int32)) < 0 ∨ cl40.slots.size ≤ ((p1 &&& (15 : Int32))).toNatClampNeg) := inb_of AS40 (own_in p1)
        have hat40 : cl40.slots[((p1 &&& (15 : Int32))).toNatClampNeg]? = some (.int ([(32 : Int32), (33 : Int32), (0 : Int32), (-1 : Int32), (60 : Int32), (62 : Int32), (34 : Int32), (123 : Int32), (125 : Int32), (124 : Int32), (94 : Int32), (96 : Int32), (92 : Int32), (127 : Int32), (1114111 : Int32), (-2147483648 : Int32)].getD ((p1 &&& (15 : Int32))).toNatClampNeg 0)) := Has.at AH40 hin40 (own_mapI [(32 : Int32), (33 : Int32), (0 : Int32), (-1 : Int32), (60 : Int32), (62 : Int32), (34 : Int32), (123 : Int32), (125 : Int32), (124 : Int32), (94 : Int32), (96 : Int32), (92 : Int32), (127 : Int32), (1114111 : Int32), (-2147483648 : Int32)] _)
        refine own_go (fun _ k => X33.iaload hx (j := (p1 &&& (15 : Int32))) (v := (.int ([(32 : Int32), (33 : Int32), (0 : Int32), (-1 : Int32), (60 : Int32), (62 : Int32), (34 : Int32), (123 : Int32), (125 : Int32), (124 : Int32), (94 : Int32), (96 : Int32), (92 : Int32), (127 : Int32), (1114111 : Int32), (-2147483648 : Int32)].getD ((p1 &&& (15 : Int32))).toNatClampNeg 0))) (by rw [e33]; exact Ar40.1) (State.isArrayOf_alike hZ.alike Ar40.2.1) Ar40.2.2 hin40 hat40 (g := (mkF m 132 #[.val (.int p0), .val (.int p1), .val (.int vk), .val (.ref b1), .unset, .unset, .unset] [(.int (p1 &&& (15 : Int32))), (.ref b1)])) rfl rfl (hb hby at_132) _ k) ?_
        show own_Go p.tables e below _ (T33.setTop (mkF m 133 #[.val (.int p0), .val (.int p1), .val (.int vk), .val (.ref b1), .unset, .unset, .unset] [(.int ([(32 : Int32), (33 : Int32), (0 : Int32), (-1 : Int32), (60 : Int32), (62 : Int32), (34 : Int32), (123 : Int32), (125 : Int32), (124 : Int32), (94 : Int32), (96 : Int32), (92 : Int32), (127 : Int32), (1114111 : Int32), (-2147483648 : Int32)].getD ((p1 &&& (15 : Int32))).toNatClampNeg 0))]))
        refine own_go (fun _ k => XS.istore X33.here hx rfl (hb hby at_133) rfl (l' := #[.val (.int p0), .val (.int p1), .val (.int vk), .val (.ref b1), .val (.int ([(32 : Int32), (33 : Int32), (0 : Int32), (-1 : Int32), (60 : Int32), (62 : Int32), (34 : Int32), (123 : Int32), (125 : Int32), (124 : Int32), (94 : Int32), (96 : Int32), (92 : Int32), (127 : Int32), (1114111 : Int32), (-2147483648 : Int32)].getD ((p1 &&& (15 : Int32))).toNatClampNeg 0)), .unset, .unset]) rfl k) ?_
        show own_Go p.tables e below _ (T33.setTop (mkF m 135 #[.val (.int p0), .val (.int p1), .val (.int vk), .val (.ref b1), .val (.int ([(32 : Int32), (33 : Int32), (0 : Int32), (-1 : Int32), (60 : Int32), (62 : Int32), (34 : Int32), (123 : Int32), (125 : Int32), (124 : Int32), (94 : Int32), (96 : Int32), (92 : Int32), (127 : Int32), (1114111 : Int32), (-2147483648 : Int32)].getD ((p1 &&& (15 : Int32))).toNatClampNeg 0)), .unset, .unset] []))
        refine own_go (fun _ k => XS.goto X33.here hx rfl (pc0 := 135) (pc' := 144) rfl (hb hby at_135) (by decide) (by decide) k) ?_
        show own_Go p.tables e below _ (T33.setTop (mkF m 144 #[.val (.int p0), .val (.int p1), .val (.int vk), .val (.ref b1), .val (.int ([(32 : Int32), (33 : Int32), (0 : Int32), (-1 : Int32), (60 : Int32), (62 : Int32), (34 : Int32), (123 : Int32), (125 : Int32), (124 : Int32), (94 : Int32), (96 : Int32), (92 : Int32), (127 : Int32), (1114111 : Int32), (-2147483648 : Int32)].getD ((p1 &&& (15 : Int32))).toNatClampNeg 0)), .unset, .unset] []))
        obtain ⟨vc, hvc⟩ : ∃ z : Int32, z = ([(32 : Int32), (33 : Int32), (0 : Int32), (-1 : Int32), (60 : Int32), (62 : Int32), (34 : Int32), (123 : Int32), (125 : Int32), (124 : Int32), (94 : Int32), (96 : Int32), (92 : Int32), (127 : Int32), (1114111 : Int32), (-2147483648 : Int32)].getD ((p1 &&& (15 : Int32))).toNatClampNeg 0) := ⟨_, rfl⟩
        rw [← hvc]
        show own_Go p.tables e below _ (T33.setTop (mkF m 144 #[.val (.int p0), .val (.int p1), .val (.int vk), .val (.ref b1), .val (.int vc), .unset, .unset] []))
        refine own_go (fun _ k => XS.iload X33.here hx rfl (hb hby at_144) rfl k) ?_
        show own_Go p.tables e below _ (T33.setTop (mkF m 146 #[.val (.int p0), .val (.int p1), .val (.int vk), .val (.ref b1), .val (.int vc), .unset, .unset] [(.int vc)]))
        refine own_go (fun _ k => XS.bipush X33.here hx rfl (hb hby at_146) k) ?_
        show own_Go p.tables e below _ (T33.setTop (mkF m 148 #[.val (.int p0), .val (.int p1), .val (.int vk), .val (.ref b1), .val (.int vc), .unset, .unset] [(.int (60 : Int32)), (.int vc)]))
        have sg41 : ∀ t, Steps p.tables e below (T33.setTop (mkF m 212 #[.val (.int p0), .val (.int p1), .val (.int vk), .val (.ref b1), .val (.int vc), .unset, .unset] [(.int (if vc = (60 : Int32) then (1 : Int32) else (if vc = (62 : Int32) then (1 : Int32) else (if vc = (34 : Int32) then (1 : Int32) else (if vc = (123 : Int32) then (1 : Int32) else (if vc = (125 : Int32) then (1 : Int32) else (if vc = (124 : Int32) then (1 : Int32) else (if vc = (94 : Int32) then (1 : Int32) else (if vc = (96 : Int32) then (1 : Int32) else (if vc = (92 : Int32) then (1 : Int32) else (0 : Int32)))))))))))])) t → Steps p.tables e below (T33.setTop (mkF m 148 #[.val (.int p0), .val (.int p1), .val (.int vk), .val (.ref b1), .val (.int vc), .unset, .unset] [(.int (60 : Int32)), (.int vc)])) t := by
          intro t k
          by_cases hc148 : vc = (60 : Int32)
          · try simp only [if_pos hc148] at k
            refine XS.icmpYes X33.here hx rfl (pc0 := 148) (pc' := 207) rfl (hb hby at_148) rfl (teq hc148).1 (by decide) (by decide) ?_
            show Steps p.tables e below (T33.setTop (mkF m 207 #[.val (.int p0), .val (.int p1), .val (.int vk), .val (.ref b1), .val (.int vc), .unset, .unset] [])) _
            refine XS.iconst X33.here hx rfl (hb hby at_207) ?_
            show Steps p.tables e below (T33.setTop (mkF m 208 #[.val (.int p0), .val (.int p1), .val (.int vk), .val (.ref b1), .val (.int vc), .unset, .unset] [(.int (1 : Int32))])) _
            refine XS.goto X33.here hx rfl (pc0 := 208) (pc' := 212) rfl (hb hby at_208) (by decide) (by decide) ?_
            show Steps p.tables e below (T33.setTop (mkF m 212 #[.val (.int p0), .val (.int p1), .val (.int vk), .val (.ref b1), .val (.int vc), .unset, .unset] [(.int (1 : Int32))])) _
            exact k
          · try simp only [if_neg hc148] at k
            refine XS.icmpNo X33.here hx rfl (hb hby at_148) rfl (feq hc148).1 ?_
            show Steps p.tables e below (T33.setTop (mkF m 151 #[.val (.int p0), .val (.int p1), .val (.int vk), .val (.ref b1), .val (.int vc), .unset, .unset] [])) _
            refine XS.iload X33.here hx rfl (hb hby at_151) rfl ?_
            show Steps p.tables e below (T33.setTop (mkF m 153 #[.val (.int p0), .val (.int p1), .val (.int vk), .val (.ref b1), .val (.int vc), .unset, .unset] [(.int vc)])) _
            refine XS.bipush X33.here hx rfl (hb hby at_153) ?_
            show Steps p.tables e below (T33.setTop (mkF m 155 #[.val (.int p0), .val (.int p1), .val (.int vk), .val (.ref b1), .val (.int vc), .unset, .unset] [(.int (62 : Int32)), (.int vc)])) _
            by_cases hc155 : vc = (62 : Int32)
            · try simp only [if_pos hc155] at k
              refine XS.icmpYes X33.here hx rfl (pc0 := 155) (pc' := 207) rfl (hb hby at_155) rfl (teq hc155).1 (by decide) (by decide) ?_
              show Steps p.tables e below (T33.setTop (mkF m 207 #[.val (.int p0), .val (.int p1), .val (.int vk), .val (.ref b1), .val (.int vc), .unset, .unset] [])) _
              refine XS.iconst X33.here hx rfl (hb hby at_207) ?_
              show Steps p.tables e below (T33.setTop (mkF m 208 #[.val (.int p0), .val (.int p1), .val (.int vk), .val (.ref b1), .val (.int vc), .unset, .unset] [(.int (1 : Int32))])) _
              refine XS.goto X33.here hx rfl (pc0 := 208) (pc' := 212) rfl (hb hby at_208) (by decide) (by decide) ?_
              show Steps p.tables e below (T33.setTop (mkF m 212 #[.val (.int p0), .val (.int p1), .val (.int vk), .val (.ref b1), .val (.int vc), .unset, .unset] [(.int (1 : Int32))])) _
              exact k
            · try simp only [if_neg hc155] at k
              refine XS.icmpNo X33.here hx rfl (hb hby at_155) rfl (feq hc155).1 ?_
              show Steps p.tables e below (T33.setTop (mkF m 158 #[.val (.int p0), .val (.int p1), .val (.int vk), .val (.ref b1), .val (.int vc), .unset, .unset] [])) _
              refine XS.iload X33.here hx rfl (hb hby at_158) rfl ?_
              show Steps p.tables e below (T33.setTop (mkF m 160 #[.val (.int p0), .val (.int p1), .val (.int vk), .val (.ref b1), .val (.int vc), .unset, .unset] [(.int vc)])) _
              refine XS.bipush X33.here hx rfl (hb hby at_160) ?_
              show Steps p.tables e below (T33.setTop (mkF m 162 #[.val (.int p0), .val (.int p1), .val (.int vk), .val (.ref b1), .val (.int vc), .unset, .unset] [(.int (34 : Int32)), (.int vc)])) _
              by_cases hc162 : vc = (34 : Int32)
              · try simp only [if_pos hc162] at k
                refine XS.icmpYes X33.here hx rfl (pc0 := 162) (pc' := 207) rfl (hb hby at_162) rfl (teq hc162).1 (by decide) (by decide) ?_
                show Steps p.tables e below (T33.setTop (mkF m 207 #[.val (.int p0), .val (.int p1), .val (.int vk), .val (.ref b1), .val (.int vc), .unset, .unset] [])) _
                refine XS.iconst X33.here hx rfl (hb hby at_207) ?_
                show Steps p.tables e below (T33.setTop (mkF m 208 #[.val (.int p0), .val (.int p1), .val (.int vk), .val (.ref b1), .val (.int vc), .unset, .unset] [(.int (1 : Int32))])) _
                refine XS.goto X33.here hx rfl (pc0 := 208) (pc' := 212) rfl (hb hby at_208) (by decide) (by decide) ?_
                show Steps p.tables e below (T33.setTop (mkF m 212 #[.val (.int p0), .val (.int p1), .val (.int vk), .val (.ref b1), .val (.int vc), .unset, .unset] [(.int (1 : Int32))])) _
                exact k
              · try simp only [if_neg hc162] at k
                refine XS.icmpNo X33.here hx rfl (hb hby at_162) rfl (feq hc162).1 ?_
                show Steps p.tables e below (T33.setTop (mkF m 165 #[.val (.int p0), .val (.int p1), .val (.int vk), .val (.ref b1), .val (.int vc), .unset, .unset] [])) _
                refine XS.iload X33.here hx rfl (hb hby at_165) rfl ?_
                show Steps p.tables e below (T33.setTop (mkF m 167 #[.val (.int p0), .val (.int p1), .val (.int vk), .val (.ref b1), .val (.int vc), .unset, .unset] [(.int vc)])) _
                refine XS.bipush X33.here hx rfl (hb hby at_167) ?_
                show Steps p.tables e below (T33.setTop (mkF m 169 #[.val (.int p0), .val (.int p1), .val (.int vk), .val (.ref b1), .val (.int vc), .unset, .unset] [(.int (123 : Int32)), (.int vc)])) _
                by_cases hc169 : vc = (123 : Int32)
                · try simp only [if_pos hc169] at k
                  refine XS.icmpYes X33.here hx rfl (pc0 := 169) (pc' := 207) rfl (hb hby at_169) rfl (teq hc169).1 (by decide) (by decide) ?_
                  show Steps p.tables e below (T33.setTop (mkF m 207 #[.val (.int p0), .val (.int p1), .val (.int vk), .val (.ref b1), .val (.int vc), .unset, .unset] [])) _
                  refine XS.iconst X33.here hx rfl (hb hby at_207) ?_
                  show Steps p.tables e below (T33.setTop (mkF m 208 #[.val (.int p0), .val (.int p1), .val (.int vk), .val (.ref b1), .val (.int vc), .unset, .unset] [(.int (1 : Int32))])) _
                  refine XS.goto X33.here hx rfl (pc0 := 208) (pc' := 212) rfl (hb hby at_208) (by decide) (by decide) ?_
                  show Steps p.tables e below (T33.setTop (mkF m 212 #[.val (.int p0), .val (.int p1), .val (.int vk), .val (.ref b1), .val (.int vc), .unset, .unset] [(.int (1 : Int32))])) _
                  exact k
                · try simp only [if_neg hc169] at k
                  refine XS.icmpNo X33.here hx rfl (hb hby at_169) rfl (feq hc169).1 ?_
                  show Steps p.tables e below (T33.setTop (mkF m 172 #[.val (.int p0), .val (.int p1), .val (.int vk), .val (.ref b1), .val (.int vc), .unset, .unset] [])) _
                  refine XS.iload X33.here hx rfl (hb hby at_172) rfl ?_
                  show Steps p.tables e below (T33.setTop (mkF m 174 #[.val (.int p0), .val (.int p1), .val (.int vk), .val (.ref b1), .val (.int vc), .unset, .unset] [(.int vc)])) _
                  refine XS.bipush X33.here hx rfl (hb hby at_174) ?_
                  show Steps p.tables e below (T33.setTop (mkF m 176 #[.val (.int p0), .val (.int p1), .val (.int vk), .val (.ref b1), .val (.int vc), .unset, .unset] [(.int (125 : Int32)), (.int vc)])) _
                  by_cases hc176 : vc = (125 : Int32)
                  · try simp only [if_pos hc176] at k
                    refine XS.icmpYes X33.here hx rfl (pc0 := 176) (pc' := 207) rfl (hb hby at_176) rfl (teq hc176).1 (by decide) (by decide) ?_
                    show Steps p.tables e below (T33.setTop (mkF m 207 #[.val (.int p0), .val (.int p1), .val (.int vk), .val (.ref b1), .val (.int vc), .unset, .unset] [])) _
                    refine XS.iconst X33.here hx rfl (hb hby at_207) ?_
                    show Steps p.tables e below (T33.setTop (mkF m 208 #[.val (.int p0), .val (.int p1), .val (.int vk), .val (.ref b1), .val (.int vc), .unset, .unset] [(.int (1 : Int32))])) _
                    refine XS.goto X33.here hx rfl (pc0 := 208) (pc' := 212) rfl (hb hby at_208) (by decide) (by decide) ?_
                    show Steps p.tables e below (T33.setTop (mkF m 212 #[.val (.int p0), .val (.int p1), .val (.int vk), .val (.ref b1), .val (.int vc), .unset, .unset] [(.int (1 : Int32))])) _
                    exact k
                  · try simp only [if_neg hc176] at k
                    refine XS.icmpNo X33.here hx rfl (hb hby at_176) rfl (feq hc176).1 ?_
                    show Steps p.tables e below (T33.setTop (mkF m 179 #[.val (.int p0), .val (.int p1), .val (.int vk), .val (.ref b1), .val (.int vc), .unset, .unset] [])) _
                    refine XS.iload X33.here hx rfl (hb hby at_179) rfl ?_
                    show Steps p.tables e below (T33.setTop (mkF m 181 #[.val (.int p0), .val (.int p1), .val (.int vk), .val (.ref b1), .val (.int vc), .unset, .unset] [(.int vc)])) _
                    refine XS.bipush X33.here hx rfl (hb hby at_181) ?_
                    show Steps p.tables e below (T33.setTop (mkF m 183 #[.val (.int p0), .val (.int p1), .val (.int vk), .val (.ref b1), .val (.int vc), .unset, .unset] [(.int (124 : Int32)), (.int vc)])) _
                    by_cases hc183 : vc = (124 : Int32)
                    · try simp only [if_pos hc183] at k
                      refine XS.icmpYes X33.here hx rfl (pc0 := 183) (pc' := 207) rfl (hb hby at_183) rfl (teq hc183).1 (by decide) (by decide) ?_
                      show Steps p.tables e below (T33.setTop (mkF m 207 #[.val (.int p0), .val (.int p1), .val (.int vk), .val (.ref b1), .val (.int vc), .unset, .unset] [])) _
                      refine XS.iconst X33.here hx rfl (hb hby at_207) ?_
                      show Steps p.tables e below (T33.setTop (mkF m 208 #[.val (.int p0), .val (.int p1), .val (.int vk), .val (.ref b1), .val (.int vc), .unset, .unset] [(.int (1 : Int32))])) _
                      refine XS.goto X33.here hx rfl (pc0 := 208) (pc' := 212) rfl (hb hby at_208) (by decide) (by decide) ?_
                      show Steps p.tables e below (T33.setTop (mkF m 212 #[.val (.int p0), .val (.int p1), .val (.int vk), .val (.ref b1), .val (.int vc), .unset, .unset] [(.int (1 : Int32))])) _
                      exact k
                    · try simp only [if_neg hc183] at k
                      refine XS.icmpNo X33.here hx rfl (hb hby at_183) rfl (feq hc183).1 ?_
                      show Steps p.tables e below (T33.setTop (mkF m 186 #[.val (.int p0), .val (.int p1), .val (.int vk), .val (.ref b1), .val (.int vc), .unset, .unset] [])) _
                      refine XS.iload X33.here hx rfl (hb hby at_186) rfl ?_
                      show Steps p.tables e below (T33.setTop (mkF m 188 #[.val (.int p0), .val (.int p1), .val (.int vk), .val (.ref b1), .val (.int vc), .unset, .unset] [(.int vc)])) _
                      refine XS.bipush X33.here hx rfl (hb hby at_188) ?_
                      show Steps p.tables e below (T33.setTop (mkF m 190 #[.val (.int p0), .val (.int p1), .val (.int vk), .val (.ref b1), .val (.int vc), .unset, .unset] [(.int (94 : Int32)), (.int vc)])) _
                      by_cases hc190 : vc = (94 : Int32)
                      · try simp only [if_pos hc190] at k
                        refine XS.icmpYes X33.here hx rfl (pc0 := 190) (pc' := 207) rfl (hb hby at_190) rfl (teq hc190).1 (by decide) (by decide) ?_
                        show Steps p.tables e below (T33.setTop (mkF m 207 #[.val (.int p0), .val (.int p1), .val (.int vk), .val (.ref b1), .val (.int vc), .unset, .unset] [])) _
                        refine XS.iconst X33.here hx rfl (hb hby at_207) ?_
                        show Steps p.tables e below (T33.setTop (mkF m 208 #[.val (.int p0), .val (.int p1), .val (.int vk), .val (.ref b1), .val (.int vc), .unset, .unset] [(.int (1 : Int32))])) _
                        refine XS.goto X33.here hx rfl (pc0 := 208) (pc' := 212) rfl (hb hby at_208) (by decide) (by decide) ?_
                        show Steps p.tables e below (T33.setTop (mkF m 212 #[.val (.int p0), .val (.int p1), .val (.int vk), .val (.ref b1), .val (.int vc), .unset, .unset] [(.int (1 : Int32))])) _
                        exact k
                      · try simp only [if_neg hc190] at k
                        refine XS.icmpNo X33.here hx rfl (hb hby at_190) rfl (feq hc190).1 ?_
                        show Steps p.tables e below (T33.setTop (mkF m 193 #[.val (.int p0), .val (.int p1), .val (.int vk), .val (.ref b1), .val (.int vc), .unset, .unset] [])) _
                        refine XS.iload X33.here hx rfl (hb hby at_193) rfl ?_
                        show Steps p.tables e below (T33.setTop (mkF m 195 #[.val (.int p0), .val (.int p1), .val (.int vk), .val (.ref b1), .val (.int vc), .unset, .unset] [(.int vc)])) _
                        refine XS.bipush X33.here hx rfl (hb hby at_195) ?_
                        show Steps p.tables e below (T33.setTop (mkF m 197 #[.val (.int p0), .val (.int p1), .val (.int vk), .val (.ref b1), .val (.int vc), .unset, .unset] [(.int (96 : Int32)), (.int vc)])) _
                        by_cases hc197 : vc = (96 : Int32)
                        · try simp only [if_pos hc197] at k
                          refine XS.icmpYes X33.here hx rfl (pc0 := 197) (pc' := 207) rfl (hb hby at_197) rfl (teq hc197).1 (by decide) (by decide) ?_
                          show Steps p.tables e below (T33.setTop (mkF m 207 #[.val (.int p0), .val (.int p1), .val (.int vk), .val (.ref b1), .val (.int vc), .unset, .unset] [])) _
                          refine XS.iconst X33.here hx rfl (hb hby at_207) ?_
                          show Steps p.tables e below (T33.setTop (mkF m 208 #[.val (.int p0), .val (.int p1), .val (.int vk), .val (.ref b1), .val (.int vc), .unset, .unset] [(.int (1 : Int32))])) _
                          refine XS.goto X33.here hx rfl (pc0 := 208) (pc' := 212) rfl (hb hby at_208) (by decide) (by decide) ?_
                          show Steps p.tables e below (T33.setTop (mkF m 212 #[.val (.int p0), .val (.int p1), .val (.int vk), .val (.ref b1), .val (.int vc), .unset, .unset] [(.int (1 : Int32))])) _
                          exact k
                        · try simp only [if_neg hc197] at k
                          refine XS.icmpNo X33.here hx rfl (hb hby at_197) rfl (feq hc197).1 ?_
                          show Steps p.tables e below (T33.setTop (mkF m 200 #[.val (.int p0), .val (.int p1), .val (.int vk), .val (.ref b1), .val (.int vc), .unset, .unset] [])) _
                          refine XS.iload X33.here hx rfl (hb hby at_200) rfl ?_
                          show Steps p.tables e below (T33.setTop (mkF m 202 #[.val (.int p0), .val (.int p1), .val (.int vk), .val (.ref b1), .val (.int vc), .unset, .unset] [(.int vc)])) _
                          refine XS.bipush X33.here hx rfl (hb hby at_202) ?_
                          show Steps p.tables e below (T33.setTop (mkF m 204 #[.val (.int p0), .val (.int p1), .val (.int vk), .val (.ref b1), .val (.int vc), .unset, .unset] [(.int (92 : Int32)), (.int vc)])) _
                          by_cases hc204 : vc = (92 : Int32)
                          · try simp only [if_pos hc204] at k
                            refine XS.icmpNo X33.here hx rfl (hb hby at_204) rfl (teq hc204).2 ?_
                            show Steps p.tables e below (T33.setTop (mkF m 207 #[.val (.int p0), .val (.int p1), .val (.int vk), .val (.ref b1), .val (.int vc), .unset, .unset] [])) _
                            refine XS.iconst X33.here hx rfl (hb hby at_207) ?_
                            show Steps p.tables e below (T33.setTop (mkF m 208 #[.val (.int p0), .val (.int p1), .val (.int vk), .val (.ref b1), .val (.int vc), .unset, .unset] [(.int (1 : Int32))])) _
                            refine XS.goto X33.here hx rfl (pc0 := 208) (pc' := 212) rfl (hb hby at_208) (by decide) (by decide) ?_
                            show Steps p.tables e below (T33.setTop (mkF m 212 #[.val (.int p0), .val (.int p1), .val (.int vk), .val (.ref b1), .val (.int vc), .unset, .unset] [(.int (1 : Int32))])) _
                            exact k
                          · try simp only [if_neg hc204] at k
                            refine XS.icmpYes X33.here hx rfl (pc0 := 204) (pc' := 211) rfl (hb hby at_204) rfl (feq hc204).2 (by decide) (by decide) ?_
                            show Steps p.tables e below (T33.setTop (mkF m 211 #[.val (.int p0), .val (.int p1), .val (.int vk), .val (.ref b1), .val (.int vc), .unset, .unset] [])) _
                            refine XS.iconst X33.here hx rfl (hb hby at_211) ?_
                            show Steps p.tables e below (T33.setTop (mkF m 212 #[.val (.int p0), .val (.int p1), .val (.int vk), .val (.ref b1), .val (.int vc), .unset, .unset] [(.int (0 : Int32))])) _
                            exact k
        refine own_go sg41 ?_
        show own_Go p.tables e below _ (T33.setTop (mkF m 212 #[.val (.int p0), .val (.int p1), .val (.int vk), .val (.ref b1), .val (.int vc), .unset, .unset] [(.int (if vc = (60 : Int32) then (1 : Int32) else (if vc = (62 : Int32) then (1 : Int32) else (if vc = (34 : Int32) then (1 : Int32) else (if vc = (123 : Int32) then (1 : Int32) else (if vc = (125 : Int32) then (1 : Int32) else (if vc = (124 : Int32) then (1 : Int32) else (if vc = (94 : Int32) then (1 : Int32) else (if vc = (96 : Int32) then (1 : Int32) else (if vc = (92 : Int32) then (1 : Int32) else (0 : Int32)))))))))))]))
        refine own_go (fun _ k => XS.istore X33.here hx rfl (hb hby at_212) rfl (l' := #[.val (.int p0), .val (.int p1), .val (.int vk), .val (.ref b1), .val (.int vc), .val (.int (if vc = (60 : Int32) then (1 : Int32) else (if vc = (62 : Int32) then (1 : Int32) else (if vc = (34 : Int32) then (1 : Int32) else (if vc = (123 : Int32) then (1 : Int32) else (if vc = (125 : Int32) then (1 : Int32) else (if vc = (124 : Int32) then (1 : Int32) else (if vc = (94 : Int32) then (1 : Int32) else (if vc = (96 : Int32) then (1 : Int32) else (if vc = (92 : Int32) then (1 : Int32) else (0 : Int32))))))))))), .unset]) rfl k) ?_
        show own_Go p.tables e below _ (T33.setTop (mkF m 214 #[.val (.int p0), .val (.int p1), .val (.int vk), .val (.ref b1), .val (.int vc), .val (.int (if vc = (60 : Int32) then (1 : Int32) else (if vc = (62 : Int32) then (1 : Int32) else (if vc = (34 : Int32) then (1 : Int32) else (if vc = (123 : Int32) then (1 : Int32) else (if vc = (125 : Int32) then (1 : Int32) else (if vc = (124 : Int32) then (1 : Int32) else (if vc = (94 : Int32) then (1 : Int32) else (if vc = (96 : Int32) then (1 : Int32) else (if vc = (92 : Int32) then (1 : Int32) else (0 : Int32))))))))))), .unset] []))
        refine own_go (fun _ k => XS.iload X33.here hx rfl (hb hby at_214) rfl k) ?_
        show own_Go p.tables e below _ (T33.setTop (mkF m 216 #[.val (.int p0), .val (.int p1), .val (.int vk), .val (.ref b1), .val (.int vc), .val (.int (if vc = (60 : Int32) then (1 : Int32) else (if vc = (62 : Int32) then (1 : Int32) else (if vc = (34 : Int32) then (1 : Int32) else (if vc = (123 : Int32) then (1 : Int32) else (if vc = (125 : Int32) then (1 : Int32) else (if vc = (124 : Int32) then (1 : Int32) else (if vc = (94 : Int32) then (1 : Int32) else (if vc = (96 : Int32) then (1 : Int32) else (if vc = (92 : Int32) then (1 : Int32) else (0 : Int32))))))))))), .unset] [(.int vc)]))
        refine own_go (fun _ k => XS.bipush X33.here hx rfl (hb hby at_216) k) ?_
        show own_Go p.tables e below _ (T33.setTop (mkF m 218 #[.val (.int p0), .val (.int p1), .val (.int vk), .val (.ref b1), .val (.int vc), .val (.int (if vc = (60 : Int32) then (1 : Int32) else (if vc = (62 : Int32) then (1 : Int32) else (if vc = (34 : Int32) then (1 : Int32) else (if vc = (123 : Int32) then (1 : Int32) else (if vc = (125 : Int32) then (1 : Int32) else (if vc = (124 : Int32) then (1 : Int32) else (if vc = (94 : Int32) then (1 : Int32) else (if vc = (96 : Int32) then (1 : Int32) else (if vc = (92 : Int32) then (1 : Int32) else (0 : Int32))))))))))), .unset] [(.int (32 : Int32)), (.int vc)]))
        have sg42 : ∀ t, Steps p.tables e below (T33.setTop (mkF m 241 #[.val (.int p0), .val (.int p1), .val (.int vk), .val (.ref b1), .val (.int vc), .val (.int (if vc = (60 : Int32) then (1 : Int32) else (if vc = (62 : Int32) then (1 : Int32) else (if vc = (34 : Int32) then (1 : Int32) else (if vc = (123 : Int32) then (1 : Int32) else (if vc = (125 : Int32) then (1 : Int32) else (if vc = (124 : Int32) then (1 : Int32) else (if vc = (94 : Int32) then (1 : Int32) else (if vc = (96 : Int32) then (1 : Int32) else (if vc = (92 : Int32) then (1 : Int32) else (0 : Int32))))))))))), .val (.int (if (32 : Int32) < vc then (if (if vc = (60 : Int32) then (1 : Int32) else (if vc = (62 : Int32) then (1 : Int32) else (if vc = (34 : Int32) then (1 : Int32) else (if vc = (123 : Int32) then (1 : Int32) else (if vc = (125 : Int32) then (1 : Int32) else (if vc = (124 : Int32) then (1 : Int32) else (if vc = (94 : Int32) then (1 : Int32) else (if vc = (96 : Int32) then (1 : Int32) else (if vc = (92 : Int32) then (1 : Int32) else (0 : Int32)))))))))) = (0 : Int32) then (1 : Int32) else (0 : Int32)) else (0 : Int32)))] [])) t → Steps p.tables e below (T33.setTop (mkF m 218 #[.val (.int p0), .val (.int p1), .val (.int vk), .val (.ref b1), .val (.int vc), .val (.int (if vc = (60 : Int32) then (1 : Int32) else (if vc = (62 : Int32) then (1 : Int32) else (if vc = (34 : Int32) then (1 : Int32) else (if vc = (123 : Int32) then (1 : Int32) else (if vc = (125 : Int32) then (1 : Int32) else (if vc = (124 : Int32) then (1 : Int32) else (if vc = (94 : Int32) then (1 : Int32) else (if vc = (96 : Int32) then (1 : Int32) else (if vc = (92 : Int32) then (1 : Int32) else (0 : Int32))))))))))), .unset] [(.int (32 : Int32)), (.int vc)])) t := by
          intro t k
          by_cases hc218 : (32 : Int32) < vc
          · try simp only [if_pos hc218] at k
            refine XS.icmpYes X33.here hx rfl (pc0 := 218) (pc' := 227) rfl (hb hby at_218) rfl (tlt hc218).2.2.1 (by decide) (by decide) ?_
            show Steps p.tables e below (T33.setTop (mkF m 227 #[.val (.int p0), .val (.int p1), .val (.int vk), .val (.ref b1), .val (.int vc), .val (.int (if vc = (60 : Int32) then (1 : Int32) else (if vc = (62 : Int32) then (1 : Int32) else (if vc = (34 : Int32) then (1 : Int32) else (if vc = (123 : Int32) then (1 : Int32) else (if vc = (125 : Int32) then (1 : Int32) else (if vc = (124 : Int32) then (1 : Int32) else (if vc = (94 : Int32) then (1 : Int32) else (if vc = (96 : Int32) then (1 : Int32) else (if vc = (92 : Int32) then (1 : Int32) else (0 : Int32))))))))))), .unset] [])) _
            refine XS.iload X33.here hx rfl (hb hby at_227) rfl ?_
            show Steps p.tables e below (T33.setTop (mkF m 229 #[.val (.int p0), .val (.int p1), .val (.int vk), .val (.ref b1), .val (.int vc), .val (.int (if vc = (60 : Int32) then (1 : Int32) else (if vc = (62 : Int32) then (1 : Int32) else (if vc = (34 : Int32) then (1 : Int32) else (if vc = (123 : Int32) then (1 : Int32) else (if vc = (125 : Int32) then (1 : Int32) else (if vc = (124 : Int32) then (1 : Int32) else (if vc = (94 : Int32) then (1 : Int32) else (if vc = (96 : Int32) then (1 : Int32) else (if vc = (92 : Int32) then (1 : Int32) else (0 : Int32))))))))))), .unset] [(.int (if vc = (60 : Int32) then (1 : Int32) else (if vc = (62 : Int32) then (1 : Int32) else (if vc = (34 : Int32) then (1 : Int32) else (if vc = (123 : Int32) then (1 : Int32) else (if vc = (125 : Int32) then (1 : Int32) else (if vc = (124 : Int32) then (1 : Int32) else (if vc = (94 : Int32) then (1 : Int32) else (if vc = (96 : Int32) then (1 : Int32) else (if vc = (92 : Int32) then (1 : Int32) else (0 : Int32)))))))))))])) _
            by_cases hc229 : (if vc = (60 : Int32) then (1 : Int32) else (if vc = (62 : Int32) then (1 : Int32) else (if vc = (34 : Int32) then (1 : Int32) else (if vc = (123 : Int32) then (1 : Int32) else (if vc = (125 : Int32) then (1 : Int32) else (if vc = (124 : Int32) then (1 : Int32) else (if vc = (94 : Int32) then (1 : Int32) else (if vc = (96 : Int32) then (1 : Int32) else (if vc = (92 : Int32) then (1 : Int32) else (0 : Int32)))))))))) = (0 : Int32)
            · try simp only [if_pos hc229] at k
              refine XS.ifYes X33.here hx rfl (pc0 := 229) (pc' := 238) rfl (hb hby at_229) rfl ((if0 _ _).trans (teq hc229).1) (by decide) (by decide) ?_
              show Steps p.tables e below (T33.setTop (mkF m 238 #[.val (.int p0), .val (.int p1), .val (.int vk), .val (.ref b1), .val (.int vc), .val (.int (if vc = (60 : Int32) then (1 : Int32) else (if vc = (62 : Int32) then (1 : Int32) else (if vc = (34 : Int32) then (1 : Int32) else (if vc = (123 : Int32) then (1 : Int32) else (if vc = (125 : Int32) then (1 : Int32) else (if vc = (124 : Int32) then (1 : Int32) else (if vc = (94 : Int32) then (1 : Int32) else (if vc = (96 : Int32) then (1 : Int32) else (if vc = (92 : Int32) then (1 : Int32) else (0 : Int32))))))))))), .unset] [])) _
              refine XS.iconst X33.here hx rfl (hb hby at_238) ?_
              show Steps p.tables e below (T33.setTop (mkF m 239 #[.val (.int p0), .val (.int p1), .val (.int vk), .val (.ref b1), .val (.int vc), .val (.int (if vc = (60 : Int32) then (1 : Int32) else (if vc = (62 : Int32) then (1 : Int32) else (if vc = (34 : Int32) then (1 : Int32) else (if vc = (123 : Int32) then (1 : Int32) else (if vc = (125 : Int32) then (1 : Int32) else (if vc = (124 : Int32) then (1 : Int32) else (if vc = (94 : Int32) then (1 : Int32) else (if vc = (96 : Int32) then (1 : Int32) else (if vc = (92 : Int32) then (1 : Int32) else (0 : Int32))))))))))), .unset] [(.int (1 : Int32))])) _
              refine XS.istore X33.here hx rfl (hb hby at_239) rfl (l' := #[.val (.int p0), .val (.int p1), .val (.int vk), .val (.ref b1), .val (.int vc), .val (.int (if vc = (60 : Int32) then (1 : Int32) else (if vc = (62 : Int32) then (1 : Int32) else (if vc = (34 : Int32) then (1 : Int32) else (if vc = (123 : Int32) then (1 : Int32) else (if vc = (125 : Int32) then (1 : Int32) else (if vc = (124 : Int32) then (1 : Int32) else (if vc = (94 : Int32) then (1 : Int32) else (if vc = (96 : Int32) then (1 : Int32) else (if vc = (92 : Int32) then (1 : Int32) else (0 : Int32))))))))))), .val (.int (1 : Int32))]) rfl ?_
              show Steps p.tables e below (T33.setTop (mkF m 241 #[.val (.int p0), .val (.int p1), .val (.int vk), .val (.ref b1), .val (.int vc), .val (.int (if vc = (60 : Int32) then (1 : Int32) else (if vc = (62 : Int32) then (1 : Int32) else (if vc = (34 : Int32) then (1 : Int32) else (if vc = (123 : Int32) then (1 : Int32) else (if vc = (125 : Int32) then (1 : Int32) else (if vc = (124 : Int32) then (1 : Int32) else (if vc = (94 : Int32) then (1 : Int32) else (if vc = (96 : Int32) then (1 : Int32) else (if vc = (92 : Int32) then (1 : Int32) else (0 : Int32))))))))))), .val (.int (1 : Int32))] [])) _
              exact k
            · try simp only [if_neg hc229] at k
              refine XS.ifNo X33.here hx rfl (hb hby at_229) rfl ((if0 _ _).trans (feq hc229).1) ?_
              show Steps p.tables e below (T33.setTop (mkF m 232 #[.val (.int p0), .val (.int p1), .val (.int vk), .val (.ref b1), .val (.int vc), .val (.int (if vc = (60 : Int32) then (1 : Int32) else (if vc = (62 : Int32) then (1 : Int32) else (if vc = (34 : Int32) then (1 : Int32) else (if vc = (123 : Int32) then (1 : Int32) else (if vc = (125 : Int32) then (1 : Int32) else (if vc = (124 : Int32) then (1 : Int32) else (if vc = (94 : Int32) then (1 : Int32) else (if vc = (96 : Int32) then (1 : Int32) else (if vc = (92 : Int32) then (1 : Int32) else (0 : Int32))))))))))), .unset] [])) _
              refine XS.iconst X33.here hx rfl (hb hby at_232) ?_
              show Steps p.tables e below (T33.setTop (mkF m 233 #[.val (.int p0), .val (.int p1), .val (.int vk), .val (.ref b1), .val (.int vc), .val (.int (if vc = (60 : Int32) then (1 : Int32) else (if vc = (62 : Int32) then (1 : Int32) else (if vc = (34 : Int32) then (1 : Int32) else (if vc = (123 : Int32) then (1 : Int32) else (if vc = (125 : Int32) then (1 : Int32) else (if vc = (124 : Int32) then (1 : Int32) else (if vc = (94 : Int32) then (1 : Int32) else (if vc = (96 : Int32) then (1 : Int32) else (if vc = (92 : Int32) then (1 : Int32) else (0 : Int32))))))))))), .unset] [(.int (0 : Int32))])) _
              refine XS.istore X33.here hx rfl (hb hby at_233) rfl (l' := #[.val (.int p0), .val (.int p1), .val (.int vk), .val (.ref b1), .val (.int vc), .val (.int (if vc = (60 : Int32) then (1 : Int32) else (if vc = (62 : Int32) then (1 : Int32) else (if vc = (34 : Int32) then (1 : Int32) else (if vc = (123 : Int32) then (1 : Int32) else (if vc = (125 : Int32) then (1 : Int32) else (if vc = (124 : Int32) then (1 : Int32) else (if vc = (94 : Int32) then (1 : Int32) else (if vc = (96 : Int32) then (1 : Int32) else (if vc = (92 : Int32) then (1 : Int32) else (0 : Int32))))))))))), .val (.int (0 : Int32))]) rfl ?_
              show Steps p.tables e below (T33.setTop (mkF m 235 #[.val (.int p0), .val (.int p1), .val (.int vk), .val (.ref b1), .val (.int vc), .val (.int (if vc = (60 : Int32) then (1 : Int32) else (if vc = (62 : Int32) then (1 : Int32) else (if vc = (34 : Int32) then (1 : Int32) else (if vc = (123 : Int32) then (1 : Int32) else (if vc = (125 : Int32) then (1 : Int32) else (if vc = (124 : Int32) then (1 : Int32) else (if vc = (94 : Int32) then (1 : Int32) else (if vc = (96 : Int32) then (1 : Int32) else (if vc = (92 : Int32) then (1 : Int32) else (0 : Int32))))))))))), .val (.int (0 : Int32))] [])) _
              refine XS.goto X33.here hx rfl (pc0 := 235) (pc' := 241) rfl (hb hby at_235) (by decide) (by decide) ?_
              show Steps p.tables e below (T33.setTop (mkF m 241 #[.val (.int p0), .val (.int p1), .val (.int vk), .val (.ref b1), .val (.int vc), .val (.int (if vc = (60 : Int32) then (1 : Int32) else (if vc = (62 : Int32) then (1 : Int32) else (if vc = (34 : Int32) then (1 : Int32) else (if vc = (123 : Int32) then (1 : Int32) else (if vc = (125 : Int32) then (1 : Int32) else (if vc = (124 : Int32) then (1 : Int32) else (if vc = (94 : Int32) then (1 : Int32) else (if vc = (96 : Int32) then (1 : Int32) else (if vc = (92 : Int32) then (1 : Int32) else (0 : Int32))))))))))), .val (.int (0 : Int32))] [])) _
              exact k
          · try simp only [if_neg hc218] at k
            refine XS.icmpNo X33.here hx rfl (hb hby at_218) rfl (flt hc218).2.2.1 ?_
            show Steps p.tables e below (T33.setTop (mkF m 221 #[.val (.int p0), .val (.int p1), .val (.int vk), .val (.ref b1), .val (.int vc), .val (.int (if vc = (60 : Int32) then (1 : Int32) else (if vc = (62 : Int32) then (1 : Int32) else (if vc = (34 : Int32) then (1 : Int32) else (if vc = (123 : Int32) then (1 : Int32) else (if vc = (125 : Int32) then (1 : Int32) else (if vc = (124 : Int32) then (1 : Int32) else (if vc = (94 : Int32) then (1 : Int32) else (if vc = (96 : Int32) then (1 : Int32) else (if vc = (92 : Int32) then (1 : Int32) else (0 : Int32))))))))))), .unset] [])) _
            refine XS.iconst X33.here hx rfl (hb hby at_221) ?_
            show Steps p.tables e below (T33.setTop (mkF m 222 #[.val (.int p0), .val (.int p1), .val (.int vk), .val (.ref b1), .val (.int vc), .val (.int (if vc = (60 : Int32) then (1 : Int32) else (if vc = (62 : Int32) then (1 : Int32) else (if vc = (34 : Int32) then (1 : Int32) else (if vc = (123 : Int32) then (1 : Int32) else (if vc = (125 : Int32) then (1 : Int32) else (if vc = (124 : Int32) then (1 : Int32) else (if vc = (94 : Int32) then (1 : Int32) else (if vc = (96 : Int32) then (1 : Int32) else (if vc = (92 : Int32) then (1 : Int32) else (0 : Int32))))))))))), .unset] [(.int (0 : Int32))])) _
            refine XS.istore X33.here hx rfl (hb hby at_222) rfl (l' := #[.val (.int p0), .val (.int p1), .val (.int vk), .val (.ref b1), .val (.int vc), .val (.int (if vc = (60 : Int32) then (1 : Int32) else (if vc = (62 : Int32) then (1 : Int32) else (if vc = (34 : Int32) then (1 : Int32) else (if vc = (123 : Int32) then (1 : Int32) else (if vc = (125 : Int32) then (1 : Int32) else (if vc = (124 : Int32) then (1 : Int32) else (if vc = (94 : Int32) then (1 : Int32) else (if vc = (96 : Int32) then (1 : Int32) else (if vc = (92 : Int32) then (1 : Int32) else (0 : Int32))))))))))), .val (.int (0 : Int32))]) rfl ?_
            show Steps p.tables e below (T33.setTop (mkF m 224 #[.val (.int p0), .val (.int p1), .val (.int vk), .val (.ref b1), .val (.int vc), .val (.int (if vc = (60 : Int32) then (1 : Int32) else (if vc = (62 : Int32) then (1 : Int32) else (if vc = (34 : Int32) then (1 : Int32) else (if vc = (123 : Int32) then (1 : Int32) else (if vc = (125 : Int32) then (1 : Int32) else (if vc = (124 : Int32) then (1 : Int32) else (if vc = (94 : Int32) then (1 : Int32) else (if vc = (96 : Int32) then (1 : Int32) else (if vc = (92 : Int32) then (1 : Int32) else (0 : Int32))))))))))), .val (.int (0 : Int32))] [])) _
            refine XS.goto X33.here hx rfl (pc0 := 224) (pc' := 241) rfl (hb hby at_224) (by decide) (by decide) ?_
            show Steps p.tables e below (T33.setTop (mkF m 241 #[.val (.int p0), .val (.int p1), .val (.int vk), .val (.ref b1), .val (.int vc), .val (.int (if vc = (60 : Int32) then (1 : Int32) else (if vc = (62 : Int32) then (1 : Int32) else (if vc = (34 : Int32) then (1 : Int32) else (if vc = (123 : Int32) then (1 : Int32) else (if vc = (125 : Int32) then (1 : Int32) else (if vc = (124 : Int32) then (1 : Int32) else (if vc = (94 : Int32) then (1 : Int32) else (if vc = (96 : Int32) then (1 : Int32) else (if vc = (92 : Int32) then (1 : Int32) else (0 : Int32))))))))))), .val (.int (0 : Int32))] [])) _
            exact k
        refine own_go sg42 ?_
        show own_Go p.tables e below _ (T33.setTop (mkF m 241 #[.val (.int p0), .val (.int p1), .val (.int vk), .val (.ref b1), .val (.int vc), .val (.int (if vc = (60 : Int32) then (1 : Int32) else (if vc = (62 : Int32) then (1 : Int32) else (if vc = (34 : Int32) then (1 : Int32) else (if vc = (123 : Int32) then (1 : Int32) else (if vc = (125 : Int32) then (1 : Int32) else (if vc = (124 : Int32) then (1 : Int32) else (if vc = (94 : Int32) then (1 : Int32) else (if vc = (96 : Int32) then (1 : Int32) else (if vc = (92 : Int32) then (1 : Int32) else (0 : Int32))))))))))), .val (.int (if (32 : Int32) < vc then (if (if vc = (60 : Int32) then (1 : Int32) else (if vc = (62 : Int32) then (1 : Int32) else (if vc = (34 : Int32) then (1 : Int32) else (if vc = (123 : Int32) then (1 : Int32) else (if vc = (125 : Int32) then (1 : Int32) else (if vc = (124 : Int32) then (1 : Int32) else (if vc = (94 : Int32) then (1 : Int32) else (if vc = (96 : Int32) then (1 : Int32) else (if vc = (92 : Int32) then (1 : Int32) else (0 : Int32)))))))))) = (0 : Int32) then (1 : Int32) else (0 : Int32)) else (0 : Int32)))] []))
        refine own_go (fun _ k => XS.iload X33.here hx rfl (hb hby at_241) rfl k) ?_
        show own_Go p.tables e below _ (T33.setTop (mkF m 243 #[.val (.int p0), .val (.int p1), .val (.int vk), .val (.ref b1), .val (.int vc), .val (.int (if vc = (60 : Int32) then (1 : Int32) else (if vc = (62 : Int32) then (1 : Int32) else (if vc = (34 : Int32) then (1 : Int32) else (if vc = (123 : Int32) then (1 : Int32) else (if vc = (125 : Int32) then (1 : Int32) else (if vc = (124 : Int32) then (1 : Int32) else (if vc = (94 : Int32) then (1 : Int32) else (if vc = (96 : Int32) then (1 : Int32) else (if vc = (92 : Int32) then (1 : Int32) else (0 : Int32))))))))))), .val (.int (if (32 : Int32) < vc then (if (if vc = (60 : Int32) then (1 : Int32) else (if vc = (62 : Int32) then (1 : Int32) else (if vc = (34 : Int32) then (1 : Int32) else (if vc = (123 : Int32) then (1 : Int32) else (if vc = (125 : Int32) then (1 : Int32) else (if vc = (124 : Int32) then (1 : Int32) else (if vc = (94 : Int32) then (1 : Int32) else (if vc = (96 : Int32) then (1 : Int32) else (if vc = (92 : Int32) then (1 : Int32) else (0 : Int32)))))))))) = (0 : Int32) then (1 : Int32) else (0 : Int32)) else (0 : Int32)))] [(.int vc)]))
        obtain ⟨_, _, ⟨T43, L43, k43, n43⟩, -, X43, hS43, hg43, ⟨Lc43, hQ43, l43, y43, z43, hC43⟩, st43⟩ := callSS X33 hx (y := (⟨"com/example/pathwise/pathwise/model/Iri", "allows", "(I)Z"⟩ : MethodName)) hown (mvT hZ (hw _ (List.mem_of_getElem? (i := 3) rfl))) (mvT hZ (hw _ (List.mem_of_getElem? (i := 4) rfl))) (mvT hZ (hw _ (List.mem_of_getElem? (i := 5) rfl))) (mvT hZ (hw _ (List.mem_of_getElem? (i := 6) rfl))) (by decide) (backOfSH (W := 0) (rm1 l Z az hw [] vc wc h33 n0 Z33 c33_0 hwc) hZ (hw _ (List.mem_of_getElem? (i := 6) rfl)) (hw _ (List.mem_of_getElem? (i := 5) rfl)) (by decide) (by decide) hEL HC) (g := (mkF m 243 #[.val (.int p0), .val (.int p1), .val (.int vk), .val (.ref b1), .val (.int vc), .val (.int (if vc = (60 : Int32) then (1 : Int32) else (if vc = (62 : Int32) then (1 : Int32) else (if vc = (34 : Int32) then (1 : Int32) else (if vc = (123 : Int32) then (1 : Int32) else (if vc = (125 : Int32) then (1 : Int32) else (if vc = (124 : Int32) then (1 : Int32) else (if vc = (94 : Int32) then (1 : Int32) else (if vc = (96 : Int32) then (1 : Int32) else (if vc = (92 : Int32) then (1 : Int32) else (0 : Int32))))))))))), .val (.int (if (32 : Int32) < vc then (if (if vc = (60 : Int32) then (1 : Int32) else (if vc = (62 : Int32) then (1 : Int32) else (if vc = (34 : Int32) then (1 : Int32) else (if vc = (123 : Int32) then (1 : Int32) else (if vc = (125 : Int32) then (1 : Int32) else (if vc = (124 : Int32) then (1 : Int32) else (if vc = (94 : Int32) then (1 : Int32) else (if vc = (96 : Int32) then (1 : Int32) else (if vc = (92 : Int32) then (1 : Int32) else (0 : Int32)))))))))) = (0 : Int32) then (1 : Int32) else (0 : Int32)) else (0 : Int32)))] [(.int vc)])) rfl (by rw [hml]; rfl) (argsL := [(.int vc)]) (rest := []) (lenOf pd0_0 rfl) rfl (by show 2 * 0 + _ ≤ _; exact Nat.le_of_eq rfl) (hb hby at_243) (fun _ _ => ⟨rfl, e33, (by decide : 1 + 2 ≤ _), (by decide : 16 + 40 ≤ _)⟩)
        dsimp only [Pt.U, Pt.locs, Pt.cells, Pt.slots] at X43 hS43 hg43 l43 y43 z43 st43 hQ43 hC43
        subst l43 y43 z43
        obtain ⟨X43, hS, hZ, hown⟩ := rebS hS (by rw [e33]; exact hk) X43 hS43 hg43 hZ hown
        have CR := CR.trans hC43
        have HC := hC43.1
        refine own_go (fun _ k => st43.trans k) ?_
        obtain ⟨rfl, N43q, K43⟩ := hQ43
        have N43 := Fr.app N33 N43q
        have E43 := own_kx K43
        have c43_0 := c33_0.ext E43
        have c43_2 := V33.ext E43
        have Z43 : n0 ≤ T43.heap.size := Nat.le_trans Z33 K43.1
        have hk := Nat.le_refl T43.heap.size
        show own_Go p.tables e below _ (T43.setTop (mkF m 246 #[.val (.int p0), .val (.int p1), .val (.int vk), .val (.ref b1), .val (.int vc), .val (.int (if vc = (60 : Int32) then (1 : Int32) else (if vc = (62 : Int32) then (1 : Int32) else (if vc = (34 : Int32) then (1 : Int32) else (if vc = (123 : Int32) then (1 : Int32) else (if vc = (125 : Int32) then (1 : Int32) else (if vc = (124 : Int32) then (1 : Int32) else (if vc = (94 : Int32) then (1 : Int32) else (if vc = (96 : Int32) then (1 : Int32) else (if vc = (92 : Int32) then (1 : Int32) else (0 : Int32))))))))))), .val (.int (if (32 : Int32) < vc then (if (if vc = (60 : Int32) then (1 : Int32) else (if vc = (62 : Int32) then (1 : Int32) else (if vc = (34 : Int32) then (1 : Int32) else (if vc = (123 : Int32) then (1 : Int32) else (if vc = (125 : Int32) then (1 : Int32) else (if vc = (124 : Int32) then (1 : Int32) else (if vc = (94 : Int32) then (1 : Int32) else (if vc = (96 : Int32) then (1 : Int32) else (if vc = (92 : Int32) then (1 : Int32) else (0 : Int32)))))))))) = (0 : Int32) then (1 : Int32) else (0 : Int32)) else (0 : Int32)))] [(.int (own_f1 vc))]))
        refine own_go (fun _ k => XS.iload X43.here hx rfl (hb hby at_246) rfl k) ?_
        show own_Go p.tables e below _ (T43.setTop (mkF m 248 #[.val (.int p0), .val (.int p1), .val (.int vk), .val (.ref b1), .val (.int vc), .val (.int (if vc = (60 : Int32) then (1 : Int32) else (if vc = (62 : Int32) then (1 : Int32) else (if vc = (34 : Int32) then (1 : Int32) else (if vc = (123 : Int32) then (1 : Int32) else (if vc = (125 : Int32) then (1 : Int32) else (if vc = (124 : Int32) then (1 : Int32) else (if vc = (94 : Int32) then (1 : Int32) else (if vc = (96 : Int32) then (1 : Int32) else (if vc = (92 : Int32) then (1 : Int32) else (0 : Int32))))))))))), .val (.int (if (32 : Int32) < vc then (if (if vc = (60 : Int32) then (1 : Int32) else (if vc = (62 : Int32) then (1 : Int32) else (if vc = (34 : Int32) then (1 : Int32) else (if vc = (123 : Int32) then (1 : Int32) else (if vc = (125 : Int32) then (1 : Int32) else (if vc = (124 : Int32) then (1 : Int32) else (if vc = (94 : Int32) then (1 : Int32) else (if vc = (96 : Int32) then (1 : Int32) else (if vc = (92 : Int32) then (1 : Int32) else (0 : Int32)))))))))) = (0 : Int32) then (1 : Int32) else (0 : Int32)) else (0 : Int32)))] [(.int (if (32 : Int32) < vc then (if (if vc = (60 : Int32) then (1 : Int32) else (if vc = (62 : Int32) then (1 : Int32) else (if vc = (34 : Int32) then (1 : Int32) else (if vc = (123 : Int32) then (1 : Int32) else (if vc = (125 : Int32) then (1 : Int32) else (if vc = (124 : Int32) then (1 : Int32) else (if vc = (94 : Int32) then (1 : Int32) else (if vc = (96 : Int32) then (1 : Int32) else (if vc = (92 : Int32) then (1 : Int32) else (0 : Int32)))))))))) = (0 : Int32) then (1 : Int32) else (0 : Int32)) else (0 : Int32))), (.int (own_f1 vc))]))
        have hf248 : (own_f1 vc) = (if (32 : Int32) < vc then (if (if vc = (60 : Int32) then (1 : Int32) else (if vc = (62 : Int32) then (1 : Int32) else (if vc = (34 : Int32) then (1 : Int32) else (if vc = (123 : Int32) then (1 : Int32) else (if vc = (125 : Int32) then (1 : Int32) else (if vc = (124 : Int32) then (1 : Int32) else (if vc = (94 : Int32) then (1 : Int32) else (if vc = (96 : Int32) then (1 : Int32) else (if vc = (92 : Int32) then (1 : Int32) else (0 : Int32)))))))))) = (0 : Int32) then (1 : Int32) else (0 : Int32)) else (0 : Int32)) := own_val vc
        refine own_go (fun _ k => XS.icmpNo X43.here hx rfl (hb hby at_248) rfl (teq hf248).2 k) ?_
        show own_Go p.tables e below _ (T43.setTop (mkF m 251 #[.val (.int p0), .val (.int p1), .val (.int vk), .val (.ref b1), .val (.int vc), .val (.int (if vc = (60 : Int32) then (1 : Int32) else (if vc = (62 : Int32) then (1 : Int32) else (if vc = (34 : Int32) then (1 : Int32) else (if vc = (123 : Int32) then (1 : Int32) else (if vc = (125 : Int32) then (1 : Int32) else (if vc = (124 : Int32) then (1 : Int32) else (if vc = (94 : Int32) then (1 : Int32) else (if vc = (96 : Int32) then (1 : Int32) else (if vc = (92 : Int32) then (1 : Int32) else (0 : Int32))))))))))), .val (.int (if (32 : Int32) < vc then (if (if vc = (60 : Int32) then (1 : Int32) else (if vc = (62 : Int32) then (1 : Int32) else (if vc = (34 : Int32) then (1 : Int32) else (if vc = (123 : Int32) then (1 : Int32) else (if vc = (125 : Int32) then (1 : Int32) else (if vc = (124 : Int32) then (1 : Int32) else (if vc = (94 : Int32) then (1 : Int32) else (if vc = (96 : Int32) then (1 : Int32) else (if vc = (92 : Int32) then (1 : Int32) else (0 : Int32)))))))))) = (0 : Int32) then (1 : Int32) else (0 : Int32)) else (0 : Int32)))] []))
        refine own_go (fun _ k => XS.iconst X43.here hx rfl (hb hby at_251) k) ?_
        show own_Go p.tables e below _ (T43.setTop (mkF m 252 #[.val (.int p0), .val (.int p1), .val (.int vk), .val (.ref b1), .val (.int vc), .val (.int (if vc = (60 : Int32) then (1 : Int32) else (if vc = (62 : Int32) then (1 : Int32) else (if vc = (34 : Int32) then (1 : Int32) else (if vc = (123 : Int32) then (1 : Int32) else (if vc = (125 : Int32) then (1 : Int32) else (if vc = (124 : Int32) then (1 : Int32) else (if vc = (94 : Int32) then (1 : Int32) else (if vc = (96 : Int32) then (1 : Int32) else (if vc = (92 : Int32) then (1 : Int32) else (0 : Int32))))))))))), .val (.int (if (32 : Int32) < vc then (if (if vc = (60 : Int32) then (1 : Int32) else (if vc = (62 : Int32) then (1 : Int32) else (if vc = (34 : Int32) then (1 : Int32) else (if vc = (123 : Int32) then (1 : Int32) else (if vc = (125 : Int32) then (1 : Int32) else (if vc = (124 : Int32) then (1 : Int32) else (if vc = (94 : Int32) then (1 : Int32) else (if vc = (96 : Int32) then (1 : Int32) else (if vc = (92 : Int32) then (1 : Int32) else (0 : Int32)))))))))) = (0 : Int32) then (1 : Int32) else (0 : Int32)) else (0 : Int32)))] [(.int (1 : Int32))]))
        refine own_go (fun _ k => XS.goto X43.here hx rfl (pc0 := 252) (pc' := 256) rfl (hb hby at_252) (by decide) (by decide) k) ?_
        show own_Go p.tables e below _ (T43.setTop (mkF m 256 #[.val (.int p0), .val (.int p1), .val (.int vk), .val (.ref b1), .val (.int vc), .val (.int (if vc = (60 : Int32) then (1 : Int32) else (if vc = (62 : Int32) then (1 : Int32) else (if vc = (34 : Int32) then (1 : Int32) else (if vc = (123 : Int32) then (1 : Int32) else (if vc = (125 : Int32) then (1 : Int32) else (if vc = (124 : Int32) then (1 : Int32) else (if vc = (94 : Int32) then (1 : Int32) else (if vc = (96 : Int32) then (1 : Int32) else (if vc = (92 : Int32) then (1 : Int32) else (0 : Int32))))))))))), .val (.int (if (32 : Int32) < vc then (if (if vc = (60 : Int32) then (1 : Int32) else (if vc = (62 : Int32) then (1 : Int32) else (if vc = (34 : Int32) then (1 : Int32) else (if vc = (123 : Int32) then (1 : Int32) else (if vc = (125 : Int32) then (1 : Int32) else (if vc = (124 : Int32) then (1 : Int32) else (if vc = (94 : Int32) then (1 : Int32) else (if vc = (96 : Int32) then (1 : Int32) else (if vc = (92 : Int32) then (1 : Int32) else (0 : Int32)))))))))) = (0 : Int32) then (1 : Int32) else (0 : Int32)) else (0 : Int32)))] [(.int (1 : Int32))]))
        refine own_endH X43 (by rw [hh, (rfl : T43.heap = T43.heap)]; exact CR.trans (CHv.at X43 hZ hEL HC)) hS (hk) Bd.notSynchronized (v := some (.int (1 : Int32))) (fun h => by rw [Bd.returns] at h; cases h) (fun fs hr => retN X43 hx (t := .boolean) Bd.returns (by simp) (hb hby at_256) hr) ?_ (by decide) (by decide)
        exact ⟨rfl, N43⟩
      · refine own_go (fun _ k => XS.icmpYes X33.here hx rfl (pc0 := 124) (pc' := 138) rfl (hb hby at_124) rfl (feq hc124).2 (by decide) (by decide) k) ?_
        show own_Go p.tables e below _ (T33.setTop (mkF m 138 #[.val (.int p0), .val (.int p1), .val (.int vk), .val (.ref b1), .unset, .unset, .unset] []))
        refine own_go (fun _ k => XS.iloadN X33.here hx rfl (hb hby at_138) rfl k) ?_
        show own_Go p.tables e below _ (T33.setTop (mkF m 139 #[.val (.int p0), .val (.int p1), .val (.int vk), .val (.ref b1), .unset, .unset, .unset] [(.int p1)]))
        refine own_go (fun _ k => X33.ldcInt hx hown (mvT hZ (hw _ (List.mem_of_getElem? (i := 60) rfl))) (g := (mkF m 139 #[.val (.int p0), .val (.int p1), .val (.int vk), .val (.ref b1), .unset, .unset, .unset] [(.int p1)])) rfl (hb hby at_139) _ k) ?_
        show own_Go p.tables e below _ (T33.setTop (mkF m 141 #[.val (.int p0), .val (.int p1), .val (.int vk), .val (.ref b1), .unset, .unset, .unset] [(.int (2097151 : Int32)), (.int p1)]))
        refine own_go (fun _ k => XS.iand X33.here hx rfl (hb hby at_141) rfl k) ?_
        show own_Go p.tables e below _ (T33.setTop (mkF m 142 #[.val (.int p0), .val (.int p1), .val (.int vk), .val (.ref b1), .unset, .unset, .unset] [(.int (p1 &&& (2097151 : Int32)))]))
        refine own_go (fun _ k => XS.istore X33.here hx rfl (hb hby at_142) rfl (l' := #[.val (.int p0), .val (.int p1), .val (.int vk), .val (.ref b1), .val (.int (p1 &&& (2097151 : Int32))), .unset, .unset]) rfl k) ?_
        show own_Go p.tables e below _ (T33.setTop (mkF m 144 #[.val (.int p0), .val (.int p1), .val (.int vk), .val (.ref b1), .val (.int (p1 &&& (2097151 : Int32))), .unset, .unset] []))
        obtain ⟨vc, hvc⟩ : ∃ z : Int32, z = (p1 &&& (2097151 : Int32)) := ⟨_, rfl⟩
        rw [← hvc]
        show own_Go p.tables e below _ (T33.setTop (mkF m 144 #[.val (.int p0), .val (.int p1), .val (.int vk), .val (.ref b1), .val (.int vc), .unset, .unset] []))
        refine own_go (fun _ k => XS.iload X33.here hx rfl (hb hby at_144) rfl k) ?_
        show own_Go p.tables e below _ (T33.setTop (mkF m 146 #[.val (.int p0), .val (.int p1), .val (.int vk), .val (.ref b1), .val (.int vc), .unset, .unset] [(.int vc)]))
        refine own_go (fun _ k => XS.bipush X33.here hx rfl (hb hby at_146) k) ?_
        show own_Go p.tables e below _ (T33.setTop (mkF m 148 #[.val (.int p0), .val (.int p1), .val (.int vk), .val (.ref b1), .val (.int vc), .unset, .unset] [(.int (60 : Int32)), (.int vc)]))
        have sg44 : ∀ t, Steps p.tables e below (T33.setTop (mkF m 212 #[.val (.int p0), .val (.int p1), .val (.int vk), .val (.ref b1), .val (.int vc), .unset, .unset] [(.int (if vc = (60 : Int32) then (1 : Int32) else (if vc = (62 : Int32) then (1 : Int32) else (if vc = (34 : Int32) then (1 : Int32) else (if vc = (123 : Int32) then (1 : Int32) else (if vc = (125 : Int32) then (1 : Int32) else (if vc = (124 : Int32) then (1 : Int32) else (if vc = (94 : Int32) then (1 : Int32) else (if vc = (96 : Int32) then (1 : Int32) else (if vc = (92 : Int32) then (1 : Int32) else (0 : Int32)))))))))))])) t → Steps p.tables e below (T33.setTop (mkF m 148 #[.val (.int p0), .val (.int p1), .val (.int vk), .val (.ref b1), .val (.int vc), .unset, .unset] [(.int (60 : Int32)), (.int vc)])) t := by
          intro t k
          by_cases hc148 : vc = (60 : Int32)
          · try simp only [if_pos hc148] at k
            refine XS.icmpYes X33.here hx rfl (pc0 := 148) (pc' := 207) rfl (hb hby at_148) rfl (teq hc148).1 (by decide) (by decide) ?_
            show Steps p.tables e below (T33.setTop (mkF m 207 #[.val (.int p0), .val (.int p1), .val (.int vk), .val (.ref b1), .val (.int vc), .unset, .unset] [])) _
            refine XS.iconst X33.here hx rfl (hb hby at_207) ?_
            show Steps p.tables e below (T33.setTop (mkF m 208 #[.val (.int p0), .val (.int p1), .val (.int vk), .val (.ref b1), .val (.int vc), .unset, .unset] [(.int (1 : Int32))])) _
            refine XS.goto X33.here hx rfl (pc0 := 208) (pc' := 212) rfl (hb hby at_208) (by decide) (by decide) ?_
            show Steps p.tables e below (T33.setTop (mkF m 212 #[.val (.int p0), .val (.int p1), .val (.int vk), .val (.ref b1), .val (.int vc), .unset, .unset] [(.int (1 : Int32))])) _
            exact k
          · try simp only [if_neg hc148] at k
            refine XS.icmpNo X33.here hx rfl (hb hby at_148) rfl (feq hc148).1 ?_
            show Steps p.tables e below (T33.setTop (mkF m 151 #[.val (.int p0), .val (.int p1), .val (.int vk), .val (.ref b1), .val (.int vc), .unset, .unset] [])) _
            refine XS.iload X33.here hx rfl (hb hby at_151) rfl ?_
            show Steps p.tables e below (T33.setTop (mkF m 153 #[.val (.int p0), .val (.int p1), .val (.int vk), .val (.ref b1), .val (.int vc), .unset, .unset] [(.int vc)])) _
            refine XS.bipush X33.here hx rfl (hb hby at_153) ?_
            show Steps p.tables e below (T33.setTop (mkF m 155 #[.val (.int p0), .val (.int p1), .val (.int vk), .val (.ref b1), .val (.int vc), .unset, .unset] [(.int (62 : Int32)), (.int vc)])) _
            by_cases hc155 : vc = (62 : Int32)
            · try simp only [if_pos hc155] at k
              refine XS.icmpYes X33.here hx rfl (pc0 := 155) (pc' := 207) rfl (hb hby at_155) rfl (teq hc155).1 (by decide) (by decide) ?_
              show Steps p.tables e below (T33.setTop (mkF m 207 #[.val (.int p0), .val (.int p1), .val (.int vk), .val (.ref b1), .val (.int vc), .unset, .unset] [])) _
              refine XS.iconst X33.here hx rfl (hb hby at_207) ?_
              show Steps p.tables e below (T33.setTop (mkF m 208 #[.val (.int p0), .val (.int p1), .val (.int vk), .val (.ref b1), .val (.int vc), .unset, .unset] [(.int (1 : Int32))])) _
              refine XS.goto X33.here hx rfl (pc0 := 208) (pc' := 212) rfl (hb hby at_208) (by decide) (by decide) ?_
              show Steps p.tables e below (T33.setTop (mkF m 212 #[.val (.int p0), .val (.int p1), .val (.int vk), .val (.ref b1), .val (.int vc), .unset, .unset] [(.int (1 : Int32))])) _
              exact k
            · try simp only [if_neg hc155] at k
              refine XS.icmpNo X33.here hx rfl (hb hby at_155) rfl (feq hc155).1 ?_
              show Steps p.tables e below (T33.setTop (mkF m 158 #[.val (.int p0), .val (.int p1), .val (.int vk), .val (.ref b1), .val (.int vc), .unset, .unset] [])) _
              refine XS.iload X33.here hx rfl (hb hby at_158) rfl ?_
              show Steps p.tables e below (T33.setTop (mkF m 160 #[.val (.int p0), .val (.int p1), .val (.int vk), .val (.ref b1), .val (.int vc), .unset, .unset] [(.int vc)])) _
              refine XS.bipush X33.here hx rfl (hb hby at_160) ?_
              show Steps p.tables e below (T33.setTop (mkF m 162 #[.val (.int p0), .val (.int p1), .val (.int vk), .val (.ref b1), .val (.int vc), .unset, .unset] [(.int (34 : Int32)), (.int vc)])) _
              by_cases hc162 : vc = (34 : Int32)
              · try simp only [if_pos hc162] at k
                refine XS.icmpYes X33.here hx rfl (pc0 := 162) (pc' := 207) rfl (hb hby at_162) rfl (teq hc162).1 (by decide) (by decide) ?_
                show Steps p.tables e below (T33.setTop (mkF m 207 #[.val (.int p0), .val (.int p1), .val (.int vk), .val (.ref b1), .val (.int vc), .unset, .unset] [])) _
                refine XS.iconst X33.here hx rfl (hb hby at_207) ?_
                show Steps p.tables e below (T33.setTop (mkF m 208 #[.val (.int p0), .val (.int p1), .val (.int vk), .val (.ref b1), .val (.int vc), .unset, .unset] [(.int (1 : Int32))])) _
                refine XS.goto X33.here hx rfl (pc0 := 208) (pc' := 212) rfl (hb hby at_208) (by decide) (by decide) ?_
                show Steps p.tables e below (T33.setTop (mkF m 212 #[.val (.int p0), .val (.int p1), .val (.int vk), .val (.ref b1), .val (.int vc), .unset, .unset] [(.int (1 : Int32))])) _
                exact k
              · try simp only [if_neg hc162] at k
                refine XS.icmpNo X33.here hx rfl (hb hby at_162) rfl (feq hc162).1 ?_
                show Steps p.tables e below (T33.setTop (mkF m 165 #[.val (.int p0), .val (.int p1), .val (.int vk), .val (.ref b1), .val (.int vc), .unset, .unset] [])) _
                refine XS.iload X33.here hx rfl (hb hby at_165) rfl ?_
                show Steps p.tables e below (T33.setTop (mkF m 167 #[.val (.int p0), .val (.int p1), .val (.int vk), .val (.ref b1), .val (.int vc), .unset, .unset] [(.int vc)])) _
                refine XS.bipush X33.here hx rfl (hb hby at_167) ?_
                show Steps p.tables e below (T33.setTop (mkF m 169 #[.val (.int p0), .val (.int p1), .val (.int vk), .val (.ref b1), .val (.int vc), .unset, .unset] [(.int (123 : Int32)), (.int vc)])) _
                by_cases hc169 : vc = (123 : Int32)
                · try simp only [if_pos hc169] at k
                  refine XS.icmpYes X33.here hx rfl (pc0 := 169) (pc' := 207) rfl (hb hby at_169) rfl (teq hc169).1 (by decide) (by decide) ?_
                  show Steps p.tables e below (T33.setTop (mkF m 207 #[.val (.int p0), .val (.int p1), .val (.int vk), .val (.ref b1), .val (.int vc), .unset, .unset] [])) _
                  refine XS.iconst X33.here hx rfl (hb hby at_207) ?_
                  show Steps p.tables e below (T33.setTop (mkF m 208 #[.val (.int p0), .val (.int p1), .val (.int vk), .val (.ref b1), .val (.int vc), .unset, .unset] [(.int (1 : Int32))])) _
                  refine XS.goto X33.here hx rfl (pc0 := 208) (pc' := 212) rfl (hb hby at_208) (by decide) (by decide) ?_
                  show Steps p.tables e below (T33.setTop (mkF m 212 #[.val (.int p0), .val (.int p1), .val (.int vk), .val (.ref b1), .val (.int vc), .unset, .unset] [(.int (1 : Int32))])) _
                  exact k
                · try simp only [if_neg hc169] at k
                  refine XS.icmpNo X33.here hx rfl (hb hby at_169) rfl (feq hc169).1 ?_
                  show Steps p.tables e below (T33.setTop (mkF m 172 #[.val (.int p0), .val (.int p1), .val (.int vk), .val (.ref b1), .val (.int vc), .unset, .unset] [])) _
                  refine XS.iload X33.here hx rfl (hb hby at_172) rfl ?_
                  show Steps p.tables e below (T33.setTop (mkF m 174 #[.val (.int p0), .val (.int p1), .val (.int vk), .val (.ref b1), .val (.int vc), .unset, .unset] [(.int vc)])) _
                  refine XS.bipush X33.here hx rfl (hb hby at_174) ?_
                  show Steps p.tables e below (T33.setTop (mkF m 176 #[.val (.int p0), .val (.int p1), .val (.int vk), .val (.ref b1), .val (.int vc), .unset, .unset] [(.int (125 : Int32)), (.int vc)])) _
                  by_cases hc176 : vc = (125 : Int32)
                  · try simp only [if_pos hc176] at k
                    refine XS.icmpYes X33.here hx rfl (pc0 := 176) (pc' := 207) rfl (hb hby at_176) rfl (teq hc176).1 (by decide) (by decide) ?_
                    show Steps p.tables e below (T33.setTop (mkF m 207 #[.val (.int p0), .val (.int p1), .val (.int vk), .val (.ref b1), .val (.int vc), .unset, .unset] [])) _
                    refine XS.iconst X33.here hx rfl (hb hby at_207) ?_
                    show Steps p.tables e below (T33.setTop (mkF m 208 #[.val (.int p0), .val (.int p1), .val (.int vk), .val (.ref b1), .val (.int vc), .unset, .unset] [(.int (1 : Int32))])) _
                    refine XS.goto X33.here hx rfl (pc0 := 208) (pc' := 212) rfl (hb hby at_208) (by decide) (by decide) ?_
                    show Steps p.tables e below (T33.setTop (mkF m 212 #[.val (.int p0), .val (.int p1), .val (.int vk), .val (.ref b1), .val (.int vc), .unset, .unset] [(.int (1 : Int32))])) _
                    exact k
                  · try simp only [if_neg hc176] at k
                    refine XS.icmpNo X33.here hx rfl (hb hby at_176) rfl (feq hc176).1 ?_
                    show Steps p.tables e below (T33.setTop (mkF m 179 #[.val (.int p0), .val (.int p1), .val (.int vk), .val (.ref b1), .val (.int vc), .unset, .unset] [])) _
                    refine XS.iload X33.here hx rfl (hb hby at_179) rfl ?_
                    show Steps p.tables e below (T33.setTop (mkF m 181 #[.val (.int p0), .val (.int p1), .val (.int vk), .val (.ref b1), .val (.int vc), .unset, .unset] [(.int vc)])) _
                    refine XS.bipush X33.here hx rfl (hb hby at_181) ?_
                    show Steps p.tables e below (T33.setTop (mkF m 183 #[.val (.int p0), .val (.int p1), .val (.int vk), .val (.ref b1), .val (.int vc), .unset, .unset] [(.int (124 : Int32)), (.int vc)])) _
                    by_cases hc183 : vc = (124 : Int32)
                    · try simp only [if_pos hc183] at k
                      refine XS.icmpYes X33.here hx rfl (pc0 := 183) (pc' := 207) rfl (hb hby at_183) rfl (teq hc183).1 (by decide) (by decide) ?_
                      show Steps p.tables e below (T33.setTop (mkF m 207 #[.val (.int p0), .val (.int p1), .val (.int vk), .val (.ref b1), .val (.int vc), .unset, .unset] [])) _
                      refine XS.iconst X33.here hx rfl (hb hby at_207) ?_
                      show Steps p.tables e below (T33.setTop (mkF m 208 #[.val (.int p0), .val (.int p1), .val (.int vk), .val (.ref b1), .val (.int vc), .unset, .unset] [(.int (1 : Int32))])) _
                      refine XS.goto X33.here hx rfl (pc0 := 208) (pc' := 212) rfl (hb hby at_208) (by decide) (by decide) ?_
                      show Steps p.tables e below (T33.setTop (mkF m 212 #[.val (.int p0), .val (.int p1), .val (.int vk), .val (.ref b1), .val (.int vc), .unset, .unset] [(.int (1 : Int32))])) _
                      exact k
                    · try simp only [if_neg hc183] at k
                      refine XS.icmpNo X33.here hx rfl (hb hby at_183) rfl (feq hc183).1 ?_
                      show Steps p.tables e below (T33.setTop (mkF m 186 #[.val (.int p0), .val (.int p1), .val (.int vk), .val (.ref b1), .val (.int vc), .unset, .unset] [])) _
                      refine XS.iload X33.here hx rfl (hb hby at_186) rfl ?_
                      show Steps p.tables e below (T33.setTop (mkF m 188 #[.val (.int p0), .val (.int p1), .val (.int vk), .val (.ref b1), .val (.int vc), .unset, .unset] [(.int vc)])) _
                      refine XS.bipush X33.here hx rfl (hb hby at_188) ?_
                      show Steps p.tables e below (T33.setTop (mkF m 190 #[.val (.int p0), .val (.int p1), .val (.int vk), .val (.ref b1), .val (.int vc), .unset, .unset] [(.int (94 : Int32)), (.int vc)])) _
                      by_cases hc190 : vc = (94 : Int32)
                      · try simp only [if_pos hc190] at k
                        refine XS.icmpYes X33.here hx rfl (pc0 := 190) (pc' := 207) rfl (hb hby at_190) rfl (teq hc190).1 (by decide) (by decide) ?_
                        show Steps p.tables e below (T33.setTop (mkF m 207 #[.val (.int p0), .val (.int p1), .val (.int vk), .val (.ref b1), .val (.int vc), .unset, .unset] [])) _
                        refine XS.iconst X33.here hx rfl (hb hby at_207) ?_
                        show Steps p.tables e below (T33.setTop (mkF m 208 #[.val (.int p0), .val (.int p1), .val (.int vk), .val (.ref b1), .val (.int vc), .unset, .unset] [(.int (1 : Int32))])) _
                        refine XS.goto X33.here hx rfl (pc0 := 208) (pc' := 212) rfl (hb hby at_208) (by decide) (by decide) ?_
                        show Steps p.tables e below (T33.setTop (mkF m 212 #[.val (.int p0), .val (.int p1), .val (.int vk), .val (.ref b1), .val (.int vc), .unset, .unset] [(.int (1 : Int32))])) _
                        exact k
                      · try simp only [if_neg hc190] at k
                        refine XS.icmpNo X33.here hx rfl (hb hby at_190) rfl (feq hc190).1 ?_
                        show Steps p.tables e below (T33.setTop (mkF m 193 #[.val (.int p0), .val (.int p1), .val (.int vk), .val (.ref b1), .val (.int vc), .unset, .unset] [])) _
                        refine XS.iload X33.here hx rfl (hb hby at_193) rfl ?_
                        show Steps p.tables e below (T33.setTop (mkF m 195 #[.val (.int p0), .val (.int p1), .val (.int vk), .val (.ref b1), .val (.int vc), .unset, .unset] [(.int vc)])) _
                        refine XS.bipush X33.here hx rfl (hb hby at_195) ?_
                        show Steps p.tables e below (T33.setTop (mkF m 197 #[.val (.int p0), .val (.int p1), .val (.int vk), .val (.ref b1), .val (.int vc), .unset, .unset] [(.int (96 : Int32)), (.int vc)])) _
                        by_cases hc197 : vc = (96 : Int32)
                        · try simp only [if_pos hc197] at k
                          refine XS.icmpYes X33.here hx rfl (pc0 := 197) (pc' := 207) rfl (hb hby at_197) rfl (teq hc197).1 (by decide) (by decide) ?_
                          show Steps p.tables e below (T33.setTop (mkF m 207 #[.val (.int p0), .val (.int p1), .val (.int vk), .val (.ref b1), .val (.int vc), .unset, .unset] [])) _
                          refine XS.iconst X33.here hx rfl (hb hby at_207) ?_
                          show Steps p.tables e below (T33.setTop (mkF m 208 #[.val (.int p0), .val (.int p1), .val (.int vk), .val (.ref b1), .val (.int vc), .unset, .unset] [(.int (1 : Int32))])) _
                          refine XS.goto X33.here hx rfl (pc0 := 208) (pc' := 212) rfl (hb hby at_208) (by decide) (by decide) ?_
                          show Steps p.tables e below (T33.setTop (mkF m 212 #[.val (.int p0), .val (.int p1), .val (.int vk), .val (.ref b1), .val (.int vc), .unset, .unset] [(.int (1 : Int32))])) _
                          exact k
                        · try simp only [if_neg hc197] at k
                          refine XS.icmpNo X33.here hx rfl (hb hby at_197) rfl (feq hc197).1 ?_
                          show Steps p.tables e below (T33.setTop (mkF m 200 #[.val (.int p0), .val (.int p1), .val (.int vk), .val (.ref b1), .val (.int vc), .unset, .unset] [])) _
                          refine XS.iload X33.here hx rfl (hb hby at_200) rfl ?_
                          show Steps p.tables e below (T33.setTop (mkF m 202 #[.val (.int p0), .val (.int p1), .val (.int vk), .val (.ref b1), .val (.int vc), .unset, .unset] [(.int vc)])) _
                          refine XS.bipush X33.here hx rfl (hb hby at_202) ?_
                          show Steps p.tables e below (T33.setTop (mkF m 204 #[.val (.int p0), .val (.int p1), .val (.int vk), .val (.ref b1), .val (.int vc), .unset, .unset] [(.int (92 : Int32)), (.int vc)])) _
                          by_cases hc204 : vc = (92 : Int32)
                          · try simp only [if_pos hc204] at k
                            refine XS.icmpNo X33.here hx rfl (hb hby at_204) rfl (teq hc204).2 ?_
                            show Steps p.tables e below (T33.setTop (mkF m 207 #[.val (.int p0), .val (.int p1), .val (.int vk), .val (.ref b1), .val (.int vc), .unset, .unset] [])) _
                            refine XS.iconst X33.here hx rfl (hb hby at_207) ?_
                            show Steps p.tables e below (T33.setTop (mkF m 208 #[.val (.int p0), .val (.int p1), .val (.int vk), .val (.ref b1), .val (.int vc), .unset, .unset] [(.int (1 : Int32))])) _
                            refine XS.goto X33.here hx rfl (pc0 := 208) (pc' := 212) rfl (hb hby at_208) (by decide) (by decide) ?_
                            show Steps p.tables e below (T33.setTop (mkF m 212 #[.val (.int p0), .val (.int p1), .val (.int vk), .val (.ref b1), .val (.int vc), .unset, .unset] [(.int (1 : Int32))])) _
                            exact k
                          · try simp only [if_neg hc204] at k
                            refine XS.icmpYes X33.here hx rfl (pc0 := 204) (pc' := 211) rfl (hb hby at_204) rfl (feq hc204).2 (by decide) (by decide) ?_
                            show Steps p.tables e below (T33.setTop (mkF m 211 #[.val (.int p0), .val (.int p1), .val (.int vk), .val (.ref b1), .val (.int vc), .unset, .unset] [])) _
                            refine XS.iconst X33.here hx rfl (hb hby at_211) ?_
                            show Steps p.tables e below (T33.setTop (mkF m 212 #[.val (.int p0), .val (.int p1), .val (.int vk), .val (.ref b1), .val (.int vc), .unset, .unset] [(.int (0 : Int32))])) _
                            exact k
        refine own_go sg44 ?_
        show own_Go p.tables e below _ (T33.setTop (mkF m 212 #[.val (.int p0), .val (.int p1), .val (.int vk), .val (.ref b1), .val (.int vc), .unset, .unset] [(.int (if vc = (60 : Int32) then (1 : Int32) else (if vc = (62 : Int32) then (1 : Int32) else (if vc = (34 : Int32) then (1 : Int32) else (if vc = (123 : Int32) then (1 : Int32) else (if vc = (125 : Int32) then (1 : Int32) else (if vc = (124 : Int32) then (1 : Int32) else (if vc = (94 : Int32) then (1 : Int32) else (if vc = (96 : Int32) then (1 : Int32) else (if vc = (92 : Int32) then (1 : Int32) else (0 : Int32)))))))))))]))
        refine own_go (fun _ k => XS.istore X33.here hx rfl (hb hby at_212) rfl (l' := #[.val (.int p0), .val (.int p1), .val (.int vk), .val (.ref b1), .val (.int vc), .val (.int (if vc = (60 : Int32) then (1 : Int32) else (if vc = (62 : Int32) then (1 : Int32) else (if vc = (34 : Int32) then (1 : Int32) else (if vc = (123 : Int32) then (1 : Int32) else (if vc = (125 : Int32) then (1 : Int32) else (if vc = (124 : Int32) then (1 : Int32) else (if vc = (94 : Int32) then (1 : Int32) else (if vc = (96 : Int32) then (1 : Int32) else (if vc = (92 : Int32) then (1 : Int32) else (0 : Int32))))))))))), .unset]) rfl k) ?_
        show own_Go p.tables e below _ (T33.setTop (mkF m 214 #[.val (.int p0), .val (.int p1), .val (.int vk), .val (.ref b1), .val (.int vc), .val (.int (if vc = (60 : Int32) then (1 : Int32) else (if vc = (62 : Int32) then (1 : Int32) else (if vc = (34 : Int32) then (1 : Int32) else (if vc = (123 : Int32) then (1 : Int32) else (if vc = (125 : Int32) then (1 : Int32) else (if vc = (124 : Int32) then (1 : Int32) else (if vc = (94 : Int32) then (1 : Int32) else (if vc = (96 : Int32) then (1 : Int32) else (if vc = (92 : Int32) then (1 : Int32) else (0 : Int32))))))))))), .unset] []))
        refine own_go (fun _ k => XS.iload X33.here hx rfl (hb hby at_214) rfl k) ?_
        show own_Go p.tables e below _ (T33.setTop (mkF m 216 #[.val (.int p0), .val (.int p1), .val (.int vk), .val (.ref b1), .val (.int vc), .val (.int (if vc = (60 : Int32) then (1 : Int32) else (if vc = (62 : Int32) then (1 : Int32) else (if vc = (34 : Int32) then (1 : Int32) else (if vc = (123 : Int32) then (1 : Int32) else (if vc = (125 : Int32) then (1 : Int32) else (if vc = (124 : Int32) then (1 : Int32) else (if vc = (94 : Int32) then (1 : Int32) else (if vc = (96 : Int32) then (1 : Int32) else (if vc = (92 : Int32) then (1 : Int32) else (0 : Int32))))))))))), .unset] [(.int vc)]))
        refine own_go (fun _ k => XS.bipush X33.here hx rfl (hb hby at_216) k) ?_
        show own_Go p.tables e below _ (T33.setTop (mkF m 218 #[.val (.int p0), .val (.int p1), .val (.int vk), .val (.ref b1), .val (.int vc), .val (.int (if vc = (60 : Int32) then (1 : Int32) else (if vc = (62 : Int32) then (1 : Int32) else (if vc = (34 : Int32) then (1 : Int32) else (if vc = (123 : Int32) then (1 : Int32) else (if vc = (125 : Int32) then (1 : Int32) else (if vc = (124 : Int32) then (1 : Int32) else (if vc = (94 : Int32) then (1 : Int32) else (if vc = (96 : Int32) then (1 : Int32) else (if vc = (92 : Int32) then (1 : Int32) else (0 : Int32))))))))))), .unset] [(.int (32 : Int32)), (.int vc)]))
        have sg45 : ∀ t, Steps p.tables e below (T33.setTop (mkF m 241 #[.val (.int p0), .val (.int p1), .val (.int vk), .val (.ref b1), .val (.int vc), .val (.int (if vc = (60 : Int32) then (1 : Int32) else (if vc = (62 : Int32) then (1 : Int32) else (if vc = (34 : Int32) then (1 : Int32) else (if vc = (123 : Int32) then (1 : Int32) else (if vc = (125 : Int32) then (1 : Int32) else (if vc = (124 : Int32) then (1 : Int32) else (if vc = (94 : Int32) then (1 : Int32) else (if vc = (96 : Int32) then (1 : Int32) else (if vc = (92 : Int32) then (1 : Int32) else (0 : Int32))))))))))), .val (.int (if (32 : Int32) < vc then (if (if vc = (60 : Int32) then (1 : Int32) else (if vc = (62 : Int32) then (1 : Int32) else (if vc = (34 : Int32) then (1 : Int32) else (if vc = (123 : Int32) then (1 : Int32) else (if vc = (125 : Int32) then (1 : Int32) else (if vc = (124 : Int32) then (1 : Int32) else (if vc = (94 : Int32) then (1 : Int32) else (if vc = (96 : Int32) then (1 : Int32) else (if vc = (92 : Int32) then (1 : Int32) else (0 : Int32)))))))))) = (0 : Int32) then (1 : Int32) else (0 : Int32)) else (0 : Int32)))] [])) t → Steps p.tables e below (T33.setTop (mkF m 218 #[.val (.int p0), .val (.int p1), .val (.int vk), .val (.ref b1), .val (.int vc), .val (.int (if vc = (60 : Int32) then (1 : Int32) else (if vc = (62 : Int32) then (1 : Int32) else (if vc = (34 : Int32) then (1 : Int32) else (if vc = (123 : Int32) then (1 : Int32) else (if vc = (125 : Int32) then (1 : Int32) else (if vc = (124 : Int32) then (1 : Int32) else (if vc = (94 : Int32) then (1 : Int32) else (if vc = (96 : Int32) then (1 : Int32) else (if vc = (92 : Int32) then (1 : Int32) else (0 : Int32))))))))))), .unset] [(.int (32 : Int32)), (.int vc)])) t := by
          intro t k
          by_cases hc218 : (32 : Int32) < vc
          · try simp only [if_pos hc218] at k
            refine XS.icmpYes X33.here hx rfl (pc0 := 218) (pc' := 227) rfl (hb hby at_218) rfl (tlt hc218).2.2.1 (by decide) (by decide) ?_
            show Steps p.tables e below (T33.setTop (mkF m 227 #[.val (.int p0), .val (.int p1), .val (.int vk), .val (.ref b1), .val (.int vc), .val (.int (if vc = (60 : Int32) then (1 : Int32) else (if vc = (62 : Int32) then (1 : Int32) else (if vc = (34 : Int32) then (1 : Int32) else (if vc = (123 : Int32) then (1 : Int32) else (if vc = (125 : Int32) then (1 : Int32) else (if vc = (124 : Int32) then (1 : Int32) else (if vc = (94 : Int32) then (1 : Int32) else (if vc = (96 : Int32) then (1 : Int32) else (if vc = (92 : Int32) then (1 : Int32) else (0 : Int32))))))))))), .unset] [])) _
            refine XS.iload X33.here hx rfl (hb hby at_227) rfl ?_
            show Steps p.tables e below (T33.setTop (mkF m 229 #[.val (.int p0), .val (.int p1), .val (.int vk), .val (.ref b1), .val (.int vc), .val (.int (if vc = (60 : Int32) then (1 : Int32) else (if vc = (62 : Int32) then (1 : Int32) else (if vc = (34 : Int32) then (1 : Int32) else (if vc = (123 : Int32) then (1 : Int32) else (if vc = (125 : Int32) then (1 : Int32) else (if vc = (124 : Int32) then (1 : Int32) else (if vc = (94 : Int32) then (1 : Int32) else (if vc = (96 : Int32) then (1 : Int32) else (if vc = (92 : Int32) then (1 : Int32) else (0 : Int32))))))))))), .unset] [(.int (if vc = (60 : Int32) then (1 : Int32) else (if vc = (62 : Int32) then (1 : Int32) else (if vc = (34 : Int32) then (1 : Int32) else (if vc = (123 : Int32) then (1 : Int32) else (if vc = (125 : Int32) then (1 : Int32) else (if vc = (124 : Int32) then (1 : Int32) else (if vc = (94 : Int32) then (1 : Int32) else (if vc = (96 : Int32) then (1 : Int32) else (if vc = (92 : Int32) then (1 : Int32) else (0 : Int32)))))))))))])) _
            by_cases hc229 : (if vc = (60 : Int32) then (1 : Int32) else (if vc = (62 : Int32) then (1 : Int32) else (if vc = (34 : Int32) then (1 : Int32) else (if vc = (123 : Int32) then (1 : Int32) else (if vc = (125 : Int32) then (1 : Int32) else (if vc = (124 : Int32) then (1 : Int32) else (if vc = (94 : Int32) then (1 : Int32) else (if vc = (96 : Int32) then (1 : Int32) else (if vc = (92 : Int32) then (1 : Int32) else (0 : Int32)))))))))) = (0 : Int32)
            · try simp only [if_pos hc229] at k
              refine XS.ifYes X33.here hx rfl (pc0 := 229) (pc' := 238) rfl (hb hby at_229) rfl ((if0 _ _).trans (teq hc229).1) (by decide) (by decide) ?_
              show Steps p.tables e below (T33.setTop (mkF m 238 #[.val (.int p0), .val (.int p1), .val (.int vk), .val (.ref b1), .val (.int vc), .val (.int (if vc = (60 : Int32) then (1 : Int32) else (if vc = (62 : Int32) then (1 : Int32) else (if vc = (34 : Int32) then (1 : Int32) else (if vc = (123 : Int32) then (1 : Int32) else (if vc = (125 : Int32) then (1 : Int32) else (if vc = (124 : Int32) then (1 : Int32) else (if vc = (94 : Int32) then (1 : Int32) else (if vc = (96 : Int32) then (1 : Int32) else (if vc = (92 : Int32) then (1 : Int32) else (0 : Int32))))))))))), .unset] [])) _
              refine XS.iconst X33.here hx rfl (hb hby at_238) ?_
              show Steps p.tables e below (T33.setTop (mkF m 239 #[.val (.int p0), .val (.int p1), .val (.int vk), .val (.ref b1), .val (.int vc), .val (.int (if vc = (60 : Int32) then (1 : Int32) else (if vc = (62 : Int32) then (1 : Int32) else (if vc = (34 : Int32) then (1 : Int32) else (if vc = (123 : Int32) then (1 : Int32) else (if vc = (125 : Int32) then (1 : Int32) else (if vc = (124 : Int32) then (1 : Int32) else (if vc = (94 : Int32) then (1 : Int32) else (if vc = (96 : Int32) then (1 : Int32) else (if vc = (92 : Int32) then (1 : Int32) else (0 : Int32))))))))))), .unset] [(.int (1 : Int32))])) _
              refine XS.istore X33.here hx rfl (hb hby at_239) rfl (l' := #[.val (.int p0), .val (.int p1), .val (.int vk), .val (.ref b1), .val (.int vc), .val (.int (if vc = (60 : Int32) then (1 : Int32) else (if vc = (62 : Int32) then (1 : Int32) else (if vc = (34 : Int32) then (1 : Int32) else (if vc = (123 : Int32) then (1 : Int32) else (if vc = (125 : Int32) then (1 : Int32) else (if vc = (124 : Int32) then (1 : Int32) else (if vc = (94 : Int32) then (1 : Int32) else (if vc = (96 : Int32) then (1 : Int32) else (if vc = (92 : Int32) then (1 : Int32) else (0 : Int32))))))))))), .val (.int (1 : Int32))]) rfl ?_
              show Steps p.tables e below (T33.setTop (mkF m 241 #[.val (.int p0), .val (.int p1), .val (.int vk), .val (.ref b1), .val (.int vc), .val (.int (if vc = (60 : Int32) then (1 : Int32) else (if vc = (62 : Int32) then (1 : Int32) else (if vc = (34 : Int32) then (1 : Int32) else (if vc = (123 : Int32) then (1 : Int32) else (if vc = (125 : Int32) then (1 : Int32) else (if vc = (124 : Int32) then (1 : Int32) else (if vc = (94 : Int32) then (1 : Int32) else (if vc = (96 : Int32) then (1 : Int32) else (if vc = (92 : Int32) then (1 : Int32) else (0 : Int32))))))))))), .val (.int (1 : Int32))] [])) _
              exact k
            · try simp only [if_neg hc229] at k
              refine XS.ifNo X33.here hx rfl (hb hby at_229) rfl ((if0 _ _).trans (feq hc229).1) ?_
              show Steps p.tables e below (T33.setTop (mkF m 232 #[.val (.int p0), .val (.int p1), .val (.int vk), .val (.ref b1), .val (.int vc), .val (.int (if vc = (60 : Int32) then (1 : Int32) else (if vc = (62 : Int32) then (1 : Int32) else (if vc = (34 : Int32) then (1 : Int32) else (if vc = (123 : Int32) then (1 : Int32) else (if vc = (125 : Int32) then (1 : Int32) else (if vc = (124 : Int32) then (1 : Int32) else (if vc = (94 : Int32) then (1 : Int32) else (if vc = (96 : Int32) then (1 : Int32) else (if vc = (92 : Int32) then (1 : Int32) else (0 : Int32))))))))))), .unset] [])) _
              refine XS.iconst X33.here hx rfl (hb hby at_232) ?_
              show Steps p.tables e below (T33.setTop (mkF m 233 #[.val (.int p0), .val (.int p1), .val (.int vk), .val (.ref b1), .val (.int vc), .val (.int (if vc = (60 : Int32) then (1 : Int32) else (if vc = (62 : Int32) then (1 : Int32) else (if vc = (34 : Int32) then (1 : Int32) else (if vc = (123 : Int32) then (1 : Int32) else (if vc = (125 : Int32) then (1 : Int32) else (if vc = (124 : Int32) then (1 : Int32) else (if vc = (94 : Int32) then (1 : Int32) else (if vc = (96 : Int32) then (1 : Int32) else (if vc = (92 : Int32) then (1 : Int32) else (0 : Int32))))))))))), .unset] [(.int (0 : Int32))])) _
              refine XS.istore X33.here hx rfl (hb hby at_233) rfl (l' := #[.val (.int p0), .val (.int p1), .val (.int vk), .val (.ref b1), .val (.int vc), .val (.int (if vc = (60 : Int32) then (1 : Int32) else (if vc = (62 : Int32) then (1 : Int32) else (if vc = (34 : Int32) then (1 : Int32) else (if vc = (123 : Int32) then (1 : Int32) else (if vc = (125 : Int32) then (1 : Int32) else (if vc = (124 : Int32) then (1 : Int32) else (if vc = (94 : Int32) then (1 : Int32) else (if vc = (96 : Int32) then (1 : Int32) else (if vc = (92 : Int32) then (1 : Int32) else (0 : Int32))))))))))), .val (.int (0 : Int32))]) rfl ?_
              show Steps p.tables e below (T33.setTop (mkF m 235 #[.val (.int p0), .val (.int p1), .val (.int vk), .val (.ref b1), .val (.int vc), .val (.int (if vc = (60 : Int32) then (1 : Int32) else (if vc = (62 : Int32) then (1 : Int32) else (if vc = (34 : Int32) then (1 : Int32) else (if vc = (123 : Int32) then (1 : Int32) else (if vc = (125 : Int32) then (1 : Int32) else (if vc = (124 : Int32) then (1 : Int32) else (if vc = (94 : Int32) then (1 : Int32) else (if vc = (96 : Int32) then (1 : Int32) else (if vc = (92 : Int32) then (1 : Int32) else (0 : Int32))))))))))), .val (.int (0 : Int32))] [])) _
              refine XS.goto X33.here hx rfl (pc0 := 235) (pc' := 241) rfl (hb hby at_235) (by decide) (by decide) ?_
              show Steps p.tables e below (T33.setTop (mkF m 241 #[.val (.int p0), .val (.int p1), .val (.int vk), .val (.ref b1), .val (.int vc), .val (.int (if vc = (60 : Int32) then (1 : Int32) else (if vc = (62 : Int32) then (1 : Int32) else (if vc = (34 : Int32) then (1 : Int32) else (if vc = (123 : Int32) then (1 : Int32) else (if vc = (125 : Int32) then (1 : Int32) else (if vc = (124 : Int32) then (1 : Int32) else (if vc = (94 : Int32) then (1 : Int32) else (if vc = (96 : Int32) then (1 : Int32) else (if vc = (92 : Int32) then (1 : Int32) else (0 : Int32))))))))))), .val (.int (0 : Int32))] [])) _
              exact k
          · try simp only [if_neg hc218] at k
            refine XS.icmpNo X33.here hx rfl (hb hby at_218) rfl (flt hc218).2.2.1 ?_
            show Steps p.tables e below (T33.setTop (mkF m 221 #[.val (.int p0), .val (.int p1), .val (.int vk), .val (.ref b1), .val (.int vc), .val (.int (if vc = (60 : Int32) then (1 : Int32) else (if vc = (62 : Int32) then (1 : Int32) else (if vc = (34 : Int32) then (1 : Int32) else (if vc = (123 : Int32) then (1 : Int32) else (if vc = (125 : Int32) then (1 : Int32) else (if vc = (124 : Int32) then (1 : Int32) else (if vc = (94 : Int32) then (1 : Int32) else (if vc = (96 : Int32) then (1 : Int32) else (if vc = (92 : Int32) then (1 : Int32) else (0 : Int32))))))))))), .unset] [])) _
            refine XS.iconst X33.here hx rfl (hb hby at_221) ?_
            show Steps p.tables e below (T33.setTop (mkF m 222 #[.val (.int p0), .val (.int p1), .val (.int vk), .val (.ref b1), .val (.int vc), .val (.int (if vc = (60 : Int32) then (1 : Int32) else (if vc = (62 : Int32) then (1 : Int32) else (if vc = (34 : Int32) then (1 : Int32) else (if vc = (123 : Int32) then (1 : Int32) else (if vc = (125 : Int32) then (1 : Int32) else (if vc = (124 : Int32) then (1 : Int32) else (if vc = (94 : Int32) then (1 : Int32) else (if vc = (96 : Int32) then (1 : Int32) else (if vc = (92 : Int32) then (1 : Int32) else (0 : Int32))))))))))), .unset] [(.int (0 : Int32))])) _
            refine XS.istore X33.here hx rfl (hb hby at_222) rfl (l' := #[.val (.int p0), .val (.int p1), .val (.int vk), .val (.ref b1), .val (.int vc), .val (.int (if vc = (60 : Int32) then (1 : Int32) else (if vc = (62 : Int32) then (1 : Int32) else (if vc = (34 : Int32) then (1 : Int32) else (if vc = (123 : Int32) then (1 : Int32) else (if vc = (125 : Int32) then (1 : Int32) else (if vc = (124 : Int32) then (1 : Int32) else (if vc = (94 : Int32) then (1 : Int32) else (if vc = (96 : Int32) then (1 : Int32) else (if vc = (92 : Int32) then (1 : Int32) else (0 : Int32))))))))))), .val (.int (0 : Int32))]) rfl ?_
            show Steps p.tables e below (T33.setTop (mkF m 224 #[.val (.int p0), .val (.int p1), .val (.int vk), .val (.ref b1), .val (.int vc), .val (.int (if vc = (60 : Int32) then (1 : Int32) else (if vc = (62 : Int32) then (1 : Int32) else (if vc = (34 : Int32) then (1 : Int32) else (if vc = (123 : Int32) then (1 : Int32) else (if vc = (125 : Int32) then (1 : Int32) else (if vc = (124 : Int32) then (1 : Int32) else (if vc = (94 : Int32) then (1 : Int32) else (if vc = (96 : Int32) then (1 : Int32) else (if vc = (92 : Int32) then (1 : Int32) else (0 : Int32))))))))))), .val (.int (0 : Int32))] [])) _
            refine XS.goto X33.here hx rfl (pc0 := 224) (pc' := 241) rfl (hb hby at_224) (by decide) (by decide) ?_
            show Steps p.tables e below (T33.setTop (mkF m 241 #[.val (.int p0), .val (.int p1), .val (.int vk), .val (.ref b1), .val (.int vc), .val (.int (if vc = (60 : Int32) then (1 : Int32) else (if vc = (62 : Int32) then (1 : Int32) else (if vc = (34 : Int32) then (1 : Int32) else (if vc = (123 : Int32) then (1 : Int32) else (if vc = (125 : Int32) then (1 : Int32) else (if vc = (124 : Int32) then (1 : Int32) else (if vc = (94 : Int32) then (1 : Int32) else (if vc = (96 : Int32) then (1 : Int32) else (if vc = (92 : Int32) then (1 : Int32) else (0 : Int32))))))))))), .val (.int (0 : Int32))] [])) _
            exact k
        refine own_go sg45 ?_
        show own_Go p.tables e below _ (T33.setTop (mkF m 241 #[.val (.int p0), .val (.int p1), .val (.int vk), .val (.ref b1), .val (.int vc), .val (.int (if vc = (60 : Int32) then (1 : Int32) else (if vc = (62 : Int32) then (1 : Int32) else (if vc = (34 : Int32) then (1 : Int32) else (if vc = (123 : Int32) then (1 : Int32) else (if vc = (125 : Int32) then (1 : Int32) else (if vc = (124 : Int32) then (1 : Int32) else (if vc = (94 : Int32) then (1 : Int32) else (if vc = (96 : Int32) then (1 : Int32) else (if vc = (92 : Int32) then (1 : Int32) else (0 : Int32))))))))))), .val (.int (if (32 : Int32) < vc then (if (if vc = (60 : Int32) then (1 : Int32) else (if vc = (62 : Int32) then (1 : Int32) else (if vc = (34 : Int32) then (1 : Int32) else (if vc = (123 : Int32) then (1 : Int32) else (if vc = (125 : Int32) then (1 : Int32) else (if vc = (124 : Int32) then (1 : Int32) else (if vc = (94 : Int32) then (1 : Int32) else (if vc = (96 : Int32) then (1 : Int32) else (if vc = (92 : Int32) then (1 : Int32) else (0 : Int32)))))))))) = (0 : Int32) then (1 : Int32) else (0 : Int32)) else (0 : Int32)))] []))
        refine own_go (fun _ k => XS.iload X33.here hx rfl (hb hby at_241) rfl k) ?_
        show own_Go p.tables e below _ (T33.setTop (mkF m 243 #[.val (.int p0), .val (.int p1), .val (.int vk), .val (.ref b1), .val (.int vc), .val (.int (if vc = (60 : Int32) then (1 : Int32) else (if vc = (62 : Int32) then (1 : Int32) else (if vc = (34 : Int32) then (1 : Int32) else (if vc = (123 : Int32) then (1 : Int32) else (if vc = (125 : Int32) then (1 : Int32) else (if vc = (124 : Int32) then (1 : Int32) else (if vc = (94 : Int32) then (1 : Int32) else (if vc = (96 : Int32) then (1 : Int32) else (if vc = (92 : Int32) then (1 : Int32) else (0 : Int32))))))))))), .val (.int (if (32 : Int32) < vc then (if (if vc = (60 : Int32) then (1 : Int32) else (if vc = (62 : Int32) then (1 : Int32) else (if vc = (34 : Int32) then (1 : Int32) else (if vc = (123 : Int32) then (1 : Int32) else (if vc = (125 : Int32) then (1 : Int32) else (if vc = (124 : Int32) then (1 : Int32) else (if vc = (94 : Int32) then (1 : Int32) else (if vc = (96 : Int32) then (1 : Int32) else (if vc = (92 : Int32) then (1 : Int32) else (0 : Int32)))))))))) = (0 : Int32) then (1 : Int32) else (0 : Int32)) else (0 : Int32)))] [(.int vc)]))
        obtain ⟨_, _, ⟨T46, L46, k46, n46⟩, -, X46, hS46, hg46, ⟨Lc46, hQ46, l46, y46, z46, hC46⟩, st46⟩ := callSS X33 hx (y := (⟨"com/example/pathwise/pathwise/model/Iri", "allows", "(I)Z"⟩ : MethodName)) hown (mvT hZ (hw _ (List.mem_of_getElem? (i := 3) rfl))) (mvT hZ (hw _ (List.mem_of_getElem? (i := 4) rfl))) (mvT hZ (hw _ (List.mem_of_getElem? (i := 5) rfl))) (mvT hZ (hw _ (List.mem_of_getElem? (i := 6) rfl))) (by decide) (backOfSH (W := 0) (rm1 l Z az hw [] vc wc h33 n0 Z33 c33_0 hwc) hZ (hw _ (List.mem_of_getElem? (i := 6) rfl)) (hw _ (List.mem_of_getElem? (i := 5) rfl)) (by decide) (by decide) hEL HC) (g := (mkF m 243 #[.val (.int p0), .val (.int p1), .val (.int vk), .val (.ref b1), .val (.int vc), .val (.int (if vc = (60 : Int32) then (1 : Int32) else (if vc = (62 : Int32) then (1 : Int32) else (if vc = (34 : Int32) then (1 : Int32) else (if vc = (123 : Int32) then (1 : Int32) else (if vc = (125 : Int32) then (1 : Int32) else (if vc = (124 : Int32) then (1 : Int32) else (if vc = (94 : Int32) then (1 : Int32) else (if vc = (96 : Int32) then (1 : Int32) else (if vc = (92 : Int32) then (1 : Int32) else (0 : Int32))))))))))), .val (.int (if (32 : Int32) < vc then (if (if vc = (60 : Int32) then (1 : Int32) else (if vc = (62 : Int32) then (1 : Int32) else (if vc = (34 : Int32) then (1 : Int32) else (if vc = (123 : Int32) then (1 : Int32) else (if vc = (125 : Int32) then (1 : Int32) else (if vc = (124 : Int32) then (1 : Int32) else (if vc = (94 : Int32) then (1 : Int32) else (if vc = (96 : Int32) then (1 : Int32) else (if vc = (92 : Int32) then (1 : Int32) else (0 : Int32)))))))))) = (0 : Int32) then (1 : Int32) else (0 : Int32)) else (0 : Int32)))] [(.int vc)])) rfl (by rw [hml]; rfl) (argsL := [(.int vc)]) (rest := []) (lenOf pd0_0 rfl) rfl (by show 2 * 0 + _ ≤ _; exact Nat.le_of_eq rfl) (hb hby at_243) (fun _ _ => ⟨rfl, e33, (by decide : 1 + 2 ≤ _), (by decide : 16 + 40 ≤ _)⟩)
        dsimp only [Pt.U, Pt.locs, Pt.cells, Pt.slots] at X46 hS46 hg46 l46 y46 z46 st46 hQ46 hC46
        subst l46 y46 z46
        obtain ⟨X46, hS, hZ, hown⟩ := rebS hS (by rw [e33]; exact hk) X46 hS46 hg46 hZ hown
        have CR := CR.trans hC46
        have HC := hC46.1
        refine own_go (fun _ k => st46.trans k) ?_
        obtain ⟨rfl, N46q, K46⟩ := hQ46
        have N46 := Fr.app N33 N46q
        have E46 := own_kx K46
        have c46_0 := c33_0.ext E46
        have c46_2 := V33.ext E46
        have Z46 : n0 ≤ T46.heap.size := Nat.le_trans Z33 K46.1
        have hk := Nat.le_refl T46.heap.size
        show own_Go p.tables e below _ (T46.setTop (mkF m 246 #[.val (.int p0), .val (.int p1), .val (.int vk), .val (.ref b1), .val (.int vc), .val (.int (if vc = (60 : Int32) then (1 : Int32) else (if vc = (62 : Int32) then (1 : Int32) else (if vc = (34 : Int32) then (1 : Int32) else (if vc = (123 : Int32) then (1 : Int32) else (if vc = (125 : Int32) then (1 : Int32) else (if vc = (124 : Int32) then (1 : Int32) else (if vc = (94 : Int32) then (1 : Int32) else (if vc = (96 : Int32) then (1 : Int32) else (if vc = (92 : Int32) then (1 : Int32) else (0 : Int32))))))))))), .val (.int (if (32 : Int32) < vc then (if (if vc = (60 : Int32) then (1 : Int32) else (if vc = (62 : Int32) then (1 : Int32) else (if vc = (34 : Int32) then (1 : Int32) else (if vc = (123 : Int32) then (1 : Int32) else (if vc = (125 : Int32) then (1 : Int32) else (if vc = (124 : Int32) then (1 : Int32) else (if vc = (94 : Int32) then (1 : Int32) else (if vc = (96 : Int32) then (1 : Int32) else (if vc = (92 : Int32) then (1 : Int32) else (0 : Int32)))))))))) = (0 : Int32) then (1 : Int32) else (0 : Int32)) else (0 : Int32)))] [(.int (own_f1 vc))]))
        refine own_go (fun _ k => XS.iload X46.here hx rfl (hb hby at_246) rfl k) ?_
        show own_Go p.tables e below _ (T46.setTop (mkF m 248 #[.val (.int p0), .val (.int p1), .val (.int vk), .val (.ref b1), .val (.int vc), .val (.int (if vc = (60 : Int32) then (1 : Int32) else (if vc = (62 : Int32) then (1 : Int32) else (if vc = (34 : Int32) then (1 : Int32) else (if vc = (123 : Int32) then (1 : Int32) else (if vc = (125 : Int32) then (1 : Int32) else (if vc = (124 : Int32) then (1 : Int32) else (if vc = (94 : Int32) then (1 : Int32) else (if vc = (96 : Int32) then (1 : Int32) else (if vc = (92 : Int32) then (1 : Int32) else (0 : Int32))))))))))), .val (.int (if (32 : Int32) < vc then (if (if vc = (60 : Int32) then (1 : Int32) else (if vc = (62 : Int32) then (1 : Int32) else (if vc = (34 : Int32) then (1 : Int32) else (if vc = (123 : Int32) then (1 : Int32) else (if vc = (125 : Int32) then (1 : Int32) else (if vc = (124 : Int32) then (1 : Int32) else (if vc = (94 : Int32) then (1 : Int32) else (if vc = (96 : Int32) then (1 : Int32) else (if vc = (92 : Int32) then (1 : Int32) else (0 : Int32)))))))))) = (0 : Int32) then (1 : Int32) else (0 : Int32)) else (0 : Int32)))] [(.int (if (32 : Int32) < vc then (if (if vc = (60 : Int32) then (1 : Int32) else (if vc = (62 : Int32) then (1 : Int32) else (if vc = (34 : Int32) then (1 : Int32) else (if vc = (123 : Int32) then (1 : Int32) else (if vc = (125 : Int32) then (1 : Int32) else (if vc = (124 : Int32) then (1 : Int32) else (if vc = (94 : Int32) then (1 : Int32) else (if vc = (96 : Int32) then (1 : Int32) else (if vc = (92 : Int32) then (1 : Int32) else (0 : Int32)))))))))) = (0 : Int32) then (1 : Int32) else (0 : Int32)) else (0 : Int32))), (.int (own_f1 vc))]))
        have hf248 : (own_f1 vc) = (if (32 : Int32) < vc then (if (if vc = (60 : Int32) then (1 : Int32) else (if vc = (62 : Int32) then (1 : Int32) else (if vc = (34 : Int32) then (1 : Int32) else (if vc = (123 : Int32) then (1 : Int32) else (if vc = (125 : Int32) then (1 : Int32) else (if vc = (124 : Int32) then (1 : Int32) else (if vc = (94 : Int32) then (1 : Int32) else (if vc = (96 : Int32) then (1 : Int32) else (if vc = (92 : Int32) then (1 : Int32) else (0 : Int32)))))))))) = (0 : Int32) then (1 : Int32) else (0 : Int32)) else (0 : Int32)) := own_val vc
        refine own_go (fun _ k => XS.icmpNo X46.here hx rfl (hb hby at_248) rfl (teq hf248).2 k) ?_
        show own_Go p.tables e below _ (T46.setTop (mkF m 251 #[.val (.int p0), .val (.int p1), .val (.int vk), .val (.ref b1), .val (.int vc), .val (.int (if vc = (60 : Int32) then (1 : Int32) else (if vc = (62 : Int32) then (1 : Int32) else (if vc = (34 : Int32) then (1 : Int32) else (if vc = (123 : Int32) then (1 : Int32) else (if vc = (125 : Int32) then (1 : Int32) else (if vc = (124 : Int32) then (1 : Int32) else (if vc = (94 : Int32) then (1 : Int32) else (if vc = (96 : Int32) then (1 : Int32) else (if vc = (92 : Int32) then (1 : Int32) else (0 : Int32))))))))))), .val (.int (if (32 : Int32) < vc then (if (if vc = (60 : Int32) then (1 : Int32) else (if vc = (62 : Int32) then (1 : Int32) else (if vc = (34 : Int32) then (1 : Int32) else (if vc = (123 : Int32) then (1 : Int32) else (if vc = (125 : Int32) then (1 : Int32) else (if vc = (124 : Int32) then (1 : Int32) else (if vc = (94 : Int32) then (1 : Int32) else (if vc = (96 : Int32) then (1 : Int32) else (if vc = (92 : Int32) then (1 : Int32) else (0 : Int32)))))))))) = (0 : Int32) then (1 : Int32) else (0 : Int32)) else (0 : Int32)))] []))
        refine own_go (fun _ k => XS.iconst X46.here hx rfl (hb hby at_251) k) ?_
        show own_Go p.tables e below _ (T46.setTop (mkF m 252 #[.val (.int p0), .val (.int p1), .val (.int vk), .val (.ref b1), .val (.int vc), .val (.int (if vc = (60 : Int32) then (1 : Int32) else (if vc = (62 : Int32) then (1 : Int32) else (if vc = (34 : Int32) then (1 : Int32) else (if vc = (123 : Int32) then (1 : Int32) else (if vc = (125 : Int32) then (1 : Int32) else (if vc = (124 : Int32) then (1 : Int32) else (if vc = (94 : Int32) then (1 : Int32) else (if vc = (96 : Int32) then (1 : Int32) else (if vc = (92 : Int32) then (1 : Int32) else (0 : Int32))))))))))), .val (.int (if (32 : Int32) < vc then (if (if vc = (60 : Int32) then (1 : Int32) else (if vc = (62 : Int32) then (1 : Int32) else (if vc = (34 : Int32) then (1 : Int32) else (if vc = (123 : Int32) then (1 : Int32) else (if vc = (125 : Int32) then (1 : Int32) else (if vc = (124 : Int32) then (1 : Int32) else (if vc = (94 : Int32) then (1 : Int32) else (if vc = (96 : Int32) then (1 : Int32) else (if vc = (92 : Int32) then (1 : Int32) else (0 : Int32)))))))))) = (0 : Int32) then (1 : Int32) else (0 : Int32)) else (0 : Int32)))] [(.int (1 : Int32))]))
        refine own_go (fun _ k => XS.goto X46.here hx rfl (pc0 := 252) (pc' := 256) rfl (hb hby at_252) (by decide) (by decide) k) ?_
        show own_Go p.tables e below _ (T46.setTop (mkF m 256 #[.val (.int p0), .val (.int p1), .val (.int vk), .val (.ref b1), .val (.int vc), .val (.int (if vc = (60 : Int32) then (1 : Int32) else (if vc = (62 : Int32) then (1 : Int32) else (if vc = (34 : Int32) then (1 : Int32) else (if vc = (123 : Int32) then (1 : Int32) else (if vc = (125 : Int32) then (1 : Int32) else (if vc = (124 : Int32) then (1 : Int32) else (if vc = (94 : Int32) then (1 : Int32) else (if vc = (96 : Int32) then (1 : Int32) else (if vc = (92 : Int32) then (1 : Int32) else (0 : Int32))))))))))), .val (.int (if (32 : Int32) < vc then (if (if vc = (60 : Int32) then (1 : Int32) else (if vc = (62 : Int32) then (1 : Int32) else (if vc = (34 : Int32) then (1 : Int32) else (if vc = (123 : Int32) then (1 : Int32) else (if vc = (125 : Int32) then (1 : Int32) else (if vc = (124 : Int32) then (1 : Int32) else (if vc = (94 : Int32) then (1 : Int32) else (if vc = (96 : Int32) then (1 : Int32) else (if vc = (92 : Int32) then (1 : Int32) else (0 : Int32)))))))))) = (0 : Int32) then (1 : Int32) else (0 : Int32)) else (0 : Int32)))] [(.int (1 : Int32))]))
        refine own_endH X46 (by rw [hh, (rfl : T46.heap = T46.heap)]; exact CR.trans (CHv.at X46 hZ hEL HC)) hS (hk) Bd.notSynchronized (v := some (.int (1 : Int32))) (fun h => by rw [Bd.returns] at h; cases h) (fun fs hr => retN X46 hx (t := .boolean) Bd.returns (by simp) (hb hby at_256) hr) ?_ (by decide) (by decide)
        exact ⟨rfl, N46⟩
set_option maxRecDepth 65536 in
set_option maxHeartbeats 40000000 in
theorem comes_1 {Post : Tables → Env → Array Value → State → Outcome → State → Prop} (hpost : ∀ tb e args s v u, (limb_1_1.after args s (.returned v) u = true ∧ limb_1_2.after args s (.returned v) u = true ∧ True) → ReturnedEndW s (.returned v) u (Jvm.fieldLocs frame_1_writes args s ++ Jvm.arrayLocs frame_1_arrays args s ++ Jvm.staticLocs frame_1_statics s) 16 1152 → Post tb e args s (.returned v) u) :
    ArmFor flags0 classFile x code maxLocals ret World_1 tables_1 room_1 Calls_1 rest_1 Pre_1 Post := by
  intro l hfl _ _ p e ha hc hk s m args below hf hA hF happ hP
  obtain ⟨hcalls, hrest, hpre⟩ := hP
  obtain ⟨-, -, -, hnamed, -, -, -, hat⟩ := (Spec.applies_iff hf).mp happ
  obtain ⟨hg, hn⟩ := and_e (Cond.before_iff.mp (show (Jvm.Cond.and given_1 narrow_1).before args s = true from hpre))
  obtain ⟨g1, g2⟩ := and_e hg
  obtain ⟨g3, g4⟩ := and_e g2
  obtain ⟨w0, w1, rfl⟩ : ∃ w0 w1 : Value, args = #[w0, w1] := by
    have hs : args.size = 2 := by simpa [Cond.value, given_1] using g1
    obtain ⟨L⟩ := args
    match L, hs with
    | [w0, w1], _ => exact ⟨w0, w1, rfl⟩
  have hw := fun d (hd : d ∈ tables_1) => atoms_spec (ws := Jvm.Cond.code x code maxLocals ret :: tables_1) hat d (List.mem_cons_of_mem _ hd)
  obtain ⟨i0, ei0⟩ := is_v g3
  obtain rfl : w0 = (.int i0) := Option.some.inj ei0
  obtain ⟨i1, ei1⟩ := is_v g4
  obtain rfl : w1 = (.int i1) := Option.some.inj ei1
  obtain ⟨hsets, hown0⟩ := atoms_of _ (rest_1_c_eq ▸ (show rest_1_c.before _ s = true from hrest))
  have n5 := not_v (Cond.before_iff.mp (hsets _ (List.mem_of_getElem? (i := 2) rfl)))
  obtain ⟨iwc, ewc⟩ := is_v (Cond.before_iff.mp (hsets _ (List.mem_of_getElem? (i := 1) rfl)))
  have Swc : Sta s s.heap "java/lang/String" "COMPACT_STRINGS" "Z" (.int iwc) := Sta.start ewc (Or.inl (hsets _ (List.mem_of_getElem? (i := 0) rfl)))
  have hwc : ¬ (iwc = (0 : Int32)) := gotF (Cond.eq_ints ewc (Term.int_eval (0))) n5
  have HC : CHv s consts_1 s.vm s.heap := CHv.start (own_EL hw) (fun p hp => hcalls.1 p hp) (hsets _ (List.mem_of_getElem? (i := 2) rfl)) (hw _ (List.mem_of_getElem? (i := 10) rfl)) (hw _ (List.mem_of_getElem? (i := 9) rfl))
  obtain ⟨n, o, h1, h2, h3, _, L, rfl, ⟨rfl, N⟩, -, hq⟩ := rm0 l s _ hw tables_1 i0 i1 iwc s.heap s.heap.size (Nat.le_refl _) Swc hwc p e ha hc hk s m _ below hf ((Spec.applies_iff_loose hf).mp happ).1 ⟨rfl, State.Warmed39.refl s, rfl, HC⟩ trivial
  refine ⟨n, _, h1, h2, h3, hpost _ _ _ _ _ _ ⟨Cond.after_iff.mpr rfl, Cond.after_iff.mpr (eq_i res_at (Term.int_eval (1)) rfl), trivial⟩ ⟨hq.1, hq.2.1, hq.2.2.1, (hq.2.2.2.sift fun y hy => Or.inr (N y hy)).mono (by decide) (by decide)⟩⟩
theorem main_1_1 : Claimed_1_1 := comes_1 fun _ _ _ _ _ _ h hF => ⟨h.1, hF⟩
theorem main_1_2 : Claimed_1_2 := comes_1 fun _ _ _ _ _ _ h hF => ⟨h.2.1, hF⟩
end Jvm.Pilot.@@N@@
namespace Jvm.Pilot.@@N@@
open Jvm Jvm.ClassFile Sem Op Lib Jvm.Free Jvm.Stand Jvm.Pilot.@@N@@.Jvm.D
/-! MADE BY PROGRAM (witnessworld.py) out of the Statement's table words and the real class files: 20 classes; the members and pool entries that the words name. The judged class is class 1, her method 1. -/
namespace start1
open Jvm.ClassFile
def u (s : String) : CpInfo := .utf8 (stringToUtf16 s)
/-- a pool by its gaps: so many unusable entries, then the entry; so many at the end -/
def gap : Nat → List CpInfo → List CpInfo
  | 0, r => r
  | n + 1, r => .unusable :: gap n r
def poolList (es : List (Nat × CpInfo)) (last : Nat) : List CpInfo := es.foldr (fun e r => gap e.1 (e.2 :: r)) (gap last [])
def pool (es : List (Nat × CpInfo)) (last : Nat) : Array CpInfo := ⟨poolList es last⟩
def fileOf (pool : Array CpInfo) (this : Nat) (attrs : Array Attribute := #[]) (ms : Array MethodInfo := #[]) (fl : Nat := 33) (sup : Nat := 0) (ifs : Array Nat := #[]) (fds : Array FieldInfo := #[]) : ClassFile where
  minorVersion := 0
  majorVersion := 65
  constantPool := pool
  accessFlags := fl
  thisClass := this
  superClass := sup
  interfaces := ifs
  fields := fds
  methods := ms
  attributes := attrs
def plain (name : String) (sup : Option ClassId) : Class where
  name := name
  kind := .ordinary
  loader := none
  accessFlags := 33
  super := sup
  interfaces := #[]
  cf := none
  fields := #[]
  methods := #[]
  instanceTypes := #[]
  staticTypes := #[]
  resolved := #[]
  callSites := []
  init := .initialized
  statics := none
  mirror := none

def pool0 : Array CpInfo := pool [(5, u "<init>"), (0, u "()V"), (1, .class_ 10), (1, u "java/lang/Object")] 113

def k0m0 : Method := { name := "<init>", desc := "()V", sig := { parameters := [], returnType := none }, accessFlags := 1, code := none }
/-- java/lang/Object -/
def k0 : Class := { plain "java/lang/Object" none with
  accessFlags := 33
  interfaces := #[]
  cf := some (fileOf pool0 8 #[] #[{ accessFlags := 1, nameIndex := 5, descriptorIndex := 6, attributes := #[] }] 33 0 #[] #[])
  fields := #[]
  methods := #[k0m0]
  instanceTypes := #[]
  staticTypes := #[]
  resolved := Array.replicate 124 none
  statics := none }

def pool1 : Array CpInfo := pool [(2, .class_ 4), (1, u "java/lang/Object"), (0, u "<init>"), (0, u "()V"), (0, .integer 1114111), (2, .integer 2147483648), (0, .integer 2097151), (0, .methodref 13 14), (0, .class_ 15), (0, .nameAndType 16 17), (0, u "com/example/pathwise/pathwise/model/Iri"), (0, u "allows"), (0, u "(I)Z"), (0, .class_ 19), (0, u "com/example/pathwise/pathwise/model/IriAllowsPinLaw"), (2, u "law"), (0, u "(II)Z")] 5

def k1m0 : Method := { name := "<init>", desc := "()V", sig := { parameters := [], returnType := none }, accessFlags := 2, code := none }
def k1c1 : Code := { maxStack := 4, maxLocals := 7, code := code, exceptionTable := #[], attributes := #[] }
def k1m1 : Method := { name := "law", desc := "(II)Z", sig := { parameters := [.int, .int], returnType := some .boolean }, accessFlags := 9, code := some k1c1 }
/-- com/example/pathwise/pathwise/model/IriAllowsPinLaw -/
def k1 : Class := { plain "com/example/pathwise/pathwise/model/IriAllowsPinLaw" (some 0) with
  accessFlags := 49
  interfaces := #[]
  cf := some (fileOf pool1 18 #[] #[{ accessFlags := 2, nameIndex := 5, descriptorIndex := 6, attributes := #[] }, { accessFlags := 9, nameIndex := 22, descriptorIndex := 23, attributes := #[] }] 49 2 #[] #[])
  fields := #[]
  methods := #[k1m0, k1m1]
  instanceTypes := #[]
  staticTypes := #[]
  resolved := Array.replicate 29 none
  statics := none }

def pool2 : Array CpInfo := pool [(2, .class_ 4), (1, u "java/lang/Object"), (0, u "<init>"), (0, u "()V"), (0, .class_ 8), (0, u "java/lang/Record")] 13

def k2m0 : Method := { name := "<init>", desc := "()V", sig := { parameters := [], returnType := none }, accessFlags := 4, code := none }
/-- java/lang/Record -/
def k2 : Class := { plain "java/lang/Record" (some 0) with
  accessFlags := 1057
  interfaces := #[]
  cf := some (fileOf pool2 7 #[] #[{ accessFlags := 4, nameIndex := 5, descriptorIndex := 6, attributes := #[] }] 1057 2 #[] #[])
  fields := #[]
  methods := #[k2m0]
  instanceTypes := #[]
  staticTypes := #[]
  resolved := Array.replicate 22 none
  statics := none }

def pool3 : Array CpInfo := pool [(1, .class_ 2), (0, u "com/example/pathwise/pathwise/model/Term"), (0, .class_ 4), (0, u "java/lang/Object")] 9

/-- com/example/pathwise/pathwise/model/Term -/
def k3 : Class := { plain "com/example/pathwise/pathwise/model/Term" (some 0) with
  accessFlags := 1537
  interfaces := #[]
  cf := some (fileOf pool3 1 #[] #[] 1537 3 #[] #[])
  fields := #[]
  methods := #[]
  instanceTypes := #[]
  staticTypes := #[]
  resolved := Array.replicate 14 none
  statics := none }

def pool4 : Array CpInfo := pool [(2, .class_ 4), (1, u "java/lang/Record"), (3, u "value"), (7, .class_ 18), (1, u "com/example/pathwise/pathwise/model/Iri"), (0, u "Ljava/lang/String;"), (0, .string 21), (0, u "<>\"{}|^`\\"), (0, .methodref 23 24), (0, .class_ 25), (0, .nameAndType 26 27), (0, u "java/lang/String"), (0, u "indexOf"), (0, u "(I)I"), (12, .class_ 41), (0, u "com/example/pathwise/pathwise/model/Term"), (4, u "allows"), (0, u "(I)Z")] 22

def k4c0 : Code := { maxStack := 2, maxLocals := 1, code := prog_35_method_2_code, exceptionTable := #[], attributes := #[] }
def k4m0 : Method := { name := "allows", desc := "(I)Z", sig := { parameters := [.int], returnType := some .boolean }, accessFlags := 9, code := some k4c0 }
/-- com/example/pathwise/pathwise/model/Iri -/
def k4 : Class := { plain "com/example/pathwise/pathwise/model/Iri" (some 2) with
  accessFlags := 49
  interfaces := #[3]
  cf := some (fileOf pool4 16 #[] #[{ accessFlags := 9, nameIndex := 46, descriptorIndex := 47, attributes := #[] }] 49 2 #[40] #[{ accessFlags := 18, nameIndex := 8, descriptorIndex := 19, attributes := #[] }])
  fields := #[{ name := "value", type := (.object "java/lang/String"), accessFlags := 18, slot := 0, constantValue := 0 }]
  methods := #[k4m0]
  instanceTypes := #[(.object "java/lang/String")]
  staticTypes := #[]
  resolved := Array.replicate 70 none
  statics := none }

def pool5 : Array CpInfo := pool [(1, .class_ 2), (0, u "java/io/Serializable"), (0, .class_ 4), (0, u "java/lang/Object")] 2

/-- java/io/Serializable -/
def k5 : Class := { plain "java/io/Serializable" (some 0) with
  accessFlags := 1537
  interfaces := #[]
  cf := some (fileOf pool5 1 #[] #[] 1537 3 #[] #[])
  fields := #[]
  methods := #[]
  instanceTypes := #[]
  staticTypes := #[]
  resolved := Array.replicate 7 none
  statics := none }

def pool6 : Array CpInfo := pool [(1, .class_ 2), (0, u "java/lang/Comparable"), (0, .class_ 4), (0, u "java/lang/Object")] 7

/-- java/lang/Comparable -/
def k6 : Class := { plain "java/lang/Comparable" (some 0) with
  accessFlags := 1537
  interfaces := #[]
  cf := some (fileOf pool6 1 #[] #[] 1537 3 #[] #[])
  fields := #[]
  methods := #[]
  instanceTypes := #[]
  staticTypes := #[]
  resolved := Array.replicate 12 none
  statics := none }

def pool7 : Array CpInfo := pool [(2, .class_ 4), (1, u "java/lang/CharSequence"), (42, .class_ 48), (0, u "java/lang/CharSequence$1CodePointIterator"), (10, .class_ 60), (0, u "java/lang/CharSequence$1CharIterator"), (5, .class_ 67), (0, u "java/lang/Object")] 63

/-- java/lang/CharSequence -/
def k7 : Class := { plain "java/lang/CharSequence" (some 0) with
  accessFlags := 1537
  interfaces := #[]
  cf := some (fileOf pool7 2 #[.nestMembers #[47, 59]] #[] 1537 66 #[] #[])
  fields := #[]
  methods := #[]
  instanceTypes := #[]
  staticTypes := #[]
  resolved := Array.replicate 131 none
  statics := none }

def pool8 : Array CpInfo := pool [(1, .class_ 2), (0, u "java/lang/constant/Constable"), (0, .class_ 4), (0, u "java/lang/Object")] 6

/-- java/lang/constant/Constable -/
def k8 : Class := { plain "java/lang/constant/Constable" (some 0) with
  accessFlags := 1537
  interfaces := #[]
  cf := some (fileOf pool8 1 #[] #[] 1537 3 #[] #[])
  fields := #[]
  methods := #[]
  instanceTypes := #[]
  staticTypes := #[]
  resolved := Array.replicate 11 none
  statics := none }

def pool9 : Array CpInfo := pool [(1, .class_ 2), (0, u "java/lang/constant/ConstantDesc"), (0, .class_ 4), (0, u "java/lang/Object")] 32

/-- java/lang/constant/ConstantDesc -/
def k9 : Class := { plain "java/lang/constant/ConstantDesc" (some 0) with
  accessFlags := 1537
  interfaces := #[]
  cf := some (fileOf pool9 1 #[] #[] 1537 3 #[] #[])
  fields := #[]
  methods := #[]
  instanceTypes := #[]
  staticTypes := #[]
  resolved := Array.replicate 37 none
  statics := none }

def pool10 : Array CpInfo := pool [(2, .class_ 4), (1, u "java/lang/Object"), (0, u "<init>"), (0, u "()V"), (2, .fieldref 10 11), (0, .class_ 12), (0, .nameAndType 13 14), (0, u "java/lang/String"), (0, u "value"), (0, u "[B"), (0, .fieldref 10 16), (0, .nameAndType 17 18), (0, u "coder"), (0, u "B"), (2, u "hash"), (0, u "I"), (2, u "hashIsZero"), (0, u "Z"), (11, .fieldref 10 39), (0, .nameAndType 40 26), (0, u "COMPACT_STRINGS"), (66, .class_ 109), (1, u "java/lang/StringLatin1"), (32, u "()Z"), (191, u "()I"), (0, .methodref 10 336), (0, .nameAndType 17 337), (0, u "()B"), (154, .methodref 10 493), (0, .nameAndType 494 142), (0, u "isLatin1"), (10, .methodref 10 506), (0, .nameAndType 507 334), (0, u "length"), (67, .class_ 576), (0, u "java/lang/CharSequence"), (22, u "CASE_INSENSITIVE_ORDER"), (0, u "Ljava/util/Comparator;"), (32, .methodref 10 634), (0, .nameAndType 635 636), (0, u "indexOf"), (0, u "(II)I"), (0, .methodref 107 638), (0, .nameAndType 635 639), (0, u "([BIII)I"), (125, u "(I)I"), (335, u "serialPersistentFields"), (0, u "[Ljava/io/ObjectStreamField;"), (0, .class_ 1104), (0, u "java/lang/String$CaseInsensitiveComparator"), (1, .class_ 1107), (0, u "java/io/Serializable"), (0, .class_ 1109), (0, u "java/lang/Comparable"), (0, .class_ 1111), (0, u "java/lang/constant/Constable"), (0, .class_ 1113), (0, u "java/lang/constant/ConstantDesc"), (2, u "serialVersionUID"), (0, u "J"), (3, u "REPL"), (0, u "C"), (2, u "LATIN1"), (1, u "UTF16")] 323

def k10m0 : Method := { name := "<init>", desc := "()V", sig := { parameters := [], returnType := none }, accessFlags := 1, code := none }
def k10c1 : Code := { maxStack := 2, maxLocals := 1, code := jdk_42_method_54_code, exceptionTable := #[], attributes := #[] }
def k10m1 : Method := { name := "length", desc := "()I", sig := { parameters := [], returnType := some .int }, accessFlags := 1, code := some k10c1 }
def k10c2 : Code := { maxStack := 3, maxLocals := 2, code := jdk_42_method_79_code, exceptionTable := #[], attributes := #[] }
def k10m2 : Method := { name := "indexOf", desc := "(I)I", sig := { parameters := [.int], returnType := some .int }, accessFlags := 1, code := some k10c2 }
def k10c3 : Code := { maxStack := 4, maxLocals := 3, code := jdk_42_method_80_code, exceptionTable := #[], attributes := #[] }
def k10m3 : Method := { name := "indexOf", desc := "(II)I", sig := { parameters := [.int, .int], returnType := some .int }, accessFlags := 1, code := some k10c3 }
def k10c4 : Code := { maxStack := 1, maxLocals := 1, code := jdk_42_method_152_code, exceptionTable := #[], attributes := #[] }
def k10m4 : Method := { name := "coder", desc := "()B", sig := { parameters := [], returnType := some .byte }, accessFlags := 0, code := some k10c4 }
def k10c5 : Code := { maxStack := 1, maxLocals := 1, code := jdk_42_method_154_code, exceptionTable := #[], attributes := #[] }
def k10m5 : Method := { name := "isLatin1", desc := "()Z", sig := { parameters := [], returnType := some .boolean }, accessFlags := 0, code := some k10c5 }
/-- java/lang/String -/
def k10 : Class := { plain "java/lang/String" (some 0) with
  accessFlags := 49
  interfaces := #[5, 6, 7, 8, 9]
  cf := some (fileOf pool10 10 #[.nestMembers #[1103]] #[{ accessFlags := 1, nameIndex := 5, descriptorIndex := 6, attributes := #[] }, { accessFlags := 1, nameIndex := 507, descriptorIndex := 334, attributes := #[] }, { accessFlags := 1, nameIndex := 635, descriptorIndex := 765, attributes := #[] }, { accessFlags := 1, nameIndex := 635, descriptorIndex := 636, attributes := #[] }, { accessFlags := 0, nameIndex := 17, descriptorIndex := 337, attributes := #[] }, { accessFlags := 0, nameIndex := 494, descriptorIndex := 142, attributes := #[] }] 49 2 #[1106, 1108, 575, 1110, 1112] #[{ accessFlags := 18, nameIndex := 13, descriptorIndex := 14, attributes := #[] }, { accessFlags := 18, nameIndex := 17, descriptorIndex := 18, attributes := #[] }, { accessFlags := 2, nameIndex := 21, descriptorIndex := 22, attributes := #[] }, { accessFlags := 2, nameIndex := 25, descriptorIndex := 26, attributes := #[] }, { accessFlags := 26, nameIndex := 1116, descriptorIndex := 1117, attributes := #[] }, { accessFlags := 24, nameIndex := 40, descriptorIndex := 26, attributes := #[] }, { accessFlags := 26, nameIndex := 1101, descriptorIndex := 1102, attributes := #[] }, { accessFlags := 26, nameIndex := 1121, descriptorIndex := 1122, attributes := #[] }, { accessFlags := 25, nameIndex := 599, descriptorIndex := 600, attributes := #[] }, { accessFlags := 24, nameIndex := 1125, descriptorIndex := 18, attributes := #[] }, { accessFlags := 24, nameIndex := 1127, descriptorIndex := 18, attributes := #[] }])
  fields := #[{ name := "value", type := (.array .byte), accessFlags := 18, slot := 0, constantValue := 0 }, { name := "coder", type := .byte, accessFlags := 18, slot := 1, constantValue := 0 }, { name := "hash", type := .int, accessFlags := 2, slot := 2, constantValue := 0 }, { name := "hashIsZero", type := .boolean, accessFlags := 2, slot := 3, constantValue := 0 }, { name := "serialVersionUID", type := .long, accessFlags := 26, slot := 0, constantValue := 0 }, { name := "COMPACT_STRINGS", type := .boolean, accessFlags := 24, slot := 1, constantValue := 0 }, { name := "serialPersistentFields", type := (.array (.object "java/io/ObjectStreamField")), accessFlags := 26, slot := 2, constantValue := 0 }, { name := "REPL", type := .char, accessFlags := 26, slot := 3, constantValue := 0 }, { name := "CASE_INSENSITIVE_ORDER", type := (.object "java/util/Comparator"), accessFlags := 25, slot := 4, constantValue := 0 }, { name := "LATIN1", type := .byte, accessFlags := 24, slot := 5, constantValue := 0 }, { name := "UTF16", type := .byte, accessFlags := 24, slot := 6, constantValue := 0 }]
  methods := #[k10m0, k10m1, k10m2, k10m3, k10m4, k10m5]
  instanceTypes := #[(.array .byte), .byte, .int, .boolean]
  staticTypes := #[.long, .boolean, (.array (.object "java/io/ObjectStreamField")), .char, (.object "java/util/Comparator"), .byte, .byte]
  resolved := Array.replicate 1451 none
  statics := some 0 }

def pool11 : Array CpInfo := pool [(4, .class_ 6), (1, u "java/lang/Object"), (0, u "<init>"), (0, u "()V"), (5, .class_ 16), (1, u "java/lang/StringLatin1"), (21, .methodref 39 40), (0, .class_ 41), (0, .nameAndType 42 43), (0, u "java/lang/Math"), (0, u "min"), (0, u "(II)I"), (44, .methodref 14 89), (0, .nameAndType 90 91), (0, u "canEncode"), (0, u "(I)Z"), (0, .methodref 39 93), (0, .nameAndType 94 43), (0, u "max"), (0, .methodref 14 96), (0, .nameAndType 97 98), (0, u "indexOfChar"), (0, u "([BIII)I"), (2, u "indexOf"), (19, u "$assertionsDisabled"), (0, u "Z"), (98, .class_ 223), (1, u "java/lang/StringLatin1$LinesSpliterator"), (166, .class_ 391), (0, u "java/lang/StringLatin1$CharsSpliterator")] 3

def k11m0 : Method := { name := "<init>", desc := "()V", sig := { parameters := [], returnType := none }, accessFlags := 0, code := none }
def k11c1 : Code := { maxStack := 2, maxLocals := 1, code := jdk_43_method_4_code, exceptionTable := #[], attributes := #[] }
def k11m1 : Method := { name := "canEncode", desc := "(I)Z", sig := { parameters := [.int], returnType := some .boolean }, accessFlags := 9, code := some k11c1 }
def k11c2 : Code := { maxStack := 4, maxLocals := 4, code := jdk_43_method_22_code, exceptionTable := #[], attributes := #[] }
def k11m2 : Method := { name := "indexOf", desc := "([BIII)I", sig := { parameters := [(.array .byte), .int, .int, .int], returnType := some .int }, accessFlags := 9, code := some k11c2 }
def k11c3 : Code := { maxStack := 2, maxLocals := 6, code := jdk_43_method_23_code, exceptionTable := #[], attributes := #[] }
def k11m3 : Method := { name := "indexOfChar", desc := "([BIII)I", sig := { parameters := [(.array .byte), .int, .int, .int], returnType := some .int }, accessFlags := 10, code := some k11c3 }
/-- java/lang/StringLatin1 -/
def k11 : Class := { plain "java/lang/StringLatin1" (some 0) with
  accessFlags := 48
  interfaces := #[]
  cf := some (fileOf pool11 14 #[.nestMembers #[390, 221]] #[{ accessFlags := 0, nameIndex := 7, descriptorIndex := 8, attributes := #[] }, { accessFlags := 9, nameIndex := 90, descriptorIndex := 91, attributes := #[] }, { accessFlags := 9, nameIndex := 101, descriptorIndex := 98, attributes := #[] }, { accessFlags := 10, nameIndex := 97, descriptorIndex := 98, attributes := #[] }] 48 4 #[] #[{ accessFlags := 4120, nameIndex := 121, descriptorIndex := 122, attributes := #[] }])
  fields := #[{ name := "$assertionsDisabled", type := .boolean, accessFlags := 4120, slot := 0, constantValue := 0 }]
  methods := #[k11m0, k11m1, k11m2, k11m3]
  instanceTypes := #[]
  staticTypes := #[.boolean]
  resolved := Array.replicate 395 none
  statics := none }

def pool12 : Array CpInfo := pool [(1, .class_ 2), (0, u "java/lang/Math"), (1, .class_ 6), (1, u "java/lang/Object"), (0, u "<init>"), (0, u "()V"), (89, .class_ 100), (1, u "java/lang/Math$RandomNumberGeneratorHolder"), (71, u "negativeZeroFloatBits"), (0, u "J"), (2, u "negativeZeroDoubleBits"), (21, u "max"), (2, u "min"), (43, u "$assertionsDisabled"), (0, u "Z"), (88, u "(II)I"), (2, u "twoToTheDoubleScaleDown"), (0, u "D"), (4, u "twoToTheDoubleScaleUp"), (9, u "E"), (3, u "PI"), (2, u "TAU"), (2, u "DEGREES_TO_RADIANS"), (0, u "RADIANS_TO_DEGREES")] 94

def k12m0 : Method := { name := "<init>", desc := "()V", sig := { parameters := [], returnType := none }, accessFlags := 2, code := none }
def k12c1 : Code := { maxStack := 2, maxLocals := 2, code := jdk_29_method_65_code, exceptionTable := #[], attributes := #[] }
def k12m1 : Method := { name := "max", desc := "(II)I", sig := { parameters := [.int, .int], returnType := some .int }, accessFlags := 9, code := some k12c1 }
def k12c2 : Code := { maxStack := 2, maxLocals := 2, code := jdk_29_method_69_code, exceptionTable := #[], attributes := #[] }
def k12m2 : Method := { name := "min", desc := "(II)I", sig := { parameters := [.int, .int], returnType := some .int }, accessFlags := 9, code := some k12c2 }
/-- java/lang/Math -/
def k12 : Class := { plain "java/lang/Math" (some 0) with
  accessFlags := 49
  interfaces := #[]
  cf := some (fileOf pool12 1 #[.nestMembers #[98]] #[{ accessFlags := 2, nameIndex := 7, descriptorIndex := 8, attributes := #[] }, { accessFlags := 9, nameIndex := 198, descriptorIndex := 335, attributes := #[] }, { accessFlags := 9, nameIndex := 201, descriptorIndex := 335, attributes := #[] }] 49 4 #[] #[{ accessFlags := 25, nameIndex := 354, descriptorIndex := 339, attributes := #[] }, { accessFlags := 25, nameIndex := 358, descriptorIndex := 339, attributes := #[] }, { accessFlags := 25, nameIndex := 361, descriptorIndex := 339, attributes := #[] }, { accessFlags := 26, nameIndex := 364, descriptorIndex := 339, attributes := #[] }, { accessFlags := 26, nameIndex := 365, descriptorIndex := 339, attributes := #[] }, { accessFlags := 26, nameIndex := 172, descriptorIndex := 173, attributes := #[] }, { accessFlags := 26, nameIndex := 176, descriptorIndex := 173, attributes := #[] }, { accessFlags := 8, nameIndex := 344, descriptorIndex := 339, attributes := #[] }, { accessFlags := 8, nameIndex := 338, descriptorIndex := 339, attributes := #[] }, { accessFlags := 4120, nameIndex := 245, descriptorIndex := 246, attributes := #[] }])
  fields := #[{ name := "E", type := .double, accessFlags := 25, slot := 0, constantValue := 0 }, { name := "PI", type := .double, accessFlags := 25, slot := 1, constantValue := 0 }, { name := "TAU", type := .double, accessFlags := 25, slot := 2, constantValue := 0 }, { name := "DEGREES_TO_RADIANS", type := .double, accessFlags := 26, slot := 3, constantValue := 0 }, { name := "RADIANS_TO_DEGREES", type := .double, accessFlags := 26, slot := 4, constantValue := 0 }, { name := "negativeZeroFloatBits", type := .long, accessFlags := 26, slot := 5, constantValue := 0 }, { name := "negativeZeroDoubleBits", type := .long, accessFlags := 26, slot := 6, constantValue := 0 }, { name := "twoToTheDoubleScaleUp", type := .double, accessFlags := 8, slot := 7, constantValue := 0 }, { name := "twoToTheDoubleScaleDown", type := .double, accessFlags := 8, slot := 8, constantValue := 0 }, { name := "$assertionsDisabled", type := .boolean, accessFlags := 4120, slot := 9, constantValue := 0 }]
  methods := #[k12m0, k12m1, k12m2]
  instanceTypes := #[]
  staticTypes := #[.double, .double, .double, .double, .double, .long, .long, .double, .double, .boolean]
  resolved := Array.replicate 460 none
  statics := none }

def pool13 : Array CpInfo := pool [(2, .class_ 4), (1, u "java/lang/Object"), (0, u "<init>"), (0, u "()V"), (17, .class_ 26), (1, u "jdk/internal/util/Preconditions"), (28, .class_ 56), (0, u "jdk/internal/util/Preconditions$4"), (57, .class_ 115), (0, u "jdk/internal/util/Preconditions$1"), (7, u "SIOOBE_FORMATTER"), (0, u "Ljava/util/function/BiFunction;"), (0, .class_ 126), (0, u "jdk/internal/util/Preconditions$2"), (3, u "AIOOBE_FORMATTER"), (0, .class_ 132), (0, u "jdk/internal/util/Preconditions$3"), (3, u "IOOBE_FORMATTER")] 57

def k13m0 : Method := { name := "<init>", desc := "()V", sig := { parameters := [], returnType := none }, accessFlags := 1, code := none }
/-- jdk/internal/util/Preconditions -/
def k13 : Class := { plain "jdk/internal/util/Preconditions" (some 0) with
  accessFlags := 33
  interfaces := #[]
  cf := some (fileOf pool13 24 #[.nestMembers #[55, 131, 125, 114]] #[{ accessFlags := 1, nameIndex := 5, descriptorIndex := 6, attributes := #[] }] 33 2 #[] #[{ accessFlags := 25, nameIndex := 123, descriptorIndex := 124, attributes := #[] }, { accessFlags := 25, nameIndex := 130, descriptorIndex := 124, attributes := #[] }, { accessFlags := 25, nameIndex := 136, descriptorIndex := 124, attributes := #[] }])
  fields := #[{ name := "SIOOBE_FORMATTER", type := (.object "java/util/function/BiFunction"), accessFlags := 25, slot := 0, constantValue := 0 }, { name := "AIOOBE_FORMATTER", type := (.object "java/util/function/BiFunction"), accessFlags := 25, slot := 1, constantValue := 0 }, { name := "IOOBE_FORMATTER", type := (.object "java/util/function/BiFunction"), accessFlags := 25, slot := 2, constantValue := 0 }]
  methods := #[k13m0]
  instanceTypes := #[]
  staticTypes := #[(.object "java/util/function/BiFunction"), (.object "java/util/function/BiFunction"), (.object "java/util/function/BiFunction")]
  resolved := Array.replicate 194 none
  statics := some 1 }

def pool14 : Array CpInfo := pool [(9, u "<init>"), (6, .class_ 18), (1, u "java/lang/Object"), (0, u "()V"), (1, .class_ 23), (1, u "jdk/internal/util/ArraysSupport"), (0, u "LOG2_ARRAY_LONG_INDEX_SCALE"), (0, u "I"), (2, u "U"), (0, u "Ljdk/internal/misc/Unsafe;"), (8, u "BIG_ENDIAN"), (0, u "Z"), (8, u "LOG2_BYTE_BIT_SIZE"), (4, u "LOG2_ARRAY_INT_INDEX_SCALE"), (54, u "JLA"), (0, u "Ljdk/internal/access/JavaLangAccess;"), (11, u "LOG2_ARRAY_BOOLEAN_INDEX_SCALE"), (9, u "LOG2_ARRAY_BYTE_INDEX_SCALE"), (5, u "LOG2_ARRAY_CHAR_INDEX_SCALE"), (5, u "LOG2_ARRAY_SHORT_INDEX_SCALE"), (18, u "LOG2_ARRAY_FLOAT_INDEX_SCALE"), (24, u "LOG2_ARRAY_DOUBLE_INDEX_SCALE"), (89, u "T_BOOLEAN"), (2, u "T_CHAR"), (1, u "T_FLOAT"), (1, u "T_DOUBLE"), (1, u "T_BYTE"), (1, u "T_SHORT"), (1, u "T_INT"), (1, u "T_LONG"), (1, u "SOFT_MAX_ARRAY_LENGTH")] 83

def k14m0 : Method := { name := "<init>", desc := "()V", sig := { parameters := [], returnType := none }, accessFlags := 2, code := none }
/-- jdk/internal/util/ArraysSupport -/
def k14 : Class := { plain "jdk/internal/util/ArraysSupport" (some 0) with
  accessFlags := 33
  interfaces := #[]
  cf := some (fileOf pool14 21 #[] #[{ accessFlags := 2, nameIndex := 9, descriptorIndex := 19, attributes := #[] }] 33 16 #[] #[{ accessFlags := 24, nameIndex := 28, descriptorIndex := 29, attributes := #[] }, { accessFlags := 26, nameIndex := 38, descriptorIndex := 39, attributes := #[] }, { accessFlags := 25, nameIndex := 121, descriptorIndex := 25, attributes := #[] }, { accessFlags := 25, nameIndex := 131, descriptorIndex := 25, attributes := #[] }, { accessFlags := 25, nameIndex := 137, descriptorIndex := 25, attributes := #[] }, { accessFlags := 25, nameIndex := 143, descriptorIndex := 25, attributes := #[] }, { accessFlags := 25, nameIndex := 53, descriptorIndex := 25, attributes := #[] }, { accessFlags := 25, nameIndex := 24, descriptorIndex := 25, attributes := #[] }, { accessFlags := 25, nameIndex := 162, descriptorIndex := 25, attributes := #[] }, { accessFlags := 25, nameIndex := 187, descriptorIndex := 25, attributes := #[] }, { accessFlags := 26, nameIndex := 48, descriptorIndex := 25, attributes := #[] }, { accessFlags := 25, nameIndex := 277, descriptorIndex := 25, attributes := #[] }, { accessFlags := 25, nameIndex := 280, descriptorIndex := 25, attributes := #[] }, { accessFlags := 25, nameIndex := 282, descriptorIndex := 25, attributes := #[] }, { accessFlags := 25, nameIndex := 284, descriptorIndex := 25, attributes := #[] }, { accessFlags := 25, nameIndex := 286, descriptorIndex := 25, attributes := #[] }, { accessFlags := 25, nameIndex := 288, descriptorIndex := 25, attributes := #[] }, { accessFlags := 25, nameIndex := 290, descriptorIndex := 25, attributes := #[] }, { accessFlags := 25, nameIndex := 292, descriptorIndex := 25, attributes := #[] }, { accessFlags := 26, nameIndex := 108, descriptorIndex := 109, attributes := #[] }, { accessFlags := 25, nameIndex := 294, descriptorIndex := 25, attributes := #[] }])
  fields := #[{ name := "U", type := (.object "jdk/internal/misc/Unsafe"), accessFlags := 24, slot := 0, constantValue := 0 }, { name := "BIG_ENDIAN", type := .boolean, accessFlags := 26, slot := 1, constantValue := 0 }, { name := "LOG2_ARRAY_BOOLEAN_INDEX_SCALE", type := .int, accessFlags := 25, slot := 2, constantValue := 0 }, { name := "LOG2_ARRAY_BYTE_INDEX_SCALE", type := .int, accessFlags := 25, slot := 3, constantValue := 0 }, { name := "LOG2_ARRAY_CHAR_INDEX_SCALE", type := .int, accessFlags := 25, slot := 4, constantValue := 0 }, { name := "LOG2_ARRAY_SHORT_INDEX_SCALE", type := .int, accessFlags := 25, slot := 5, constantValue := 0 }, { name := "LOG2_ARRAY_INT_INDEX_SCALE", type := .int, accessFlags := 25, slot := 6, constantValue := 0 }, { name := "LOG2_ARRAY_LONG_INDEX_SCALE", type := .int, accessFlags := 25, slot := 7, constantValue := 0 }, { name := "LOG2_ARRAY_FLOAT_INDEX_SCALE", type := .int, accessFlags := 25, slot := 8, constantValue := 0 }, { name := "LOG2_ARRAY_DOUBLE_INDEX_SCALE", type := .int, accessFlags := 25, slot := 9, constantValue := 0 }, { name := "LOG2_BYTE_BIT_SIZE", type := .int, accessFlags := 26, slot := 10, constantValue := 0 }, { name := "T_BOOLEAN", type := .int, accessFlags := 25, slot := 11, constantValue := 0 }, { name := "T_CHAR", type := .int, accessFlags := 25, slot := 12, constantValue := 0 }, { name := "T_FLOAT", type := .int, accessFlags := 25, slot := 13, constantValue := 0 }, { name := "T_DOUBLE", type := .int, accessFlags := 25, slot := 14, constantValue := 0 }, { name := "T_BYTE", type := .int, accessFlags := 25, slot := 15, constantValue := 0 }, { name := "T_SHORT", type := .int, accessFlags := 25, slot := 16, constantValue := 0 }, { name := "T_INT", type := .int, accessFlags := 25, slot := 17, constantValue := 0 }, { name := "T_LONG", type := .int, accessFlags := 25, slot := 18, constantValue := 0 }, { name := "JLA", type := (.object "jdk/internal/access/JavaLangAccess"), accessFlags := 26, slot := 19, constantValue := 0 }, { name := "SOFT_MAX_ARRAY_LENGTH", type := .int, accessFlags := 25, slot := 20, constantValue := 0 }]
  methods := #[k14m0]
  instanceTypes := #[]
  staticTypes := #[(.object "jdk/internal/misc/Unsafe"), .boolean, .int, .int, .int, .int, .int, .int, .int, .int, .int, .int, .int, .int, .int, .int, .int, .int, .int, (.object "jdk/internal/access/JavaLangAccess"), .int]
  resolved := Array.replicate 378 none
  statics := none }

def pool15 : Array CpInfo := pool [(1, u "java/lang/Cloneable"), (0, .class_ 1), (0, u "java/lang/Object"), (0, .class_ 3)] 3

/-- java/lang/Cloneable -/
def k15 : Class := { plain "java/lang/Cloneable" (some 0) with
  accessFlags := 1537
  interfaces := #[]
  cf := some (fileOf pool15 2 #[] #[] 1537 4 #[] #[])
  fields := #[]
  methods := #[]
  instanceTypes := #[]
  staticTypes := #[]
  resolved := Array.replicate 8 none
  statics := none }

/-- the primitive byte -/
def k16 : Class := { plain "byte" none with kind := .primitive 'B', accessFlags := 0x411 }
/-- [B -/
def k17 : Class := { plain "[B" (some 0) with kind := .array 16 .byte, interfaces := #[15, 5], accessFlags := 1041 }

/-- the primitive int -/
def k18 : Class := { plain "int" none with kind := .primitive 'I', accessFlags := 0x411 }
/-- [I -/
def k19 : Class := { plain "[I" (some 0) with kind := .array 18 .int, interfaces := #[15, 5], accessFlags := 1041 }

def heap : Heap := #[{ cls := 10, slots := #[.long 0, .int 1, .null, .int 0, .null, .int 0, .int 0], vm := .statics 10 },
  { cls := 13, slots := #[.null, .null, .null], vm := .statics 13 }]
def classes : Array Class := #[k0, k1, k2, k3, k4, k5, k6, k7, k8, k9, k10, k11, k12, k13, k14, k15, k16, k17, k18, k19]
def interned : List (Array UInt16 × Addr) := []
def slotsUsed : Nat := 10
def theMethod : MethodId := ⟨1, 1⟩
def args0 : Array Value := #[.int 65, .int 60]
def aboutOver (below : List Frame) : State where
  vm := { classes := classes, interned := interned.toArray }
  heap := heap
  slotsUsed := slotsUsed
  threads := #[{ frames := .invoking theMethod args0 :: below }]
def below0 : List Frame := [.native { method := ⟨0, 0⟩, args := #[] }]
def about1 : State := aboutOver below0
def p0 : Program := .bare "" "" ""
def e0 : Env := launch0.env 0 0 0
theorem w_frames : about1.frames = Frame.invoking theMethod args0 :: below0 := rfl
set_option maxRecDepth 65536 in
theorem w_args : argsFit about1.vm theMethod args0 = true := by decide +kernel
set_option maxRecDepth 65536 in
theorem w_heap : heapFits about1 = true := by decide +kernel
set_option maxRecDepth 65536 in
theorem w_runnable : about1.curStatus? = some .runnable := by decide +kernel
set_option maxRecDepth 65536 in
theorem w_alone : about1.alone = true := by decide +kernel
set_option maxRecDepth 65536 in
theorem w_named : about1.methodNamed? x = some theMethod := by decide +kernel
set_option maxRecDepth 65536 in
theorem w_hears : about1.hears theMethod below0 = true := by decide +kernel
set_option maxRecDepth 65536 in
theorem w_ripe : about1.ripe theMethod args0 below0 = true := by decide +kernel
theorem w_running : about1.status = .running := rfl
set_option maxRecDepth 65536 in
theorem w_room : about1.hasRoom e0.platform room_1 = true :=
  launch0.hasRoom_least _ room_1 (by decide +kernel) (by decide +kernel) (by decide +kernel) (by decide +kernel) (by decide +kernel) (by decide +kernel)
theorem allAtoms_all (ts : List Jvm.Cond) (a : Array Jvm.Value) (st : Jvm.State) : (allAtoms ts).before a st = ts.all (fun c => c.before a st) := by
  induction ts with
  | nil => rfl
  | cons c t ih =>
    show (Jvm.Cond.and c (allAtoms t)).before a st = _
    rw [Jvm.Cond.before_and, ih, List.all_cons]
def words1 : List Jvm.Cond := Jvm.Cond.code x code maxLocals ret :: tables_1
/-- a 'code' word, met by the world's own term for the bytes: nothing is compared byte by byte -/
theorem code_word {y : MethodName} {bytes : ByteArray} {mx : Nat} {rt : Option FieldType} {a : Array Value} {s : State} {m : MethodId} {meth : Method} {c : Code} (h1 : s.methodNamed? y = some m) (h2 : s.vm.method? m = some meth) (h3 : meth.code = some c) (h4 : c.code = bytes)
    (h5 : (c.maxLocals == mx && c.exceptionTable.isEmpty && decide (c.maxStack ≤ mostOperands) && decide (meth.sig.returnType = rt) && !meth.locks && decide (parseMethodDescriptor y.desc = some meth.sig)) = true) : (Jvm.Cond.code y bytes mx rt).before a s = true := by
  simp only [Bool.and_eq_true, beq_iff_eq, Bool.not_eq_true', decide_eq_true_eq] at h5
  obtain ⟨⟨⟨⟨⟨g1, g2⟩, g3⟩, g4⟩, g5⟩, g6⟩ := h5
  simp [Cond.before, Cond.holds, Cond.value, h1, h2, h3, h4, g1, g2, g3, g4, g5, g6]
def isCode : Jvm.Cond → Bool
  | .code _ _ _ _ => true
  | _ => false
theorem all_split {L : List Jvm.Cond} {P : Jvm.Cond → Bool} (h1 : L.all (fun c => isCode c || P c) = true) (h2 : ∀ c ∈ L.filter isCode, P c = true) : L.all P = true := by
  refine List.all_eq_true.mpr fun c hc => ?_
  have h := List.all_eq_true.mp h1 c hc
  rcases Bool.eq_false_or_eq_true (isCode c) with hi | hi
  · exact h2 c (List.mem_filter.mpr ⟨hc, hi⟩)
  · simpa [hi] using h
set_option maxRecDepth 65536 in
theorem w_c0 : (Jvm.Cond.code x code maxLocals ret).before args0 about1 = true := code_word (m := ⟨1, 1⟩) (meth := k1m1) (c := k1c1) (by decide +kernel) rfl rfl rfl (by decide +kernel)
set_option maxRecDepth 65536 in
theorem w_c1 : (Jvm.Cond.code ({ cls := "com/example/pathwise/pathwise/model/Iri", name := "allows", desc := "(I)Z" } : Jvm.MethodName) prog_35_method_2_code (1 : Nat) (Option.some Jvm.ClassFile.FieldType.boolean)).before args0 about1 = true := code_word (m := ⟨4, 0⟩) (meth := k4m0) (c := k4c0) (by decide +kernel) rfl rfl rfl (by decide +kernel)
set_option maxRecDepth 65536 in
theorem w_c2 : (Jvm.Cond.code ({ cls := "java/lang/String", name := "indexOf", desc := "(I)I" } : Jvm.MethodName) jdk_42_method_79_code (2 : Nat) (Option.some Jvm.ClassFile.FieldType.int)).before args0 about1 = true := code_word (m := ⟨10, 2⟩) (meth := k10m2) (c := k10c2) (by decide +kernel) rfl rfl rfl (by decide +kernel)
set_option maxRecDepth 65536 in
theorem w_c3 : (Jvm.Cond.code ({ cls := "java/lang/String", name := "indexOf", desc := "(II)I" } : Jvm.MethodName) jdk_42_method_80_code (3 : Nat) (Option.some Jvm.ClassFile.FieldType.int)).before args0 about1 = true := code_word (m := ⟨10, 3⟩) (meth := k10m3) (c := k10c3) (by decide +kernel) rfl rfl rfl (by decide +kernel)
set_option maxRecDepth 65536 in
theorem w_c4 : (Jvm.Cond.code ({ cls := "java/lang/String", name := "isLatin1", desc := "()Z" } : Jvm.MethodName) jdk_42_method_154_code (1 : Nat) (Option.some Jvm.ClassFile.FieldType.boolean)).before args0 about1 = true := code_word (m := ⟨10, 5⟩) (meth := k10m5) (c := k10c5) (by decide +kernel) rfl rfl rfl (by decide +kernel)
set_option maxRecDepth 65536 in
theorem w_c5 : (Jvm.Cond.code ({ cls := "java/lang/String", name := "length", desc := "()I" } : Jvm.MethodName) jdk_42_method_54_code (1 : Nat) (Option.some Jvm.ClassFile.FieldType.int)).before args0 about1 = true := code_word (m := ⟨10, 1⟩) (meth := k10m1) (c := k10c1) (by decide +kernel) rfl rfl rfl (by decide +kernel)
set_option maxRecDepth 65536 in
theorem w_c6 : (Jvm.Cond.code ({ cls := "java/lang/String", name := "coder", desc := "()B" } : Jvm.MethodName) jdk_42_method_152_code (1 : Nat) (Option.some Jvm.ClassFile.FieldType.byte)).before args0 about1 = true := code_word (m := ⟨10, 4⟩) (meth := k10m4) (c := k10c4) (by decide +kernel) rfl rfl rfl (by decide +kernel)
set_option maxRecDepth 65536 in
theorem w_c7 : (Jvm.Cond.code ({ cls := "java/lang/StringLatin1", name := "indexOf", desc := "([BIII)I" } : Jvm.MethodName) jdk_43_method_22_code (4 : Nat) (Option.some Jvm.ClassFile.FieldType.int)).before args0 about1 = true := code_word (m := ⟨11, 2⟩) (meth := k11m2) (c := k11c2) (by decide +kernel) rfl rfl rfl (by decide +kernel)
set_option maxRecDepth 65536 in
theorem w_c8 : (Jvm.Cond.code ({ cls := "java/lang/StringLatin1", name := "canEncode", desc := "(I)Z" } : Jvm.MethodName) jdk_43_method_4_code (1 : Nat) (Option.some Jvm.ClassFile.FieldType.boolean)).before args0 about1 = true := code_word (m := ⟨11, 1⟩) (meth := k11m1) (c := k11c1) (by decide +kernel) rfl rfl rfl (by decide +kernel)
set_option maxRecDepth 65536 in
theorem w_c9 : (Jvm.Cond.code ({ cls := "java/lang/Math", name := "max", desc := "(II)I" } : Jvm.MethodName) jdk_29_method_65_code (2 : Nat) (Option.some Jvm.ClassFile.FieldType.int)).before args0 about1 = true := code_word (m := ⟨12, 1⟩) (meth := k12m1) (c := k12c1) (by decide +kernel) rfl rfl rfl (by decide +kernel)
set_option maxRecDepth 65536 in
theorem w_c10 : (Jvm.Cond.code ({ cls := "java/lang/Math", name := "min", desc := "(II)I" } : Jvm.MethodName) jdk_29_method_69_code (2 : Nat) (Option.some Jvm.ClassFile.FieldType.int)).before args0 about1 = true := code_word (m := ⟨12, 2⟩) (meth := k12m2) (c := k12c2) (by decide +kernel) rfl rfl rfl (by decide +kernel)
set_option maxRecDepth 65536 in
theorem w_c11 : (Jvm.Cond.code ({ cls := "java/lang/StringLatin1", name := "indexOfChar", desc := "([BIII)I" } : Jvm.MethodName) jdk_43_method_23_code (6 : Nat) (Option.some Jvm.ClassFile.FieldType.int)).before args0 about1 = true := code_word (m := ⟨11, 3⟩) (meth := k11m3) (c := k11c3) (by decide +kernel) rfl rfl rfl (by decide +kernel)
def codes1 : List Jvm.Cond := [Jvm.Cond.code x code maxLocals ret, Jvm.Cond.code ({ cls := "com/example/pathwise/pathwise/model/Iri", name := "allows", desc := "(I)Z" } : Jvm.MethodName) prog_35_method_2_code (1 : Nat) (Option.some Jvm.ClassFile.FieldType.boolean), Jvm.Cond.code ({ cls := "java/lang/String", name := "indexOf", desc := "(I)I" } : Jvm.MethodName) jdk_42_method_79_code (2 : Nat) (Option.some Jvm.ClassFile.FieldType.int), Jvm.Cond.code ({ cls := "java/lang/String", name := "indexOf", desc := "(II)I" } : Jvm.MethodName) jdk_42_method_80_code (3 : Nat) (Option.some Jvm.ClassFile.FieldType.int), Jvm.Cond.code ({ cls := "java/lang/String", name := "isLatin1", desc := "()Z" } : Jvm.MethodName) jdk_42_method_154_code (1 : Nat) (Option.some Jvm.ClassFile.FieldType.boolean), Jvm.Cond.code ({ cls := "java/lang/String", name := "length", desc := "()I" } : Jvm.MethodName) jdk_42_method_54_code (1 : Nat) (Option.some Jvm.ClassFile.FieldType.int), Jvm.Cond.code ({ cls := "java/lang/String", name := "coder", desc := "()B" } : Jvm.MethodName) jdk_42_method_152_code (1 : Nat) (Option.some Jvm.ClassFile.FieldType.byte), Jvm.Cond.code ({ cls := "java/lang/StringLatin1", name := "indexOf", desc := "([BIII)I" } : Jvm.MethodName) jdk_43_method_22_code (4 : Nat) (Option.some Jvm.ClassFile.FieldType.int), Jvm.Cond.code ({ cls := "java/lang/StringLatin1", name := "canEncode", desc := "(I)Z" } : Jvm.MethodName) jdk_43_method_4_code (1 : Nat) (Option.some Jvm.ClassFile.FieldType.boolean), Jvm.Cond.code ({ cls := "java/lang/Math", name := "max", desc := "(II)I" } : Jvm.MethodName) jdk_29_method_65_code (2 : Nat) (Option.some Jvm.ClassFile.FieldType.int), Jvm.Cond.code ({ cls := "java/lang/Math", name := "min", desc := "(II)I" } : Jvm.MethodName) jdk_29_method_69_code (2 : Nat) (Option.some Jvm.ClassFile.FieldType.int), Jvm.Cond.code ({ cls := "java/lang/StringLatin1", name := "indexOfChar", desc := "([BIII)I" } : Jvm.MethodName) jdk_43_method_23_code (6 : Nat) (Option.some Jvm.ClassFile.FieldType.int)]
set_option maxRecDepth 65536 in
theorem codes_eq : words1.filter isCode = codes1 := rfl
theorem w_codes : ∀ c ∈ words1.filter isCode, c.before args0 about1 = true := by
  rw [codes_eq]
  intro c hc
  simp only [codes1, List.mem_cons, List.not_mem_nil, or_false] at hc
  rcases hc with rfl | rfl | rfl | rfl | rfl | rfl | rfl | rfl | rfl | rfl | rfl | rfl
  · exact w_c0
  · exact w_c1
  · exact w_c2
  · exact w_c3
  · exact w_c4
  · exact w_c5
  · exact w_c6
  · exact w_c7
  · exact w_c8
  · exact w_c9
  · exact w_c10
  · exact w_c11
set_option maxRecDepth 65536 in
theorem w_t1 : (words1.take 24).all (fun c => isCode c || c.before args0 about1) = true := by decide +kernel
set_option maxRecDepth 65536 in
theorem w_t2 : ((words1.drop 24).take 24).all (fun c => isCode c || c.before args0 about1) = true := by decide +kernel
set_option maxRecDepth 65536 in
theorem w_t3 : ((words1.drop 24).drop 24).all (fun c => isCode c || c.before args0 about1) = true := by decide +kernel
theorem w_tables : (allAtoms (Jvm.Cond.code x code maxLocals ret :: tables_1)).before args0 about1 = true := by
  rw [allAtoms_all]
  show words1.all (fun c => c.before args0 about1) = true
  refine all_split ?_ w_codes
  rw [← List.take_append_drop 24 words1, List.all_append, w_t1, ← List.take_append_drop 24 (words1.drop 24), List.all_append, w_t2, w_t3]
  rfl
set_option maxRecDepth 65536 in
theorem w_rest : rest_1_c.before args0 about1 = true := by decide +kernel
set_option maxRecDepth 65536 in
theorem w_case : (Jvm.Cond.and given_1 narrow_1).before args0 about1 = true := by decide +kernel
set_option maxRecDepth 65536 in
theorem w_consts : constsHeld consts_1 about1 := Jvm.Lit.constsHeldB_iff.mp (by decide +kernel)
theorem w_applies : (headSpec (Jvm.Cond.code x code maxLocals ret :: tables_1) room_1).applies x e0.platform about1 = true :=
  (Spec.applies_iff w_frames).mpr ⟨w_running, w_runnable, w_alone, w_named, w_hears, w_ripe, w_room, w_tables⟩
theorem atStart : AtStart classFile x code maxLocals ret World_1 tables_1 room_1 Calls_1 rest_1 Pre_1 launch0 p0 e0 about1 theMethod args0 below0 :=
  ⟨lists_1, trivial, launch0.admits_env _ _ _, launch0.least_env, fairChoices_fair.cas, fairChoices_fair.clock, w_frames, w_args, w_heap, w_applies, ⟨w_consts, trivial⟩, w_rest, w_case⟩
end start1
theorem witness_1 : WitnessClaimed_1 := ⟨start1.p0, start1.e0, start1.about1, start1.theMethod, start1.args0, start1.below0, start1.atStart⟩
end Jvm.Pilot.@@N@@
