import JvmDerived
import JvmDerived.Pilot.@@N@@Statement
import JvmDerived.Pilot.@@N@@Code
set_option linter.unusedVariables false
set_option linter.unusedSimpArgs false

namespace Jvm.Pilot.@@N@@
open Jvm Jvm.ClassFile Sem Op Lib Jvm.Free Jvm.Stand Jvm.LawKit Jvm.RoadKit Bundle Jvm.Pilot.@@N@@.Jvm.D
/-- the run from U comes to an end of which P holds -/
def own_Go (tb : Tables) (e : Env) (below : List Frame) (P : Outcome → State → Prop) (U : State) : Prop :=
  ∃ s₂ o, Steps tb e below U s₂ ∧ s₂.status = .running ∧ Ended s₂ below o ∧ P o s₂
theorem own_go {tb : Tables} {e : Env} {below : List Frame} {P : Outcome → State → Prop} {U U' : State} (k : ∀ t, Steps tb e below U' t → Steps tb e below U t) (h : own_Go tb e below P U') : own_Go tb e below P U := by
  obtain ⟨t, o, h1, h2⟩ := h
  exact ⟨t, o, k t h1, h2⟩
section Own
variable {p : Program} {l : Launch} {e : Env} {R : Room} {s : State} {m : MethodId} {args : Array Value} {below : List Frame} {meth : Method} {c : Code} {T : State} {locs : List Loc} {cells slots : Nat}
theorem own_retI (X : Stand p l e R s m args below meth c T locs cells slots) (hx : p.tables.exec = Jvm.exec) {pc : Nat} {Ls : Array Slot} {z : Int32} {rest : List Value} (hret : meth.sig.returnType = some .int) (hd : decode c.code pc = .ok (.ireturn, 1)) {fs : List Frame}
    (hl : ∀ (f : JFrame) (acts : List Action), f.method = m → f.locked = none → f.entered = [] → (doReturn e (T.setTop f) acts (some (.int z))).1 = T.setFrames fs) : Steps p.tables e below (T.setTop (mkF m pc Ls (.int z :: rest))) (T.setFrames fs) := by
  have hm' : T.vm.method? m = some meth := X.method'
  have hn : narrow .int (.int z) = .int z := rfl
  show Steps p.tables e below (T.setTop { method := m, pc := pc, locals := Ls, stack := _ :: rest, locked := none }) _
  jvm_step X.here [X.here.top, hx, hd, hm', hret, hn]
  first | (intro acts; rw [hl _ acts rfl rfl rfl]) | rw [hl _ _ rfl rfl rfl]
  exact Steps.refl _
theorem own_retJ (X : Stand p l e R s m args below meth c T locs cells slots) (hx : p.tables.exec = Jvm.exec) {pc : Nat} {Ls : Array Slot} {z : Int64} {rest : List Value} (hret : meth.sig.returnType = some .long) (hd : decode c.code pc = .ok (.lreturn, 1)) {fs : List Frame}
    (hl : ∀ (f : JFrame) (acts : List Action), f.method = m → f.locked = none → f.entered = [] → (doReturn e (T.setTop f) acts (some (.long z))).1 = T.setFrames fs) : Steps p.tables e below (T.setTop (mkF m pc Ls (.long z :: rest))) (T.setFrames fs) := by
  have hm' : T.vm.method? m = some meth := X.method'
  show Steps p.tables e below (T.setTop { method := m, pc := pc, locals := Ls, stack := _ :: rest, locked := none }) _
  jvm_step X.here [X.here.top, hx, hd, hm', hret, narrow]
  first | (intro acts; rw [hl _ acts rfl rfl rfl]) | rw [hl _ _ rfl rfl rfl]
  exact Steps.refl _
theorem own_mapI (xs : List Int32) (i : Nat) : (xs.map Value.int).getD i (.int 0) = .int (xs.getD i 0) := by
  simp only [List.getD_eq_getElem?_getD, List.getElem?_map]; cases xs[i]? <;> rfl
theorem own_mapJ (xs : List Int64) (i : Nat) : (xs.map Value.long).getD i (.long 0) = .long (xs.getD i 0) := by
  simp only [List.getD_eq_getElem?_getD, List.getElem?_map]; cases xs[i]? <;> rfl
theorem own_kx {h h' : Heap} (K : Keep h h' []) : Ext h h' := ⟨K.1, fun a c q => K.2.1 a c q (by simp)⟩
theorem own_retA (X : Stand p l e R s m args below meth c T locs cells slots) (hx : p.tables.exec = Jvm.exec) {pc : Nat} {Ls : Array Slot} {z : Addr} {rest : List Value} {C : String} (hret : meth.sig.returnType = some (.object C)) (hd : decode c.code pc = .ok (.areturn, 1)) {fs : List Frame}
    (hl : ∀ (f : JFrame) (acts : List Action), f.method = m → f.locked = none → f.entered = [] → (doReturn e (T.setTop f) acts (some (.ref z))).1 = T.setFrames fs) : Steps p.tables e below (T.setTop (mkF m pc Ls (.ref z :: rest))) (T.setFrames fs) := by
  have hm' : T.vm.method? m = some meth := X.method'
  show Steps p.tables e below (T.setTop { method := m, pc := pc, locals := Ls, stack := _ :: rest, locked := none }) _
  jvm_step X.here [X.here.top, hx, hd, hm', hret, Value.isRef, FieldType.isReference]
  first | (intro acts; rw [hl _ acts rfl rfl rfl]) | rw [hl _ _ rfl rfl rfl]
  exact Steps.refl _
theorem own_endH {Q : Option Value → Heap → List Loc → Prop} {kc ks n : Nat} {vm₁ : Vm} {Z : State} {EL : List (String × Nat)} (X : Stand p l e R (s.setVm vm₁) m args below meth c T locs cells slots) (hC : CHr Z EL s.vm s.heap T.vm T.heap) (hS : s.Since vm₁ n) (hn : n ≤ T.heap.size) (hlocks : meth.locks = false) {g : JFrame} {v : Option Value}
    (hv : meth.sig.returnType = none → v = none)
    (hs : ∀ fs, (∀ (f : JFrame) (acts : List Action), f.method = m → f.locked = none → f.entered = [] → (doReturn e (T.setTop f) acts v).1 = T.setFrames fs) → Steps p.tables e below (T.setTop g) (T.setFrames fs))
    (hQ : Q v T.heap locs) (h1 : cells ≤ kc) (h2 : slots ≤ ks) :
    own_Go p.tables e below (fun o U' => ∃ v L, o = .returned v ∧ Q v U'.heap L ∧ CHr Z EL s.vm s.heap U'.vm U'.heap ∧ ReturnedEndW s o U' L kc ks) (T.setTop g) := by
  obtain ⟨fs, hr, hrun, hended, h3, h4, h5, h6⟩ := X.leaveW hS hn (v := v) hv hlocks
  exact ⟨_, _, hs fs hr, hrun, hended, _, _, rfl, hQ, hC, h3, h4, h5, h6.mono h1 h2⟩
theorem own_endW {Q : Option Value → Heap → List Loc → Prop} {kc ks n : Nat} {vm₁ : Vm} (X : Stand p l e R (s.setVm vm₁) m args below meth c T locs cells slots) (hS : s.Since vm₁ n) (hn : n ≤ T.heap.size) (hlocks : meth.locks = false) {g : JFrame} {v : Option Value}
    (hv : meth.sig.returnType = none → v = none)
    (hs : ∀ fs, (∀ (f : JFrame) (acts : List Action), f.method = m → f.locked = none → f.entered = [] → (doReturn e (T.setTop f) acts v).1 = T.setFrames fs) → Steps p.tables e below (T.setTop g) (T.setFrames fs))
    (hQ : Q v T.heap locs) (h1 : cells ≤ kc) (h2 : slots ≤ ks) :
    own_Go p.tables e below (fun o U' => ∃ v L, o = .returned v ∧ Q v U'.heap L ∧ ReturnedEndW s o U' L kc ks) (T.setTop g) := by
  obtain ⟨fs, hr, hrun, hended, h3, h4, h5, h6⟩ := X.leaveW hS hn (v := v) hv hlocks
  exact ⟨_, _, hs fs hr, hrun, hended, _, _, rfl, hQ, h3, h4, h5, h6.mono h1 h2⟩
theorem own_end {Q : Option Value → Heap → List Loc → Prop} {kc ks : Nat} (X : Stand p l e R s m args below meth c T locs cells slots) (hlocks : meth.locks = false) {g : JFrame} {v : Option Value}
    (hv : meth.sig.returnType = none → v = none)
    (hs : ∀ fs, (∀ (f : JFrame) (acts : List Action), f.method = m → f.locked = none → f.entered = [] → (doReturn e (T.setTop f) acts v).1 = T.setFrames fs) → Steps p.tables e below (T.setTop g) (T.setFrames fs))
    (hQ : Q v T.heap locs) (h1 : cells ≤ kc) (h2 : slots ≤ ks) :
    own_Go p.tables e below (fun o U' => ∃ v L, o = .returned v ∧ Q v U'.heap L ∧ FrameEnd s o U' L kc ks) (T.setTop g) := by
  obtain ⟨fs, hr, hrun, hended, hW, hsame⟩ := X.leave (v := v) hv hlocks
  exact ⟨_, _, hs fs hr, hrun, hended, _, _, rfl, hQ, ⟨_, rfl⟩, hW, hsame.mono h1 h2⟩
end Own
theorem own_wS {Z : State} {a0 : Array Value} (hw : ∀ d ∈ tables_1, d.before a0 Z = true) : ∀ a ∈ Bundle.stringAtoms, a.before a0 Z = true := fun c hc =>
  hw c (by simpa using (List.all_eq_true.mp (by decide +kernel : (Bundle.stringAtoms.all fun c => tables_1.contains c) = true)) c hc)

/-- the constant's text, out of the sheet's own word -/
def own_text : String := match (tables_1[0]? : Option Jvm.Cond) with
  | some (Jvm.Cond.stringLink _ _ t) => t
  | _ => ""
theorem own_litw {Z : State} {a0 : Array Value} (hw : ∀ d ∈ tables_1, d.before a0 Z = true) : (Jvm.Cond.stringLink "com/example/labframe/labframe/wire/FrameIsHexDigitPinLaw" 7 own_text).before a0 Z = true := hw _ (List.mem_of_getElem? (i := 0) rfl)
theorem own_lit : (∀ c ∈ own_text.toList, c.toNat < 256) ∧ own_text.toList.map (fun c => Value.int (Jvm.Lit.byteI c.toNat.toUInt16)) = [(.int (48 : Int32)), (.int (49 : Int32)), (.int (50 : Int32)), (.int (51 : Int32)), (.int (52 : Int32)), (.int (53 : Int32)), (.int (54 : Int32)), (.int (55 : Int32)), (.int (56 : Int32)), (.int (57 : Int32)), (.int (65 : Int32)), (.int (66 : Int32)), (.int (67 : Int32)), (.int (68 : Int32)), (.int (69 : Int32)), (.int (70 : Int32))] := by decide +kernel
theorem own_EL {Z : State} {a0 : Array Value} (hw : ∀ d ∈ tables_1, d.before a0 Z = true) : EW Z a0 consts_1 := EW.cons (own_litw hw) own_lit.1 EW.nil
theorem ds1_0 : decode jdk_42_method_154_code 0 = .ok (.getstatic 38, 3) := by decide +kernel
theorem ds1_3 : decode jdk_42_method_154_code 3 = .ok (.ifCond .eq 14, 3) := by decide +kernel
theorem ds1_6 : decode jdk_42_method_154_code 6 = .ok (.aload_n 0, 1) := by decide +kernel
theorem ds1_7 : decode jdk_42_method_154_code 7 = .ok (.getfield 15, 3) := by decide +kernel
theorem ds1_10 : decode jdk_42_method_154_code 10 = .ok (.ifCond .ne 7, 3) := by decide +kernel
theorem ds1_13 : decode jdk_42_method_154_code 13 = .ok (.iconst 1, 1) := by decide +kernel
theorem ds1_14 : decode jdk_42_method_154_code 14 = .ok (.goto 4, 3) := by decide +kernel
theorem ds1_18 : decode jdk_42_method_154_code 18 = .ok (.ireturn, 1) := by decide +kernel
theorem pns1 : plainName "java/lang/String" = true := by first | (simp [plainName, overriddenIn]; done) | decide +kernel
theorem efs1 (m : MethodId) (a0 : Addr) : entryFrame m #[(.ref a0)] 1 = mkF m 0 #[.val (.ref a0)] [] := by first | (simp [entryFrame, mkF, argsToLocals, Value.category]; done) | rfl
def own_Qs1 (Z : State) (a0 : Addr) (ab : Addr) (ka : ClassId) (wc : Int32) (h0 : Heap) (n0 : Nat) (v : Option Value) (h : Heap) (L : List Loc) : Prop := v = some (.int (1 : Int32)) ∧ Fr n0 L ∧ h = h0
set_option maxRecDepth 65536 in
set_option maxHeartbeats 40000000 in
theorem rms1 (l : Launch) (Z : State) (az : Array Value) (hw : ∀ d ∈ tables_1, d.before az Z = true) (ws : List Jvm.Cond) (a0 : Addr) (ab : Addr) (ka : ClassId) (wc : Int32) (h0 : Heap) (n0 : Nat) (Z0 : n0 ≤ h0.size) (F_a0_coder : Fld Z h0 a0 "java/lang/String" "coder" "B" (.int (0 : Int32))) (F_a0_value : Fld Z h0 a0 "java/lang/String" "value" "[B" (.ref ab)) (E_a0 : Exa Z h0 a0 "java/lang/String") (V_ab : Arv Z h0 ab ka .byte (16 : Int32) [(.int (48 : Int32)), (.int (49 : Int32)), (.int (50 : Int32)), (.int (51 : Int32)), (.int (52 : Int32)), (.int (53 : Int32)), (.int (54 : Int32)), (.int (55 : Int32)), (.int (56 : Int32)), (.int (57 : Int32)), (.int (65 : Int32)), (.int (66 : Int32)), (.int (67 : Int32)), (.int (68 : Int32)), (.int (69 : Int32)), (.int (70 : Int32))] (.int (0 : Int32))) (S_COMPACT_STRINGS : Sta Z h0 "java/lang/String" "COMPACT_STRINGS" "Z" (.int wc)) (hwc : ¬ (wc = (0 : Int32))) :
    MetFree l (⟨"java/lang/String", "isLatin1", "()Z"⟩ : MethodName) (head1 (Jvm.Cond.code (⟨"java/lang/String", "isLatin1", "()Z"⟩ : MethodName) jdk_42_method_154_code 1 (some .boolean) :: ws) ({ frames := 0, cells := 0, slots := 0, locals := 0 } : Room)) (fun a U => a = #[(.ref a0)] ∧ Z.Warmed39 U.vm ∧ U.heap = h0) (fun _ _ _ _ _ => True) (fun _ U o U' => ∃ v L, o = .returned v ∧ own_Qs1 Z a0 ab ka wc h0 n0 v U'.heap L ∧ FrameEnd U o U' L ({ frames := 0, cells := 0, slots := 0, locals := 0 } : Room).cells ({ frames := 0, cells := 0, slots := 0, locals := 0 } : Room).slots) := by
  refine MetFree.of_bodySF (plainFor_of_name pns1) hisR ?_
  intro p e s m args below meth c s₁ Bd hml0 hP hK
  obtain ⟨rfl, hZ, hh⟩ := hP
  have hx := Bd.exec
  have hby := Bd.bytes
  have hml : c.maxLocals = 1 := hml0
  have hown : s.vm.findClass "java/lang/String" = some m.cls := findClass_of_methodNamed Bd.named
  have hnm := (name_of_methodNamed Bd.named Bd.method).1
  have X0 : Stand p l e ({ frames := 0, cells := 0, slots := 0, locals := 0 } : Room) s m #[(.ref a0)] below meth c s₁ [] 0 0 := Stand.of_body Bd
  have e0 : s₁.heap = h0 := by rw [← hh, Bd.state]; rfl
  have N0 := Fr.nil n0
  show own_Go p.tables e below (fun o U' => ∃ v L, o = .returned v ∧ own_Qs1 Z a0 ab ka wc h0 n0 v U'.heap L ∧ FrameEnd s o U' L ({ frames := 0, cells := 0, slots := 0, locals := 0 } : Room).cells ({ frames := 0, cells := 0, slots := 0, locals := 0 } : Room).slots) (s₁.setTop (entryFrame m #[(.ref a0)] 1))
  refine own_go (fun _ k => castTop (efs1 m a0) k) ?_
  show own_Go p.tables e below _ (s₁.setTop (mkF m 0 #[.val (.ref a0)] []))
  obtain ⟨T1, X1, e1, st1⟩ := getS2 X0 hx hZ hown (host := "") (Or.inl (hw _ (List.mem_of_getElem? (i := 22) rfl))) Via.refl e0 S_COMPACT_STRINGS (g := (mkF m 0 #[.val (.ref a0)] [])) rfl (hb hby ds1_0)
  refine own_go st1 ?_
  show own_Go p.tables e below _ (T1.setTop (mkF m 3 #[.val (.ref a0)] [(.int wc)]))
  have hf3 : ¬ (wc = (0 : Int32)) := hwc
  refine own_go (fun _ k => XS.ifNo X1.here hx rfl (hb hby ds1_3) rfl ((if0 _ _).trans (feq hf3).1) k) ?_
  show own_Go p.tables e below _ (T1.setTop (mkF m 6 #[.val (.ref a0)] []))
  refine own_go (fun _ k => XS.aloadN X1.here hx rfl (hb hby ds1_6) rfl rfl k) ?_
  show own_Go p.tables e below _ (T1.setTop (mkF m 7 #[.val (.ref a0)] [(.ref a0)]))
  obtain ⟨T2, X2, e2, st2⟩ := getF X1 hx hZ hown (host := "") (Or.inl (hw _ (List.mem_of_getElem? (i := 23) rfl))) Via.refl e1 F_a0_coder (g := (mkF m 7 #[.val (.ref a0)] [(.ref a0)])) rfl rfl (hb hby ds1_7)
  refine own_go st2 ?_
  show own_Go p.tables e below _ (T2.setTop (mkF m 10 #[.val (.ref a0)] [(.int (0 : Int32))]))
  have hf10 : (0 : Int32) = (0 : Int32) := by decide
  refine own_go (fun _ k => XS.ifNo X2.here hx rfl (hb hby ds1_10) rfl ((if0 _ _).trans (teq hf10).2) k) ?_
  show own_Go p.tables e below _ (T2.setTop (mkF m 13 #[.val (.ref a0)] []))
  refine own_go (fun _ k => XS.iconst X2.here hx rfl (hb hby ds1_13) k) ?_
  show own_Go p.tables e below _ (T2.setTop (mkF m 14 #[.val (.ref a0)] [(.int (1 : Int32))]))
  refine own_go (fun _ k => XS.goto X2.here hx rfl (pc0 := 14) (pc' := 18) rfl (hb hby ds1_14) (by decide) (by decide) k) ?_
  show own_Go p.tables e below _ (T2.setTop (mkF m 18 #[.val (.ref a0)] [(.int (1 : Int32))]))
  refine own_end X2 Bd.notSynchronized (v := some (.int (1 : Int32))) (fun h => by rw [Bd.returns] at h; cases h) (fun fs hr => retN X2 hx (t := .boolean) Bd.returns (by simp) (hb hby ds1_18) hr) ?_ (by decide) (by decide)
  exact ⟨congrArg (fun z => some (Value.int z)) (by decide : (1 : Int32) = (1 : Int32)), N0, e2⟩
def own_fs2 (p0 : Int32) : Int32 :=
  p0
theorem ds2_0 : decode jdk_41_method_11_code 0 = .ok (.iload_n 0, 1) := by decide +kernel
theorem ds2_1 : decode jdk_41_method_11_code 1 = .ok (.ifCond .lt 8, 3) := by decide +kernel
theorem ds2_4 : decode jdk_41_method_11_code 4 = .ok (.iload_n 0, 1) := by decide +kernel
theorem ds2_5 : decode jdk_41_method_11_code 5 = .ok (.iload_n 1, 1) := by decide +kernel
theorem ds2_6 : decode jdk_41_method_11_code 6 = .ok (.if_icmp .lt 10, 3) := by decide +kernel
theorem ds2_16 : decode jdk_41_method_11_code 16 = .ok (.iload_n 0, 1) := by decide +kernel
theorem ds2_17 : decode jdk_41_method_11_code 17 = .ok (.ireturn, 1) := by decide +kernel
theorem pns2 : plainName "jdk/internal/util/Preconditions" = true := by first | (simp [plainName, overriddenIn]; done) | decide +kernel
theorem efs2 (m : MethodId) (p0 : Int32) : entryFrame m #[(.int p0), (.int (16 : Int32)), .null] 3 = mkF m 0 #[.val (.int p0), .val (.int (16 : Int32)), .val .null] [] := by first | (simp [entryFrame, mkF, argsToLocals, Value.category]; done) | rfl
def own_Qs2 (Z : State) (p0 : Int32) (h0 : Heap) (n0 : Nat) (v : Option Value) (h : Heap) (L : List Loc) : Prop := v = some (.int (own_fs2 p0)) ∧ Fr n0 L ∧ h = h0
set_option maxRecDepth 65536 in
set_option maxHeartbeats 40000000 in
theorem rms2 (l : Launch) (Z : State) (az : Array Value) (hw : ∀ d ∈ tables_1, d.before az Z = true) (ws : List Jvm.Cond) (p0 : Int32) (h0 : Heap) (n0 : Nat) (Z0 : n0 ≤ h0.size) (hi1 : ¬ (p0 < 0)) (hi2 : p0 < (16 : Int32)) :
    MetFree l (⟨"jdk/internal/util/Preconditions", "checkIndex", "(IILjava/util/function/BiFunction;)I"⟩ : MethodName) (head1 (Jvm.Cond.code (⟨"jdk/internal/util/Preconditions", "checkIndex", "(IILjava/util/function/BiFunction;)I"⟩ : MethodName) jdk_41_method_11_code 3 (some .int) :: ws) ({ frames := 0, cells := 0, slots := 0, locals := 0 } : Room)) (fun a U => a = #[(.int p0), (.int (16 : Int32)), .null] ∧ Z.Warmed39 U.vm ∧ U.heap = h0) (fun _ _ _ _ _ => True) (fun _ U o U' => ∃ v L, o = .returned v ∧ own_Qs2 Z p0 h0 n0 v U'.heap L ∧ FrameEnd U o U' L ({ frames := 0, cells := 0, slots := 0, locals := 0 } : Room).cells ({ frames := 0, cells := 0, slots := 0, locals := 0 } : Room).slots) := by
  refine MetFree.of_bodySF (plainFor_of_name pns2) hisR ?_
  intro p e s m args below meth c s₁ Bd hml0 hP hK
  obtain ⟨rfl, hZ, hh⟩ := hP
  have hx := Bd.exec
  have hby := Bd.bytes
  have hml : c.maxLocals = 3 := hml0
  have hown : s.vm.findClass "jdk/internal/util/Preconditions" = some m.cls := findClass_of_methodNamed Bd.named
  have hnm := (name_of_methodNamed Bd.named Bd.method).1
  have X0 : Stand p l e ({ frames := 0, cells := 0, slots := 0, locals := 0 } : Room) s m #[(.int p0), (.int (16 : Int32)), .null] below meth c s₁ [] 0 0 := Stand.of_body Bd
  have e0 : s₁.heap = h0 := by rw [← hh, Bd.state]; rfl
  have N0 := Fr.nil n0
  show own_Go p.tables e below (fun o U' => ∃ v L, o = .returned v ∧ own_Qs2 Z p0 h0 n0 v U'.heap L ∧ FrameEnd s o U' L ({ frames := 0, cells := 0, slots := 0, locals := 0 } : Room).cells ({ frames := 0, cells := 0, slots := 0, locals := 0 } : Room).slots) (s₁.setTop (entryFrame m #[(.int p0), (.int (16 : Int32)), .null] 3))
  refine own_go (fun _ k => castTop (efs2 m p0) k) ?_
  show own_Go p.tables e below _ (s₁.setTop (mkF m 0 #[.val (.int p0), .val (.int (16 : Int32)), .val .null] []))
  refine own_go (fun _ k => XS.iloadN X0.here hx rfl (hb hby ds2_0) rfl k) ?_
  show own_Go p.tables e below _ (s₁.setTop (mkF m 1 #[.val (.int p0), .val (.int (16 : Int32)), .val .null] [(.int p0)]))
  have hf1 : ¬ (p0 < (0 : Int32)) := hi1
  refine own_go (fun _ k => XS.ifNo X0.here hx rfl (hb hby ds2_1) rfl ((if0 _ _).trans (flt hf1).1) k) ?_
  show own_Go p.tables e below _ (s₁.setTop (mkF m 4 #[.val (.int p0), .val (.int (16 : Int32)), .val .null] []))
  refine own_go (fun _ k => XS.iloadN X0.here hx rfl (hb hby ds2_4) rfl k) ?_
  show own_Go p.tables e below _ (s₁.setTop (mkF m 5 #[.val (.int p0), .val (.int (16 : Int32)), .val .null] [(.int p0)]))
  refine own_go (fun _ k => XS.iloadN X0.here hx rfl (hb hby ds2_5) rfl k) ?_
  show own_Go p.tables e below _ (s₁.setTop (mkF m 6 #[.val (.int p0), .val (.int (16 : Int32)), .val .null] [(.int (16 : Int32)), (.int p0)]))
  have hf6 : p0 < (16 : Int32) := hi2
  refine own_go (fun _ k => XS.icmpYes X0.here hx rfl (pc0 := 6) (pc' := 16) rfl (hb hby ds2_6) rfl (tlt hf6).1 (by decide) (by decide) k) ?_
  show own_Go p.tables e below _ (s₁.setTop (mkF m 16 #[.val (.int p0), .val (.int (16 : Int32)), .val .null] []))
  refine own_go (fun _ k => XS.iloadN X0.here hx rfl (hb hby ds2_16) rfl k) ?_
  show own_Go p.tables e below _ (s₁.setTop (mkF m 17 #[.val (.int p0), .val (.int (16 : Int32)), .val .null] [(.int p0)]))
  refine own_end X0 Bd.notSynchronized (v := some (.int p0)) (fun h => by rw [Bd.returns] at h; cases h) (fun fs hr => own_retI X0 hx Bd.returns (hb hby ds2_17) hr) ?_ (by decide) (by decide)
  exact ⟨by rw [own_fs2], N0, e0⟩
def own_fs3 (p0 : Int32) : Int32 :=
  p0
theorem ds3_0 : decode jdk_41_method_11_code 0 = .ok (.iload_n 0, 1) := by decide +kernel
theorem ds3_1 : decode jdk_41_method_11_code 1 = .ok (.ifCond .lt 8, 3) := by decide +kernel
theorem ds3_4 : decode jdk_41_method_11_code 4 = .ok (.iload_n 0, 1) := by decide +kernel
theorem ds3_5 : decode jdk_41_method_11_code 5 = .ok (.iload_n 1, 1) := by decide +kernel
theorem ds3_6 : decode jdk_41_method_11_code 6 = .ok (.if_icmp .lt 10, 3) := by decide +kernel
theorem ds3_16 : decode jdk_41_method_11_code 16 = .ok (.iload_n 0, 1) := by decide +kernel
theorem ds3_17 : decode jdk_41_method_11_code 17 = .ok (.ireturn, 1) := by decide +kernel
theorem pns3 : plainName "jdk/internal/util/Preconditions" = true := by first | (simp [plainName, overriddenIn]; done) | decide +kernel
theorem efs3 (m : MethodId) (p0 : Int32) (a2 : Addr) : entryFrame m #[(.int p0), (.int (16 : Int32)), (.ref a2)] 3 = mkF m 0 #[.val (.int p0), .val (.int (16 : Int32)), .val (.ref a2)] [] := by first | (simp [entryFrame, mkF, argsToLocals, Value.category]; done) | rfl
def own_Qs3 (Z : State) (p0 : Int32) (a2 : Addr) (h0 : Heap) (n0 : Nat) (v : Option Value) (h : Heap) (L : List Loc) : Prop := v = some (.int (own_fs3 p0)) ∧ Fr n0 L ∧ h = h0
set_option maxRecDepth 65536 in
set_option maxHeartbeats 40000000 in
theorem rms3 (l : Launch) (Z : State) (az : Array Value) (hw : ∀ d ∈ tables_1, d.before az Z = true) (ws : List Jvm.Cond) (p0 : Int32) (a2 : Addr) (h0 : Heap) (n0 : Nat) (Z0 : n0 ≤ h0.size) (hi1 : ¬ (p0 < 0)) (hi2 : p0 < (16 : Int32)) :
    MetFree l (⟨"jdk/internal/util/Preconditions", "checkIndex", "(IILjava/util/function/BiFunction;)I"⟩ : MethodName) (head1 (Jvm.Cond.code (⟨"jdk/internal/util/Preconditions", "checkIndex", "(IILjava/util/function/BiFunction;)I"⟩ : MethodName) jdk_41_method_11_code 3 (some .int) :: ws) ({ frames := 0, cells := 0, slots := 0, locals := 0 } : Room)) (fun a U => a = #[(.int p0), (.int (16 : Int32)), (.ref a2)] ∧ Z.Warmed39 U.vm ∧ U.heap = h0) (fun _ _ _ _ _ => True) (fun _ U o U' => ∃ v L, o = .returned v ∧ own_Qs3 Z p0 a2 h0 n0 v U'.heap L ∧ FrameEnd U o U' L ({ frames := 0, cells := 0, slots := 0, locals := 0 } : Room).cells ({ frames := 0, cells := 0, slots := 0, locals := 0 } : Room).slots) := by
  refine MetFree.of_bodySF (plainFor_of_name pns3) hisR ?_
  intro p e s m args below meth c s₁ Bd hml0 hP hK
  obtain ⟨rfl, hZ, hh⟩ := hP
  have hx := Bd.exec
  have hby := Bd.bytes
  have hml : c.maxLocals = 3 := hml0
  have hown : s.vm.findClass "jdk/internal/util/Preconditions" = some m.cls := findClass_of_methodNamed Bd.named
  have hnm := (name_of_methodNamed Bd.named Bd.method).1
  have X0 : Stand p l e ({ frames := 0, cells := 0, slots := 0, locals := 0 } : Room) s m #[(.int p0), (.int (16 : Int32)), (.ref a2)] below meth c s₁ [] 0 0 := Stand.of_body Bd
  have e0 : s₁.heap = h0 := by rw [← hh, Bd.state]; rfl
  have N0 := Fr.nil n0
  show own_Go p.tables e below (fun o U' => ∃ v L, o = .returned v ∧ own_Qs3 Z p0 a2 h0 n0 v U'.heap L ∧ FrameEnd s o U' L ({ frames := 0, cells := 0, slots := 0, locals := 0 } : Room).cells ({ frames := 0, cells := 0, slots := 0, locals := 0 } : Room).slots) (s₁.setTop (entryFrame m #[(.int p0), (.int (16 : Int32)), (.ref a2)] 3))
  refine own_go (fun _ k => castTop (efs3 m p0 a2) k) ?_
  show own_Go p.tables e below _ (s₁.setTop (mkF m 0 #[.val (.int p0), .val (.int (16 : Int32)), .val (.ref a2)] []))
  refine own_go (fun _ k => XS.iloadN X0.here hx rfl (hb hby ds3_0) rfl k) ?_
  show own_Go p.tables e below _ (s₁.setTop (mkF m 1 #[.val (.int p0), .val (.int (16 : Int32)), .val (.ref a2)] [(.int p0)]))
  have hf1 : ¬ (p0 < (0 : Int32)) := hi1
  refine own_go (fun _ k => XS.ifNo X0.here hx rfl (hb hby ds3_1) rfl ((if0 _ _).trans (flt hf1).1) k) ?_
  show own_Go p.tables e below _ (s₁.setTop (mkF m 4 #[.val (.int p0), .val (.int (16 : Int32)), .val (.ref a2)] []))
  refine own_go (fun _ k => XS.iloadN X0.here hx rfl (hb hby ds3_4) rfl k) ?_
  show own_Go p.tables e below _ (s₁.setTop (mkF m 5 #[.val (.int p0), .val (.int (16 : Int32)), .val (.ref a2)] [(.int p0)]))
  refine own_go (fun _ k => XS.iloadN X0.here hx rfl (hb hby ds3_5) rfl k) ?_
  show own_Go p.tables e below _ (s₁.setTop (mkF m 6 #[.val (.int p0), .val (.int (16 : Int32)), .val (.ref a2)] [(.int (16 : Int32)), (.int p0)]))
  have hf6 : p0 < (16 : Int32) := hi2
  refine own_go (fun _ k => XS.icmpYes X0.here hx rfl (pc0 := 6) (pc' := 16) rfl (hb hby ds3_6) rfl (tlt hf6).1 (by decide) (by decide) k) ?_
  show own_Go p.tables e below _ (s₁.setTop (mkF m 16 #[.val (.int p0), .val (.int (16 : Int32)), .val (.ref a2)] []))
  refine own_go (fun _ k => XS.iloadN X0.here hx rfl (hb hby ds3_16) rfl k) ?_
  show own_Go p.tables e below _ (s₁.setTop (mkF m 17 #[.val (.int p0), .val (.int (16 : Int32)), .val (.ref a2)] [(.int p0)]))
  refine own_end X0 Bd.notSynchronized (v := some (.int p0)) (fun h => by rw [Bd.returns] at h; cases h) (fun fs hr => own_retI X0 hx Bd.returns (hb hby ds3_17) hr) ?_ (by decide) (by decide)
  exact ⟨by rw [own_fs3], N0, e0⟩
theorem ds4_0 : decode jdk_42_method_155_code 0 = .ok (.iload_n 0, 1) := by decide +kernel
theorem ds4_1 : decode jdk_42_method_155_code 1 = .ok (.iload_n 1, 1) := by decide +kernel
theorem ds4_2 : decode jdk_42_method_155_code 2 = .ok (.getstatic 1053, 3) := by decide +kernel
theorem ds4_5 : decode jdk_42_method_155_code 5 = .ok (.invokestatic 1059, 3) := by decide +kernel
theorem ds4_8 : decode jdk_42_method_155_code 8 = .ok (.pop, 1) := by decide +kernel
theorem ds4_9 : decode jdk_42_method_155_code 9 = .ok (.return_, 1) := by decide +kernel
theorem pns4 : plainName "java/lang/String" = true := by first | (simp [plainName, overriddenIn]; done) | decide +kernel
theorem pds4_0 : parseMethodDescriptor "(IILjava/util/function/BiFunction;)I" = some ⟨[.int, .int, (.object "java/util/function/BiFunction")], some .int⟩ := by decide +kernel
theorem efs4 (m : MethodId) (p0 : Int32) : entryFrame m #[(.int p0), (.int (16 : Int32))] 2 = mkF m 0 #[.val (.int p0), .val (.int (16 : Int32))] [] := by first | (simp [entryFrame, mkF, argsToLocals, Value.category]; done) | rfl
def own_Qs4 (Z : State) (p0 : Int32) (vf : Value) (h0 : Heap) (n0 : Nat) (v : Option Value) (h : Heap) (L : List Loc) : Prop := v = none ∧ Fr n0 L ∧ h = h0
set_option maxRecDepth 65536 in
set_option maxHeartbeats 40000000 in
theorem rms4 (l : Launch) (Z : State) (az : Array Value) (hw : ∀ d ∈ tables_1, d.before az Z = true) (ws : List Jvm.Cond) (p0 : Int32) (vf : Value) (h0 : Heap) (n0 : Nat) (Z0 : n0 ≤ h0.size) (S_SIOOBE_FORMATTER : Sta Z h0 "jdk/internal/util/Preconditions" "SIOOBE_FORMATTER" "Ljava/util/function/BiFunction;" vf) (hvf : vf.isRef = true) (hi1 : ¬ (p0 < 0)) (hi2 : p0 < (16 : Int32)) :
    MetFree l (⟨"java/lang/String", "checkIndex", "(II)V"⟩ : MethodName) (head1 (Jvm.Cond.code (⟨"java/lang/String", "checkIndex", "(II)V"⟩ : MethodName) jdk_42_method_155_code 2 none :: ws) ({ frames := 1, cells := 0, slots := 0, locals := 14 } : Room)) (fun a U => a = #[(.int p0), (.int (16 : Int32))] ∧ Z.Warmed39 U.vm ∧ U.heap = h0) (fun _ _ _ _ _ => True) (fun _ U o U' => ∃ v L, o = .returned v ∧ own_Qs4 Z p0 vf h0 n0 v U'.heap L ∧ FrameEnd U o U' L ({ frames := 1, cells := 0, slots := 0, locals := 14 } : Room).cells ({ frames := 1, cells := 0, slots := 0, locals := 14 } : Room).slots) := by
  refine MetFree.of_bodySF (plainFor_of_name pns4) hisR ?_
  intro p e s m args below meth c s₁ Bd hml0 hP hK
  obtain ⟨rfl, hZ, hh⟩ := hP
  have hx := Bd.exec
  have hby := Bd.bytes
  have hml : c.maxLocals = 2 := hml0
  have hown : s.vm.findClass "java/lang/String" = some m.cls := findClass_of_methodNamed Bd.named
  have hnm := (name_of_methodNamed Bd.named Bd.method).1
  have X0 : Stand p l e ({ frames := 1, cells := 0, slots := 0, locals := 14 } : Room) s m #[(.int p0), (.int (16 : Int32))] below meth c s₁ [] 0 0 := Stand.of_body Bd
  have e0 : s₁.heap = h0 := by rw [← hh, Bd.state]; rfl
  have N0 := Fr.nil n0
  show own_Go p.tables e below (fun o U' => ∃ v L, o = .returned v ∧ own_Qs4 Z p0 vf h0 n0 v U'.heap L ∧ FrameEnd s o U' L ({ frames := 1, cells := 0, slots := 0, locals := 14 } : Room).cells ({ frames := 1, cells := 0, slots := 0, locals := 14 } : Room).slots) (s₁.setTop (entryFrame m #[(.int p0), (.int (16 : Int32))] 2))
  refine own_go (fun _ k => castTop (efs4 m p0) k) ?_
  show own_Go p.tables e below _ (s₁.setTop (mkF m 0 #[.val (.int p0), .val (.int (16 : Int32))] []))
  rcases ref_cases hvf with rfl | ⟨qf, rfl⟩
  · skip
    show own_Go p.tables e below _ (s₁.setTop (mkF m 0 #[.val (.int p0), .val (.int (16 : Int32))] []))
    refine own_go (fun _ k => XS.iloadN X0.here hx rfl (hb hby ds4_0) rfl k) ?_
    show own_Go p.tables e below _ (s₁.setTop (mkF m 1 #[.val (.int p0), .val (.int (16 : Int32))] [(.int p0)]))
    refine own_go (fun _ k => XS.iloadN X0.here hx rfl (hb hby ds4_1) rfl k) ?_
    show own_Go p.tables e below _ (s₁.setTop (mkF m 2 #[.val (.int p0), .val (.int (16 : Int32))] [(.int (16 : Int32)), (.int p0)]))
    obtain ⟨T1, X1, e1, st1⟩ := getS2 X0 hx hZ hown (host := "") (Or.inl (hw _ (List.mem_of_getElem? (i := 32) rfl))) Via.refl e0 S_SIOOBE_FORMATTER (g := (mkF m 2 #[.val (.int p0), .val (.int (16 : Int32))] [(.int (16 : Int32)), (.int p0)])) rfl (hb hby ds4_2)
    refine own_go st1 ?_
    show own_Go p.tables e below _ (T1.setTop (mkF m 5 #[.val (.int p0), .val (.int (16 : Int32))] [.null, (.int (16 : Int32)), (.int p0)]))
    obtain ⟨_, _, ⟨T2, L2, k2, n2⟩, -, X2, ⟨Lc2, hQ2, l2, y2, z2⟩, st2⟩ := Jvm.LawKit.callS X1 hx (y := (⟨"jdk/internal/util/Preconditions", "checkIndex", "(IILjava/util/function/BiFunction;)I"⟩ : MethodName)) hown (mvT hZ (hw _ (List.mem_of_getElem? (i := 34) rfl))) (mvT hZ (hw _ (List.mem_of_getElem? (i := 35) rfl))) (mvT hZ (hw _ (List.mem_of_getElem? (i := 33) rfl))) (mvT hZ (hw _ (List.mem_of_getElem? (i := 36) rfl))) (by decide) (backOf (W := 0) (rms2 l Z az hw [] p0 h0 n0 Z0 hi1 hi2) hZ (hw _ (List.mem_of_getElem? (i := 36) rfl)) (hw _ (List.mem_of_getElem? (i := 33) rfl)) (by decide) (by decide)) (g := (mkF m 5 #[.val (.int p0), .val (.int (16 : Int32))] [.null, (.int (16 : Int32)), (.int p0)])) rfl (by rw [hml]; rfl) (argsL := [(.int p0), (.int (16 : Int32)), .null]) (rest := []) (lenOf pds4_0 rfl) rfl (by show 2 * 0 + _ ≤ _; exact Nat.le_of_eq rfl) (hb hby ds4_5) (fun _ _ => ⟨rfl, e1, (by decide : 0 + 0 ≤ _), (by decide : 0 + 0 ≤ _)⟩)
    dsimp only [Pt.U, Pt.locs, Pt.cells, Pt.slots] at X2 l2 y2 z2 st2 hQ2
    subst l2 y2 z2
    refine own_go st2 ?_
    obtain ⟨rfl, N2q, e2⟩ := hQ2
    have N2 := Fr.app N0 N2q
    show own_Go p.tables e below _ (T2.setTop (mkF m 8 #[.val (.int p0), .val (.int (16 : Int32))] [(.int (own_fs2 p0))]))
    refine own_go (fun _ k => XS.pop X2.here hx rfl (hb hby ds4_8) rfl rfl k) ?_
    show own_Go p.tables e below _ (T2.setTop (mkF m 9 #[.val (.int p0), .val (.int (16 : Int32))] []))
    refine own_end X2 Bd.notSynchronized (v := none) (fun _ => rfl) (fun fs hr => X2.returnOut hx Bd.returns (hb hby ds4_9) hr) ?_ (by decide) (by decide)
    exact ⟨rfl, N2, (e2 : T2.heap = h0)⟩
  · skip
    show own_Go p.tables e below _ (s₁.setTop (mkF m 0 #[.val (.int p0), .val (.int (16 : Int32))] []))
    refine own_go (fun _ k => XS.iloadN X0.here hx rfl (hb hby ds4_0) rfl k) ?_
    show own_Go p.tables e below _ (s₁.setTop (mkF m 1 #[.val (.int p0), .val (.int (16 : Int32))] [(.int p0)]))
    refine own_go (fun _ k => XS.iloadN X0.here hx rfl (hb hby ds4_1) rfl k) ?_
    show own_Go p.tables e below _ (s₁.setTop (mkF m 2 #[.val (.int p0), .val (.int (16 : Int32))] [(.int (16 : Int32)), (.int p0)]))
    obtain ⟨T3, X3, e3, st3⟩ := getS2 X0 hx hZ hown (host := "") (Or.inl (hw _ (List.mem_of_getElem? (i := 32) rfl))) Via.refl e0 S_SIOOBE_FORMATTER (g := (mkF m 2 #[.val (.int p0), .val (.int (16 : Int32))] [(.int (16 : Int32)), (.int p0)])) rfl (hb hby ds4_2)
    refine own_go st3 ?_
    show own_Go p.tables e below _ (T3.setTop (mkF m 5 #[.val (.int p0), .val (.int (16 : Int32))] [(.ref qf), (.int (16 : Int32)), (.int p0)]))
    obtain ⟨_, _, ⟨T4, L4, k4, n4⟩, -, X4, ⟨Lc4, hQ4, l4, y4, z4⟩, st4⟩ := Jvm.LawKit.callS X3 hx (y := (⟨"jdk/internal/util/Preconditions", "checkIndex", "(IILjava/util/function/BiFunction;)I"⟩ : MethodName)) hown (mvT hZ (hw _ (List.mem_of_getElem? (i := 34) rfl))) (mvT hZ (hw _ (List.mem_of_getElem? (i := 35) rfl))) (mvT hZ (hw _ (List.mem_of_getElem? (i := 33) rfl))) (mvT hZ (hw _ (List.mem_of_getElem? (i := 36) rfl))) (by decide) (backOf (W := 0) (rms3 l Z az hw [] p0 qf h0 n0 Z0 hi1 hi2) hZ (hw _ (List.mem_of_getElem? (i := 36) rfl)) (hw _ (List.mem_of_getElem? (i := 33) rfl)) (by decide) (by decide)) (g := (mkF m 5 #[.val (.int p0), .val (.int (16 : Int32))] [(.ref qf), (.int (16 : Int32)), (.int p0)])) rfl (by rw [hml]; rfl) (argsL := [(.int p0), (.int (16 : Int32)), (.ref qf)]) (rest := []) (lenOf pds4_0 rfl) rfl (by show 2 * 0 + _ ≤ _; exact Nat.le_of_eq rfl) (hb hby ds4_5) (fun _ _ => ⟨rfl, e3, (by decide : 0 + 0 ≤ _), (by decide : 0 + 0 ≤ _)⟩)
    dsimp only [Pt.U, Pt.locs, Pt.cells, Pt.slots] at X4 l4 y4 z4 st4 hQ4
    subst l4 y4 z4
    refine own_go st4 ?_
    obtain ⟨rfl, N4q, e4⟩ := hQ4
    have N4 := Fr.app N0 N4q
    show own_Go p.tables e below _ (T4.setTop (mkF m 8 #[.val (.int p0), .val (.int (16 : Int32))] [(.int (own_fs3 p0))]))
    refine own_go (fun _ k => XS.pop X4.here hx rfl (hb hby ds4_8) rfl rfl k) ?_
    show own_Go p.tables e below _ (T4.setTop (mkF m 9 #[.val (.int p0), .val (.int (16 : Int32))] []))
    refine own_end X4 Bd.notSynchronized (v := none) (fun _ => rfl) (fun fs hr => X4.returnOut hx Bd.returns (hb hby ds4_9) hr) ?_ (by decide) (by decide)
    exact ⟨rfl, N4, (e4 : T4.heap = h0)⟩
def own_fs5 (p1 : Int32) : Int32 :=
  (nar .char ((([(48 : Int32), (49 : Int32), (50 : Int32), (51 : Int32), (52 : Int32), (53 : Int32), (54 : Int32), (55 : Int32), (56 : Int32), (57 : Int32), (65 : Int32), (66 : Int32), (67 : Int32), (68 : Int32), (69 : Int32), (70 : Int32)].getD (p1).toNatClampNeg 0) &&& (255 : Int32)).toUInt32.toUInt16.toUInt32.toInt32))
theorem ds5_0 : decode jdk_43_method_2_code 0 = .ok (.iload_n 1, 1) := by decide +kernel
theorem ds5_1 : decode jdk_43_method_2_code 1 = .ok (.aload_n 0, 1) := by decide +kernel
theorem ds5_2 : decode jdk_43_method_2_code 2 = .ok (.arraylength, 1) := by decide +kernel
theorem ds5_3 : decode jdk_43_method_2_code 3 = .ok (.invokestatic 9, 3) := by decide +kernel
theorem ds5_6 : decode jdk_43_method_2_code 6 = .ok (.aload_n 0, 1) := by decide +kernel
theorem ds5_7 : decode jdk_43_method_2_code 7 = .ok (.iload_n 1, 1) := by decide +kernel
theorem ds5_8 : decode jdk_43_method_2_code 8 = .ok (.baload, 1) := by decide +kernel
theorem ds5_9 : decode jdk_43_method_2_code 9 = .ok (.sipush 255, 3) := by decide +kernel
theorem ds5_12 : decode jdk_43_method_2_code 12 = .ok (.iand, 1) := by decide +kernel
theorem ds5_13 : decode jdk_43_method_2_code 13 = .ok (.i2c, 1) := by decide +kernel
theorem ds5_14 : decode jdk_43_method_2_code 14 = .ok (.ireturn, 1) := by decide +kernel
theorem pns5 : plainName "java/lang/StringLatin1" = true := by first | (simp [plainName, overriddenIn]; done) | decide +kernel
theorem pds5_0 : parseMethodDescriptor "(II)V" = some ⟨[.int, .int], none⟩ := by decide +kernel
theorem efs5 (m : MethodId) (ab : Addr) (p1 : Int32) : entryFrame m #[(.ref ab), (.int p1)] 2 = mkF m 0 #[.val (.ref ab), .val (.int p1)] [] := by first | (simp [entryFrame, mkF, argsToLocals, Value.category]; done) | rfl
def own_Qs5 (Z : State) (ab : Addr) (p1 : Int32) (ka : ClassId) (vf : Value) (h0 : Heap) (n0 : Nat) (v : Option Value) (h : Heap) (L : List Loc) : Prop := v = some (.int (own_fs5 p1)) ∧ Fr n0 L ∧ h = h0
set_option maxRecDepth 65536 in
set_option maxHeartbeats 40000000 in
theorem rms5 (l : Launch) (Z : State) (az : Array Value) (hw : ∀ d ∈ tables_1, d.before az Z = true) (ws : List Jvm.Cond) (ab : Addr) (p1 : Int32) (ka : ClassId) (vf : Value) (h0 : Heap) (n0 : Nat) (Z0 : n0 ≤ h0.size) (V_ab : Arv Z h0 ab ka .byte (16 : Int32) [(.int (48 : Int32)), (.int (49 : Int32)), (.int (50 : Int32)), (.int (51 : Int32)), (.int (52 : Int32)), (.int (53 : Int32)), (.int (54 : Int32)), (.int (55 : Int32)), (.int (56 : Int32)), (.int (57 : Int32)), (.int (65 : Int32)), (.int (66 : Int32)), (.int (67 : Int32)), (.int (68 : Int32)), (.int (69 : Int32)), (.int (70 : Int32))] (.int (0 : Int32))) (S_SIOOBE_FORMATTER : Sta Z h0 "jdk/internal/util/Preconditions" "SIOOBE_FORMATTER" "Ljava/util/function/BiFunction;" vf) (hvf : vf.isRef = true) (hi1 : ¬ (p1 < 0)) (hi2 : p1 < (16 : Int32)) :
    MetFree l (⟨"java/lang/StringLatin1", "charAt", "([BI)C"⟩ : MethodName) (head1 (Jvm.Cond.code (⟨"java/lang/StringLatin1", "charAt", "([BI)C"⟩ : MethodName) jdk_43_method_2_code 2 (some .char) :: ws) ({ frames := 2, cells := 0, slots := 0, locals := 27 } : Room)) (fun a U => a = #[(.ref ab), (.int p1)] ∧ Z.Warmed39 U.vm ∧ U.heap = h0) (fun _ _ _ _ _ => True) (fun _ U o U' => ∃ v L, o = .returned v ∧ own_Qs5 Z ab p1 ka vf h0 n0 v U'.heap L ∧ FrameEnd U o U' L ({ frames := 2, cells := 0, slots := 0, locals := 27 } : Room).cells ({ frames := 2, cells := 0, slots := 0, locals := 27 } : Room).slots) := by
  refine MetFree.of_bodySF (plainFor_of_name pns5) hisR ?_
  intro p e s m args below meth c s₁ Bd hml0 hP hK
  obtain ⟨rfl, hZ, hh⟩ := hP
  have hx := Bd.exec
  have hby := Bd.bytes
  have hml : c.maxLocals = 2 := hml0
  have hown : s.vm.findClass "java/lang/StringLatin1" = some m.cls := findClass_of_methodNamed Bd.named
  have hnm := (name_of_methodNamed Bd.named Bd.method).1
  have X0 : Stand p l e ({ frames := 2, cells := 0, slots := 0, locals := 27 } : Room) s m #[(.ref ab), (.int p1)] below meth c s₁ [] 0 0 := Stand.of_body Bd
  have e0 : s₁.heap = h0 := by rw [← hh, Bd.state]; rfl
  have N0 := Fr.nil n0
  show own_Go p.tables e below (fun o U' => ∃ v L, o = .returned v ∧ own_Qs5 Z ab p1 ka vf h0 n0 v U'.heap L ∧ FrameEnd s o U' L ({ frames := 2, cells := 0, slots := 0, locals := 27 } : Room).cells ({ frames := 2, cells := 0, slots := 0, locals := 27 } : Room).slots) (s₁.setTop (entryFrame m #[(.ref ab), (.int p1)] 2))
  refine own_go (fun _ k => castTop (efs5 m ab p1) k) ?_
  show own_Go p.tables e below _ (s₁.setTop (mkF m 0 #[.val (.ref ab), .val (.int p1)] []))
  refine own_go (fun _ k => XS.iloadN X0.here hx rfl (hb hby ds5_0) rfl k) ?_
  show own_Go p.tables e below _ (s₁.setTop (mkF m 1 #[.val (.ref ab), .val (.int p1)] [(.int p1)]))
  refine own_go (fun _ k => XS.aloadN X0.here hx rfl (hb hby ds5_1) rfl rfl k) ?_
  show own_Go p.tables e below _ (s₁.setTop (mkF m 2 #[.val (.ref ab), .val (.int p1)] [(.ref ab), (.int p1)]))
  have vo1 := V_ab
  obtain ⟨cl1, Ar1, Aq1, AS1, AN1, AH1, AG1⟩ := vo1
  refine own_go (fun _ k => X0.arraylength hx (by rw [e0]; exact Ar1.1) (State.isArrayOf_alike hZ.alike Ar1.2.1) (g := (mkF m 2 #[.val (.ref ab), .val (.int p1)] [(.ref ab), (.int p1)])) rfl rfl (hb hby ds5_2) _ k) ?_
  rw [len_of AS1 AN1]
  show own_Go p.tables e below _ (s₁.setTop (mkF m 3 #[.val (.ref ab), .val (.int p1)] [(.int (16 : Int32)), (.int p1)]))
  obtain ⟨_, _, ⟨T2, L2, k2, n2⟩, -, X2, ⟨Lc2, hQ2, l2, y2, z2⟩, st2⟩ := Jvm.LawKit.callS X0 hx (y := (⟨"java/lang/String", "checkIndex", "(II)V"⟩ : MethodName)) hown (mvT hZ (hw _ (List.mem_of_getElem? (i := 29) rfl))) (mvT hZ (hw _ (List.mem_of_getElem? (i := 30) rfl))) (mvT hZ (hw _ (List.mem_of_getElem? (i := 1) rfl))) (mvT hZ (hw _ (List.mem_of_getElem? (i := 31) rfl))) (by decide) (backOf (W := 0) (rms4 l Z az hw [] p1 vf h0 n0 Z0 S_SIOOBE_FORMATTER hvf hi1 hi2) hZ (hw _ (List.mem_of_getElem? (i := 31) rfl)) (hw _ (List.mem_of_getElem? (i := 1) rfl)) (by decide) (by decide)) (g := (mkF m 3 #[.val (.ref ab), .val (.int p1)] [(.int (16 : Int32)), (.int p1)])) rfl (by rw [hml]; rfl) (argsL := [(.int p1), (.int (16 : Int32))]) (rest := []) (lenOf pds5_0 rfl) rfl (by show 2 * 0 + _ ≤ _; exact Nat.le_of_eq rfl) (hb hby ds5_3) (fun _ _ => ⟨rfl, e0, (by decide : 0 + 0 ≤ _), (by decide : 0 + 0 ≤ _)⟩)
  dsimp only [Pt.U, Pt.locs, Pt.cells, Pt.slots] at X2 l2 y2 z2 st2 hQ2
  subst l2 y2 z2
  refine own_go st2 ?_
  obtain ⟨rfl, N2q, e2⟩ := hQ2
  have N2 := Fr.app N0 N2q
  show own_Go p.tables e below _ (T2.setTop (mkF m 6 #[.val (.ref ab), .val (.int p1)] []))
  refine own_go (fun _ k => XS.aloadN X2.here hx rfl (hb hby ds5_6) rfl rfl k) ?_
  show own_Go p.tables e below _ (T2.setTop (mkF m 7 #[.val (.ref ab), .val (.int p1)] [(.ref ab)]))
  refine own_go (fun _ k => XS.iloadN X2.here hx rfl (hb hby ds5_7) rfl k) ?_
  show own_Go p.tables e below _ (T2.setTop (mkF m 8 #[.val (.ref ab), .val (.int p1)] [(.int p1), (.ref ab)]))
  have vo3 := V_ab
  obtain ⟨cl3, Ar3, Aq3, AS3, AN3, AH3, AG3⟩ := vo3
  have hin3 : ¬ (p1 < 0 ∨ cl3.slots.size ≤ (p1).toNatClampNeg) := inb_of AS3 ⟨hi1, hi2⟩
  have hat3 : cl3.slots[(p1).toNatClampNeg]? = some (.int ([(48 : Int32), (49 : Int32), (50 : Int32), (51 : Int32), (52 : Int32), (53 : Int32), (54 : Int32), (55 : Int32), (56 : Int32), (57 : Int32), (65 : Int32), (66 : Int32), (67 : Int32), (68 : Int32), (69 : Int32), (70 : Int32)].getD (p1).toNatClampNeg 0)) := Has.at AH3 hin3 (own_mapI [(48 : Int32), (49 : Int32), (50 : Int32), (51 : Int32), (52 : Int32), (53 : Int32), (54 : Int32), (55 : Int32), (56 : Int32), (57 : Int32), (65 : Int32), (66 : Int32), (67 : Int32), (68 : Int32), (69 : Int32), (70 : Int32)] _)
  refine own_go (fun _ k => X2.baloadBytes hx (j := p1) (v := (.int ([(48 : Int32), (49 : Int32), (50 : Int32), (51 : Int32), (52 : Int32), (53 : Int32), (54 : Int32), (55 : Int32), (56 : Int32), (57 : Int32), (65 : Int32), (66 : Int32), (67 : Int32), (68 : Int32), (69 : Int32), (70 : Int32)].getD (p1).toNatClampNeg 0))) (by rw [(e2 : T2.heap = h0)]; exact Ar3.1) (State.isArrayOf_alike hZ.alike Ar3.2.1) Ar3.2.2 hin3 hat3 (g := (mkF m 8 #[.val (.ref ab), .val (.int p1)] [(.int p1), (.ref ab)])) rfl rfl (hb hby ds5_8) _ k) ?_
  show own_Go p.tables e below _ (T2.setTop (mkF m 9 #[.val (.ref ab), .val (.int p1)] [(.int ([(48 : Int32), (49 : Int32), (50 : Int32), (51 : Int32), (52 : Int32), (53 : Int32), (54 : Int32), (55 : Int32), (56 : Int32), (57 : Int32), (65 : Int32), (66 : Int32), (67 : Int32), (68 : Int32), (69 : Int32), (70 : Int32)].getD (p1).toNatClampNeg 0))]))
  refine own_go (fun _ k => XS.sipush X2.here hx rfl (hb hby ds5_9) k) ?_
  show own_Go p.tables e below _ (T2.setTop (mkF m 12 #[.val (.ref ab), .val (.int p1)] [(.int (255 : Int32)), (.int ([(48 : Int32), (49 : Int32), (50 : Int32), (51 : Int32), (52 : Int32), (53 : Int32), (54 : Int32), (55 : Int32), (56 : Int32), (57 : Int32), (65 : Int32), (66 : Int32), (67 : Int32), (68 : Int32), (69 : Int32), (70 : Int32)].getD (p1).toNatClampNeg 0))]))
  refine own_go (fun _ k => XS.iand X2.here hx rfl (hb hby ds5_12) rfl k) ?_
  show own_Go p.tables e below _ (T2.setTop (mkF m 13 #[.val (.ref ab), .val (.int p1)] [(.int (([(48 : Int32), (49 : Int32), (50 : Int32), (51 : Int32), (52 : Int32), (53 : Int32), (54 : Int32), (55 : Int32), (56 : Int32), (57 : Int32), (65 : Int32), (66 : Int32), (67 : Int32), (68 : Int32), (69 : Int32), (70 : Int32)].getD (p1).toNatClampNeg 0) &&& (255 : Int32)))]))
  refine own_go (fun _ k => XS.i2c X2.here hx rfl (hb hby ds5_13) rfl k) ?_
  show own_Go p.tables e below _ (T2.setTop (mkF m 14 #[.val (.ref ab), .val (.int p1)] [(.int ((([(48 : Int32), (49 : Int32), (50 : Int32), (51 : Int32), (52 : Int32), (53 : Int32), (54 : Int32), (55 : Int32), (56 : Int32), (57 : Int32), (65 : Int32), (66 : Int32), (67 : Int32), (68 : Int32), (69 : Int32), (70 : Int32)].getD (p1).toNatClampNeg 0) &&& (255 : Int32)).toUInt32.toUInt16.toUInt32.toInt32))]))
  refine own_end X2 Bd.notSynchronized (v := some (.int (nar .char ((([(48 : Int32), (49 : Int32), (50 : Int32), (51 : Int32), (52 : Int32), (53 : Int32), (54 : Int32), (55 : Int32), (56 : Int32), (57 : Int32), (65 : Int32), (66 : Int32), (67 : Int32), (68 : Int32), (69 : Int32), (70 : Int32)].getD (p1).toNatClampNeg 0) &&& (255 : Int32)).toUInt32.toUInt16.toUInt32.toInt32)))) (fun h => by rw [Bd.returns] at h; cases h) (fun fs hr => retN X2 hx (t := .char) Bd.returns (by simp) (hb hby ds5_14) hr) ?_ (by decide) (by decide)
  exact ⟨by rw [own_fs5], N2, (e2 : T2.heap = h0)⟩
def own_fs6 (p1 : Int32) : Int32 :=
  (nar .char (own_fs5 p1))
theorem ds6_0 : decode jdk_42_method_56_code 0 = .ok (.aload_n 0, 1) := by decide +kernel
theorem ds6_1 : decode jdk_42_method_56_code 1 = .ok (.invokevirtual 492, 3) := by decide +kernel
theorem ds6_4 : decode jdk_42_method_56_code 4 = .ok (.ifCond .eq 12, 3) := by decide +kernel
theorem ds6_7 : decode jdk_42_method_56_code 7 = .ok (.aload_n 0, 1) := by decide +kernel
theorem ds6_8 : decode jdk_42_method_56_code 8 = .ok (.getfield 9, 3) := by decide +kernel
theorem ds6_11 : decode jdk_42_method_56_code 11 = .ok (.iload_n 1, 1) := by decide +kernel
theorem ds6_12 : decode jdk_42_method_56_code 12 = .ok (.invokestatic 495, 3) := by decide +kernel
theorem ds6_15 : decode jdk_42_method_56_code 15 = .ok (.ireturn, 1) := by decide +kernel
theorem pns6 : plainName "java/lang/String" = true := by first | (simp [plainName, overriddenIn]; done) | decide +kernel
theorem pds6_0 : parseMethodDescriptor "()Z" = some ⟨[], some .boolean⟩ := by decide +kernel
theorem pds6_1 : parseMethodDescriptor "([BI)C" = some ⟨[(.array .byte), .int], some .char⟩ := by decide +kernel
theorem efs6 (m : MethodId) (a0 : Addr) (p1 : Int32) : entryFrame m #[(.ref a0), (.int p1)] 2 = mkF m 0 #[.val (.ref a0), .val (.int p1)] [] := by first | (simp [entryFrame, mkF, argsToLocals, Value.category]; done) | rfl
def own_Qs6 (Z : State) (a0 : Addr) (p1 : Int32) (ab : Addr) (ka : ClassId) (wc : Int32) (vf : Value) (h0 : Heap) (n0 : Nat) (v : Option Value) (h : Heap) (L : List Loc) : Prop := v = some (.int (own_fs6 p1)) ∧ Fr n0 L ∧ h = h0
set_option maxRecDepth 65536 in
set_option maxHeartbeats 40000000 in
theorem rms6 (l : Launch) (Z : State) (az : Array Value) (hw : ∀ d ∈ tables_1, d.before az Z = true) (ws : List Jvm.Cond) (a0 : Addr) (p1 : Int32) (ab : Addr) (ka : ClassId) (wc : Int32) (vf : Value) (h0 : Heap) (n0 : Nat) (Z0 : n0 ≤ h0.size) (F_a0_coder : Fld Z h0 a0 "java/lang/String" "coder" "B" (.int (0 : Int32))) (F_a0_value : Fld Z h0 a0 "java/lang/String" "value" "[B" (.ref ab)) (E_a0 : Exa Z h0 a0 "java/lang/String") (V_ab : Arv Z h0 ab ka .byte (16 : Int32) [(.int (48 : Int32)), (.int (49 : Int32)), (.int (50 : Int32)), (.int (51 : Int32)), (.int (52 : Int32)), (.int (53 : Int32)), (.int (54 : Int32)), (.int (55 : Int32)), (.int (56 : Int32)), (.int (57 : Int32)), (.int (65 : Int32)), (.int (66 : Int32)), (.int (67 : Int32)), (.int (68 : Int32)), (.int (69 : Int32)), (.int (70 : Int32))] (.int (0 : Int32))) (S_COMPACT_STRINGS : Sta Z h0 "java/lang/String" "COMPACT_STRINGS" "Z" (.int wc)) (S_SIOOBE_FORMATTER : Sta Z h0 "jdk/internal/util/Preconditions" "SIOOBE_FORMATTER" "Ljava/util/function/BiFunction;" vf) (hwc : ¬ (wc = (0 : Int32))) (hvf : vf.isRef = true) (hi1 : ¬ (p1 < 0)) (hi2 : p1 < (16 : Int32)) :
    MetFree l (⟨"java/lang/String", "charAt", "(I)C"⟩ : MethodName) (head1 (Jvm.Cond.code (⟨"java/lang/String", "charAt", "(I)C"⟩ : MethodName) jdk_42_method_56_code 2 (some .char) :: ws) ({ frames := 3, cells := 0, slots := 0, locals := 40 } : Room)) (fun a U => a = #[(.ref a0), (.int p1)] ∧ Z.Warmed39 U.vm ∧ U.heap = h0) (fun _ _ _ _ _ => True) (fun _ U o U' => ∃ v L, o = .returned v ∧ own_Qs6 Z a0 p1 ab ka wc vf h0 n0 v U'.heap L ∧ FrameEnd U o U' L ({ frames := 3, cells := 0, slots := 0, locals := 40 } : Room).cells ({ frames := 3, cells := 0, slots := 0, locals := 40 } : Room).slots) := by
  refine MetFree.of_bodySF (plainFor_of_name pns6) hisR ?_
  intro p e s m args below meth c s₁ Bd hml0 hP hK
  obtain ⟨rfl, hZ, hh⟩ := hP
  have hx := Bd.exec
  have hby := Bd.bytes
  have hml : c.maxLocals = 2 := hml0
  have hown : s.vm.findClass "java/lang/String" = some m.cls := findClass_of_methodNamed Bd.named
  have hnm := (name_of_methodNamed Bd.named Bd.method).1
  have X0 : Stand p l e ({ frames := 3, cells := 0, slots := 0, locals := 40 } : Room) s m #[(.ref a0), (.int p1)] below meth c s₁ [] 0 0 := Stand.of_body Bd
  have e0 : s₁.heap = h0 := by rw [← hh, Bd.state]; rfl
  have N0 := Fr.nil n0
  show own_Go p.tables e below (fun o U' => ∃ v L, o = .returned v ∧ own_Qs6 Z a0 p1 ab ka wc vf h0 n0 v U'.heap L ∧ FrameEnd s o U' L ({ frames := 3, cells := 0, slots := 0, locals := 40 } : Room).cells ({ frames := 3, cells := 0, slots := 0, locals := 40 } : Room).slots) (s₁.setTop (entryFrame m #[(.ref a0), (.int p1)] 2))
  refine own_go (fun _ k => castTop (efs6 m a0 p1) k) ?_
  show own_Go p.tables e below _ (s₁.setTop (mkF m 0 #[.val (.ref a0), .val (.int p1)] []))
  refine own_go (fun _ k => XS.aloadN X0.here hx rfl (hb hby ds6_0) rfl rfl k) ?_
  show own_Go p.tables e below _ (s₁.setTop (mkF m 1 #[.val (.ref a0), .val (.int p1)] [(.ref a0)]))
  obtain ⟨cq1, kq1, q1a, q1b, q1c⟩ := isOf hZ e0 E_a0
  obtain ⟨_, _, ⟨T1, L1, k1, n1⟩, -, X1, ⟨Lc1, hQ1, l1, y1, z1⟩, st1⟩ := X0.virtualBack hx (y := (⟨"java/lang/String", "isLatin1", "()Z"⟩ : MethodName)) (z := (⟨"java/lang/String", "isLatin1", "()Z"⟩ : MethodName)) hown (mvT hZ (hw _ (List.mem_of_getElem? (i := 17) rfl))) (mvT hZ (hw _ (List.mem_of_getElem? (i := 18) rfl))) (notFace_of_selects (args := #[]) (mvT hZ (hw _ (List.mem_of_getElem? (i := 20) rfl)))) (mvT hZ (hw _ (List.mem_of_getElem? (i := 20) rfl))) (mvT hZ (hw _ (List.mem_of_getElem? (i := 19) rfl))) (by decide) (backOf (W := 0) (rms1 l Z az hw [] a0 ab ka wc h0 n0 Z0 F_a0_coder F_a0_value E_a0 V_ab S_COMPACT_STRINGS hwc) hZ (hw _ (List.mem_of_getElem? (i := 21) rfl)) (hw _ (List.mem_of_getElem? (i := 1) rfl)) (by decide) (by decide)) q1a q1c (g := (mkF m 1 #[.val (.ref a0), .val (.int p1)] [(.ref a0)])) rfl (by rw [hml]; rfl) (Steps.refl _) (argsL := []) (rest := []) (lenOf pds6_0 rfl) rfl (by show 2 * 0 + _ ≤ _; exact Nat.le_of_eq rfl) (hb hby ds6_1) (fun _ _ => ⟨rfl, e0, (by decide : 0 + 0 ≤ _), (by decide : 0 + 0 ≤ _)⟩)
  dsimp only [Pt.U, Pt.locs, Pt.cells, Pt.slots] at X1 l1 y1 z1 st1 hQ1
  subst l1 y1 z1
  refine own_go (fun _ k => st1.trans k) ?_
  obtain ⟨rfl, N1q, e1⟩ := hQ1
  have N1 := Fr.app N0 N1q
  show own_Go p.tables e below _ (T1.setTop (mkF m 4 #[.val (.ref a0), .val (.int p1)] [(.int (1 : Int32))]))
  have hf4 : ¬ ((1 : Int32) = (0 : Int32)) := by decide
  refine own_go (fun _ k => XS.ifNo X1.here hx rfl (hb hby ds6_4) rfl ((if0 _ _).trans (feq hf4).1) k) ?_
  show own_Go p.tables e below _ (T1.setTop (mkF m 7 #[.val (.ref a0), .val (.int p1)] []))
  refine own_go (fun _ k => XS.aloadN X1.here hx rfl (hb hby ds6_7) rfl rfl k) ?_
  show own_Go p.tables e below _ (T1.setTop (mkF m 8 #[.val (.ref a0), .val (.int p1)] [(.ref a0)]))
  obtain ⟨T2, X2, e2, st2⟩ := getF X1 hx hZ hown (host := "") (Or.inl (hw _ (List.mem_of_getElem? (i := 24) rfl))) Via.refl (e1 : T1.heap = h0) F_a0_value (g := (mkF m 8 #[.val (.ref a0), .val (.int p1)] [(.ref a0)])) rfl rfl (hb hby ds6_8)
  refine own_go st2 ?_
  show own_Go p.tables e below _ (T2.setTop (mkF m 11 #[.val (.ref a0), .val (.int p1)] [(.ref ab)]))
  refine own_go (fun _ k => XS.iloadN X2.here hx rfl (hb hby ds6_11) rfl k) ?_
  show own_Go p.tables e below _ (T2.setTop (mkF m 12 #[.val (.ref a0), .val (.int p1)] [(.int p1), (.ref ab)]))
  obtain ⟨_, _, ⟨T3, L3, k3, n3⟩, -, X3, ⟨Lc3, hQ3, l3, y3, z3⟩, st3⟩ := Jvm.LawKit.callS X2 hx (y := (⟨"java/lang/StringLatin1", "charAt", "([BI)C"⟩ : MethodName)) hown (mvT hZ (hw _ (List.mem_of_getElem? (i := 25) rfl))) (mvT hZ (hw _ (List.mem_of_getElem? (i := 26) rfl))) (mvT hZ (hw _ (List.mem_of_getElem? (i := 27) rfl))) (mvT hZ (hw _ (List.mem_of_getElem? (i := 28) rfl))) (by decide) (backOf (W := 0) (rms5 l Z az hw [] ab p1 ka vf h0 n0 Z0 V_ab S_SIOOBE_FORMATTER hvf hi1 hi2) hZ (hw _ (List.mem_of_getElem? (i := 28) rfl)) (hw _ (List.mem_of_getElem? (i := 27) rfl)) (by decide) (by decide)) (g := (mkF m 12 #[.val (.ref a0), .val (.int p1)] [(.int p1), (.ref ab)])) rfl (by rw [hml]; rfl) (argsL := [(.ref ab), (.int p1)]) (rest := []) (lenOf pds6_1 rfl) rfl (by show 2 * 0 + _ ≤ _; exact Nat.le_of_eq rfl) (hb hby ds6_12) (fun _ _ => ⟨rfl, e2, (by decide : 0 + 0 ≤ _), (by decide : 0 + 0 ≤ _)⟩)
  dsimp only [Pt.U, Pt.locs, Pt.cells, Pt.slots] at X3 l3 y3 z3 st3 hQ3
  subst l3 y3 z3
  refine own_go st3 ?_
  obtain ⟨rfl, N3q, e3⟩ := hQ3
  have N3 := Fr.app N1 N3q
  show own_Go p.tables e below _ (T3.setTop (mkF m 15 #[.val (.ref a0), .val (.int p1)] [(.int (own_fs5 p1))]))
  refine own_end X3 Bd.notSynchronized (v := some (.int (nar .char (own_fs5 p1)))) (fun h => by rw [Bd.returns] at h; cases h) (fun fs hr => retN X3 hx (t := .char) Bd.returns (by simp) (hb hby ds6_15) hr) ?_ (by decide) (by decide)
  exact ⟨by rw [own_fs6], N3, (e3 : T3.heap = h0)⟩
def own_f1 (p0 : Int32) : Int32 :=
  (if p0 < (48 : Int32) then (if p0 < (65 : Int32) then (0 : Int32) else (if (70 : Int32) < p0 then (0 : Int32) else (1 : Int32))) else (if (57 : Int32) < p0 then (if p0 < (65 : Int32) then (0 : Int32) else (if (70 : Int32) < p0 then (0 : Int32) else (1 : Int32))) else (1 : Int32)))
theorem d1_0 : decode prog_39_method_14_code 0 = .ok (.iload_n 0, 1) := by decide +kernel
theorem d1_1 : decode prog_39_method_14_code 1 = .ok (.bipush 48, 2) := by decide +kernel
theorem d1_3 : decode prog_39_method_14_code 3 = .ok (.if_icmp .lt 9, 3) := by decide +kernel
theorem d1_6 : decode prog_39_method_14_code 6 = .ok (.iload_n 0, 1) := by decide +kernel
theorem d1_7 : decode prog_39_method_14_code 7 = .ok (.bipush 57, 2) := by decide +kernel
theorem d1_9 : decode prog_39_method_14_code 9 = .ok (.if_icmp .le 15, 3) := by decide +kernel
theorem d1_12 : decode prog_39_method_14_code 12 = .ok (.iload_n 0, 1) := by decide +kernel
theorem d1_13 : decode prog_39_method_14_code 13 = .ok (.bipush 65, 2) := by decide +kernel
theorem d1_15 : decode prog_39_method_14_code 15 = .ok (.if_icmp .lt 13, 3) := by decide +kernel
theorem d1_18 : decode prog_39_method_14_code 18 = .ok (.iload_n 0, 1) := by decide +kernel
theorem d1_19 : decode prog_39_method_14_code 19 = .ok (.bipush 70, 2) := by decide +kernel
theorem d1_21 : decode prog_39_method_14_code 21 = .ok (.if_icmp .gt 7, 3) := by decide +kernel
theorem d1_24 : decode prog_39_method_14_code 24 = .ok (.iconst 1, 1) := by decide +kernel
theorem d1_25 : decode prog_39_method_14_code 25 = .ok (.goto 4, 3) := by decide +kernel
theorem d1_28 : decode prog_39_method_14_code 28 = .ok (.iconst 0, 1) := by decide +kernel
theorem d1_29 : decode prog_39_method_14_code 29 = .ok (.ireturn, 1) := by decide +kernel
theorem pn1 : plainName "com/example/labframe/labframe/wire/Frame" = true := by first | (simp [plainName, overriddenIn]; done) | decide +kernel
theorem ef1 (m : MethodId) (p0 : Int32) : entryFrame m #[(.int p0)] 1 = mkF m 0 #[.val (.int p0)] [] := by first | (simp [entryFrame, mkF, argsToLocals, Value.category]; done) | rfl
def own_Q1 (Z : State) (p0 : Int32) (h0 : Heap) (n0 : Nat) (v : Option Value) (h : Heap) (L : List Loc) : Prop := v = some (.int (own_f1 p0)) ∧ Fr n0 L ∧ h = h0
set_option maxRecDepth 65536 in
set_option maxHeartbeats 40000000 in
theorem rm1 (l : Launch) (Z : State) (az : Array Value) (hw : ∀ d ∈ tables_1, d.before az Z = true) (ws : List Jvm.Cond) (p0 : Int32) (h0 : Heap) (n0 : Nat) (Z0 : n0 ≤ h0.size) :
    MetFree l (⟨"com/example/labframe/labframe/wire/Frame", "isHexDigit", "(B)Z"⟩ : MethodName) (head1 (Jvm.Cond.code (⟨"com/example/labframe/labframe/wire/Frame", "isHexDigit", "(B)Z"⟩ : MethodName) prog_39_method_14_code 1 (some .boolean) :: ws) ({ frames := 0, cells := 0, slots := 0, locals := 0 } : Room)) (fun a U => a = #[(.int p0)] ∧ Z.Warmed39 U.vm ∧ U.heap = h0) (fun _ _ _ _ _ => True) (fun _ U o U' => ∃ v L, o = .returned v ∧ own_Q1 Z p0 h0 n0 v U'.heap L ∧ FrameEnd U o U' L ({ frames := 0, cells := 0, slots := 0, locals := 0 } : Room).cells ({ frames := 0, cells := 0, slots := 0, locals := 0 } : Room).slots) := by
  refine MetFree.of_bodySF (plainFor_of_name pn1) hisR ?_
  intro p e s m args below meth c s₁ Bd hml0 hP hK
  obtain ⟨rfl, hZ, hh⟩ := hP
  have hx := Bd.exec
  have hby := Bd.bytes
  have hml : c.maxLocals = 1 := hml0
  have hown : s.vm.findClass "com/example/labframe/labframe/wire/Frame" = some m.cls := findClass_of_methodNamed Bd.named
  have hnm := (name_of_methodNamed Bd.named Bd.method).1
  have X0 : Stand p l e ({ frames := 0, cells := 0, slots := 0, locals := 0 } : Room) s m #[(.int p0)] below meth c s₁ [] 0 0 := Stand.of_body Bd
  have e0 : s₁.heap = h0 := by rw [← hh, Bd.state]; rfl
  have N0 := Fr.nil n0
  show own_Go p.tables e below (fun o U' => ∃ v L, o = .returned v ∧ own_Q1 Z p0 h0 n0 v U'.heap L ∧ FrameEnd s o U' L ({ frames := 0, cells := 0, slots := 0, locals := 0 } : Room).cells ({ frames := 0, cells := 0, slots := 0, locals := 0 } : Room).slots) (s₁.setTop (entryFrame m #[(.int p0)] 1))
  refine own_go (fun _ k => castTop (ef1 m p0) k) ?_
  show own_Go p.tables e below _ (s₁.setTop (mkF m 0 #[.val (.int p0)] []))
  refine own_go (fun _ k => XS.iloadN X0.here hx rfl (hb hby d1_0) rfl k) ?_
  show own_Go p.tables e below _ (s₁.setTop (mkF m 1 #[.val (.int p0)] [(.int p0)]))
  refine own_go (fun _ k => XS.bipush X0.here hx rfl (hb hby d1_1) k) ?_
  show own_Go p.tables e below _ (s₁.setTop (mkF m 3 #[.val (.int p0)] [(.int (48 : Int32)), (.int p0)]))
  by_cases hc3 : p0 < (48 : Int32)
  · refine own_go (fun _ k => XS.icmpYes X0.here hx rfl (pc0 := 3) (pc' := 12) rfl (hb hby d1_3) rfl (tlt hc3).1 (by decide) (by decide) k) ?_
    show own_Go p.tables e below _ (s₁.setTop (mkF m 12 #[.val (.int p0)] []))
    refine own_go (fun _ k => XS.iloadN X0.here hx rfl (hb hby d1_12) rfl k) ?_
    show own_Go p.tables e below _ (s₁.setTop (mkF m 13 #[.val (.int p0)] [(.int p0)]))
    refine own_go (fun _ k => XS.bipush X0.here hx rfl (hb hby d1_13) k) ?_
    show own_Go p.tables e below _ (s₁.setTop (mkF m 15 #[.val (.int p0)] [(.int (65 : Int32)), (.int p0)]))
    by_cases hc15 : p0 < (65 : Int32)
    · refine own_go (fun _ k => XS.icmpYes X0.here hx rfl (pc0 := 15) (pc' := 28) rfl (hb hby d1_15) rfl (tlt hc15).1 (by decide) (by decide) k) ?_
      show own_Go p.tables e below _ (s₁.setTop (mkF m 28 #[.val (.int p0)] []))
      refine own_go (fun _ k => XS.iconst X0.here hx rfl (hb hby d1_28) k) ?_
      show own_Go p.tables e below _ (s₁.setTop (mkF m 29 #[.val (.int p0)] [(.int (0 : Int32))]))
      refine own_end X0 Bd.notSynchronized (v := some (.int (0 : Int32))) (fun h => by rw [Bd.returns] at h; cases h) (fun fs hr => retN X0 hx (t := .boolean) Bd.returns (by simp) (hb hby d1_29) hr) ?_ (by decide) (by decide)
      exact ⟨by rw [own_f1, if_pos hc3, if_pos hc15], N0, e0⟩
    · refine own_go (fun _ k => XS.icmpNo X0.here hx rfl (hb hby d1_15) rfl (flt hc15).1 k) ?_
      show own_Go p.tables e below _ (s₁.setTop (mkF m 18 #[.val (.int p0)] []))
      refine own_go (fun _ k => XS.iloadN X0.here hx rfl (hb hby d1_18) rfl k) ?_
      show own_Go p.tables e below _ (s₁.setTop (mkF m 19 #[.val (.int p0)] [(.int p0)]))
      refine own_go (fun _ k => XS.bipush X0.here hx rfl (hb hby d1_19) k) ?_
      show own_Go p.tables e below _ (s₁.setTop (mkF m 21 #[.val (.int p0)] [(.int (70 : Int32)), (.int p0)]))
      by_cases hc21 : (70 : Int32) < p0
      · refine own_go (fun _ k => XS.icmpYes X0.here hx rfl (pc0 := 21) (pc' := 28) rfl (hb hby d1_21) rfl (tlt hc21).2.2.1 (by decide) (by decide) k) ?_
        show own_Go p.tables e below _ (s₁.setTop (mkF m 28 #[.val (.int p0)] []))
        refine own_go (fun _ k => XS.iconst X0.here hx rfl (hb hby d1_28) k) ?_
        show own_Go p.tables e below _ (s₁.setTop (mkF m 29 #[.val (.int p0)] [(.int (0 : Int32))]))
        refine own_end X0 Bd.notSynchronized (v := some (.int (0 : Int32))) (fun h => by rw [Bd.returns] at h; cases h) (fun fs hr => retN X0 hx (t := .boolean) Bd.returns (by simp) (hb hby d1_29) hr) ?_ (by decide) (by decide)
        exact ⟨by rw [own_f1, if_pos hc3, if_neg hc15, if_pos hc21], N0, e0⟩
      · refine own_go (fun _ k => XS.icmpNo X0.here hx rfl (hb hby d1_21) rfl (flt hc21).2.2.1 k) ?_
        show own_Go p.tables e below _ (s₁.setTop (mkF m 24 #[.val (.int p0)] []))
        refine own_go (fun _ k => XS.iconst X0.here hx rfl (hb hby d1_24) k) ?_
        show own_Go p.tables e below _ (s₁.setTop (mkF m 25 #[.val (.int p0)] [(.int (1 : Int32))]))
        refine own_go (fun _ k => XS.goto X0.here hx rfl (pc0 := 25) (pc' := 29) rfl (hb hby d1_25) (by decide) (by decide) k) ?_
        show own_Go p.tables e below _ (s₁.setTop (mkF m 29 #[.val (.int p0)] [(.int (1 : Int32))]))
        refine own_end X0 Bd.notSynchronized (v := some (.int (1 : Int32))) (fun h => by rw [Bd.returns] at h; cases h) (fun fs hr => retN X0 hx (t := .boolean) Bd.returns (by simp) (hb hby d1_29) hr) ?_ (by decide) (by decide)
        exact ⟨by rw [own_f1, if_pos hc3, if_neg hc15, if_neg hc21], N0, e0⟩
  · refine own_go (fun _ k => XS.icmpNo X0.here hx rfl (hb hby d1_3) rfl (flt hc3).1 k) ?_
    show own_Go p.tables e below _ (s₁.setTop (mkF m 6 #[.val (.int p0)] []))
    refine own_go (fun _ k => XS.iloadN X0.here hx rfl (hb hby d1_6) rfl k) ?_
    show own_Go p.tables e below _ (s₁.setTop (mkF m 7 #[.val (.int p0)] [(.int p0)]))
    refine own_go (fun _ k => XS.bipush X0.here hx rfl (hb hby d1_7) k) ?_
    show own_Go p.tables e below _ (s₁.setTop (mkF m 9 #[.val (.int p0)] [(.int (57 : Int32)), (.int p0)]))
    by_cases hc9 : (57 : Int32) < p0
    · refine own_go (fun _ k => XS.icmpNo X0.here hx rfl (hb hby d1_9) rfl (tlt hc9).2.2.2 k) ?_
      show own_Go p.tables e below _ (s₁.setTop (mkF m 12 #[.val (.int p0)] []))
      refine own_go (fun _ k => XS.iloadN X0.here hx rfl (hb hby d1_12) rfl k) ?_
      show own_Go p.tables e below _ (s₁.setTop (mkF m 13 #[.val (.int p0)] [(.int p0)]))
      refine own_go (fun _ k => XS.bipush X0.here hx rfl (hb hby d1_13) k) ?_
      show own_Go p.tables e below _ (s₁.setTop (mkF m 15 #[.val (.int p0)] [(.int (65 : Int32)), (.int p0)]))
      by_cases hc15 : p0 < (65 : Int32)
      · refine own_go (fun _ k => XS.icmpYes X0.here hx rfl (pc0 := 15) (pc' := 28) rfl (hb hby d1_15) rfl (tlt hc15).1 (by decide) (by decide) k) ?_
        show own_Go p.tables e below _ (s₁.setTop (mkF m 28 #[.val (.int p0)] []))
        refine own_go (fun _ k => XS.iconst X0.here hx rfl (hb hby d1_28) k) ?_
        show own_Go p.tables e below _ (s₁.setTop (mkF m 29 #[.val (.int p0)] [(.int (0 : Int32))]))
        refine own_end X0 Bd.notSynchronized (v := some (.int (0 : Int32))) (fun h => by rw [Bd.returns] at h; cases h) (fun fs hr => retN X0 hx (t := .boolean) Bd.returns (by simp) (hb hby d1_29) hr) ?_ (by decide) (by decide)
        exact ⟨by rw [own_f1, if_neg hc3, if_pos hc9, if_pos hc15], N0, e0⟩
      · refine own_go (fun _ k => XS.icmpNo X0.here hx rfl (hb hby d1_15) rfl (flt hc15).1 k) ?_
        show own_Go p.tables e below _ (s₁.setTop (mkF m 18 #[.val (.int p0)] []))
        refine own_go (fun _ k => XS.iloadN X0.here hx rfl (hb hby d1_18) rfl k) ?_
        show own_Go p.tables e below _ (s₁.setTop (mkF m 19 #[.val (.int p0)] [(.int p0)]))
        refine own_go (fun _ k => XS.bipush X0.here hx rfl (hb hby d1_19) k) ?_
        show own_Go p.tables e below _ (s₁.setTop (mkF m 21 #[.val (.int p0)] [(.int (70 : Int32)), (.int p0)]))
        by_cases hc21 : (70 : Int32) < p0
        · refine own_go (fun _ k => XS.icmpYes X0.here hx rfl (pc0 := 21) (pc' := 28) rfl (hb hby d1_21) rfl (tlt hc21).2.2.1 (by decide) (by decide) k) ?_
          show own_Go p.tables e below _ (s₁.setTop (mkF m 28 #[.val (.int p0)] []))
          refine own_go (fun _ k => XS.iconst X0.here hx rfl (hb hby d1_28) k) ?_
          show own_Go p.tables e below _ (s₁.setTop (mkF m 29 #[.val (.int p0)] [(.int (0 : Int32))]))
          refine own_end X0 Bd.notSynchronized (v := some (.int (0 : Int32))) (fun h => by rw [Bd.returns] at h; cases h) (fun fs hr => retN X0 hx (t := .boolean) Bd.returns (by simp) (hb hby d1_29) hr) ?_ (by decide) (by decide)
          exact ⟨by rw [own_f1, if_neg hc3, if_pos hc9, if_neg hc15, if_pos hc21], N0, e0⟩
        · refine own_go (fun _ k => XS.icmpNo X0.here hx rfl (hb hby d1_21) rfl (flt hc21).2.2.1 k) ?_
          show own_Go p.tables e below _ (s₁.setTop (mkF m 24 #[.val (.int p0)] []))
          refine own_go (fun _ k => XS.iconst X0.here hx rfl (hb hby d1_24) k) ?_
          show own_Go p.tables e below _ (s₁.setTop (mkF m 25 #[.val (.int p0)] [(.int (1 : Int32))]))
          refine own_go (fun _ k => XS.goto X0.here hx rfl (pc0 := 25) (pc' := 29) rfl (hb hby d1_25) (by decide) (by decide) k) ?_
          show own_Go p.tables e below _ (s₁.setTop (mkF m 29 #[.val (.int p0)] [(.int (1 : Int32))]))
          refine own_end X0 Bd.notSynchronized (v := some (.int (1 : Int32))) (fun h => by rw [Bd.returns] at h; cases h) (fun fs hr => retN X0 hx (t := .boolean) Bd.returns (by simp) (hb hby d1_29) hr) ?_ (by decide) (by decide)
          exact ⟨by rw [own_f1, if_neg hc3, if_pos hc9, if_neg hc15, if_neg hc21], N0, e0⟩
    · refine own_go (fun _ k => XS.icmpYes X0.here hx rfl (pc0 := 9) (pc' := 24) rfl (hb hby d1_9) rfl (flt hc9).2.2.2 (by decide) (by decide) k) ?_
      show own_Go p.tables e below _ (s₁.setTop (mkF m 24 #[.val (.int p0)] []))
      refine own_go (fun _ k => XS.iconst X0.here hx rfl (hb hby d1_24) k) ?_
      show own_Go p.tables e below _ (s₁.setTop (mkF m 25 #[.val (.int p0)] [(.int (1 : Int32))]))
      refine own_go (fun _ k => XS.goto X0.here hx rfl (pc0 := 25) (pc' := 29) rfl (hb hby d1_25) (by decide) (by decide) k) ?_
      show own_Go p.tables e below _ (s₁.setTop (mkF m 29 #[.val (.int p0)] [(.int (1 : Int32))]))
      refine own_end X0 Bd.notSynchronized (v := some (.int (1 : Int32))) (fun h => by rw [Bd.returns] at h; cases h) (fun fs hr => retN X0 hx (t := .boolean) Bd.returns (by simp) (hb hby d1_29) hr) ?_ (by decide) (by decide)
      exact ⟨by rw [own_f1, if_neg hc3, if_neg hc9], N0, e0⟩
def own_ref (d u : Int32) : Int32 := if d < (0 : Int32) then (0 : Int32) else if d < (16 : Int32) then (if (own_fs6 d) = (u.toUInt32.toUInt16.toUInt32.toInt32) then (1 : Int32) else (0 : Int32)) else (0 : Int32)
theorem own_fin : ∀ n : Fin 256, own_f1 ((Int32.ofNat n.val).toInt8.toInt32) = own_ref (if (57 : Int32) < ((Int32.ofNat n.val).toInt8.toInt32 &&& (255 : Int32)) then (((Int32.ofNat n.val).toInt8.toInt32 &&& (255 : Int32)) - (55 : Int32)) else (((Int32.ofNat n.val).toInt8.toInt32 &&& (255 : Int32)) - (48 : Int32))) ((Int32.ofNat n.val).toInt8.toInt32 &&& (255 : Int32)) := by decide +kernel
theorem own_val {x b u d : Int32} (hb : b = x.toInt8.toInt32) (hu : u = b &&& (255 : Int32)) (hd : d = if (57 : Int32) < u then (u - (55 : Int32)) else (u - (48 : Int32))) : own_f1 b = own_ref d u := by
  have e : b = (Int32.ofNat (x.toInt % 256).toNat).toInt8.toInt32 := by
    have q1 := c_i2b x
    have q2 := c_i2b (Int32.ofNat (x.toInt % 256).toNat)
    rw [Int32.toInt_ofNat_of_lt (by omega)] at q2
    rw [← Int32.toInt_inj, hb]
    omega
  have q := own_fin ⟨(x.toInt % 256).toNat, by omega⟩
  simp only [← e] at q
  rw [hd, hu]; exact q
theorem pn0 : plainName "com/example/labframe/labframe/wire/FrameIsHexDigitPinLaw" = true := by first | (simp [plainName, overriddenIn]; done) | decide +kernel
theorem pd0_0 : parseMethodDescriptor "(B)Z" = some ⟨[.byte], some .boolean⟩ := by decide +kernel
theorem pd0_1 : parseMethodDescriptor "(I)C" = some ⟨[.int], some .char⟩ := by decide +kernel
theorem ef0 (m : MethodId) (p0 : Int32) : entryFrame m #[(.int p0)] maxLocals = mkF m 0 #[.val (.int p0), .unset, .unset, .unset, .unset, .unset] [] := by first | (simp [entryFrame, mkF, argsToLocals, Value.category, maxLocals]; done) | rfl
def own_Q0 (Z : State) (p0 : Int32) (wc : Int32) (vf : Value) (h0 : Heap) (n0 : Nat) (v : Option Value) (h : Heap) (L : List Loc) : Prop := v = some (.int 1) ∧ Fr n0 L
set_option maxRecDepth 65536 in
set_option maxHeartbeats 40000000 in
theorem rm0 (l : Launch) (Z : State) (az : Array Value) (hw : ∀ d ∈ tables_1, d.before az Z = true) (ws : List Jvm.Cond) (p0 : Int32) (wc : Int32) (vf : Value) (h0 : Heap) (n0 : Nat) (Z0 : n0 ≤ h0.size) (S_COMPACT_STRINGS : Sta Z h0 "java/lang/String" "COMPACT_STRINGS" "Z" (.int wc)) (S_SIOOBE_FORMATTER : Sta Z h0 "jdk/internal/util/Preconditions" "SIOOBE_FORMATTER" "Ljava/util/function/BiFunction;" vf) (hwc : ¬ (wc = (0 : Int32))) (hvf : vf.isRef = true) :
    MetFree l x (head1 (Jvm.Cond.code x code maxLocals ret :: ws) room_1) (fun a U => a = #[(.int p0)] ∧ Z.Warmed39 U.vm ∧ U.heap = h0 ∧ CHv Z consts_1 U.vm h0) (fun _ _ _ _ _ => True) (fun _ U o U' => ∃ v L, o = .returned v ∧ own_Q0 Z p0 wc vf h0 n0 v U'.heap L ∧ CHr Z consts_1 U.vm U.heap U'.vm U'.heap ∧ ReturnedEndW U o U' L 8 1088) := by
  refine MetFree.of_bodySF (plainFor_of_name pn0) hisR ?_
  intro p e s m args below meth c s₁ Bd hml0 hP hK
  obtain ⟨rfl, hZ, hh, HC⟩ := hP
  have hx := Bd.exec
  have hby := Bd.bytes
  have hml : c.maxLocals = 6 := hml0
  have hZ : Z.Warmed39 (s.setVm s.vm).vm := hZ
  have hown : (s.setVm s.vm).vm.findClass "com/example/labframe/labframe/wire/FrameIsHexDigitPinLaw" = some m.cls := findClass_of_methodNamed Bd.named
  have hnm := (name_of_methodNamed Bd.named Bd.method).1
  have X0 : Stand p l e room_1 (s.setVm s.vm) m #[(.int p0)] below meth c s₁ [] 0 0 := by rw [State.setVm_self]; exact Stand.of_body Bd
  have e0 : s₁.heap = h0 := by rw [← hh, Bd.state]; rfl
  have N0 := Fr.nil n0
  have hS : s.Since s.vm h0.size := (State.WarmedH.refl s).since _
  have hk : h0.size ≤ h0.size := Nat.le_refl _
  have hEL := own_EL hw
  have CR := CHr.refl HC
  show own_Go p.tables e below (fun o U' => ∃ v L, o = .returned v ∧ own_Q0 Z p0 wc vf h0 n0 v U'.heap L ∧ CHr Z consts_1 s.vm s.heap U'.vm U'.heap ∧ ReturnedEndW s o U' L 8 1088) (s₁.setTop (entryFrame m #[(.int p0)] maxLocals))
  refine own_go (fun _ k => castTop (ef0 m p0) k) ?_
  show own_Go p.tables e below _ (s₁.setTop (mkF m 0 #[.val (.int p0), .unset, .unset, .unset, .unset, .unset] []))
  refine own_go (fun _ k => XS.iloadN X0.here hx rfl (hb hby at_0) rfl k) ?_
  show own_Go p.tables e below _ (s₁.setTop (mkF m 1 #[.val (.int p0), .unset, .unset, .unset, .unset, .unset] [(.int p0)]))
  refine own_go (fun _ k => XS.i2b X0.here hx rfl (hb hby at_1) rfl k) ?_
  show own_Go p.tables e below _ (s₁.setTop (mkF m 2 #[.val (.int p0), .unset, .unset, .unset, .unset, .unset] [(.int (p0.toInt8.toInt32))]))
  refine own_go (fun _ k => XS.istoreN X0.here hx rfl (hb hby at_2) rfl (l' := #[.val (.int p0), .val (.int (p0.toInt8.toInt32)), .unset, .unset, .unset, .unset]) rfl k) ?_
  show own_Go p.tables e below _ (s₁.setTop (mkF m 3 #[.val (.int p0), .val (.int (p0.toInt8.toInt32)), .unset, .unset, .unset, .unset] []))
  obtain ⟨vb, hvb⟩ : ∃ z : Int32, z = (p0.toInt8.toInt32) := ⟨_, rfl⟩
  rw [← hvb]
  show own_Go p.tables e below _ (s₁.setTop (mkF m 3 #[.val (.int p0), .val (.int vb), .unset, .unset, .unset, .unset] []))
  refine own_go (fun _ k => XS.iloadN X0.here hx rfl (hb hby at_3) rfl k) ?_
  show own_Go p.tables e below _ (s₁.setTop (mkF m 4 #[.val (.int p0), .val (.int vb), .unset, .unset, .unset, .unset] [(.int vb)]))
  refine own_go (fun _ k => XS.sipush X0.here hx rfl (hb hby at_4) k) ?_
  show own_Go p.tables e below _ (s₁.setTop (mkF m 7 #[.val (.int p0), .val (.int vb), .unset, .unset, .unset, .unset] [(.int (255 : Int32)), (.int vb)]))
  refine own_go (fun _ k => XS.iand X0.here hx rfl (hb hby at_7) rfl k) ?_
  show own_Go p.tables e below _ (s₁.setTop (mkF m 8 #[.val (.int p0), .val (.int vb), .unset, .unset, .unset, .unset] [(.int (vb &&& (255 : Int32)))]))
  refine own_go (fun _ k => XS.istoreN X0.here hx rfl (hb hby at_8) rfl (l' := #[.val (.int p0), .val (.int vb), .val (.int (vb &&& (255 : Int32))), .unset, .unset, .unset]) rfl k) ?_
  show own_Go p.tables e below _ (s₁.setTop (mkF m 9 #[.val (.int p0), .val (.int vb), .val (.int (vb &&& (255 : Int32))), .unset, .unset, .unset] []))
  obtain ⟨vu, hvu⟩ : ∃ z : Int32, z = (vb &&& (255 : Int32)) := ⟨_, rfl⟩
  rw [← hvu]
  show own_Go p.tables e below _ (s₁.setTop (mkF m 9 #[.val (.int p0), .val (.int vb), .val (.int vu), .unset, .unset, .unset] []))
  obtain ⟨a1, T1, h1, k1, b1, kb1, X1, e1, E1, hS, hk, hZ, hown, Ex1, Fc1, Fv1, Av1, -, -, hC1, -, -, st1⟩ := ldcCH X0 hx hZ hown (hw _ (List.mem_of_getElem? (i := 0) rfl)) (own_wS hw) e0 hS hk hEL (List.mem_of_getElem? (i := 0) rfl) HC (vs := [(.int (48 : Int32)), (.int (49 : Int32)), (.int (50 : Int32)), (.int (51 : Int32)), (.int (52 : Int32)), (.int (53 : Int32)), (.int (54 : Int32)), (.int (55 : Int32)), (.int (56 : Int32)), (.int (57 : Int32)), (.int (65 : Int32)), (.int (66 : Int32)), (.int (67 : Int32)), (.int (68 : Int32)), (.int (69 : Int32)), (.int (70 : Int32))]) (z := (16 : Int32)) own_lit (by decide) (by decide) (g := (mkF m 9 #[.val (.int p0), .val (.int vb), .val (.int vu), .unset, .unset, .unset] [])) rfl (hb hby at_9) (n := 64) (by decide +kernel) (by decide) (by decide) (by decide)
  have CR := CR.trans hC1
  have HC := hC1.1
  have c1_0 := S_COMPACT_STRINGS.ext E1
  have c1_1 := S_SIOOBE_FORMATTER.ext E1
  have Z1 : n0 ≤ h1.size := Nat.le_trans Z0 E1.1
  refine own_go st1 ?_
  show own_Go p.tables e below _ (T1.setTop (mkF m 11 #[.val (.int p0), .val (.int vb), .val (.int vu), .unset, .unset, .unset] [(.ref a1)]))
  refine own_go (fun _ k => XS.astoreN X1.here hx rfl (hb hby at_11) rfl rfl (l' := #[.val (.int p0), .val (.int vb), .val (.int vu), .val (.ref a1), .unset, .unset]) rfl k) ?_
  show own_Go p.tables e below _ (T1.setTop (mkF m 12 #[.val (.int p0), .val (.int vb), .val (.int vu), .val (.ref a1), .unset, .unset] []))
  refine own_go (fun _ k => XS.iloadN X1.here hx rfl (hb hby at_12) rfl k) ?_
  show own_Go p.tables e below _ (T1.setTop (mkF m 13 #[.val (.int p0), .val (.int vb), .val (.int vu), .val (.ref a1), .unset, .unset] [(.int vu)]))
  refine own_go (fun _ k => XS.bipush X1.here hx rfl (hb hby at_13) k) ?_
  show own_Go p.tables e below _ (T1.setTop (mkF m 15 #[.val (.int p0), .val (.int vb), .val (.int vu), .val (.ref a1), .unset, .unset] [(.int (57 : Int32)), (.int vu)]))
  have sg2 : ∀ t, Steps p.tables e below (T1.setTop (mkF m 29 #[.val (.int p0), .val (.int vb), .val (.int vu), .val (.ref a1), .unset, .unset] [(.int (if (57 : Int32) < vu then (vu - (55 : Int32)) else (vu - (48 : Int32))))])) t → Steps p.tables e below (T1.setTop (mkF m 15 #[.val (.int p0), .val (.int vb), .val (.int vu), .val (.ref a1), .unset, .unset] [(.int (57 : Int32)), (.int vu)])) t := by
    intro t k
    by_cases hc15 : (57 : Int32) < vu
    · try simp only [if_pos hc15] at k
      refine XS.icmpYes X1.here hx rfl (pc0 := 15) (pc' := 25) rfl (hb hby at_15) rfl (tlt hc15).2.2.1 (by decide) (by decide) ?_
      show Steps p.tables e below (T1.setTop (mkF m 25 #[.val (.int p0), .val (.int vb), .val (.int vu), .val (.ref a1), .unset, .unset] [])) _
      refine XS.iloadN X1.here hx rfl (hb hby at_25) rfl ?_
      show Steps p.tables e below (T1.setTop (mkF m 26 #[.val (.int p0), .val (.int vb), .val (.int vu), .val (.ref a1), .unset, .unset] [(.int vu)])) _
      refine XS.bipush X1.here hx rfl (hb hby at_26) ?_
      show Steps p.tables e below (T1.setTop (mkF m 28 #[.val (.int p0), .val (.int vb), .val (.int vu), .val (.ref a1), .unset, .unset] [(.int (55 : Int32)), (.int vu)])) _
      refine XS.isub X1.here hx rfl (hb hby at_28) rfl ?_
      show Steps p.tables e below (T1.setTop (mkF m 29 #[.val (.int p0), .val (.int vb), .val (.int vu), .val (.ref a1), .unset, .unset] [(.int (vu - (55 : Int32)))])) _
      exact k
    · try simp only [if_neg hc15] at k
      refine XS.icmpNo X1.here hx rfl (hb hby at_15) rfl (flt hc15).2.2.1 ?_
      show Steps p.tables e below (T1.setTop (mkF m 18 #[.val (.int p0), .val (.int vb), .val (.int vu), .val (.ref a1), .unset, .unset] [])) _
      refine XS.iloadN X1.here hx rfl (hb hby at_18) rfl ?_
      show Steps p.tables e below (T1.setTop (mkF m 19 #[.val (.int p0), .val (.int vb), .val (.int vu), .val (.ref a1), .unset, .unset] [(.int vu)])) _
      refine XS.bipush X1.here hx rfl (hb hby at_19) ?_
      show Steps p.tables e below (T1.setTop (mkF m 21 #[.val (.int p0), .val (.int vb), .val (.int vu), .val (.ref a1), .unset, .unset] [(.int (48 : Int32)), (.int vu)])) _
      refine XS.isub X1.here hx rfl (hb hby at_21) rfl ?_
      show Steps p.tables e below (T1.setTop (mkF m 22 #[.val (.int p0), .val (.int vb), .val (.int vu), .val (.ref a1), .unset, .unset] [(.int (vu - (48 : Int32)))])) _
      refine XS.goto X1.here hx rfl (pc0 := 22) (pc' := 29) rfl (hb hby at_22) (by decide) (by decide) ?_
      show Steps p.tables e below (T1.setTop (mkF m 29 #[.val (.int p0), .val (.int vb), .val (.int vu), .val (.ref a1), .unset, .unset] [(.int (vu - (48 : Int32)))])) _
      exact k
  refine own_go sg2 ?_
  show own_Go p.tables e below _ (T1.setTop (mkF m 29 #[.val (.int p0), .val (.int vb), .val (.int vu), .val (.ref a1), .unset, .unset] [(.int (if (57 : Int32) < vu then (vu - (55 : Int32)) else (vu - (48 : Int32))))]))
  refine own_go (fun _ k => XS.istore X1.here hx rfl (hb hby at_29) rfl (l' := #[.val (.int p0), .val (.int vb), .val (.int vu), .val (.ref a1), .val (.int (if (57 : Int32) < vu then (vu - (55 : Int32)) else (vu - (48 : Int32)))), .unset]) rfl k) ?_
  show own_Go p.tables e below _ (T1.setTop (mkF m 31 #[.val (.int p0), .val (.int vb), .val (.int vu), .val (.ref a1), .val (.int (if (57 : Int32) < vu then (vu - (55 : Int32)) else (vu - (48 : Int32)))), .unset] []))
  obtain ⟨vd, hvd⟩ : ∃ z : Int32, z = (if (57 : Int32) < vu then (vu - (55 : Int32)) else (vu - (48 : Int32))) := ⟨_, rfl⟩
  rw [← hvd]
  show own_Go p.tables e below _ (T1.setTop (mkF m 31 #[.val (.int p0), .val (.int vb), .val (.int vu), .val (.ref a1), .val (.int vd), .unset] []))
  refine own_go (fun _ k => XS.iload X1.here hx rfl (hb hby at_31) rfl k) ?_
  show own_Go p.tables e below _ (T1.setTop (mkF m 33 #[.val (.int p0), .val (.int vb), .val (.int vu), .val (.ref a1), .val (.int vd), .unset] [(.int vd)]))
  by_cases hc33 : vd < (0 : Int32)
  · refine own_go (fun _ k => XS.ifYes X1.here hx rfl (pc0 := 33) (pc' := 58) rfl (hb hby at_33) rfl ((if0 _ _).trans (tlt hc33).1) (by decide) (by decide) k) ?_
    show own_Go p.tables e below _ (T1.setTop (mkF m 58 #[.val (.int p0), .val (.int vb), .val (.int vu), .val (.ref a1), .val (.int vd), .unset] []))
    refine own_go (fun _ k => XS.iconst X1.here hx rfl (hb hby at_58) k) ?_
    show own_Go p.tables e below _ (T1.setTop (mkF m 59 #[.val (.int p0), .val (.int vb), .val (.int vu), .val (.ref a1), .val (.int vd), .unset] [(.int (0 : Int32))]))
    refine own_go (fun _ k => XS.istore X1.here hx rfl (hb hby at_59) rfl (l' := #[.val (.int p0), .val (.int vb), .val (.int vu), .val (.ref a1), .val (.int vd), .val (.int (0 : Int32))]) rfl k) ?_
    show own_Go p.tables e below _ (T1.setTop (mkF m 61 #[.val (.int p0), .val (.int vb), .val (.int vu), .val (.ref a1), .val (.int vd), .val (.int (0 : Int32))] []))
    refine own_go (fun _ k => XS.iloadN X1.here hx rfl (hb hby at_61) rfl k) ?_
    show own_Go p.tables e below _ (T1.setTop (mkF m 62 #[.val (.int p0), .val (.int vb), .val (.int vu), .val (.ref a1), .val (.int vd), .val (.int (0 : Int32))] [(.int vb)]))
    obtain ⟨_, _, ⟨T3, L3, k3, n3⟩, -, X3, ⟨Lc3, hQ3, l3, y3, z3⟩, st3⟩ := Jvm.LawKit.callS X1 hx (y := (⟨"com/example/labframe/labframe/wire/Frame", "isHexDigit", "(B)Z"⟩ : MethodName)) hown (mvT hZ (hw _ (List.mem_of_getElem? (i := 8) rfl))) (mvT hZ (hw _ (List.mem_of_getElem? (i := 9) rfl))) (mvT hZ (hw _ (List.mem_of_getElem? (i := 10) rfl))) (mvT hZ (hw _ (List.mem_of_getElem? (i := 11) rfl))) (by decide) (backOf (W := 0) (rm1 l Z az hw [] vb h1 n0 Z1) hZ (hw _ (List.mem_of_getElem? (i := 11) rfl)) (hw _ (List.mem_of_getElem? (i := 10) rfl)) (by decide) (by decide)) (g := (mkF m 62 #[.val (.int p0), .val (.int vb), .val (.int vu), .val (.ref a1), .val (.int vd), .val (.int (0 : Int32))] [(.int vb)])) rfl (by rw [hml]; rfl) (argsL := [(.int vb)]) (rest := []) (lenOf pd0_0 rfl) rfl (by show 2 * 0 + _ ≤ _; exact Nat.le_of_eq rfl) (hb hby at_62) (fun _ _ => ⟨rfl, e1, (by decide : 2 + 0 ≤ _), (by decide : 68 + 0 ≤ _)⟩)
    dsimp only [Pt.U, Pt.locs, Pt.cells, Pt.slots] at X3 l3 y3 z3 st3 hQ3
    subst l3 y3 z3
    refine own_go st3 ?_
    obtain ⟨rfl, N3q, e3⟩ := hQ3
    have N3 := Fr.app N0 N3q
    show own_Go p.tables e below _ (T3.setTop (mkF m 65 #[.val (.int p0), .val (.int vb), .val (.int vu), .val (.ref a1), .val (.int vd), .val (.int (0 : Int32))] [(.int (own_f1 vb))]))
    refine own_go (fun _ k => XS.iload X3.here hx rfl (hb hby at_65) rfl k) ?_
    show own_Go p.tables e below _ (T3.setTop (mkF m 67 #[.val (.int p0), .val (.int vb), .val (.int vu), .val (.ref a1), .val (.int vd), .val (.int (0 : Int32))] [(.int (0 : Int32)), (.int (own_f1 vb))]))
    have hf67 : (own_f1 vb) = (0 : Int32) := by rw [own_val hvb hvu hvd, own_ref, if_pos hc33]
    refine own_go (fun _ k => XS.icmpNo X3.here hx rfl (hb hby at_67) rfl (teq hf67).2 k) ?_
    show own_Go p.tables e below _ (T3.setTop (mkF m 70 #[.val (.int p0), .val (.int vb), .val (.int vu), .val (.ref a1), .val (.int vd), .val (.int (0 : Int32))] []))
    refine own_go (fun _ k => XS.iconst X3.here hx rfl (hb hby at_70) k) ?_
    show own_Go p.tables e below _ (T3.setTop (mkF m 71 #[.val (.int p0), .val (.int vb), .val (.int vu), .val (.ref a1), .val (.int vd), .val (.int (0 : Int32))] [(.int (1 : Int32))]))
    refine own_go (fun _ k => XS.goto X3.here hx rfl (pc0 := 71) (pc' := 75) rfl (hb hby at_71) (by decide) (by decide) k) ?_
    show own_Go p.tables e below _ (T3.setTop (mkF m 75 #[.val (.int p0), .val (.int vb), .val (.int vu), .val (.ref a1), .val (.int vd), .val (.int (0 : Int32))] [(.int (1 : Int32))]))
    refine own_endH X3 (by rw [hh, (e3 : T3.heap = h1)]; exact CR.trans (CHv.at X3 hZ hEL HC)) hS (by rw [(e3 : T3.heap = h1)]; exact hk) Bd.notSynchronized (v := some (.int (1 : Int32))) (fun h => by rw [Bd.returns] at h; cases h) (fun fs hr => retN X3 hx (t := .boolean) Bd.returns (by simp) (hb hby at_75) hr) ?_ (by decide) (by decide)
    exact ⟨rfl, N3⟩
  · refine own_go (fun _ k => XS.ifNo X1.here hx rfl (hb hby at_33) rfl ((if0 _ _).trans (flt hc33).1) k) ?_
    show own_Go p.tables e below _ (T1.setTop (mkF m 36 #[.val (.int p0), .val (.int vb), .val (.int vu), .val (.ref a1), .val (.int vd), .unset] []))
    refine own_go (fun _ k => XS.iload X1.here hx rfl (hb hby at_36) rfl k) ?_
    show own_Go p.tables e below _ (T1.setTop (mkF m 38 #[.val (.int p0), .val (.int vb), .val (.int vu), .val (.ref a1), .val (.int vd), .unset] [(.int vd)]))
    refine own_go (fun _ k => XS.bipush X1.here hx rfl (hb hby at_38) k) ?_
    show own_Go p.tables e below _ (T1.setTop (mkF m 40 #[.val (.int p0), .val (.int vb), .val (.int vu), .val (.ref a1), .val (.int vd), .unset] [(.int (16 : Int32)), (.int vd)]))
    by_cases hc40 : vd < (16 : Int32)
    · refine own_go (fun _ k => XS.icmpNo X1.here hx rfl (hb hby at_40) rfl (tlt hc40).2.1 k) ?_
      show own_Go p.tables e below _ (T1.setTop (mkF m 43 #[.val (.int p0), .val (.int vb), .val (.int vu), .val (.ref a1), .val (.int vd), .unset] []))
      refine own_go (fun _ k => XS.aloadN X1.here hx rfl (hb hby at_43) rfl rfl k) ?_
      show own_Go p.tables e below _ (T1.setTop (mkF m 44 #[.val (.int p0), .val (.int vb), .val (.int vu), .val (.ref a1), .val (.int vd), .unset] [(.ref a1)]))
      refine own_go (fun _ k => XS.iload X1.here hx rfl (hb hby at_44) rfl k) ?_
      show own_Go p.tables e below _ (T1.setTop (mkF m 46 #[.val (.int p0), .val (.int vb), .val (.int vu), .val (.ref a1), .val (.int vd), .unset] [(.int vd), (.ref a1)]))
      obtain ⟨cq4, kq4, q4a, q4b, q4c⟩ := isOf hZ e1 Ex1
      obtain ⟨_, _, ⟨T4, L4, k4, n4⟩, -, X4, ⟨Lc4, hQ4, l4, y4, z4⟩, st4⟩ := X1.virtualBack hx (y := (⟨"java/lang/String", "charAt", "(I)C"⟩ : MethodName)) (z := (⟨"java/lang/String", "charAt", "(I)C"⟩ : MethodName)) hown (mvT hZ (hw _ (List.mem_of_getElem? (i := 12) rfl))) (mvT hZ (hw _ (List.mem_of_getElem? (i := 13) rfl))) (notFace_of_selects (args := #[]) (mvT hZ (hw _ (List.mem_of_getElem? (i := 15) rfl)))) (mvT hZ (hw _ (List.mem_of_getElem? (i := 15) rfl))) (mvT hZ (hw _ (List.mem_of_getElem? (i := 14) rfl))) (by decide) (backOf (W := 0) (rms6 l Z az hw [] a1 vd b1 kb1 wc vf h1 n0 Z1 Fc1 Fv1 Ex1 Av1 c1_0 c1_1 hwc hvf hc33 hc40) hZ (hw _ (List.mem_of_getElem? (i := 16) rfl)) (hw _ (List.mem_of_getElem? (i := 1) rfl)) (by decide) (by decide)) q4a q4c (g := (mkF m 46 #[.val (.int p0), .val (.int vb), .val (.int vu), .val (.ref a1), .val (.int vd), .unset] [(.int vd), (.ref a1)])) rfl (by rw [hml]; rfl) (Steps.refl _) (argsL := [(.int vd)]) (rest := []) (lenOf pd0_1 rfl) rfl (by show 2 * 0 + _ ≤ _; exact Nat.le_of_eq rfl) (hb hby at_46) (fun _ _ => ⟨rfl, e1, (by decide : 2 + 0 ≤ _), (by decide : 68 + 0 ≤ _)⟩)
      dsimp only [Pt.U, Pt.locs, Pt.cells, Pt.slots] at X4 l4 y4 z4 st4 hQ4
      subst l4 y4 z4
      refine own_go (fun _ k => st4.trans k) ?_
      obtain ⟨rfl, N4q, e4⟩ := hQ4
      have N4 := Fr.app N0 N4q
      show own_Go p.tables e below _ (T4.setTop (mkF m 49 #[.val (.int p0), .val (.int vb), .val (.int vu), .val (.ref a1), .val (.int vd), .unset] [(.int (own_fs6 vd))]))
      refine own_go (fun _ k => XS.iloadN X4.here hx rfl (hb hby at_49) rfl k) ?_
      show own_Go p.tables e below _ (T4.setTop (mkF m 50 #[.val (.int p0), .val (.int vb), .val (.int vu), .val (.ref a1), .val (.int vd), .unset] [(.int vu), (.int (own_fs6 vd))]))
      refine own_go (fun _ k => XS.i2c X4.here hx rfl (hb hby at_50) rfl k) ?_
      show own_Go p.tables e below _ (T4.setTop (mkF m 51 #[.val (.int p0), .val (.int vb), .val (.int vu), .val (.ref a1), .val (.int vd), .unset] [(.int (vu.toUInt32.toUInt16.toUInt32.toInt32)), (.int (own_fs6 vd))]))
      have sg5 : ∀ t, Steps p.tables e below (T4.setTop (mkF m 59 #[.val (.int p0), .val (.int vb), .val (.int vu), .val (.ref a1), .val (.int vd), .unset] [(.int (if (own_fs6 vd) = (vu.toUInt32.toUInt16.toUInt32.toInt32) then (1 : Int32) else (0 : Int32)))])) t → Steps p.tables e below (T4.setTop (mkF m 51 #[.val (.int p0), .val (.int vb), .val (.int vu), .val (.ref a1), .val (.int vd), .unset] [(.int (vu.toUInt32.toUInt16.toUInt32.toInt32)), (.int (own_fs6 vd))])) t := by
        intro t k
        by_cases hc51 : (own_fs6 vd) = (vu.toUInt32.toUInt16.toUInt32.toInt32)
        · try simp only [if_pos hc51] at k
          refine XS.icmpNo X4.here hx rfl (hb hby at_51) rfl (teq hc51).2 ?_
          show Steps p.tables e below (T4.setTop (mkF m 54 #[.val (.int p0), .val (.int vb), .val (.int vu), .val (.ref a1), .val (.int vd), .unset] [])) _
          refine XS.iconst X4.here hx rfl (hb hby at_54) ?_
          show Steps p.tables e below (T4.setTop (mkF m 55 #[.val (.int p0), .val (.int vb), .val (.int vu), .val (.ref a1), .val (.int vd), .unset] [(.int (1 : Int32))])) _
          refine XS.goto X4.here hx rfl (pc0 := 55) (pc' := 59) rfl (hb hby at_55) (by decide) (by decide) ?_
          show Steps p.tables e below (T4.setTop (mkF m 59 #[.val (.int p0), .val (.int vb), .val (.int vu), .val (.ref a1), .val (.int vd), .unset] [(.int (1 : Int32))])) _
          exact k
        · try simp only [if_neg hc51] at k
          refine XS.icmpYes X4.here hx rfl (pc0 := 51) (pc' := 58) rfl (hb hby at_51) rfl (feq hc51).2 (by decide) (by decide) ?_
          show Steps p.tables e below (T4.setTop (mkF m 58 #[.val (.int p0), .val (.int vb), .val (.int vu), .val (.ref a1), .val (.int vd), .unset] [])) _
          refine XS.iconst X4.here hx rfl (hb hby at_58) ?_
          show Steps p.tables e below (T4.setTop (mkF m 59 #[.val (.int p0), .val (.int vb), .val (.int vu), .val (.ref a1), .val (.int vd), .unset] [(.int (0 : Int32))])) _
          exact k
      refine own_go sg5 ?_
      show own_Go p.tables e below _ (T4.setTop (mkF m 59 #[.val (.int p0), .val (.int vb), .val (.int vu), .val (.ref a1), .val (.int vd), .unset] [(.int (if (own_fs6 vd) = (vu.toUInt32.toUInt16.toUInt32.toInt32) then (1 : Int32) else (0 : Int32)))]))
      refine own_go (fun _ k => XS.istore X4.here hx rfl (hb hby at_59) rfl (l' := #[.val (.int p0), .val (.int vb), .val (.int vu), .val (.ref a1), .val (.int vd), .val (.int (if (own_fs6 vd) = (vu.toUInt32.toUInt16.toUInt32.toInt32) then (1 : Int32) else (0 : Int32)))]) rfl k) ?_
      show own_Go p.tables e below _ (T4.setTop (mkF m 61 #[.val (.int p0), .val (.int vb), .val (.int vu), .val (.ref a1), .val (.int vd), .val (.int (if (own_fs6 vd) = (vu.toUInt32.toUInt16.toUInt32.toInt32) then (1 : Int32) else (0 : Int32)))] []))
      refine own_go (fun _ k => XS.iloadN X4.here hx rfl (hb hby at_61) rfl k) ?_
      show own_Go p.tables e below _ (T4.setTop (mkF m 62 #[.val (.int p0), .val (.int vb), .val (.int vu), .val (.ref a1), .val (.int vd), .val (.int (if (own_fs6 vd) = (vu.toUInt32.toUInt16.toUInt32.toInt32) then (1 : Int32) else (0 : Int32)))] [(.int vb)]))
      obtain ⟨_, _, ⟨T6, L6, k6, n6⟩, -, X6, ⟨Lc6, hQ6, l6, y6, z6⟩, st6⟩ := Jvm.LawKit.callS X4 hx (y := (⟨"com/example/labframe/labframe/wire/Frame", "isHexDigit", "(B)Z"⟩ : MethodName)) hown (mvT hZ (hw _ (List.mem_of_getElem? (i := 8) rfl))) (mvT hZ (hw _ (List.mem_of_getElem? (i := 9) rfl))) (mvT hZ (hw _ (List.mem_of_getElem? (i := 10) rfl))) (mvT hZ (hw _ (List.mem_of_getElem? (i := 11) rfl))) (by decide) (backOf (W := 0) (rm1 l Z az hw [] vb h1 n0 Z1) hZ (hw _ (List.mem_of_getElem? (i := 11) rfl)) (hw _ (List.mem_of_getElem? (i := 10) rfl)) (by decide) (by decide)) (g := (mkF m 62 #[.val (.int p0), .val (.int vb), .val (.int vu), .val (.ref a1), .val (.int vd), .val (.int (if (own_fs6 vd) = (vu.toUInt32.toUInt16.toUInt32.toInt32) then (1 : Int32) else (0 : Int32)))] [(.int vb)])) rfl (by rw [hml]; rfl) (argsL := [(.int vb)]) (rest := []) (lenOf pd0_0 rfl) rfl (by show 2 * 0 + _ ≤ _; exact Nat.le_of_eq rfl) (hb hby at_62) (fun _ _ => ⟨rfl, (e4 : T4.heap = h1), (by decide : 2 + 0 ≤ _), (by decide : 68 + 0 ≤ _)⟩)
      dsimp only [Pt.U, Pt.locs, Pt.cells, Pt.slots] at X6 l6 y6 z6 st6 hQ6
      subst l6 y6 z6
      refine own_go st6 ?_
      obtain ⟨rfl, N6q, e6⟩ := hQ6
      have N6 := Fr.app N4 N6q
      show own_Go p.tables e below _ (T6.setTop (mkF m 65 #[.val (.int p0), .val (.int vb), .val (.int vu), .val (.ref a1), .val (.int vd), .val (.int (if (own_fs6 vd) = (vu.toUInt32.toUInt16.toUInt32.toInt32) then (1 : Int32) else (0 : Int32)))] [(.int (own_f1 vb))]))
      refine own_go (fun _ k => XS.iload X6.here hx rfl (hb hby at_65) rfl k) ?_
      show own_Go p.tables e below _ (T6.setTop (mkF m 67 #[.val (.int p0), .val (.int vb), .val (.int vu), .val (.ref a1), .val (.int vd), .val (.int (if (own_fs6 vd) = (vu.toUInt32.toUInt16.toUInt32.toInt32) then (1 : Int32) else (0 : Int32)))] [(.int (if (own_fs6 vd) = (vu.toUInt32.toUInt16.toUInt32.toInt32) then (1 : Int32) else (0 : Int32))), (.int (own_f1 vb))]))
      have hf67 : (own_f1 vb) = (if (own_fs6 vd) = (vu.toUInt32.toUInt16.toUInt32.toInt32) then (1 : Int32) else (0 : Int32)) := by rw [own_val hvb hvu hvd, own_ref, if_neg hc33, if_pos hc40]
      refine own_go (fun _ k => XS.icmpNo X6.here hx rfl (hb hby at_67) rfl (teq hf67).2 k) ?_
      show own_Go p.tables e below _ (T6.setTop (mkF m 70 #[.val (.int p0), .val (.int vb), .val (.int vu), .val (.ref a1), .val (.int vd), .val (.int (if (own_fs6 vd) = (vu.toUInt32.toUInt16.toUInt32.toInt32) then (1 : Int32) else (0 : Int32)))] []))
      refine own_go (fun _ k => XS.iconst X6.here hx rfl (hb hby at_70) k) ?_
      show own_Go p.tables e below _ (T6.setTop (mkF m 71 #[.val (.int p0), .val (.int vb), .val (.int vu), .val (.ref a1), .val (.int vd), .val (.int (if (own_fs6 vd) = (vu.toUInt32.toUInt16.toUInt32.toInt32) then (1 : Int32) else (0 : Int32)))] [(.int (1 : Int32))]))
      refine own_go (fun _ k => XS.goto X6.here hx rfl (pc0 := 71) (pc' := 75) rfl (hb hby at_71) (by decide) (by decide) k) ?_
      show own_Go p.tables e below _ (T6.setTop (mkF m 75 #[.val (.int p0), .val (.int vb), .val (.int vu), .val (.ref a1), .val (.int vd), .val (.int (if (own_fs6 vd) = (vu.toUInt32.toUInt16.toUInt32.toInt32) then (1 : Int32) else (0 : Int32)))] [(.int (1 : Int32))]))
      refine own_endH X6 (by rw [hh, (e6 : T6.heap = h1)]; exact CR.trans (CHv.at X6 hZ hEL HC)) hS (by rw [(e6 : T6.heap = h1)]; exact hk) Bd.notSynchronized (v := some (.int (1 : Int32))) (fun h => by rw [Bd.returns] at h; cases h) (fun fs hr => retN X6 hx (t := .boolean) Bd.returns (by simp) (hb hby at_75) hr) ?_ (by decide) (by decide)
      exact ⟨rfl, N6⟩
    · refine own_go (fun _ k => XS.icmpYes X1.here hx rfl (pc0 := 40) (pc' := 58) rfl (hb hby at_40) rfl (flt hc40).2.1 (by decide) (by decide) k) ?_
      show own_Go p.tables e below _ (T1.setTop (mkF m 58 #[.val (.int p0), .val (.int vb), .val (.int vu), .val (.ref a1), .val (.int vd), .unset] []))
      refine own_go (fun _ k => XS.iconst X1.here hx rfl (hb hby at_58) k) ?_
      show own_Go p.tables e below _ (T1.setTop (mkF m 59 #[.val (.int p0), .val (.int vb), .val (.int vu), .val (.ref a1), .val (.int vd), .unset] [(.int (0 : Int32))]))
      refine own_go (fun _ k => XS.istore X1.here hx rfl (hb hby at_59) rfl (l' := #[.val (.int p0), .val (.int vb), .val (.int vu), .val (.ref a1), .val (.int vd), .val (.int (0 : Int32))]) rfl k) ?_
      show own_Go p.tables e below _ (T1.setTop (mkF m 61 #[.val (.int p0), .val (.int vb), .val (.int vu), .val (.ref a1), .val (.int vd), .val (.int (0 : Int32))] []))
      refine own_go (fun _ k => XS.iloadN X1.here hx rfl (hb hby at_61) rfl k) ?_
      show own_Go p.tables e below _ (T1.setTop (mkF m 62 #[.val (.int p0), .val (.int vb), .val (.int vu), .val (.ref a1), .val (.int vd), .val (.int (0 : Int32))] [(.int vb)]))
      obtain ⟨_, _, ⟨T7, L7, k7, n7⟩, -, X7, ⟨Lc7, hQ7, l7, y7, z7⟩, st7⟩ := Jvm.LawKit.callS X1 hx (y := (⟨"com/example/labframe/labframe/wire/Frame", "isHexDigit", "(B)Z"⟩ : MethodName)) hown (mvT hZ (hw _ (List.mem_of_getElem? (i := 8) rfl))) (mvT hZ (hw _ (List.mem_of_getElem? (i := 9) rfl))) (mvT hZ (hw _ (List.mem_of_getElem? (i := 10) rfl))) (mvT hZ (hw _ (List.mem_of_getElem? (i := 11) rfl))) (by decide) (backOf (W := 0) (rm1 l Z az hw [] vb h1 n0 Z1) hZ (hw _ (List.mem_of_getElem? (i := 11) rfl)) (hw _ (List.mem_of_getElem? (i := 10) rfl)) (by decide) (by decide)) (g := (mkF m 62 #[.val (.int p0), .val (.int vb), .val (.int vu), .val (.ref a1), .val (.int vd), .val (.int (0 : Int32))] [(.int vb)])) rfl (by rw [hml]; rfl) (argsL := [(.int vb)]) (rest := []) (lenOf pd0_0 rfl) rfl (by show 2 * 0 + _ ≤ _; exact Nat.le_of_eq rfl) (hb hby at_62) (fun _ _ => ⟨rfl, e1, (by decide : 2 + 0 ≤ _), (by decide : 68 + 0 ≤ _)⟩)
      dsimp only [Pt.U, Pt.locs, Pt.cells, Pt.slots] at X7 l7 y7 z7 st7 hQ7
      subst l7 y7 z7
      refine own_go st7 ?_
      obtain ⟨rfl, N7q, e7⟩ := hQ7
      have N7 := Fr.app N0 N7q
      show own_Go p.tables e below _ (T7.setTop (mkF m 65 #[.val (.int p0), .val (.int vb), .val (.int vu), .val (.ref a1), .val (.int vd), .val (.int (0 : Int32))] [(.int (own_f1 vb))]))
      refine own_go (fun _ k => XS.iload X7.here hx rfl (hb hby at_65) rfl k) ?_
      show own_Go p.tables e below _ (T7.setTop (mkF m 67 #[.val (.int p0), .val (.int vb), .val (.int vu), .val (.ref a1), .val (.int vd), .val (.int (0 : Int32))] [(.int (0 : Int32)), (.int (own_f1 vb))]))
      have hf67 : (own_f1 vb) = (0 : Int32) := by rw [own_val hvb hvu hvd, own_ref, if_neg hc33, if_neg hc40]
      refine own_go (fun _ k => XS.icmpNo X7.here hx rfl (hb hby at_67) rfl (teq hf67).2 k) ?_
      show own_Go p.tables e below _ (T7.setTop (mkF m 70 #[.val (.int p0), .val (.int vb), .val (.int vu), .val (.ref a1), .val (.int vd), .val (.int (0 : Int32))] []))
      refine own_go (fun _ k => XS.iconst X7.here hx rfl (hb hby at_70) k) ?_
      show own_Go p.tables e below _ (T7.setTop (mkF m 71 #[.val (.int p0), .val (.int vb), .val (.int vu), .val (.ref a1), .val (.int vd), .val (.int (0 : Int32))] [(.int (1 : Int32))]))
      refine own_go (fun _ k => XS.goto X7.here hx rfl (pc0 := 71) (pc' := 75) rfl (hb hby at_71) (by decide) (by decide) k) ?_
      show own_Go p.tables e below _ (T7.setTop (mkF m 75 #[.val (.int p0), .val (.int vb), .val (.int vu), .val (.ref a1), .val (.int vd), .val (.int (0 : Int32))] [(.int (1 : Int32))]))
      refine own_endH X7 (by rw [hh, (e7 : T7.heap = h1)]; exact CR.trans (CHv.at X7 hZ hEL HC)) hS (by rw [(e7 : T7.heap = h1)]; exact hk) Bd.notSynchronized (v := some (.int (1 : Int32))) (fun h => by rw [Bd.returns] at h; cases h) (fun fs hr => retN X7 hx (t := .boolean) Bd.returns (by simp) (hb hby at_75) hr) ?_ (by decide) (by decide)
      exact ⟨rfl, N7⟩
set_option maxRecDepth 65536 in
set_option maxHeartbeats 40000000 in
theorem comes_1 {Post : Tables → Env → Array Value → State → Outcome → State → Prop} (hpost : ∀ tb e args s v u, (limb_1_1.after args s (.returned v) u = true ∧ limb_1_2.after args s (.returned v) u = true ∧ True) → ReturnedEndW s (.returned v) u (Jvm.fieldLocs frame_1_writes args s ++ Jvm.arrayLocs frame_1_arrays args s ++ Jvm.staticLocs frame_1_statics s) 8 1088 → Post tb e args s (.returned v) u) :
    ArmFor flags0 classFile x code maxLocals ret World_1 tables_1 room_1 Calls_1 rest_1 Pre_1 Post := by
  intro l hfl _ _ p e ha hc hk s m args below hf hA hF happ hP
  obtain ⟨hcalls, hrest, hpre⟩ := hP
  obtain ⟨-, -, -, hnamed, -, -, -, hat⟩ := (Spec.applies_iff hf).mp happ
  obtain ⟨hg, hn⟩ := and_e (Cond.before_iff.mp (show (Jvm.Cond.and given_1 narrow_1).before args s = true from hpre))
  obtain ⟨g1, g2⟩ := and_e hg
  obtain ⟨w0, rfl⟩ : ∃ w0 : Value, args = #[w0] := by
    have hs : args.size = 1 := by simpa [Cond.value, given_1] using g1
    obtain ⟨L⟩ := args
    match L, hs with
    | [w0], _ => exact ⟨w0, rfl⟩
  have hw := fun d (hd : d ∈ tables_1) => atoms_spec (ws := Jvm.Cond.code x code maxLocals ret :: tables_1) hat d (List.mem_cons_of_mem _ hd)
  obtain ⟨i0, ei0⟩ := is_v g2
  obtain rfl : w0 = (.int i0) := Option.some.inj ei0
  obtain ⟨hsets, hown0⟩ := atoms_of _ (rest_1_c_eq ▸ (show rest_1_c.before _ s = true from hrest))
  have n5 := not_v (Cond.before_iff.mp (hsets _ (List.mem_of_getElem? (i := 2) rfl)))
  obtain ⟨iwc, ewc⟩ := is_v (Cond.before_iff.mp (hsets _ (List.mem_of_getElem? (i := 1) rfl)))
  have Swc : Sta s s.heap "java/lang/String" "COMPACT_STRINGS" "Z" (.int iwc) := Sta.start ewc (Or.inl (hsets _ (List.mem_of_getElem? (i := 0) rfl)))
  have hwc : ¬ (iwc = (0 : Int32)) := gotF (Cond.eq_ints ewc (Term.int_eval (0))) n5
  obtain ⟨vfm, evf, hvf⟩ := isR_v (Cond.before_iff.mp (hsets _ (List.mem_of_getElem? (i := 8) rfl)))
  have Svf : Sta s s.heap "jdk/internal/util/Preconditions" "SIOOBE_FORMATTER" "Ljava/util/function/BiFunction;" vfm := Sta.start evf (Or.inl (hsets _ (List.mem_of_getElem? (i := 7) rfl)))
  have HC : CHv s consts_1 s.vm s.heap := CHv.start (own_EL hw) (fun p hp => hcalls.1 p hp) (hsets _ (List.mem_of_getElem? (i := 2) rfl)) (hw _ (List.mem_of_getElem? (i := 3) rfl)) (hw _ (List.mem_of_getElem? (i := 2) rfl))
  obtain ⟨n, o, h1, h2, h3, _, L, rfl, ⟨rfl, N⟩, -, hq⟩ := rm0 l s _ hw tables_1 i0 iwc vfm s.heap s.heap.size (Nat.le_refl _) Swc Svf hwc hvf p e ha hc hk s m _ below hf ((Spec.applies_iff_loose hf).mp happ).1 ⟨rfl, State.Warmed39.refl s, rfl, HC⟩ trivial
  refine ⟨n, _, h1, h2, h3, hpost _ _ _ _ _ _ ⟨Cond.after_iff.mpr rfl, Cond.after_iff.mpr (eq_i res_at (Term.int_eval (1)) rfl), trivial⟩ ⟨hq.1, hq.2.1, hq.2.2.1, (hq.2.2.2.sift fun y hy => Or.inr (N y hy)).mono (by decide) (by decide)⟩⟩
theorem main_1_1 : Claimed_1_1 := comes_1 fun _ _ _ _ _ _ h hF => ⟨h.1, hF⟩
theorem main_1_2 : Claimed_1_2 := comes_1 fun _ _ _ _ _ _ h hF => ⟨h.2.1, hF⟩
end Jvm.Pilot.@@N@@
namespace Jvm.Pilot.@@N@@
open Jvm Jvm.ClassFile Sem Op Lib Jvm.Free Jvm.Stand Jvm.Pilot.@@N@@.Jvm.D
/-! MADE BY PROGRAM (witnessworld.py) out of the Statement's table words and the real class files: 17 classes; the members and pool entries that the words name. The judged class is class 1, her method 1. -/
namespace start1
open Jvm.ClassFile
def u (s : String) : CpInfo := .utf8 (stringToUtf16 s)
/-- a pool by its gaps: so many unusable entries, then the entry; so many at the end -/
def gap : Nat → List CpInfo → List CpInfo
  | 0, r => r
  | n + 1, r => .unusable :: gap n r
def poolList (es : List (Nat × CpInfo)) (last : Nat) : List CpInfo := es.foldr (fun e r => gap e.1 (e.2 :: r)) (gap last [])
def pool (es : List (Nat × CpInfo)) (last : Nat) : Array CpInfo := ⟨poolList es last⟩
def fileOf (pool : Array CpInfo) (this : Nat) (attrs : Array Attribute := #[]) (ms : Array MethodInfo := #[]) (fl : Nat := 33) (sup : Nat := 0) (ifs : Array Nat := #[]) (fds : Array FieldInfo := #[]) : ClassFile where
  minorVersion := 0
  majorVersion := 65
  constantPool := pool
  accessFlags := fl
  thisClass := this
  superClass := sup
  interfaces := ifs
  fields := fds
  methods := ms
  attributes := attrs
def plain (name : String) (sup : Option ClassId) : Class where
  name := name
  kind := .ordinary
  loader := none
  accessFlags := 33
  super := sup
  interfaces := #[]
  cf := none
  fields := #[]
  methods := #[]
  instanceTypes := #[]
  staticTypes := #[]
  resolved := #[]
  callSites := []
  init := .initialized
  statics := none
  mirror := none

def pool0 : Array CpInfo := pool [(5, u "<init>"), (0, u "()V"), (1, .class_ 10), (1, u "java/lang/Object")] 113

def k0m0 : Method := { name := "<init>", desc := "()V", sig := { parameters := [], returnType := none }, accessFlags := 1, code := none }
/-- java/lang/Object -/
def k0 : Class := { plain "java/lang/Object" none with
  accessFlags := 33
  interfaces := #[]
  cf := some (fileOf pool0 8 #[] #[{ accessFlags := 1, nameIndex := 5, descriptorIndex := 6, attributes := #[] }] 33 0 #[] #[])
  fields := #[]
  methods := #[k0m0]
  instanceTypes := #[]
  staticTypes := #[]
  resolved := Array.replicate 124 none
  statics := none }

def pool1 : Array CpInfo := pool [(2, .class_ 4), (1, u "java/lang/Object"), (0, u "<init>"), (0, u "()V"), (0, .string 8), (0, u "0123456789ABCDEF"), (0, .methodref 10 11), (0, .class_ 12), (0, .nameAndType 13 14), (0, u "java/lang/String"), (0, u "charAt"), (0, u "(I)C"), (0, .methodref 16 17), (0, .class_ 18), (0, .nameAndType 19 20), (0, u "com/example/labframe/labframe/wire/Frame"), (0, u "isHexDigit"), (0, u "(B)Z"), (0, .class_ 22), (0, u "com/example/labframe/labframe/wire/FrameIsHexDigitPinLaw"), (2, u "law"), (0, u "(I)Z")] 3

def k1m0 : Method := { name := "<init>", desc := "()V", sig := { parameters := [], returnType := none }, accessFlags := 2, code := none }
def k1c1 : Code := { maxStack := 2, maxLocals := 6, code := code, exceptionTable := #[], attributes := #[] }
def k1m1 : Method := { name := "law", desc := "(I)Z", sig := { parameters := [.int], returnType := some .boolean }, accessFlags := 9, code := some k1c1 }
/-- com/example/labframe/labframe/wire/FrameIsHexDigitPinLaw -/
def k1 : Class := { plain "com/example/labframe/labframe/wire/FrameIsHexDigitPinLaw" (some 0) with
  accessFlags := 49
  interfaces := #[]
  cf := some (fileOf pool1 21 #[] #[{ accessFlags := 2, nameIndex := 5, descriptorIndex := 6, attributes := #[] }, { accessFlags := 9, nameIndex := 25, descriptorIndex := 26, attributes := #[] }] 49 2 #[] #[])
  fields := #[]
  methods := #[k1m0, k1m1]
  instanceTypes := #[]
  staticTypes := #[]
  resolved := Array.replicate 30 none
  statics := none }

def pool2 : Array CpInfo := pool [(1, .class_ 2), (0, u "java/io/Serializable"), (0, .class_ 4), (0, u "java/lang/Object")] 2

/-- java/io/Serializable -/
def k2 : Class := { plain "java/io/Serializable" (some 0) with
  accessFlags := 1537
  interfaces := #[]
  cf := some (fileOf pool2 1 #[] #[] 1537 3 #[] #[])
  fields := #[]
  methods := #[]
  instanceTypes := #[]
  staticTypes := #[]
  resolved := Array.replicate 7 none
  statics := none }

def pool3 : Array CpInfo := pool [(1, .class_ 2), (0, u "java/lang/Comparable"), (0, .class_ 4), (0, u "java/lang/Object")] 7

/-- java/lang/Comparable -/
def k3 : Class := { plain "java/lang/Comparable" (some 0) with
  accessFlags := 1537
  interfaces := #[]
  cf := some (fileOf pool3 1 #[] #[] 1537 3 #[] #[])
  fields := #[]
  methods := #[]
  instanceTypes := #[]
  staticTypes := #[]
  resolved := Array.replicate 12 none
  statics := none }

def pool4 : Array CpInfo := pool [(2, .class_ 4), (1, u "java/lang/CharSequence"), (42, .class_ 48), (0, u "java/lang/CharSequence$1CodePointIterator"), (10, .class_ 60), (0, u "java/lang/CharSequence$1CharIterator"), (5, .class_ 67), (0, u "java/lang/Object")] 63

/-- java/lang/CharSequence -/
def k4 : Class := { plain "java/lang/CharSequence" (some 0) with
  accessFlags := 1537
  interfaces := #[]
  cf := some (fileOf pool4 2 #[.nestMembers #[47, 59]] #[] 1537 66 #[] #[])
  fields := #[]
  methods := #[]
  instanceTypes := #[]
  staticTypes := #[]
  resolved := Array.replicate 131 none
  statics := none }

def pool5 : Array CpInfo := pool [(1, .class_ 2), (0, u "java/lang/constant/Constable"), (0, .class_ 4), (0, u "java/lang/Object")] 6

/-- java/lang/constant/Constable -/
def k5 : Class := { plain "java/lang/constant/Constable" (some 0) with
  accessFlags := 1537
  interfaces := #[]
  cf := some (fileOf pool5 1 #[] #[] 1537 3 #[] #[])
  fields := #[]
  methods := #[]
  instanceTypes := #[]
  staticTypes := #[]
  resolved := Array.replicate 11 none
  statics := none }

def pool6 : Array CpInfo := pool [(1, .class_ 2), (0, u "java/lang/constant/ConstantDesc"), (0, .class_ 4), (0, u "java/lang/Object")] 32

/-- java/lang/constant/ConstantDesc -/
def k6 : Class := { plain "java/lang/constant/ConstantDesc" (some 0) with
  accessFlags := 1537
  interfaces := #[]
  cf := some (fileOf pool6 1 #[] #[] 1537 3 #[] #[])
  fields := #[]
  methods := #[]
  instanceTypes := #[]
  staticTypes := #[]
  resolved := Array.replicate 37 none
  statics := none }

def pool7 : Array CpInfo := pool [(2, .class_ 4), (1, u "java/lang/Object"), (0, u "<init>"), (0, u "()V"), (2, .fieldref 10 11), (0, .class_ 12), (0, .nameAndType 13 14), (0, u "java/lang/String"), (0, u "value"), (0, u "[B"), (0, .fieldref 10 16), (0, .nameAndType 17 18), (0, u "coder"), (0, u "B"), (2, u "hash"), (0, u "I"), (2, u "hashIsZero"), (0, u "Z"), (11, .fieldref 10 39), (0, .nameAndType 40 26), (0, u "COMPACT_STRINGS"), (66, .class_ 109), (1, u "java/lang/StringLatin1"), (32, u "()Z"), (220, u "([BI)C"), (27, u "(II)V"), (35, u "(I)C"), (64, .methodref 10 493), (0, .nameAndType 494 142), (0, u "isLatin1"), (0, .methodref 107 496), (0, .nameAndType 497 363), (0, u "charAt"), (3, u "checkIndex"), (73, .class_ 576), (0, u "java/lang/CharSequence"), (22, u "CASE_INSENSITIVE_ORDER"), (0, u "Ljava/util/Comparator;"), (452, .fieldref 1054 1055), (0, .class_ 1056), (0, .nameAndType 1057 1058), (0, u "jdk/internal/util/Preconditions"), (0, u "SIOOBE_FORMATTER"), (0, u "Ljava/util/function/BiFunction;"), (0, .methodref 1054 1060), (0, .nameAndType 501 1061), (0, u "(IILjava/util/function/BiFunction;)I"), (39, u "serialPersistentFields"), (0, u "[Ljava/io/ObjectStreamField;"), (0, .class_ 1104), (0, u "java/lang/String$CaseInsensitiveComparator"), (1, .class_ 1107), (0, u "java/io/Serializable"), (0, .class_ 1109), (0, u "java/lang/Comparable"), (0, .class_ 1111), (0, u "java/lang/constant/Constable"), (0, .class_ 1113), (0, u "java/lang/constant/ConstantDesc"), (2, u "serialVersionUID"), (0, u "J"), (3, u "REPL"), (0, u "C"), (2, u "LATIN1"), (1, u "UTF16")] 323

def k7m0 : Method := { name := "<init>", desc := "()V", sig := { parameters := [], returnType := none }, accessFlags := 1, code := none }
def k7c1 : Code := { maxStack := 2, maxLocals := 2, code := jdk_42_method_56_code, exceptionTable := #[], attributes := #[] }
def k7m1 : Method := { name := "charAt", desc := "(I)C", sig := { parameters := [.int], returnType := some .char }, accessFlags := 1, code := some k7c1 }
def k7c2 : Code := { maxStack := 1, maxLocals := 1, code := jdk_42_method_154_code, exceptionTable := #[], attributes := #[] }
def k7m2 : Method := { name := "isLatin1", desc := "()Z", sig := { parameters := [], returnType := some .boolean }, accessFlags := 0, code := some k7c2 }
def k7c3 : Code := { maxStack := 3, maxLocals := 2, code := jdk_42_method_155_code, exceptionTable := #[], attributes := #[] }
def k7m3 : Method := { name := "checkIndex", desc := "(II)V", sig := { parameters := [.int, .int], returnType := none }, accessFlags := 8, code := some k7c3 }
/-- java/lang/String -/
def k7 : Class := { plain "java/lang/String" (some 0) with
  accessFlags := 49
  interfaces := #[2, 3, 4, 5, 6]
  cf := some (fileOf pool7 10 #[.nestMembers #[1103]] #[{ accessFlags := 1, nameIndex := 5, descriptorIndex := 6, attributes := #[] }, { accessFlags := 1, nameIndex := 497, descriptorIndex := 427, attributes := #[] }, { accessFlags := 0, nameIndex := 494, descriptorIndex := 142, attributes := #[] }, { accessFlags := 8, nameIndex := 501, descriptorIndex := 391, attributes := #[] }] 49 2 #[1106, 1108, 575, 1110, 1112] #[{ accessFlags := 18, nameIndex := 13, descriptorIndex := 14, attributes := #[] }, { accessFlags := 18, nameIndex := 17, descriptorIndex := 18, attributes := #[] }, { accessFlags := 2, nameIndex := 21, descriptorIndex := 22, attributes := #[] }, { accessFlags := 2, nameIndex := 25, descriptorIndex := 26, attributes := #[] }, { accessFlags := 26, nameIndex := 1116, descriptorIndex := 1117, attributes := #[] }, { accessFlags := 24, nameIndex := 40, descriptorIndex := 26, attributes := #[] }, { accessFlags := 26, nameIndex := 1101, descriptorIndex := 1102, attributes := #[] }, { accessFlags := 26, nameIndex := 1121, descriptorIndex := 1122, attributes := #[] }, { accessFlags := 25, nameIndex := 599, descriptorIndex := 600, attributes := #[] }, { accessFlags := 24, nameIndex := 1125, descriptorIndex := 18, attributes := #[] }, { accessFlags := 24, nameIndex := 1127, descriptorIndex := 18, attributes := #[] }])
  fields := #[{ name := "value", type := (.array .byte), accessFlags := 18, slot := 0, constantValue := 0 }, { name := "coder", type := .byte, accessFlags := 18, slot := 1, constantValue := 0 }, { name := "hash", type := .int, accessFlags := 2, slot := 2, constantValue := 0 }, { name := "hashIsZero", type := .boolean, accessFlags := 2, slot := 3, constantValue := 0 }, { name := "serialVersionUID", type := .long, accessFlags := 26, slot := 0, constantValue := 0 }, { name := "COMPACT_STRINGS", type := .boolean, accessFlags := 24, slot := 1, constantValue := 0 }, { name := "serialPersistentFields", type := (.array (.object "java/io/ObjectStreamField")), accessFlags := 26, slot := 2, constantValue := 0 }, { name := "REPL", type := .char, accessFlags := 26, slot := 3, constantValue := 0 }, { name := "CASE_INSENSITIVE_ORDER", type := (.object "java/util/Comparator"), accessFlags := 25, slot := 4, constantValue := 0 }, { name := "LATIN1", type := .byte, accessFlags := 24, slot := 5, constantValue := 0 }, { name := "UTF16", type := .byte, accessFlags := 24, slot := 6, constantValue := 0 }]
  methods := #[k7m0, k7m1, k7m2, k7m3]
  instanceTypes := #[(.array .byte), .byte, .int, .boolean]
  staticTypes := #[.long, .boolean, (.array (.object "java/io/ObjectStreamField")), .char, (.object "java/util/Comparator"), .byte, .byte]
  resolved := Array.replicate 1451 none
  statics := some 0 }

def pool8 : Array CpInfo := pool [(2, .class_ 4), (1, u "java/lang/Object"), (3, .class_ 10), (1, u "com/example/labframe/labframe/wire/Frame"), (0, u "bytes"), (0, u "[B"), (2, u "end"), (0, u "I"), (2, u "endsRecord"), (0, u "Z"), (136, u "isHexDigit"), (0, u "(B)Z"), (11, u "HEX"), (0, u "Ljava/util/HexFormat;")] 54

def k8c0 : Code := { maxStack := 2, maxLocals := 1, code := prog_39_method_14_code, exceptionTable := #[], attributes := #[] }
def k8m0 : Method := { name := "isHexDigit", desc := "(B)Z", sig := { parameters := [.byte], returnType := some .boolean }, accessFlags := 8, code := some k8c0 }
/-- com/example/labframe/labframe/wire/Frame -/
def k8 : Class := { plain "com/example/labframe/labframe/wire/Frame" (some 0) with
  accessFlags := 49
  interfaces := #[]
  cf := some (fileOf pool8 8 #[] #[{ accessFlags := 8, nameIndex := 157, descriptorIndex := 158, attributes := #[] }] 49 2 #[] #[{ accessFlags := 26, nameIndex := 170, descriptorIndex := 171, attributes := #[] }, { accessFlags := 18, nameIndex := 11, descriptorIndex := 12, attributes := #[] }, { accessFlags := 18, nameIndex := 15, descriptorIndex := 16, attributes := #[] }, { accessFlags := 18, nameIndex := 19, descriptorIndex := 20, attributes := #[] }])
  fields := #[{ name := "HEX", type := (.object "java/util/HexFormat"), accessFlags := 26, slot := 0, constantValue := 0 }, { name := "bytes", type := (.array .byte), accessFlags := 18, slot := 0, constantValue := 0 }, { name := "end", type := .int, accessFlags := 18, slot := 1, constantValue := 0 }, { name := "endsRecord", type := .boolean, accessFlags := 18, slot := 2, constantValue := 0 }]
  methods := #[k8m0]
  instanceTypes := #[(.array .byte), .int, .boolean]
  staticTypes := #[(.object "java/util/HexFormat")]
  resolved := Array.replicate 226 none
  statics := none }

def pool9 : Array CpInfo := pool [(1, .class_ 2), (0, u "java/lang/String"), (1, .class_ 6), (1, u "java/lang/Object"), (0, u "<init>"), (0, u "()V"), (0, .methodref 1 10), (0, .nameAndType 11 12), (0, u "checkIndex"), (0, u "(II)V"), (1, .class_ 16), (1, u "java/lang/StringLatin1"), (36, u "([BI)C"), (67, u "$assertionsDisabled"), (0, u "Z"), (98, .class_ 223), (1, u "java/lang/StringLatin1$LinesSpliterator"), (28, u "charAt"), (137, .class_ 391), (0, u "java/lang/StringLatin1$CharsSpliterator")] 3

def k9m0 : Method := { name := "<init>", desc := "()V", sig := { parameters := [], returnType := none }, accessFlags := 0, code := none }
def k9c1 : Code := { maxStack := 2, maxLocals := 2, code := jdk_43_method_2_code, exceptionTable := #[], attributes := #[] }
def k9m1 : Method := { name := "charAt", desc := "([BI)C", sig := { parameters := [(.array .byte), .int], returnType := some .char }, accessFlags := 9, code := some k9c1 }
/-- java/lang/StringLatin1 -/
def k9 : Class := { plain "java/lang/StringLatin1" (some 0) with
  accessFlags := 48
  interfaces := #[]
  cf := some (fileOf pool9 14 #[.nestMembers #[390, 221]] #[{ accessFlags := 0, nameIndex := 7, descriptorIndex := 8, attributes := #[] }, { accessFlags := 9, nameIndex := 252, descriptorIndex := 53, attributes := #[] }] 48 4 #[] #[{ accessFlags := 4120, nameIndex := 121, descriptorIndex := 122, attributes := #[] }])
  fields := #[{ name := "$assertionsDisabled", type := .boolean, accessFlags := 4120, slot := 0, constantValue := 0 }]
  methods := #[k9m0, k9m1]
  instanceTypes := #[]
  staticTypes := #[.boolean]
  resolved := Array.replicate 395 none
  statics := none }

def pool10 : Array CpInfo := pool [(2, .class_ 4), (1, u "java/lang/Object"), (0, u "<init>"), (0, u "()V"), (17, .class_ 26), (1, u "jdk/internal/util/Preconditions"), (6, u "checkIndex"), (21, .class_ 56), (0, u "jdk/internal/util/Preconditions$4"), (57, .class_ 115), (0, u "jdk/internal/util/Preconditions$1"), (7, u "SIOOBE_FORMATTER"), (0, u "Ljava/util/function/BiFunction;"), (0, .class_ 126), (0, u "jdk/internal/util/Preconditions$2"), (3, u "AIOOBE_FORMATTER"), (0, .class_ 132), (0, u "jdk/internal/util/Preconditions$3"), (3, u "IOOBE_FORMATTER"), (41, u "(IILjava/util/function/BiFunction;)I")] 15

def k10m0 : Method := { name := "<init>", desc := "()V", sig := { parameters := [], returnType := none }, accessFlags := 1, code := none }
def k10c1 : Code := { maxStack := 3, maxLocals := 3, code := jdk_41_method_11_code, exceptionTable := #[], attributes := #[] }
def k10m1 : Method := { name := "checkIndex", desc := "(IILjava/util/function/BiFunction;)I", sig := { parameters := [.int, .int, (.object "java/util/function/BiFunction")], returnType := some .int }, accessFlags := 9, code := some k10c1 }
/-- jdk/internal/util/Preconditions -/
def k10 : Class := { plain "jdk/internal/util/Preconditions" (some 0) with
  accessFlags := 33
  interfaces := #[]
  cf := some (fileOf pool10 24 #[.nestMembers #[55, 131, 125, 114]] #[{ accessFlags := 1, nameIndex := 5, descriptorIndex := 6, attributes := #[] }, { accessFlags := 9, nameIndex := 33, descriptorIndex := 178, attributes := #[] }] 33 2 #[] #[{ accessFlags := 25, nameIndex := 123, descriptorIndex := 124, attributes := #[] }, { accessFlags := 25, nameIndex := 130, descriptorIndex := 124, attributes := #[] }, { accessFlags := 25, nameIndex := 136, descriptorIndex := 124, attributes := #[] }])
  fields := #[{ name := "SIOOBE_FORMATTER", type := (.object "java/util/function/BiFunction"), accessFlags := 25, slot := 0, constantValue := 0 }, { name := "AIOOBE_FORMATTER", type := (.object "java/util/function/BiFunction"), accessFlags := 25, slot := 1, constantValue := 0 }, { name := "IOOBE_FORMATTER", type := (.object "java/util/function/BiFunction"), accessFlags := 25, slot := 2, constantValue := 0 }]
  methods := #[k10m0, k10m1]
  instanceTypes := #[]
  staticTypes := #[(.object "java/util/function/BiFunction"), (.object "java/util/function/BiFunction"), (.object "java/util/function/BiFunction")]
  resolved := Array.replicate 194 none
  statics := some 1 }

def pool11 : Array CpInfo := pool [(9, u "<init>"), (6, .class_ 18), (1, u "java/lang/Object"), (0, u "()V"), (1, .class_ 23), (1, u "jdk/internal/util/ArraysSupport"), (0, u "LOG2_ARRAY_LONG_INDEX_SCALE"), (0, u "I"), (2, u "U"), (0, u "Ljdk/internal/misc/Unsafe;"), (8, u "BIG_ENDIAN"), (0, u "Z"), (8, u "LOG2_BYTE_BIT_SIZE"), (4, u "LOG2_ARRAY_INT_INDEX_SCALE"), (54, u "JLA"), (0, u "Ljdk/internal/access/JavaLangAccess;"), (11, u "LOG2_ARRAY_BOOLEAN_INDEX_SCALE"), (9, u "LOG2_ARRAY_BYTE_INDEX_SCALE"), (5, u "LOG2_ARRAY_CHAR_INDEX_SCALE"), (5, u "LOG2_ARRAY_SHORT_INDEX_SCALE"), (18, u "LOG2_ARRAY_FLOAT_INDEX_SCALE"), (24, u "LOG2_ARRAY_DOUBLE_INDEX_SCALE"), (89, u "T_BOOLEAN"), (2, u "T_CHAR"), (1, u "T_FLOAT"), (1, u "T_DOUBLE"), (1, u "T_BYTE"), (1, u "T_SHORT"), (1, u "T_INT"), (1, u "T_LONG"), (1, u "SOFT_MAX_ARRAY_LENGTH")] 83

def k11m0 : Method := { name := "<init>", desc := "()V", sig := { parameters := [], returnType := none }, accessFlags := 2, code := none }
/-- jdk/internal/util/ArraysSupport -/
def k11 : Class := { plain "jdk/internal/util/ArraysSupport" (some 0) with
  accessFlags := 33
  interfaces := #[]
  cf := some (fileOf pool11 21 #[] #[{ accessFlags := 2, nameIndex := 9, descriptorIndex := 19, attributes := #[] }] 33 16 #[] #[{ accessFlags := 24, nameIndex := 28, descriptorIndex := 29, attributes := #[] }, { accessFlags := 26, nameIndex := 38, descriptorIndex := 39, attributes := #[] }, { accessFlags := 25, nameIndex := 121, descriptorIndex := 25, attributes := #[] }, { accessFlags := 25, nameIndex := 131, descriptorIndex := 25, attributes := #[] }, { accessFlags := 25, nameIndex := 137, descriptorIndex := 25, attributes := #[] }, { accessFlags := 25, nameIndex := 143, descriptorIndex := 25, attributes := #[] }, { accessFlags := 25, nameIndex := 53, descriptorIndex := 25, attributes := #[] }, { accessFlags := 25, nameIndex := 24, descriptorIndex := 25, attributes := #[] }, { accessFlags := 25, nameIndex := 162, descriptorIndex := 25, attributes := #[] }, { accessFlags := 25, nameIndex := 187, descriptorIndex := 25, attributes := #[] }, { accessFlags := 26, nameIndex := 48, descriptorIndex := 25, attributes := #[] }, { accessFlags := 25, nameIndex := 277, descriptorIndex := 25, attributes := #[] }, { accessFlags := 25, nameIndex := 280, descriptorIndex := 25, attributes := #[] }, { accessFlags := 25, nameIndex := 282, descriptorIndex := 25, attributes := #[] }, { accessFlags := 25, nameIndex := 284, descriptorIndex := 25, attributes := #[] }, { accessFlags := 25, nameIndex := 286, descriptorIndex := 25, attributes := #[] }, { accessFlags := 25, nameIndex := 288, descriptorIndex := 25, attributes := #[] }, { accessFlags := 25, nameIndex := 290, descriptorIndex := 25, attributes := #[] }, { accessFlags := 25, nameIndex := 292, descriptorIndex := 25, attributes := #[] }, { accessFlags := 26, nameIndex := 108, descriptorIndex := 109, attributes := #[] }, { accessFlags := 25, nameIndex := 294, descriptorIndex := 25, attributes := #[] }])
  fields := #[{ name := "U", type := (.object "jdk/internal/misc/Unsafe"), accessFlags := 24, slot := 0, constantValue := 0 }, { name := "BIG_ENDIAN", type := .boolean, accessFlags := 26, slot := 1, constantValue := 0 }, { name := "LOG2_ARRAY_BOOLEAN_INDEX_SCALE", type := .int, accessFlags := 25, slot := 2, constantValue := 0 }, { name := "LOG2_ARRAY_BYTE_INDEX_SCALE", type := .int, accessFlags := 25, slot := 3, constantValue := 0 }, { name := "LOG2_ARRAY_CHAR_INDEX_SCALE", type := .int, accessFlags := 25, slot := 4, constantValue := 0 }, { name := "LOG2_ARRAY_SHORT_INDEX_SCALE", type := .int, accessFlags := 25, slot := 5, constantValue := 0 }, { name := "LOG2_ARRAY_INT_INDEX_SCALE", type := .int, accessFlags := 25, slot := 6, constantValue := 0 }, { name := "LOG2_ARRAY_LONG_INDEX_SCALE", type := .int, accessFlags := 25, slot := 7, constantValue := 0 }, { name := "LOG2_ARRAY_FLOAT_INDEX_SCALE", type := .int, accessFlags := 25, slot := 8, constantValue := 0 }, { name := "LOG2_ARRAY_DOUBLE_INDEX_SCALE", type := .int, accessFlags := 25, slot := 9, constantValue := 0 }, { name := "LOG2_BYTE_BIT_SIZE", type := .int, accessFlags := 26, slot := 10, constantValue := 0 }, { name := "T_BOOLEAN", type := .int, accessFlags := 25, slot := 11, constantValue := 0 }, { name := "T_CHAR", type := .int, accessFlags := 25, slot := 12, constantValue := 0 }, { name := "T_FLOAT", type := .int, accessFlags := 25, slot := 13, constantValue := 0 }, { name := "T_DOUBLE", type := .int, accessFlags := 25, slot := 14, constantValue := 0 }, { name := "T_BYTE", type := .int, accessFlags := 25, slot := 15, constantValue := 0 }, { name := "T_SHORT", type := .int, accessFlags := 25, slot := 16, constantValue := 0 }, { name := "T_INT", type := .int, accessFlags := 25, slot := 17, constantValue := 0 }, { name := "T_LONG", type := .int, accessFlags := 25, slot := 18, constantValue := 0 }, { name := "JLA", type := (.object "jdk/internal/access/JavaLangAccess"), accessFlags := 26, slot := 19, constantValue := 0 }, { name := "SOFT_MAX_ARRAY_LENGTH", type := .int, accessFlags := 25, slot := 20, constantValue := 0 }]
  methods := #[k11m0]
  instanceTypes := #[]
  staticTypes := #[(.object "jdk/internal/misc/Unsafe"), .boolean, .int, .int, .int, .int, .int, .int, .int, .int, .int, .int, .int, .int, .int, .int, .int, .int, .int, (.object "jdk/internal/access/JavaLangAccess"), .int]
  resolved := Array.replicate 378 none
  statics := none }

def pool12 : Array CpInfo := pool [(1, u "java/lang/Cloneable"), (0, .class_ 1), (0, u "java/lang/Object"), (0, .class_ 3)] 3

/-- java/lang/Cloneable -/
def k12 : Class := { plain "java/lang/Cloneable" (some 0) with
  accessFlags := 1537
  interfaces := #[]
  cf := some (fileOf pool12 2 #[] #[] 1537 4 #[] #[])
  fields := #[]
  methods := #[]
  instanceTypes := #[]
  staticTypes := #[]
  resolved := Array.replicate 8 none
  statics := none }

/-- the primitive byte -/
def k13 : Class := { plain "byte" none with kind := .primitive 'B', accessFlags := 0x411 }
/-- [B -/
def k14 : Class := { plain "[B" (some 0) with kind := .array 13 .byte, interfaces := #[12, 2], accessFlags := 1041 }

/-- the primitive int -/
def k15 : Class := { plain "int" none with kind := .primitive 'I', accessFlags := 0x411 }
/-- [I -/
def k16 : Class := { plain "[I" (some 0) with kind := .array 15 .int, interfaces := #[12, 2], accessFlags := 1041 }

def heap : Heap := #[{ cls := 7, slots := #[.long 0, .int 1, .null, .int 0, .null, .int 0, .int 0], vm := .statics 7 },
  { cls := 10, slots := #[.null, .null, .null], vm := .statics 10 }]
def classes : Array Class := #[k0, k1, k2, k3, k4, k5, k6, k7, k8, k9, k10, k11, k12, k13, k14, k15, k16]
def interned : List (Array UInt16 × Addr) := []
def slotsUsed : Nat := 10
def theMethod : MethodId := ⟨1, 1⟩
def args0 : Array Value := #[.int 65]
def aboutOver (below : List Frame) : State where
  vm := { classes := classes, interned := interned.toArray }
  heap := heap
  slotsUsed := slotsUsed
  threads := #[{ frames := .invoking theMethod args0 :: below }]
def below0 : List Frame := [.native { method := ⟨0, 0⟩, args := #[] }]
def about1 : State := aboutOver below0
def p0 : Program := .bare "" "" ""
def e0 : Env := launch0.env 0 0 0
theorem w_frames : about1.frames = Frame.invoking theMethod args0 :: below0 := rfl
set_option maxRecDepth 65536 in
theorem w_args : argsFit about1.vm theMethod args0 = true := by decide +kernel
set_option maxRecDepth 65536 in
theorem w_heap : heapFits about1 = true := by decide +kernel
set_option maxRecDepth 65536 in
theorem w_runnable : about1.curStatus? = some .runnable := by decide +kernel
set_option maxRecDepth 65536 in
theorem w_alone : about1.alone = true := by decide +kernel
set_option maxRecDepth 65536 in
theorem w_named : about1.methodNamed? x = some theMethod := by decide +kernel
set_option maxRecDepth 65536 in
theorem w_hears : about1.hears theMethod below0 = true := by decide +kernel
set_option maxRecDepth 65536 in
theorem w_ripe : about1.ripe theMethod args0 below0 = true := by decide +kernel
theorem w_running : about1.status = .running := rfl
set_option maxRecDepth 65536 in
theorem w_room : about1.hasRoom e0.platform room_1 = true :=
  launch0.hasRoom_least _ room_1 (by decide +kernel) (by decide +kernel) (by decide +kernel) (by decide +kernel) (by decide +kernel) (by decide +kernel)
theorem allAtoms_all (ts : List Jvm.Cond) (a : Array Jvm.Value) (st : Jvm.State) : (allAtoms ts).before a st = ts.all (fun c => c.before a st) := by
  induction ts with
  | nil => rfl
  | cons c t ih =>
    show (Jvm.Cond.and c (allAtoms t)).before a st = _
    rw [Jvm.Cond.before_and, ih, List.all_cons]
def words1 : List Jvm.Cond := Jvm.Cond.code x code maxLocals ret :: tables_1
/-- a 'code' word, met by the world's own term for the bytes: nothing is compared byte by byte -/
theorem code_word {y : MethodName} {bytes : ByteArray} {mx : Nat} {rt : Option FieldType} {a : Array Value} {s : State} {m : MethodId} {meth : Method} {c : Code} (h1 : s.methodNamed? y = some m) (h2 : s.vm.method? m = some meth) (h3 : meth.code = some c) (h4 : c.code = bytes)
    (h5 : (c.maxLocals == mx && c.exceptionTable.isEmpty && decide (c.maxStack ≤ mostOperands) && decide (meth.sig.returnType = rt) && !meth.locks && decide (parseMethodDescriptor y.desc = some meth.sig)) = true) : (Jvm.Cond.code y bytes mx rt).before a s = true := by
  simp only [Bool.and_eq_true, beq_iff_eq, Bool.not_eq_true', decide_eq_true_eq] at h5
  obtain ⟨⟨⟨⟨⟨g1, g2⟩, g3⟩, g4⟩, g5⟩, g6⟩ := h5
  simp [Cond.before, Cond.holds, Cond.value, h1, h2, h3, h4, g1, g2, g3, g4, g5, g6]
def isCode : Jvm.Cond → Bool
  | .code _ _ _ _ => true
  | _ => false
theorem all_split {L : List Jvm.Cond} {P : Jvm.Cond → Bool} (h1 : L.all (fun c => isCode c || P c) = true) (h2 : ∀ c ∈ L.filter isCode, P c = true) : L.all P = true := by
  refine List.all_eq_true.mpr fun c hc => ?_
  have h := List.all_eq_true.mp h1 c hc
  rcases Bool.eq_false_or_eq_true (isCode c) with hi | hi
  · exact h2 c (List.mem_filter.mpr ⟨hc, hi⟩)
  · simpa [hi] using h
set_option maxRecDepth 65536 in
theorem w_c0 : (Jvm.Cond.code x code maxLocals ret).before args0 about1 = true := code_word (m := ⟨1, 1⟩) (meth := k1m1) (c := k1c1) (by decide +kernel) rfl rfl rfl (by decide +kernel)
set_option maxRecDepth 65536 in
theorem w_c1 : (Jvm.Cond.code ({ cls := "com/example/labframe/labframe/wire/Frame", name := "isHexDigit", desc := "(B)Z" } : Jvm.MethodName) prog_39_method_14_code (1 : Nat) (Option.some Jvm.ClassFile.FieldType.boolean)).before args0 about1 = true := code_word (m := ⟨8, 0⟩) (meth := k8m0) (c := k8c0) (by decide +kernel) rfl rfl rfl (by decide +kernel)
set_option maxRecDepth 65536 in
theorem w_c2 : (Jvm.Cond.code ({ cls := "java/lang/String", name := "charAt", desc := "(I)C" } : Jvm.MethodName) jdk_42_method_56_code (2 : Nat) (Option.some Jvm.ClassFile.FieldType.char)).before args0 about1 = true := code_word (m := ⟨7, 1⟩) (meth := k7m1) (c := k7c1) (by decide +kernel) rfl rfl rfl (by decide +kernel)
set_option maxRecDepth 65536 in
theorem w_c3 : (Jvm.Cond.code ({ cls := "java/lang/String", name := "isLatin1", desc := "()Z" } : Jvm.MethodName) jdk_42_method_154_code (1 : Nat) (Option.some Jvm.ClassFile.FieldType.boolean)).before args0 about1 = true := code_word (m := ⟨7, 2⟩) (meth := k7m2) (c := k7c2) (by decide +kernel) rfl rfl rfl (by decide +kernel)
set_option maxRecDepth 65536 in
theorem w_c4 : (Jvm.Cond.code ({ cls := "java/lang/StringLatin1", name := "charAt", desc := "([BI)C" } : Jvm.MethodName) jdk_43_method_2_code (2 : Nat) (Option.some Jvm.ClassFile.FieldType.char)).before args0 about1 = true := code_word (m := ⟨9, 1⟩) (meth := k9m1) (c := k9c1) (by decide +kernel) rfl rfl rfl (by decide +kernel)
set_option maxRecDepth 65536 in
theorem w_c5 : (Jvm.Cond.code ({ cls := "java/lang/String", name := "checkIndex", desc := "(II)V" } : Jvm.MethodName) jdk_42_method_155_code (2 : Nat) (Option.none : Option Jvm.ClassFile.FieldType)).before args0 about1 = true := code_word (m := ⟨7, 3⟩) (meth := k7m3) (c := k7c3) (by decide +kernel) rfl rfl rfl (by decide +kernel)
set_option maxRecDepth 65536 in
theorem w_c6 : (Jvm.Cond.code ({ cls := "jdk/internal/util/Preconditions", name := "checkIndex", desc := "(IILjava/util/function/BiFunction;)I" } : Jvm.MethodName) jdk_41_method_11_code (3 : Nat) (Option.some Jvm.ClassFile.FieldType.int)).before args0 about1 = true := code_word (m := ⟨10, 1⟩) (meth := k10m1) (c := k10c1) (by decide +kernel) rfl rfl rfl (by decide +kernel)
def codes1 : List Jvm.Cond := [Jvm.Cond.code x code maxLocals ret, Jvm.Cond.code ({ cls := "com/example/labframe/labframe/wire/Frame", name := "isHexDigit", desc := "(B)Z" } : Jvm.MethodName) prog_39_method_14_code (1 : Nat) (Option.some Jvm.ClassFile.FieldType.boolean), Jvm.Cond.code ({ cls := "java/lang/String", name := "charAt", desc := "(I)C" } : Jvm.MethodName) jdk_42_method_56_code (2 : Nat) (Option.some Jvm.ClassFile.FieldType.char), Jvm.Cond.code ({ cls := "java/lang/String", name := "isLatin1", desc := "()Z" } : Jvm.MethodName) jdk_42_method_154_code (1 : Nat) (Option.some Jvm.ClassFile.FieldType.boolean), Jvm.Cond.code ({ cls := "java/lang/StringLatin1", name := "charAt", desc := "([BI)C" } : Jvm.MethodName) jdk_43_method_2_code (2 : Nat) (Option.some Jvm.ClassFile.FieldType.char), Jvm.Cond.code ({ cls := "java/lang/String", name := "checkIndex", desc := "(II)V" } : Jvm.MethodName) jdk_42_method_155_code (2 : Nat) (Option.none : Option Jvm.ClassFile.FieldType), Jvm.Cond.code ({ cls := "jdk/internal/util/Preconditions", name := "checkIndex", desc := "(IILjava/util/function/BiFunction;)I" } : Jvm.MethodName) jdk_41_method_11_code (3 : Nat) (Option.some Jvm.ClassFile.FieldType.int)]
set_option maxRecDepth 65536 in
theorem codes_eq : words1.filter isCode = codes1 := rfl
theorem w_codes : ∀ c ∈ words1.filter isCode, c.before args0 about1 = true := by
  rw [codes_eq]
  intro c hc
  simp only [codes1, List.mem_cons, List.not_mem_nil, or_false] at hc
  rcases hc with rfl | rfl | rfl | rfl | rfl | rfl | rfl
  · exact w_c0
  · exact w_c1
  · exact w_c2
  · exact w_c3
  · exact w_c4
  · exact w_c5
  · exact w_c6
set_option maxRecDepth 65536 in
theorem w_t1 : (words1.take 24).all (fun c => isCode c || c.before args0 about1) = true := by decide +kernel
set_option maxRecDepth 65536 in
theorem w_t2 : (words1.drop 24).all (fun c => isCode c || c.before args0 about1) = true := by decide +kernel
theorem w_tables : (allAtoms (Jvm.Cond.code x code maxLocals ret :: tables_1)).before args0 about1 = true := by
  rw [allAtoms_all]
  show words1.all (fun c => c.before args0 about1) = true
  refine all_split ?_ w_codes
  rw [← List.take_append_drop 24 words1, List.all_append, w_t1, w_t2]
  rfl
set_option maxRecDepth 65536 in
theorem w_rest : rest_1_c.before args0 about1 = true := by decide +kernel
set_option maxRecDepth 65536 in
theorem w_case : (Jvm.Cond.and given_1 narrow_1).before args0 about1 = true := by decide +kernel
set_option maxRecDepth 65536 in
theorem w_consts : constsHeld consts_1 about1 := Jvm.Lit.constsHeldB_iff.mp (by decide +kernel)
theorem w_applies : (headSpec (Jvm.Cond.code x code maxLocals ret :: tables_1) room_1).applies x e0.platform about1 = true :=
  (Spec.applies_iff w_frames).mpr ⟨w_running, w_runnable, w_alone, w_named, w_hears, w_ripe, w_room, w_tables⟩
theorem atStart : AtStart classFile x code maxLocals ret World_1 tables_1 room_1 Calls_1 rest_1 Pre_1 launch0 p0 e0 about1 theMethod args0 below0 :=
  ⟨lists_1, trivial, launch0.admits_env _ _ _, launch0.least_env, fairChoices_fair.cas, fairChoices_fair.clock, w_frames, w_args, w_heap, w_applies, ⟨w_consts, trivial⟩, w_rest, w_case⟩
end start1
theorem witness_1 : WitnessClaimed_1 := ⟨start1.p0, start1.e0, start1.about1, start1.theMethod, start1.args0, start1.below0, start1.atStart⟩
end Jvm.Pilot.@@N@@
