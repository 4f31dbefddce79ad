import JvmDerived
import JvmDerived.Pilot.@@N@@Statement
import JvmDerived.Pilot.@@N@@Code
set_option linter.unusedVariables false
set_option linter.unusedSimpArgs false

namespace Jvm.Pilot.@@N@@
open Jvm Jvm.ClassFile Sem Op Lib Jvm.Free Jvm.Stand Jvm.LawKit Jvm.RoadKit Bundle Jvm.Pilot.@@N@@.Jvm.D
/-- the run from U comes to an end of which P holds -/
def own_Go (tb : Tables) (e : Env) (below : List Frame) (P : Outcome → State → Prop) (U : State) : Prop :=
  ∃ s₂ o, Steps tb e below U s₂ ∧ s₂.status = .running ∧ Ended s₂ below o ∧ P o s₂
theorem own_go {tb : Tables} {e : Env} {below : List Frame} {P : Outcome → State → Prop} {U U' : State} (k : ∀ t, Steps tb e below U' t → Steps tb e below U t) (h : own_Go tb e below P U') : own_Go tb e below P U := by
  obtain ⟨t, o, h1, h2⟩ := h
  exact ⟨t, o, k t h1, h2⟩
section Own
variable {p : Program} {l : Launch} {e : Env} {R : Room} {s : State} {m : MethodId} {args : Array Value} {below : List Frame} {meth : Method} {c : Code} {T : State} {locs : List Loc} {cells slots : Nat}
theorem own_retI (X : Stand p l e R s m args below meth c T locs cells slots) (hx : p.tables.exec = Jvm.exec) {pc : Nat} {Ls : Array Slot} {z : Int32} {rest : List Value} (hret : meth.sig.returnType = some .int) (hd : decode c.code pc = .ok (.ireturn, 1)) {fs : List Frame}
    (hl : ∀ (f : JFrame) (acts : List Action), f.method = m → f.locked = none → f.entered = [] → (doReturn e (T.setTop f) acts (some (.int z))).1 = T.setFrames fs) : Steps p.tables e below (T.setTop (mkF m pc Ls (.int z :: rest))) (T.setFrames fs) := by
  have hm' : T.vm.method? m = some meth := X.method'
  have hn : narrow .int (.int z) = .int z := rfl
  show Steps p.tables e below (T.setTop { method := m, pc := pc, locals := Ls, stack := _ :: rest, locked := none }) _
  jvm_step X.here [X.here.top, hx, hd, hm', hret, hn]
  first | (intro acts; rw [hl _ acts rfl rfl rfl]) | rw [hl _ _ rfl rfl rfl]
  exact Steps.refl _
theorem own_retJ (X : Stand p l e R s m args below meth c T locs cells slots) (hx : p.tables.exec = Jvm.exec) {pc : Nat} {Ls : Array Slot} {z : Int64} {rest : List Value} (hret : meth.sig.returnType = some .long) (hd : decode c.code pc = .ok (.lreturn, 1)) {fs : List Frame}
    (hl : ∀ (f : JFrame) (acts : List Action), f.method = m → f.locked = none → f.entered = [] → (doReturn e (T.setTop f) acts (some (.long z))).1 = T.setFrames fs) : Steps p.tables e below (T.setTop (mkF m pc Ls (.long z :: rest))) (T.setFrames fs) := by
  have hm' : T.vm.method? m = some meth := X.method'
  show Steps p.tables e below (T.setTop { method := m, pc := pc, locals := Ls, stack := _ :: rest, locked := none }) _
  jvm_step X.here [X.here.top, hx, hd, hm', hret, narrow]
  first | (intro acts; rw [hl _ acts rfl rfl rfl]) | rw [hl _ _ rfl rfl rfl]
  exact Steps.refl _
theorem own_end {Q : Option Value → Heap → List Loc → Prop} {kc ks : Nat} (X : Stand p l e R s m args below meth c T locs cells slots) (hlocks : meth.locks = false) {g : JFrame} {v : Option Value}
    (hv : meth.sig.returnType = none → v = none)
    (hs : ∀ fs, (∀ (f : JFrame) (acts : List Action), f.method = m → f.locked = none → f.entered = [] → (doReturn e (T.setTop f) acts v).1 = T.setFrames fs) → Steps p.tables e below (T.setTop g) (T.setFrames fs))
    (hQ : Q v T.heap locs) (h1 : cells ≤ kc) (h2 : slots ≤ ks) :
    own_Go p.tables e below (fun o U' => ∃ v L, o = .returned v ∧ Q v U'.heap L ∧ FrameEnd s o U' L kc ks) (T.setTop g) := by
  obtain ⟨fs, hr, hrun, hended, hW, hsame⟩ := X.leave (v := v) hv hlocks
  exact ⟨_, _, hs fs hr, hrun, hended, _, _, rfl, hQ, ⟨_, rfl⟩, hW, hsame.mono h1 h2⟩
end Own
def own_f1 (p0 : Int32) : Int32 :=
  (if p0 = (32 : Int32) then (1 : Int32) else (if p0 = (9 : Int32) then (1 : Int32) else (if p0 = (12288 : Int32) then (1 : Int32) else (0 : Int32))))
theorem d1_0 : decode prog_51_method_2_code 0 = .ok (.iload_n 0, 1) := by decide +kernel
theorem d1_1 : decode prog_51_method_2_code 1 = .ok (.bipush 32, 2) := by decide +kernel
theorem d1_3 : decode prog_51_method_2_code 3 = .ok (.if_icmp .eq 16, 3) := by decide +kernel
theorem d1_6 : decode prog_51_method_2_code 6 = .ok (.iload_n 0, 1) := by decide +kernel
theorem d1_7 : decode prog_51_method_2_code 7 = .ok (.bipush 9, 2) := by decide +kernel
theorem d1_9 : decode prog_51_method_2_code 9 = .ok (.if_icmp .eq 10, 3) := by decide +kernel
theorem d1_12 : decode prog_51_method_2_code 12 = .ok (.iload_n 0, 1) := by decide +kernel
theorem d1_13 : decode prog_51_method_2_code 13 = .ok (.sipush 12288, 3) := by decide +kernel
theorem d1_16 : decode prog_51_method_2_code 16 = .ok (.if_icmp .ne 7, 3) := by decide +kernel
theorem d1_19 : decode prog_51_method_2_code 19 = .ok (.iconst 1, 1) := by decide +kernel
theorem d1_20 : decode prog_51_method_2_code 20 = .ok (.goto 4, 3) := by decide +kernel
theorem d1_23 : decode prog_51_method_2_code 23 = .ok (.iconst 0, 1) := by decide +kernel
theorem d1_24 : decode prog_51_method_2_code 24 = .ok (.ireturn, 1) := by decide +kernel
theorem pn1 : plainName "com/example/cijing/cijing/text/Text" = true := by first | (simp [plainName, overriddenIn]; done) | decide +kernel
theorem ef1 (m : MethodId) (p0 : Int32) : entryFrame m #[(.int p0)] 1 = mkF m 0 #[.val (.int p0)] [] := by first | (simp [entryFrame, mkF, argsToLocals, Value.category]; done) | rfl
def own_Q1 (Z : State) (p0 : Int32) (h0 : Heap) (n0 : Nat) (v : Option Value) (h : Heap) (L : List Loc) : Prop := v = some (.int (own_f1 p0)) ∧ Fr n0 L ∧ h = h0
set_option maxRecDepth 65536 in
set_option maxHeartbeats 40000000 in
theorem rm1 (l : Launch) (Z : State) (a0 : Array Value) (hw : ∀ d ∈ tables_1, d.before a0 Z = true) (ws : List Jvm.Cond) (p0 : Int32) (h0 : Heap) (n0 : Nat) (Z0 : n0 ≤ h0.size) :
    MetFree l (⟨"com/example/cijing/cijing/text/Text", "isWhitespace", "(C)Z"⟩ : MethodName) (head1 (Jvm.Cond.code (⟨"com/example/cijing/cijing/text/Text", "isWhitespace", "(C)Z"⟩ : MethodName) prog_51_method_2_code 1 (some .boolean) :: ws) ({ frames := 0, cells := 0, slots := 0, locals := 0 } : Room)) (fun a U => a = #[(.int p0)] ∧ Z.Warmed39 U.vm ∧ U.heap = h0) (fun _ _ _ _ _ => True) (fun _ U o U' => ∃ v L, o = .returned v ∧ own_Q1 Z p0 h0 n0 v U'.heap L ∧ FrameEnd U o U' L ({ frames := 0, cells := 0, slots := 0, locals := 0 } : Room).cells ({ frames := 0, cells := 0, slots := 0, locals := 0 } : Room).slots) := by
  refine MetFree.of_bodySF (plainFor_of_name pn1) hisR ?_
  intro p e s m args below meth c s₁ Bd hml0 hP hK
  obtain ⟨rfl, hZ, hh⟩ := hP
  have hx := Bd.exec
  have hby := Bd.bytes
  have hml : c.maxLocals = 1 := hml0
  have hown : s.vm.findClass "com/example/cijing/cijing/text/Text" = some m.cls := findClass_of_methodNamed Bd.named
  have hnm := (name_of_methodNamed Bd.named Bd.method).1
  have X0 : Stand p l e ({ frames := 0, cells := 0, slots := 0, locals := 0 } : Room) s m #[(.int p0)] below meth c s₁ [] 0 0 := Stand.of_body Bd
  have e0 : s₁.heap = h0 := by rw [← hh, Bd.state]; rfl
  have N0 := Fr.nil n0
  show own_Go p.tables e below (fun o U' => ∃ v L, o = .returned v ∧ own_Q1 Z p0 h0 n0 v U'.heap L ∧ FrameEnd s o U' L ({ frames := 0, cells := 0, slots := 0, locals := 0 } : Room).cells ({ frames := 0, cells := 0, slots := 0, locals := 0 } : Room).slots) (s₁.setTop (entryFrame m #[(.int p0)] 1))
  refine own_go (fun _ k => castTop (ef1 m p0) k) ?_
  show own_Go p.tables e below _ (s₁.setTop (mkF m 0 #[.val (.int p0)] []))
  refine own_go (fun _ k => XS.iloadN X0.here hx rfl (hb hby d1_0) rfl k) ?_
  show own_Go p.tables e below _ (s₁.setTop (mkF m 1 #[.val (.int p0)] [(.int p0)]))
  refine own_go (fun _ k => XS.bipush X0.here hx rfl (hb hby d1_1) k) ?_
  show own_Go p.tables e below _ (s₁.setTop (mkF m 3 #[.val (.int p0)] [(.int (32 : Int32)), (.int p0)]))
  by_cases hc3 : p0 = (32 : Int32)
  · refine own_go (fun _ k => XS.icmpYes X0.here hx rfl (pc0 := 3) (pc' := 19) rfl (hb hby d1_3) rfl (teq hc3).1 (by decide) (by decide) k) ?_
    show own_Go p.tables e below _ (s₁.setTop (mkF m 19 #[.val (.int p0)] []))
    refine own_go (fun _ k => XS.iconst X0.here hx rfl (hb hby d1_19) k) ?_
    show own_Go p.tables e below _ (s₁.setTop (mkF m 20 #[.val (.int p0)] [(.int (1 : Int32))]))
    refine own_go (fun _ k => XS.goto X0.here hx rfl (pc0 := 20) (pc' := 24) rfl (hb hby d1_20) (by decide) (by decide) k) ?_
    show own_Go p.tables e below _ (s₁.setTop (mkF m 24 #[.val (.int p0)] [(.int (1 : Int32))]))
    refine own_end X0 Bd.notSynchronized (v := some (.int (1 : Int32))) (fun h => by rw [Bd.returns] at h; cases h) (fun fs hr => retN X0 hx (t := .boolean) Bd.returns (by simp) (hb hby d1_24) hr) ?_ (by decide) (by decide)
    exact ⟨by rw [own_f1, if_pos hc3], N0, e0⟩
  · refine own_go (fun _ k => XS.icmpNo X0.here hx rfl (hb hby d1_3) rfl (feq hc3).1 k) ?_
    show own_Go p.tables e below _ (s₁.setTop (mkF m 6 #[.val (.int p0)] []))
    refine own_go (fun _ k => XS.iloadN X0.here hx rfl (hb hby d1_6) rfl k) ?_
    show own_Go p.tables e below _ (s₁.setTop (mkF m 7 #[.val (.int p0)] [(.int p0)]))
    refine own_go (fun _ k => XS.bipush X0.here hx rfl (hb hby d1_7) k) ?_
    show own_Go p.tables e below _ (s₁.setTop (mkF m 9 #[.val (.int p0)] [(.int (9 : Int32)), (.int p0)]))
    by_cases hc9 : p0 = (9 : Int32)
    · refine own_go (fun _ k => XS.icmpYes X0.here hx rfl (pc0 := 9) (pc' := 19) rfl (hb hby d1_9) rfl (teq hc9).1 (by decide) (by decide) k) ?_
      show own_Go p.tables e below _ (s₁.setTop (mkF m 19 #[.val (.int p0)] []))
      refine own_go (fun _ k => XS.iconst X0.here hx rfl (hb hby d1_19) k) ?_
      show own_Go p.tables e below _ (s₁.setTop (mkF m 20 #[.val (.int p0)] [(.int (1 : Int32))]))
      refine own_go (fun _ k => XS.goto X0.here hx rfl (pc0 := 20) (pc' := 24) rfl (hb hby d1_20) (by decide) (by decide) k) ?_
      show own_Go p.tables e below _ (s₁.setTop (mkF m 24 #[.val (.int p0)] [(.int (1 : Int32))]))
      refine own_end X0 Bd.notSynchronized (v := some (.int (1 : Int32))) (fun h => by rw [Bd.returns] at h; cases h) (fun fs hr => retN X0 hx (t := .boolean) Bd.returns (by simp) (hb hby d1_24) hr) ?_ (by decide) (by decide)
      exact ⟨by rw [own_f1, if_neg hc3, if_pos hc9], N0, e0⟩
    · refine own_go (fun _ k => XS.icmpNo X0.here hx rfl (hb hby d1_9) rfl (feq hc9).1 k) ?_
      show own_Go p.tables e below _ (s₁.setTop (mkF m 12 #[.val (.int p0)] []))
      refine own_go (fun _ k => XS.iloadN X0.here hx rfl (hb hby d1_12) rfl k) ?_
      show own_Go p.tables e below _ (s₁.setTop (mkF m 13 #[.val (.int p0)] [(.int p0)]))
      refine own_go (fun _ k => XS.sipush X0.here hx rfl (hb hby d1_13) k) ?_
      show own_Go p.tables e below _ (s₁.setTop (mkF m 16 #[.val (.int p0)] [(.int (12288 : Int32)), (.int p0)]))
      by_cases hc16 : p0 = (12288 : Int32)
      · refine own_go (fun _ k => XS.icmpNo X0.here hx rfl (hb hby d1_16) rfl (teq hc16).2 k) ?_
        show own_Go p.tables e below _ (s₁.setTop (mkF m 19 #[.val (.int p0)] []))
        refine own_go (fun _ k => XS.iconst X0.here hx rfl (hb hby d1_19) k) ?_
        show own_Go p.tables e below _ (s₁.setTop (mkF m 20 #[.val (.int p0)] [(.int (1 : Int32))]))
        refine own_go (fun _ k => XS.goto X0.here hx rfl (pc0 := 20) (pc' := 24) rfl (hb hby d1_20) (by decide) (by decide) k) ?_
        show own_Go p.tables e below _ (s₁.setTop (mkF m 24 #[.val (.int p0)] [(.int (1 : Int32))]))
        refine own_end X0 Bd.notSynchronized (v := some (.int (1 : Int32))) (fun h => by rw [Bd.returns] at h; cases h) (fun fs hr => retN X0 hx (t := .boolean) Bd.returns (by simp) (hb hby d1_24) hr) ?_ (by decide) (by decide)
        exact ⟨by rw [own_f1, if_neg hc3, if_neg hc9, if_pos hc16], N0, e0⟩
      · refine own_go (fun _ k => XS.icmpYes X0.here hx rfl (pc0 := 16) (pc' := 23) rfl (hb hby d1_16) rfl (feq hc16).2 (by decide) (by decide) k) ?_
        show own_Go p.tables e below _ (s₁.setTop (mkF m 23 #[.val (.int p0)] []))
        refine own_go (fun _ k => XS.iconst X0.here hx rfl (hb hby d1_23) k) ?_
        show own_Go p.tables e below _ (s₁.setTop (mkF m 24 #[.val (.int p0)] [(.int (0 : Int32))]))
        refine own_end X0 Bd.notSynchronized (v := some (.int (0 : Int32))) (fun h => by rw [Bd.returns] at h; cases h) (fun fs hr => retN X0 hx (t := .boolean) Bd.returns (by simp) (hb hby d1_24) hr) ?_ (by decide) (by decide)
        exact ⟨by rw [own_f1, if_neg hc3, if_neg hc9, if_neg hc16], N0, e0⟩
def own_f2 (p0 : Int32) : Int32 :=
  (if ((((p0.toInt64) - (9 : Int64)) * ((p0.toInt64) - (32 : Int64))) * ((p0.toInt64) - (12288 : Int64))) = (0 : Int64) then (1 : Int32) else (0 : Int32))
theorem d2_0 : decode method_2_code 0 = .ok (.iload_n 0, 1) := by decide +kernel
theorem d2_1 : decode method_2_code 1 = .ok (.i2l, 1) := by decide +kernel
theorem d2_2 : decode method_2_code 2 = .ok (.lstore_n 1, 1) := by decide +kernel
theorem d2_3 : decode method_2_code 3 = .ok (.lload_n 1, 1) := by decide +kernel
theorem d2_4 : decode method_2_code 4 = .ok (.ldc2_w 7, 3) := by decide +kernel
theorem d2_7 : decode method_2_code 7 = .ok (.lsub, 1) := by decide +kernel
theorem d2_8 : decode method_2_code 8 = .ok (.lload_n 1, 1) := by decide +kernel
theorem d2_9 : decode method_2_code 9 = .ok (.ldc2_w 9, 3) := by decide +kernel
theorem d2_12 : decode method_2_code 12 = .ok (.lsub, 1) := by decide +kernel
theorem d2_13 : decode method_2_code 13 = .ok (.lmul, 1) := by decide +kernel
theorem d2_14 : decode method_2_code 14 = .ok (.lload_n 1, 1) := by decide +kernel
theorem d2_15 : decode method_2_code 15 = .ok (.ldc2_w 11, 3) := by decide +kernel
theorem d2_18 : decode method_2_code 18 = .ok (.lsub, 1) := by decide +kernel
theorem d2_19 : decode method_2_code 19 = .ok (.lmul, 1) := by decide +kernel
theorem d2_20 : decode method_2_code 20 = .ok (.lconst 0, 1) := by decide +kernel
theorem d2_21 : decode method_2_code 21 = .ok (.lcmp, 1) := by decide +kernel
theorem d2_22 : decode method_2_code 22 = .ok (.ifCond .ne 7, 3) := by decide +kernel
theorem d2_25 : decode method_2_code 25 = .ok (.iconst 1, 1) := by decide +kernel
theorem d2_26 : decode method_2_code 26 = .ok (.goto 4, 3) := by decide +kernel
theorem d2_29 : decode method_2_code 29 = .ok (.iconst 0, 1) := by decide +kernel
theorem d2_30 : decode method_2_code 30 = .ok (.ireturn, 1) := by decide +kernel
theorem pn2 : plainName "com/example/cijing/cijing/text/TextIsWhitespacePinLaw" = true := by first | (simp [plainName, overriddenIn]; done) | decide +kernel
theorem ef2 (m : MethodId) (p0 : Int32) : entryFrame m #[(.int p0)] 3 = mkF m 0 #[.val (.int p0), .unset, .unset] [] := by first | (simp [entryFrame, mkF, argsToLocals, Value.category]; done) | rfl
def own_Q2 (Z : State) (p0 : Int32) (h0 : Heap) (n0 : Nat) (v : Option Value) (h : Heap) (L : List Loc) : Prop := v = some (.int (own_f2 p0)) ∧ Fr n0 L ∧ h = h0
set_option maxRecDepth 65536 in
set_option maxHeartbeats 40000000 in
theorem rm2 (l : Launch) (Z : State) (a0 : Array Value) (hw : ∀ d ∈ tables_1, d.before a0 Z = true) (ws : List Jvm.Cond) (p0 : Int32) (h0 : Heap) (n0 : Nat) (Z0 : n0 ≤ h0.size) :
    MetFree l (⟨"com/example/cijing/cijing/text/TextIsWhitespacePinLaw", "expected", "(C)Z"⟩ : MethodName) (head1 (Jvm.Cond.code (⟨"com/example/cijing/cijing/text/TextIsWhitespacePinLaw", "expected", "(C)Z"⟩ : MethodName) method_2_code 3 (some .boolean) :: ws) ({ frames := 0, cells := 0, slots := 0, locals := 0 } : Room)) (fun a U => a = #[(.int p0)] ∧ Z.Warmed39 U.vm ∧ U.heap = h0) (fun _ _ _ _ _ => True) (fun _ U o U' => ∃ v L, o = .returned v ∧ own_Q2 Z p0 h0 n0 v U'.heap L ∧ FrameEnd U o U' L ({ frames := 0, cells := 0, slots := 0, locals := 0 } : Room).cells ({ frames := 0, cells := 0, slots := 0, locals := 0 } : Room).slots) := by
  refine MetFree.of_bodySF (plainFor_of_name pn2) hisR ?_
  intro p e s m args below meth c s₁ Bd hml0 hP hK
  obtain ⟨rfl, hZ, hh⟩ := hP
  have hx := Bd.exec
  have hby := Bd.bytes
  have hml : c.maxLocals = 3 := hml0
  have hown : s.vm.findClass "com/example/cijing/cijing/text/TextIsWhitespacePinLaw" = some m.cls := findClass_of_methodNamed Bd.named
  have hnm := (name_of_methodNamed Bd.named Bd.method).1
  have X0 : Stand p l e ({ frames := 0, cells := 0, slots := 0, locals := 0 } : Room) s m #[(.int p0)] below meth c s₁ [] 0 0 := Stand.of_body Bd
  have e0 : s₁.heap = h0 := by rw [← hh, Bd.state]; rfl
  have N0 := Fr.nil n0
  show own_Go p.tables e below (fun o U' => ∃ v L, o = .returned v ∧ own_Q2 Z p0 h0 n0 v U'.heap L ∧ FrameEnd s o U' L ({ frames := 0, cells := 0, slots := 0, locals := 0 } : Room).cells ({ frames := 0, cells := 0, slots := 0, locals := 0 } : Room).slots) (s₁.setTop (entryFrame m #[(.int p0)] 3))
  refine own_go (fun _ k => castTop (ef2 m p0) k) ?_
  show own_Go p.tables e below _ (s₁.setTop (mkF m 0 #[.val (.int p0), .unset, .unset] []))
  refine own_go (fun _ k => XS.iloadN X0.here hx rfl (hb hby d2_0) rfl k) ?_
  show own_Go p.tables e below _ (s₁.setTop (mkF m 1 #[.val (.int p0), .unset, .unset] [(.int p0)]))
  refine own_go (fun _ k => XS.i2l X0.here hx rfl (hb hby d2_1) rfl k) ?_
  show own_Go p.tables e below _ (s₁.setTop (mkF m 2 #[.val (.int p0), .unset, .unset] [(.long (p0.toInt64))]))
  refine own_go (fun _ k => XS.lstoreN X0.here hx rfl (hb hby d2_2) rfl (l' := #[.val (.int p0), .val (.long (p0.toInt64)), .second]) rfl k) ?_
  show own_Go p.tables e below _ (s₁.setTop (mkF m 3 #[.val (.int p0), .val (.long (p0.toInt64)), .second] []))
  refine own_go (fun _ k => XS.lloadN X0.here hx rfl (hb hby d2_3) rfl k) ?_
  show own_Go p.tables e below _ (s₁.setTop (mkF m 4 #[.val (.int p0), .val (.long (p0.toInt64)), .second] [(.long (p0.toInt64))]))
  refine own_go (fun _ k => X0.ldc2Long hx hown (mvT hZ (hw _ (List.mem_of_getElem? (i := 8) rfl))) (g := (mkF m 4 #[.val (.int p0), .val (.long (p0.toInt64)), .second] [(.long (p0.toInt64))])) rfl (hb hby d2_4) _ k) ?_
  show own_Go p.tables e below _ (s₁.setTop (mkF m 7 #[.val (.int p0), .val (.long (p0.toInt64)), .second] [(.long (9 : Int64)), (.long (p0.toInt64))]))
  refine own_go (fun _ k => XS.lsub X0.here hx rfl (hb hby d2_7) rfl k) ?_
  show own_Go p.tables e below _ (s₁.setTop (mkF m 8 #[.val (.int p0), .val (.long (p0.toInt64)), .second] [(.long ((p0.toInt64) - (9 : Int64)))]))
  refine own_go (fun _ k => XS.lloadN X0.here hx rfl (hb hby d2_8) rfl k) ?_
  show own_Go p.tables e below _ (s₁.setTop (mkF m 9 #[.val (.int p0), .val (.long (p0.toInt64)), .second] [(.long (p0.toInt64)), (.long ((p0.toInt64) - (9 : Int64)))]))
  refine own_go (fun _ k => X0.ldc2Long hx hown (mvT hZ (hw _ (List.mem_of_getElem? (i := 9) rfl))) (g := (mkF m 9 #[.val (.int p0), .val (.long (p0.toInt64)), .second] [(.long (p0.toInt64)), (.long ((p0.toInt64) - (9 : Int64)))])) rfl (hb hby d2_9) _ k) ?_
  show own_Go p.tables e below _ (s₁.setTop (mkF m 12 #[.val (.int p0), .val (.long (p0.toInt64)), .second] [(.long (32 : Int64)), (.long (p0.toInt64)), (.long ((p0.toInt64) - (9 : Int64)))]))
  refine own_go (fun _ k => XS.lsub X0.here hx rfl (hb hby d2_12) rfl k) ?_
  show own_Go p.tables e below _ (s₁.setTop (mkF m 13 #[.val (.int p0), .val (.long (p0.toInt64)), .second] [(.long ((p0.toInt64) - (32 : Int64))), (.long ((p0.toInt64) - (9 : Int64)))]))
  refine own_go (fun _ k => XS.lmul X0.here hx rfl (hb hby d2_13) rfl k) ?_
  show own_Go p.tables e below _ (s₁.setTop (mkF m 14 #[.val (.int p0), .val (.long (p0.toInt64)), .second] [(.long (((p0.toInt64) - (9 : Int64)) * ((p0.toInt64) - (32 : Int64))))]))
  refine own_go (fun _ k => XS.lloadN X0.here hx rfl (hb hby d2_14) rfl k) ?_
  show own_Go p.tables e below _ (s₁.setTop (mkF m 15 #[.val (.int p0), .val (.long (p0.toInt64)), .second] [(.long (p0.toInt64)), (.long (((p0.toInt64) - (9 : Int64)) * ((p0.toInt64) - (32 : Int64))))]))
  refine own_go (fun _ k => X0.ldc2Long hx hown (mvT hZ (hw _ (List.mem_of_getElem? (i := 10) rfl))) (g := (mkF m 15 #[.val (.int p0), .val (.long (p0.toInt64)), .second] [(.long (p0.toInt64)), (.long (((p0.toInt64) - (9 : Int64)) * ((p0.toInt64) - (32 : Int64))))])) rfl (hb hby d2_15) _ k) ?_
  show own_Go p.tables e below _ (s₁.setTop (mkF m 18 #[.val (.int p0), .val (.long (p0.toInt64)), .second] [(.long (12288 : Int64)), (.long (p0.toInt64)), (.long (((p0.toInt64) - (9 : Int64)) * ((p0.toInt64) - (32 : Int64))))]))
  refine own_go (fun _ k => XS.lsub X0.here hx rfl (hb hby d2_18) rfl k) ?_
  show own_Go p.tables e below _ (s₁.setTop (mkF m 19 #[.val (.int p0), .val (.long (p0.toInt64)), .second] [(.long ((p0.toInt64) - (12288 : Int64))), (.long (((p0.toInt64) - (9 : Int64)) * ((p0.toInt64) - (32 : Int64))))]))
  refine own_go (fun _ k => XS.lmul X0.here hx rfl (hb hby d2_19) rfl k) ?_
  show own_Go p.tables e below _ (s₁.setTop (mkF m 20 #[.val (.int p0), .val (.long (p0.toInt64)), .second] [(.long ((((p0.toInt64) - (9 : Int64)) * ((p0.toInt64) - (32 : Int64))) * ((p0.toInt64) - (12288 : Int64))))]))
  refine own_go (fun _ k => XS.lconst X0.here hx rfl (hb hby d2_20) k) ?_
  show own_Go p.tables e below _ (s₁.setTop (mkF m 21 #[.val (.int p0), .val (.long (p0.toInt64)), .second] [(.long (0 : Int64)), (.long ((((p0.toInt64) - (9 : Int64)) * ((p0.toInt64) - (32 : Int64))) * ((p0.toInt64) - (12288 : Int64))))]))
  refine own_go (fun _ k => XS.lcmp X0.here hx rfl (hb hby d2_21) rfl k) ?_
  show own_Go p.tables e below _ (s₁.setTop (mkF m 22 #[.val (.int p0), .val (.long (p0.toInt64)), .second] [(.int (lcmpW ((((p0.toInt64) - (9 : Int64)) * ((p0.toInt64) - (32 : Int64))) * ((p0.toInt64) - (12288 : Int64))) (0 : Int64)))]))
  by_cases hc22 : ((((p0.toInt64) - (9 : Int64)) * ((p0.toInt64) - (32 : Int64))) * ((p0.toInt64) - (12288 : Int64))) = (0 : Int64)
  · refine own_go (fun _ k => XS.ifNo X0.here hx rfl (hb hby d2_22) rfl ((if0 _ _).trans (teq ((lw_eq ((((p0.toInt64) - (9 : Int64)) * ((p0.toInt64) - (32 : Int64))) * ((p0.toInt64) - (12288 : Int64))) (0 : Int64)).mpr hc22)).2) k) ?_
    show own_Go p.tables e below _ (s₁.setTop (mkF m 25 #[.val (.int p0), .val (.long (p0.toInt64)), .second] []))
    refine own_go (fun _ k => XS.iconst X0.here hx rfl (hb hby d2_25) k) ?_
    show own_Go p.tables e below _ (s₁.setTop (mkF m 26 #[.val (.int p0), .val (.long (p0.toInt64)), .second] [(.int (1 : Int32))]))
    refine own_go (fun _ k => XS.goto X0.here hx rfl (pc0 := 26) (pc' := 30) rfl (hb hby d2_26) (by decide) (by decide) k) ?_
    show own_Go p.tables e below _ (s₁.setTop (mkF m 30 #[.val (.int p0), .val (.long (p0.toInt64)), .second] [(.int (1 : Int32))]))
    refine own_end X0 Bd.notSynchronized (v := some (.int (1 : Int32))) (fun h => by rw [Bd.returns] at h; cases h) (fun fs hr => retN X0 hx (t := .boolean) Bd.returns (by simp) (hb hby d2_30) hr) ?_ (by decide) (by decide)
    exact ⟨by rw [own_f2, if_pos hc22], N0, e0⟩
  · refine own_go (fun _ k => XS.ifYes X0.here hx rfl (pc0 := 22) (pc' := 29) rfl (hb hby d2_22) rfl ((if0 _ _).trans (feq (mt (lw_eq ((((p0.toInt64) - (9 : Int64)) * ((p0.toInt64) - (32 : Int64))) * ((p0.toInt64) - (12288 : Int64))) (0 : Int64)).mp hc22)).2) (by decide) (by decide) k) ?_
    show own_Go p.tables e below _ (s₁.setTop (mkF m 29 #[.val (.int p0), .val (.long (p0.toInt64)), .second] []))
    refine own_go (fun _ k => XS.iconst X0.here hx rfl (hb hby d2_29) k) ?_
    show own_Go p.tables e below _ (s₁.setTop (mkF m 30 #[.val (.int p0), .val (.long (p0.toInt64)), .second] [(.int (0 : Int32))]))
    refine own_end X0 Bd.notSynchronized (v := some (.int (0 : Int32))) (fun h => by rw [Bd.returns] at h; cases h) (fun fs hr => retN X0 hx (t := .boolean) Bd.returns (by simp) (hb hby d2_30) hr) ?_ (by decide) (by decide)
    exact ⟨by rw [own_f2, if_neg hc22], N0, e0⟩
theorem own_mul {a b : Int} {M N : Nat} (ha : a.natAbs ≤ M) (hb : b.natAbs ≤ N) : (a * b).natAbs ≤ M * N := by
  rw [Int.natAbs_mul]; exact Nat.mul_le_mul ha hb
theorem own_v1 {c : Int32} (h1 : 0 ≤ c.toInt) (h2 : c.toInt < 65536) : own_f1 c = own_f2 c := by
  have k1 : (9 : Int64).toInt = 9 := by decide
  have k2 : (32 : Int64).toInt = 32 := by decide
  have k3 : (12288 : Int64).toInt = 12288 := by decide
  have k4 : (0 : Int64).toInt = 0 := by decide
  have k5 : (9 : Int32).toInt = 9 := by decide
  have k6 : (32 : Int32).toInt = 32 := by decide
  have k7 : (12288 : Int32).toInt = 12288 := by decide
  have e1 := c_i2l c
  have e2 := c_lsub c.toInt64 9
  have e3 := c_lsub c.toInt64 32
  have e4 := c_lsub c.toInt64 12288
  have r2 := rng64 (c.toInt64 - 9)
  have r3 := rng64 (c.toInt64 - 32)
  have r4 := rng64 (c.toInt64 - 12288)
  have e5 := c_lmul (c.toInt64 - 9) (c.toInt64 - 32)
  have e6 := c_lmul ((c.toInt64 - 9) * (c.toInt64 - 32)) (c.toInt64 - 12288)
  have r5 := rng64 ((c.toInt64 - 9) * (c.toInt64 - 32))
  have r6 := rng64 ((c.toInt64 - 9) * (c.toInt64 - 32) * (c.toInt64 - 12288))
  have f2 : (c.toInt64 - 9).toInt = c.toInt - 9 := by omega
  have f3 : (c.toInt64 - 32).toInt = c.toInt - 32 := by omega
  have f4 : (c.toInt64 - 12288).toInt = c.toInt - 12288 := by omega
  rw [f2, f3] at e5
  have b1 := own_mul (a := c.toInt - 9) (b := c.toInt - 32) (M := 65536) (N := 65536) (by omega) (by omega)
  have f5 : ((c.toInt64 - 9) * (c.toInt64 - 32)).toInt = (c.toInt - 9) * (c.toInt - 32) := by
    generalize (c.toInt - 9) * (c.toInt - 32) = z at *; omega
  rw [f5, f4] at e6
  have b2 := own_mul (a := (c.toInt - 9) * (c.toInt - 32)) (b := c.toInt - 12288) (M := 65536 * 65536) (N := 65536) b1 (by omega)
  have f6 : ((c.toInt64 - 9) * (c.toInt64 - 32) * (c.toInt64 - 12288)).toInt = (c.toInt - 9) * (c.toInt - 32) * (c.toInt - 12288) := by
    generalize (c.toInt - 9) * (c.toInt - 32) * (c.toInt - 12288) = z at *; omega
  have f7 : ((c.toInt64 - 9) * (c.toInt64 - 32) * (c.toInt64 - 12288) = 0) ↔ (c.toInt = 9 ∨ c.toInt = 32 ∨ c.toInt = 12288) := by
    rw [← Int64.toInt_inj, f6, k4, Int.mul_eq_zero, Int.mul_eq_zero]
    omega
  simp only [own_f1, own_f2, ← Int32.toInt_inj, k5, k6, k7, f7]
  repeat' split
  all_goals first | rfl | (exfalso; omega)
theorem pn0 : plainName "com/example/cijing/cijing/text/TextIsWhitespacePinLaw" = true := by first | (simp [plainName, overriddenIn]; done) | decide +kernel
theorem pd0_0 : parseMethodDescriptor "(C)Z" = some ⟨[.char], some .boolean⟩ := by decide +kernel
theorem ef0 (m : MethodId) (p0 : Int32) : entryFrame m #[(.int p0)] maxLocals = mkF m 0 #[.val (.int p0), .unset, .unset, .unset] [] := by first | (simp [entryFrame, mkF, argsToLocals, Value.category, maxLocals]; done) | rfl
def own_Q0 (Z : State) (p0 : Int32) (h0 : Heap) (n0 : Nat) (v : Option Value) (h : Heap) (L : List Loc) : Prop := v = some (.int 1) ∧ Fr n0 L
set_option maxRecDepth 65536 in
set_option maxHeartbeats 40000000 in
theorem rm0 (l : Launch) (Z : State) (a0 : Array Value) (hw : ∀ d ∈ tables_1, d.before a0 Z = true) (ws : List Jvm.Cond) (p0 : Int32) (h0 : Heap) (n0 : Nat) (Z0 : n0 ≤ h0.size) :
    MetFree l x (head1 (Jvm.Cond.code x code maxLocals ret :: ws) room_1) (fun a U => a = #[(.int p0)] ∧ Z.Warmed39 U.vm ∧ U.heap = h0) (fun _ _ _ _ _ => True) (fun _ U o U' => ∃ v L, o = .returned v ∧ own_Q0 Z p0 h0 n0 v U'.heap L ∧ FrameEnd U o U' L 0 0) := by
  refine MetFree.of_bodySF (plainFor_of_name pn0) hisR ?_
  intro p e s m args below meth c s₁ Bd hml0 hP hK
  obtain ⟨rfl, hZ, hh⟩ := hP
  have hx := Bd.exec
  have hby := Bd.bytes
  have hml : c.maxLocals = 4 := hml0
  have hown : s.vm.findClass "com/example/cijing/cijing/text/TextIsWhitespacePinLaw" = some m.cls := findClass_of_methodNamed Bd.named
  have hnm := (name_of_methodNamed Bd.named Bd.method).1
  have X0 : Stand p l e room_1 s m #[(.int p0)] below meth c s₁ [] 0 0 := Stand.of_body Bd
  have e0 : s₁.heap = h0 := by rw [← hh, Bd.state]; rfl
  have N0 := Fr.nil n0
  show own_Go p.tables e below (fun o U' => ∃ v L, o = .returned v ∧ own_Q0 Z p0 h0 n0 v U'.heap L ∧ FrameEnd s o U' L 0 0) (s₁.setTop (entryFrame m #[(.int p0)] maxLocals))
  refine own_go (fun _ k => castTop (ef0 m p0) k) ?_
  show own_Go p.tables e below _ (s₁.setTop (mkF m 0 #[.val (.int p0), .unset, .unset, .unset] []))
  refine own_go (fun _ k => XS.iloadN X0.here hx rfl (hb hby at_0) rfl k) ?_
  show own_Go p.tables e below _ (s₁.setTop (mkF m 1 #[.val (.int p0), .unset, .unset, .unset] [(.int p0)]))
  refine own_go (fun _ k => XS.i2c X0.here hx rfl (hb hby at_1) rfl k) ?_
  show own_Go p.tables e below _ (s₁.setTop (mkF m 2 #[.val (.int p0), .unset, .unset, .unset] [(.int (p0.toUInt32.toUInt16.toUInt32.toInt32))]))
  refine own_go (fun _ k => XS.istoreN X0.here hx rfl (hb hby at_2) rfl (l' := #[.val (.int p0), .val (.int (p0.toUInt32.toUInt16.toUInt32.toInt32)), .unset, .unset]) rfl k) ?_
  show own_Go p.tables e below _ (s₁.setTop (mkF m 3 #[.val (.int p0), .val (.int (p0.toUInt32.toUInt16.toUInt32.toInt32)), .unset, .unset] []))
  obtain ⟨v1, hv1⟩ : ∃ z : Int32, z = (p0.toUInt32.toUInt16.toUInt32.toInt32) := ⟨_, rfl⟩
  rw [← hv1]
  show own_Go p.tables e below _ (s₁.setTop (mkF m 3 #[.val (.int p0), .val (.int v1), .unset, .unset] []))
  refine own_go (fun _ k => XS.iloadN X0.here hx rfl (hb hby at_3) rfl k) ?_
  show own_Go p.tables e below _ (s₁.setTop (mkF m 4 #[.val (.int p0), .val (.int v1), .unset, .unset] [(.int p0)]))
  refine own_go (fun _ k => XS.bipush X0.here hx rfl (hb hby at_4) k) ?_
  show own_Go p.tables e below _ (s₁.setTop (mkF m 6 #[.val (.int p0), .val (.int v1), .unset, .unset] [(.int (16 : Int32)), (.int p0)]))
  refine own_go (fun _ k => XS.iushr X0.here hx rfl (hb hby at_6) rfl k) ?_
  show own_Go p.tables e below _ (s₁.setTop (mkF m 7 #[.val (.int p0), .val (.int v1), .unset, .unset] [(.int ((p0.toUInt32 >>> ((16 : Int32) &&& 31).toUInt32).toInt32))]))
  refine own_go (fun _ k => XS.i2c X0.here hx rfl (hb hby at_7) rfl k) ?_
  show own_Go p.tables e below _ (s₁.setTop (mkF m 8 #[.val (.int p0), .val (.int v1), .unset, .unset] [(.int (((p0.toUInt32 >>> ((16 : Int32) &&& 31).toUInt32).toInt32).toUInt32.toUInt16.toUInt32.toInt32))]))
  refine own_go (fun _ k => XS.istoreN X0.here hx rfl (hb hby at_8) rfl (l' := #[.val (.int p0), .val (.int v1), .val (.int (((p0.toUInt32 >>> ((16 : Int32) &&& 31).toUInt32).toInt32).toUInt32.toUInt16.toUInt32.toInt32)), .unset]) rfl k) ?_
  show own_Go p.tables e below _ (s₁.setTop (mkF m 9 #[.val (.int p0), .val (.int v1), .val (.int (((p0.toUInt32 >>> ((16 : Int32) &&& 31).toUInt32).toInt32).toUInt32.toUInt16.toUInt32.toInt32)), .unset] []))
  obtain ⟨v2, hv2⟩ : ∃ z : Int32, z = (((p0.toUInt32 >>> ((16 : Int32) &&& 31).toUInt32).toInt32).toUInt32.toUInt16.toUInt32.toInt32) := ⟨_, rfl⟩
  rw [← hv2]
  show own_Go p.tables e below _ (s₁.setTop (mkF m 9 #[.val (.int p0), .val (.int v1), .val (.int v2), .unset] []))
  refine own_go (fun _ k => XS.bipush X0.here hx rfl (hb hby at_9) k) ?_
  show own_Go p.tables e below _ (s₁.setTop (mkF m 11 #[.val (.int p0), .val (.int v1), .val (.int v2), .unset] [(.int (32 : Int32))]))
  obtain ⟨_, _, ⟨T1, L1, k1, n1⟩, -, X1, ⟨Lc1, hQ1, l1, y1, z1⟩, st1⟩ := Jvm.LawKit.callS X0 hx (y := (⟨"com/example/cijing/cijing/text/Text", "isWhitespace", "(C)Z"⟩ : MethodName)) hown (mvT hZ (hw _ (List.mem_of_getElem? (i := 0) rfl))) (mvT hZ (hw _ (List.mem_of_getElem? (i := 1) rfl))) (mvT hZ (hw _ (List.mem_of_getElem? (i := 2) rfl))) (mvT hZ (hw _ (List.mem_of_getElem? (i := 3) rfl))) (by decide) (backOf (W := 0) (rm1 l Z a0 hw [] (32 : Int32) h0 n0 Z0) hZ (hw _ (List.mem_of_getElem? (i := 3) rfl)) (hw _ (List.mem_of_getElem? (i := 2) rfl)) (by decide) (by decide)) (g := (mkF m 11 #[.val (.int p0), .val (.int v1), .val (.int v2), .unset] [(.int (32 : Int32))])) rfl (by rw [hml]; rfl) (argsL := [(.int (32 : Int32))]) (rest := []) (lenOf pd0_0 rfl) rfl (by show 2 * 0 + _ ≤ _; exact Nat.le_of_eq rfl) (hb hby at_11) (fun _ _ => ⟨rfl, e0, (by decide : 0 + 0 ≤ _), (by decide : 0 + 0 ≤ _)⟩)
  dsimp only [Pt.U, Pt.locs, Pt.cells, Pt.slots] at X1 l1 y1 z1 st1 hQ1
  subst l1 y1 z1
  refine own_go st1 ?_
  obtain ⟨rfl, N1q, e1⟩ := hQ1
  have N1 := Fr.app N0 N1q
  show own_Go p.tables e below _ (T1.setTop (mkF m 14 #[.val (.int p0), .val (.int v1), .val (.int v2), .unset] [(.int (own_f1 (32 : Int32)))]))
  have hf14 : ¬ ((own_f1 (32 : Int32)) = (0 : Int32)) := by decide
  refine own_go (fun _ k => XS.ifNo X1.here hx rfl (hb hby at_14) rfl ((if0 _ _).trans (feq hf14).1) k) ?_
  show own_Go p.tables e below _ (T1.setTop (mkF m 17 #[.val (.int p0), .val (.int v1), .val (.int v2), .unset] []))
  refine own_go (fun _ k => XS.bipush X1.here hx rfl (hb hby at_17) k) ?_
  show own_Go p.tables e below _ (T1.setTop (mkF m 19 #[.val (.int p0), .val (.int v1), .val (.int v2), .unset] [(.int (9 : Int32))]))
  obtain ⟨_, _, ⟨T2, L2, k2, n2⟩, -, X2, ⟨Lc2, hQ2, l2, y2, z2⟩, st2⟩ := Jvm.LawKit.callS X1 hx (y := (⟨"com/example/cijing/cijing/text/Text", "isWhitespace", "(C)Z"⟩ : MethodName)) hown (mvT hZ (hw _ (List.mem_of_getElem? (i := 0) rfl))) (mvT hZ (hw _ (List.mem_of_getElem? (i := 1) rfl))) (mvT hZ (hw _ (List.mem_of_getElem? (i := 2) rfl))) (mvT hZ (hw _ (List.mem_of_getElem? (i := 3) rfl))) (by decide) (backOf (W := 0) (rm1 l Z a0 hw [] (9 : Int32) h0 n0 Z0) hZ (hw _ (List.mem_of_getElem? (i := 3) rfl)) (hw _ (List.mem_of_getElem? (i := 2) rfl)) (by decide) (by decide)) (g := (mkF m 19 #[.val (.int p0), .val (.int v1), .val (.int v2), .unset] [(.int (9 : Int32))])) rfl (by rw [hml]; rfl) (argsL := [(.int (9 : Int32))]) (rest := []) (lenOf pd0_0 rfl) rfl (by show 2 * 0 + _ ≤ _; exact Nat.le_of_eq rfl) (hb hby at_19) (fun _ _ => ⟨rfl, (e1 : T1.heap = h0), (by decide : 0 + 0 ≤ _), (by decide : 0 + 0 ≤ _)⟩)
  dsimp only [Pt.U, Pt.locs, Pt.cells, Pt.slots] at X2 l2 y2 z2 st2 hQ2
  subst l2 y2 z2
  refine own_go st2 ?_
  obtain ⟨rfl, N2q, e2⟩ := hQ2
  have N2 := Fr.app N1 N2q
  show own_Go p.tables e below _ (T2.setTop (mkF m 22 #[.val (.int p0), .val (.int v1), .val (.int v2), .unset] [(.int (own_f1 (9 : Int32)))]))
  have hf22 : ¬ ((own_f1 (9 : Int32)) = (0 : Int32)) := by decide
  refine own_go (fun _ k => XS.ifNo X2.here hx rfl (hb hby at_22) rfl ((if0 _ _).trans (feq hf22).1) k) ?_
  show own_Go p.tables e below _ (T2.setTop (mkF m 25 #[.val (.int p0), .val (.int v1), .val (.int v2), .unset] []))
  refine own_go (fun _ k => XS.sipush X2.here hx rfl (hb hby at_25) k) ?_
  show own_Go p.tables e below _ (T2.setTop (mkF m 28 #[.val (.int p0), .val (.int v1), .val (.int v2), .unset] [(.int (12288 : Int32))]))
  obtain ⟨_, _, ⟨T3, L3, k3, n3⟩, -, X3, ⟨Lc3, hQ3, l3, y3, z3⟩, st3⟩ := Jvm.LawKit.callS X2 hx (y := (⟨"com/example/cijing/cijing/text/Text", "isWhitespace", "(C)Z"⟩ : MethodName)) hown (mvT hZ (hw _ (List.mem_of_getElem? (i := 0) rfl))) (mvT hZ (hw _ (List.mem_of_getElem? (i := 1) rfl))) (mvT hZ (hw _ (List.mem_of_getElem? (i := 2) rfl))) (mvT hZ (hw _ (List.mem_of_getElem? (i := 3) rfl))) (by decide) (backOf (W := 0) (rm1 l Z a0 hw [] (12288 : Int32) h0 n0 Z0) hZ (hw _ (List.mem_of_getElem? (i := 3) rfl)) (hw _ (List.mem_of_getElem? (i := 2) rfl)) (by decide) (by decide)) (g := (mkF m 28 #[.val (.int p0), .val (.int v1), .val (.int v2), .unset] [(.int (12288 : Int32))])) rfl (by rw [hml]; rfl) (argsL := [(.int (12288 : Int32))]) (rest := []) (lenOf pd0_0 rfl) rfl (by show 2 * 0 + _ ≤ _; exact Nat.le_of_eq rfl) (hb hby at_28) (fun _ _ => ⟨rfl, (e2 : T2.heap = h0), (by decide : 0 + 0 ≤ _), (by decide : 0 + 0 ≤ _)⟩)
  dsimp only [Pt.U, Pt.locs, Pt.cells, Pt.slots] at X3 l3 y3 z3 st3 hQ3
  subst l3 y3 z3
  refine own_go st3 ?_
  obtain ⟨rfl, N3q, e3⟩ := hQ3
  have N3 := Fr.app N2 N3q
  show own_Go p.tables e below _ (T3.setTop (mkF m 31 #[.val (.int p0), .val (.int v1), .val (.int v2), .unset] [(.int (own_f1 (12288 : Int32)))]))
  have hf31 : ¬ ((own_f1 (12288 : Int32)) = (0 : Int32)) := by decide
  refine own_go (fun _ k => XS.ifNo X3.here hx rfl (hb hby at_31) rfl ((if0 _ _).trans (feq hf31).1) k) ?_
  show own_Go p.tables e below _ (T3.setTop (mkF m 34 #[.val (.int p0), .val (.int v1), .val (.int v2), .unset] []))
  refine own_go (fun _ k => XS.bipush X3.here hx rfl (hb hby at_34) k) ?_
  show own_Go p.tables e below _ (T3.setTop (mkF m 36 #[.val (.int p0), .val (.int v1), .val (.int v2), .unset] [(.int (10 : Int32))]))
  obtain ⟨_, _, ⟨T4, L4, k4, n4⟩, -, X4, ⟨Lc4, hQ4, l4, y4, z4⟩, st4⟩ := Jvm.LawKit.callS X3 hx (y := (⟨"com/example/cijing/cijing/text/Text", "isWhitespace", "(C)Z"⟩ : MethodName)) hown (mvT hZ (hw _ (List.mem_of_getElem? (i := 0) rfl))) (mvT hZ (hw _ (List.mem_of_getElem? (i := 1) rfl))) (mvT hZ (hw _ (List.mem_of_getElem? (i := 2) rfl))) (mvT hZ (hw _ (List.mem_of_getElem? (i := 3) rfl))) (by decide) (backOf (W := 0) (rm1 l Z a0 hw [] (10 : Int32) h0 n0 Z0) hZ (hw _ (List.mem_of_getElem? (i := 3) rfl)) (hw _ (List.mem_of_getElem? (i := 2) rfl)) (by decide) (by decide)) (g := (mkF m 36 #[.val (.int p0), .val (.int v1), .val (.int v2), .unset] [(.int (10 : Int32))])) rfl (by rw [hml]; rfl) (argsL := [(.int (10 : Int32))]) (rest := []) (lenOf pd0_0 rfl) rfl (by show 2 * 0 + _ ≤ _; exact Nat.le_of_eq rfl) (hb hby at_36) (fun _ _ => ⟨rfl, (e3 : T3.heap = h0), (by decide : 0 + 0 ≤ _), (by decide : 0 + 0 ≤ _)⟩)
  dsimp only [Pt.U, Pt.locs, Pt.cells, Pt.slots] at X4 l4 y4 z4 st4 hQ4
  subst l4 y4 z4
  refine own_go st4 ?_
  obtain ⟨rfl, N4q, e4⟩ := hQ4
  have N4 := Fr.app N3 N4q
  show own_Go p.tables e below _ (T4.setTop (mkF m 39 #[.val (.int p0), .val (.int v1), .val (.int v2), .unset] [(.int (own_f1 (10 : Int32)))]))
  have hf39 : (own_f1 (10 : Int32)) = (0 : Int32) := by decide
  refine own_go (fun _ k => XS.ifNo X4.here hx rfl (hb hby at_39) rfl ((if0 _ _).trans (teq hf39).2) k) ?_
  show own_Go p.tables e below _ (T4.setTop (mkF m 42 #[.val (.int p0), .val (.int v1), .val (.int v2), .unset] []))
  refine own_go (fun _ k => XS.bipush X4.here hx rfl (hb hby at_42) k) ?_
  show own_Go p.tables e below _ (T4.setTop (mkF m 44 #[.val (.int p0), .val (.int v1), .val (.int v2), .unset] [(.int (13 : Int32))]))
  obtain ⟨_, _, ⟨T5, L5, k5, n5⟩, -, X5, ⟨Lc5, hQ5, l5, y5, z5⟩, st5⟩ := Jvm.LawKit.callS X4 hx (y := (⟨"com/example/cijing/cijing/text/Text", "isWhitespace", "(C)Z"⟩ : MethodName)) hown (mvT hZ (hw _ (List.mem_of_getElem? (i := 0) rfl))) (mvT hZ (hw _ (List.mem_of_getElem? (i := 1) rfl))) (mvT hZ (hw _ (List.mem_of_getElem? (i := 2) rfl))) (mvT hZ (hw _ (List.mem_of_getElem? (i := 3) rfl))) (by decide) (backOf (W := 0) (rm1 l Z a0 hw [] (13 : Int32) h0 n0 Z0) hZ (hw _ (List.mem_of_getElem? (i := 3) rfl)) (hw _ (List.mem_of_getElem? (i := 2) rfl)) (by decide) (by decide)) (g := (mkF m 44 #[.val (.int p0), .val (.int v1), .val (.int v2), .unset] [(.int (13 : Int32))])) rfl (by rw [hml]; rfl) (argsL := [(.int (13 : Int32))]) (rest := []) (lenOf pd0_0 rfl) rfl (by show 2 * 0 + _ ≤ _; exact Nat.le_of_eq rfl) (hb hby at_44) (fun _ _ => ⟨rfl, (e4 : T4.heap = h0), (by decide : 0 + 0 ≤ _), (by decide : 0 + 0 ≤ _)⟩)
  dsimp only [Pt.U, Pt.locs, Pt.cells, Pt.slots] at X5 l5 y5 z5 st5 hQ5
  subst l5 y5 z5
  refine own_go st5 ?_
  obtain ⟨rfl, N5q, e5⟩ := hQ5
  have N5 := Fr.app N4 N5q
  show own_Go p.tables e below _ (T5.setTop (mkF m 47 #[.val (.int p0), .val (.int v1), .val (.int v2), .unset] [(.int (own_f1 (13 : Int32)))]))
  have hf47 : (own_f1 (13 : Int32)) = (0 : Int32) := by decide
  refine own_go (fun _ k => XS.ifNo X5.here hx rfl (hb hby at_47) rfl ((if0 _ _).trans (teq hf47).2) k) ?_
  show own_Go p.tables e below _ (T5.setTop (mkF m 50 #[.val (.int p0), .val (.int v1), .val (.int v2), .unset] []))
  refine own_go (fun _ k => XS.sipush X5.here hx rfl (hb hby at_50) k) ?_
  show own_Go p.tables e below _ (T5.setTop (mkF m 53 #[.val (.int p0), .val (.int v1), .val (.int v2), .unset] [(.int (160 : Int32))]))
  obtain ⟨_, _, ⟨T6, L6, k6, n6⟩, -, X6, ⟨Lc6, hQ6, l6, y6, z6⟩, st6⟩ := Jvm.LawKit.callS X5 hx (y := (⟨"com/example/cijing/cijing/text/Text", "isWhitespace", "(C)Z"⟩ : MethodName)) hown (mvT hZ (hw _ (List.mem_of_getElem? (i := 0) rfl))) (mvT hZ (hw _ (List.mem_of_getElem? (i := 1) rfl))) (mvT hZ (hw _ (List.mem_of_getElem? (i := 2) rfl))) (mvT hZ (hw _ (List.mem_of_getElem? (i := 3) rfl))) (by decide) (backOf (W := 0) (rm1 l Z a0 hw [] (160 : Int32) h0 n0 Z0) hZ (hw _ (List.mem_of_getElem? (i := 3) rfl)) (hw _ (List.mem_of_getElem? (i := 2) rfl)) (by decide) (by decide)) (g := (mkF m 53 #[.val (.int p0), .val (.int v1), .val (.int v2), .unset] [(.int (160 : Int32))])) rfl (by rw [hml]; rfl) (argsL := [(.int (160 : Int32))]) (rest := []) (lenOf pd0_0 rfl) rfl (by show 2 * 0 + _ ≤ _; exact Nat.le_of_eq rfl) (hb hby at_53) (fun _ _ => ⟨rfl, (e5 : T5.heap = h0), (by decide : 0 + 0 ≤ _), (by decide : 0 + 0 ≤ _)⟩)
  dsimp only [Pt.U, Pt.locs, Pt.cells, Pt.slots] at X6 l6 y6 z6 st6 hQ6
  subst l6 y6 z6
  refine own_go st6 ?_
  obtain ⟨rfl, N6q, e6⟩ := hQ6
  have N6 := Fr.app N5 N6q
  show own_Go p.tables e below _ (T6.setTop (mkF m 56 #[.val (.int p0), .val (.int v1), .val (.int v2), .unset] [(.int (own_f1 (160 : Int32)))]))
  have hf56 : (own_f1 (160 : Int32)) = (0 : Int32) := by decide
  refine own_go (fun _ k => XS.ifNo X6.here hx rfl (hb hby at_56) rfl ((if0 _ _).trans (teq hf56).2) k) ?_
  show own_Go p.tables e below _ (T6.setTop (mkF m 59 #[.val (.int p0), .val (.int v1), .val (.int v2), .unset] []))
  refine own_go (fun _ k => XS.sipush X6.here hx rfl (hb hby at_59) k) ?_
  show own_Go p.tables e below _ (T6.setTop (mkF m 62 #[.val (.int p0), .val (.int v1), .val (.int v2), .unset] [(.int (12287 : Int32))]))
  obtain ⟨_, _, ⟨T7, L7, k7, n7⟩, -, X7, ⟨Lc7, hQ7, l7, y7, z7⟩, st7⟩ := Jvm.LawKit.callS X6 hx (y := (⟨"com/example/cijing/cijing/text/Text", "isWhitespace", "(C)Z"⟩ : MethodName)) hown (mvT hZ (hw _ (List.mem_of_getElem? (i := 0) rfl))) (mvT hZ (hw _ (List.mem_of_getElem? (i := 1) rfl))) (mvT hZ (hw _ (List.mem_of_getElem? (i := 2) rfl))) (mvT hZ (hw _ (List.mem_of_getElem? (i := 3) rfl))) (by decide) (backOf (W := 0) (rm1 l Z a0 hw [] (12287 : Int32) h0 n0 Z0) hZ (hw _ (List.mem_of_getElem? (i := 3) rfl)) (hw _ (List.mem_of_getElem? (i := 2) rfl)) (by decide) (by decide)) (g := (mkF m 62 #[.val (.int p0), .val (.int v1), .val (.int v2), .unset] [(.int (12287 : Int32))])) rfl (by rw [hml]; rfl) (argsL := [(.int (12287 : Int32))]) (rest := []) (lenOf pd0_0 rfl) rfl (by show 2 * 0 + _ ≤ _; exact Nat.le_of_eq rfl) (hb hby at_62) (fun _ _ => ⟨rfl, (e6 : T6.heap = h0), (by decide : 0 + 0 ≤ _), (by decide : 0 + 0 ≤ _)⟩)
  dsimp only [Pt.U, Pt.locs, Pt.cells, Pt.slots] at X7 l7 y7 z7 st7 hQ7
  subst l7 y7 z7
  refine own_go st7 ?_
  obtain ⟨rfl, N7q, e7⟩ := hQ7
  have N7 := Fr.app N6 N7q
  show own_Go p.tables e below _ (T7.setTop (mkF m 65 #[.val (.int p0), .val (.int v1), .val (.int v2), .unset] [(.int (own_f1 (12287 : Int32)))]))
  have hf65 : (own_f1 (12287 : Int32)) = (0 : Int32) := by decide
  refine own_go (fun _ k => XS.ifNo X7.here hx rfl (hb hby at_65) rfl ((if0 _ _).trans (teq hf65).2) k) ?_
  show own_Go p.tables e below _ (T7.setTop (mkF m 68 #[.val (.int p0), .val (.int v1), .val (.int v2), .unset] []))
  refine own_go (fun _ k => XS.sipush X7.here hx rfl (hb hby at_68) k) ?_
  show own_Go p.tables e below _ (T7.setTop (mkF m 71 #[.val (.int p0), .val (.int v1), .val (.int v2), .unset] [(.int (12289 : Int32))]))
  obtain ⟨_, _, ⟨T8, L8, k8, n8⟩, -, X8, ⟨Lc8, hQ8, l8, y8, z8⟩, st8⟩ := Jvm.LawKit.callS X7 hx (y := (⟨"com/example/cijing/cijing/text/Text", "isWhitespace", "(C)Z"⟩ : MethodName)) hown (mvT hZ (hw _ (List.mem_of_getElem? (i := 0) rfl))) (mvT hZ (hw _ (List.mem_of_getElem? (i := 1) rfl))) (mvT hZ (hw _ (List.mem_of_getElem? (i := 2) rfl))) (mvT hZ (hw _ (List.mem_of_getElem? (i := 3) rfl))) (by decide) (backOf (W := 0) (rm1 l Z a0 hw [] (12289 : Int32) h0 n0 Z0) hZ (hw _ (List.mem_of_getElem? (i := 3) rfl)) (hw _ (List.mem_of_getElem? (i := 2) rfl)) (by decide) (by decide)) (g := (mkF m 71 #[.val (.int p0), .val (.int v1), .val (.int v2), .unset] [(.int (12289 : Int32))])) rfl (by rw [hml]; rfl) (argsL := [(.int (12289 : Int32))]) (rest := []) (lenOf pd0_0 rfl) rfl (by show 2 * 0 + _ ≤ _; exact Nat.le_of_eq rfl) (hb hby at_71) (fun _ _ => ⟨rfl, (e7 : T7.heap = h0), (by decide : 0 + 0 ≤ _), (by decide : 0 + 0 ≤ _)⟩)
  dsimp only [Pt.U, Pt.locs, Pt.cells, Pt.slots] at X8 l8 y8 z8 st8 hQ8
  subst l8 y8 z8
  refine own_go st8 ?_
  obtain ⟨rfl, N8q, e8⟩ := hQ8
  have N8 := Fr.app N7 N8q
  show own_Go p.tables e below _ (T8.setTop (mkF m 74 #[.val (.int p0), .val (.int v1), .val (.int v2), .unset] [(.int (own_f1 (12289 : Int32)))]))
  have hf74 : (own_f1 (12289 : Int32)) = (0 : Int32) := by decide
  refine own_go (fun _ k => XS.ifNo X8.here hx rfl (hb hby at_74) rfl ((if0 _ _).trans (teq hf74).2) k) ?_
  show own_Go p.tables e below _ (T8.setTop (mkF m 77 #[.val (.int p0), .val (.int v1), .val (.int v2), .unset] []))
  refine own_go (fun _ k => XS.iconst X8.here hx rfl (hb hby at_77) k) ?_
  show own_Go p.tables e below _ (T8.setTop (mkF m 78 #[.val (.int p0), .val (.int v1), .val (.int v2), .unset] [(.int (1 : Int32))]))
  refine own_go (fun _ k => XS.goto X8.here hx rfl (pc0 := 78) (pc' := 82) rfl (hb hby at_78) (by decide) (by decide) k) ?_
  show own_Go p.tables e below _ (T8.setTop (mkF m 82 #[.val (.int p0), .val (.int v1), .val (.int v2), .unset] [(.int (1 : Int32))]))
  refine own_go (fun _ k => XS.istoreN X8.here hx rfl (hb hby at_82) rfl (l' := #[.val (.int p0), .val (.int v1), .val (.int v2), .val (.int (1 : Int32))]) rfl k) ?_
  show own_Go p.tables e below _ (T8.setTop (mkF m 83 #[.val (.int p0), .val (.int v1), .val (.int v2), .val (.int (1 : Int32))] []))
  refine own_go (fun _ k => XS.iloadN X8.here hx rfl (hb hby at_83) rfl k) ?_
  show own_Go p.tables e below _ (T8.setTop (mkF m 84 #[.val (.int p0), .val (.int v1), .val (.int v2), .val (.int (1 : Int32))] [(.int (1 : Int32))]))
  have hf84 : ¬ ((1 : Int32) = (0 : Int32)) := by decide
  refine own_go (fun _ k => XS.ifNo X8.here hx rfl (hb hby at_84) rfl ((if0 _ _).trans (feq hf84).1) k) ?_
  show own_Go p.tables e below _ (T8.setTop (mkF m 87 #[.val (.int p0), .val (.int v1), .val (.int v2), .val (.int (1 : Int32))] []))
  refine own_go (fun _ k => XS.iloadN X8.here hx rfl (hb hby at_87) rfl k) ?_
  show own_Go p.tables e below _ (T8.setTop (mkF m 88 #[.val (.int p0), .val (.int v1), .val (.int v2), .val (.int (1 : Int32))] [(.int v1)]))
  obtain ⟨_, _, ⟨T9, L9, k9, n9⟩, -, X9, ⟨Lc9, hQ9, l9, y9, z9⟩, st9⟩ := Jvm.LawKit.callS X8 hx (y := (⟨"com/example/cijing/cijing/text/Text", "isWhitespace", "(C)Z"⟩ : MethodName)) hown (mvT hZ (hw _ (List.mem_of_getElem? (i := 0) rfl))) (mvT hZ (hw _ (List.mem_of_getElem? (i := 1) rfl))) (mvT hZ (hw _ (List.mem_of_getElem? (i := 2) rfl))) (mvT hZ (hw _ (List.mem_of_getElem? (i := 3) rfl))) (by decide) (backOf (W := 0) (rm1 l Z a0 hw [] v1 h0 n0 Z0) hZ (hw _ (List.mem_of_getElem? (i := 3) rfl)) (hw _ (List.mem_of_getElem? (i := 2) rfl)) (by decide) (by decide)) (g := (mkF m 88 #[.val (.int p0), .val (.int v1), .val (.int v2), .val (.int (1 : Int32))] [(.int v1)])) rfl (by rw [hml]; rfl) (argsL := [(.int v1)]) (rest := []) (lenOf pd0_0 rfl) rfl (by show 2 * 0 + _ ≤ _; exact Nat.le_of_eq rfl) (hb hby at_88) (fun _ _ => ⟨rfl, (e8 : T8.heap = h0), (by decide : 0 + 0 ≤ _), (by decide : 0 + 0 ≤ _)⟩)
  dsimp only [Pt.U, Pt.locs, Pt.cells, Pt.slots] at X9 l9 y9 z9 st9 hQ9
  subst l9 y9 z9
  refine own_go st9 ?_
  obtain ⟨rfl, N9q, e9⟩ := hQ9
  have N9 := Fr.app N8 N9q
  show own_Go p.tables e below _ (T9.setTop (mkF m 91 #[.val (.int p0), .val (.int v1), .val (.int v2), .val (.int (1 : Int32))] [(.int (own_f1 v1))]))
  refine own_go (fun _ k => XS.iloadN X9.here hx rfl (hb hby at_91) rfl k) ?_
  show own_Go p.tables e below _ (T9.setTop (mkF m 92 #[.val (.int p0), .val (.int v1), .val (.int v2), .val (.int (1 : Int32))] [(.int v1), (.int (own_f1 v1))]))
  obtain ⟨_, _, ⟨T10, L10, k10, n10⟩, -, X10, ⟨Lc10, hQ10, l10, y10, z10⟩, st10⟩ := Jvm.LawKit.callS X9 hx (y := (⟨"com/example/cijing/cijing/text/TextIsWhitespacePinLaw", "expected", "(C)Z"⟩ : MethodName)) hown (mvT hZ (hw _ (List.mem_of_getElem? (i := 4) rfl))) (mvT hZ (hw _ (List.mem_of_getElem? (i := 5) rfl))) (mvT hZ (hw _ (List.mem_of_getElem? (i := 6) rfl))) (mvT hZ (hw _ (List.mem_of_getElem? (i := 7) rfl))) (by decide) (backOf (W := 1) (rm2 l Z a0 hw [] v1 h0 n0 Z0) hZ (hw _ (List.mem_of_getElem? (i := 7) rfl)) (hw _ (List.mem_of_getElem? (i := 6) rfl)) (by decide) (by decide)) (g := (mkF m 92 #[.val (.int p0), .val (.int v1), .val (.int v2), .val (.int (1 : Int32))] [(.int v1), (.int (own_f1 v1))])) rfl (by rw [hml]; rfl) (argsL := [(.int v1)]) (rest := [(.int (own_f1 v1))]) (lenOf pd0_0 rfl) rfl (by show 2 * 0 + _ ≤ _; exact Nat.le_of_eq rfl) (hb hby at_92) (fun _ _ => ⟨rfl, (e9 : T9.heap = h0), (by decide : 0 + 0 ≤ _), (by decide : 0 + 0 ≤ _)⟩)
  dsimp only [Pt.U, Pt.locs, Pt.cells, Pt.slots] at X10 l10 y10 z10 st10 hQ10
  subst l10 y10 z10
  refine own_go st10 ?_
  obtain ⟨rfl, N10q, e10⟩ := hQ10
  have N10 := Fr.app N9 N10q
  show own_Go p.tables e below _ (T10.setTop (mkF m 95 #[.val (.int p0), .val (.int v1), .val (.int v2), .val (.int (1 : Int32))] [(.int (own_f2 v1)), (.int (own_f1 v1))]))
  have hf95 : (own_f1 v1) = (own_f2 v1) := own_v1 (by have := c_i2c p0; rw [hv1]; omega) (by have := c_i2c p0; rw [hv1]; omega)
  refine own_go (fun _ k => XS.icmpNo X10.here hx rfl (hb hby at_95) rfl (teq hf95).2 k) ?_
  show own_Go p.tables e below _ (T10.setTop (mkF m 98 #[.val (.int p0), .val (.int v1), .val (.int v2), .val (.int (1 : Int32))] []))
  refine own_go (fun _ k => XS.iloadN X10.here hx rfl (hb hby at_98) rfl k) ?_
  show own_Go p.tables e below _ (T10.setTop (mkF m 99 #[.val (.int p0), .val (.int v1), .val (.int v2), .val (.int (1 : Int32))] [(.int v2)]))
  obtain ⟨_, _, ⟨T11, L11, k11, n11⟩, -, X11, ⟨Lc11, hQ11, l11, y11, z11⟩, st11⟩ := Jvm.LawKit.callS X10 hx (y := (⟨"com/example/cijing/cijing/text/Text", "isWhitespace", "(C)Z"⟩ : MethodName)) hown (mvT hZ (hw _ (List.mem_of_getElem? (i := 0) rfl))) (mvT hZ (hw _ (List.mem_of_getElem? (i := 1) rfl))) (mvT hZ (hw _ (List.mem_of_getElem? (i := 2) rfl))) (mvT hZ (hw _ (List.mem_of_getElem? (i := 3) rfl))) (by decide) (backOf (W := 0) (rm1 l Z a0 hw [] v2 h0 n0 Z0) hZ (hw _ (List.mem_of_getElem? (i := 3) rfl)) (hw _ (List.mem_of_getElem? (i := 2) rfl)) (by decide) (by decide)) (g := (mkF m 99 #[.val (.int p0), .val (.int v1), .val (.int v2), .val (.int (1 : Int32))] [(.int v2)])) rfl (by rw [hml]; rfl) (argsL := [(.int v2)]) (rest := []) (lenOf pd0_0 rfl) rfl (by show 2 * 0 + _ ≤ _; exact Nat.le_of_eq rfl) (hb hby at_99) (fun _ _ => ⟨rfl, (e10 : T10.heap = h0), (by decide : 0 + 0 ≤ _), (by decide : 0 + 0 ≤ _)⟩)
  dsimp only [Pt.U, Pt.locs, Pt.cells, Pt.slots] at X11 l11 y11 z11 st11 hQ11
  subst l11 y11 z11
  refine own_go st11 ?_
  obtain ⟨rfl, N11q, e11⟩ := hQ11
  have N11 := Fr.app N10 N11q
  show own_Go p.tables e below _ (T11.setTop (mkF m 102 #[.val (.int p0), .val (.int v1), .val (.int v2), .val (.int (1 : Int32))] [(.int (own_f1 v2))]))
  refine own_go (fun _ k => XS.iloadN X11.here hx rfl (hb hby at_102) rfl k) ?_
  show own_Go p.tables e below _ (T11.setTop (mkF m 103 #[.val (.int p0), .val (.int v1), .val (.int v2), .val (.int (1 : Int32))] [(.int v2), (.int (own_f1 v2))]))
  obtain ⟨_, _, ⟨T12, L12, k12, n12⟩, -, X12, ⟨Lc12, hQ12, l12, y12, z12⟩, st12⟩ := Jvm.LawKit.callS X11 hx (y := (⟨"com/example/cijing/cijing/text/TextIsWhitespacePinLaw", "expected", "(C)Z"⟩ : MethodName)) hown (mvT hZ (hw _ (List.mem_of_getElem? (i := 4) rfl))) (mvT hZ (hw _ (List.mem_of_getElem? (i := 5) rfl))) (mvT hZ (hw _ (List.mem_of_getElem? (i := 6) rfl))) (mvT hZ (hw _ (List.mem_of_getElem? (i := 7) rfl))) (by decide) (backOf (W := 1) (rm2 l Z a0 hw [] v2 h0 n0 Z0) hZ (hw _ (List.mem_of_getElem? (i := 7) rfl)) (hw _ (List.mem_of_getElem? (i := 6) rfl)) (by decide) (by decide)) (g := (mkF m 103 #[.val (.int p0), .val (.int v1), .val (.int v2), .val (.int (1 : Int32))] [(.int v2), (.int (own_f1 v2))])) rfl (by rw [hml]; rfl) (argsL := [(.int v2)]) (rest := [(.int (own_f1 v2))]) (lenOf pd0_0 rfl) rfl (by show 2 * 0 + _ ≤ _; exact Nat.le_of_eq rfl) (hb hby at_103) (fun _ _ => ⟨rfl, (e11 : T11.heap = h0), (by decide : 0 + 0 ≤ _), (by decide : 0 + 0 ≤ _)⟩)
  dsimp only [Pt.U, Pt.locs, Pt.cells, Pt.slots] at X12 l12 y12 z12 st12 hQ12
  subst l12 y12 z12
  refine own_go st12 ?_
  obtain ⟨rfl, N12q, e12⟩ := hQ12
  have N12 := Fr.app N11 N12q
  show own_Go p.tables e below _ (T12.setTop (mkF m 106 #[.val (.int p0), .val (.int v1), .val (.int v2), .val (.int (1 : Int32))] [(.int (own_f2 v2)), (.int (own_f1 v2))]))
  have hf106 : (own_f1 v2) = (own_f2 v2) := own_v1 (by have := c_i2c ((p0.toUInt32 >>> ((16 : Int32) &&& 31).toUInt32).toInt32); rw [hv2]; omega) (by have := c_i2c ((p0.toUInt32 >>> ((16 : Int32) &&& 31).toUInt32).toInt32); rw [hv2]; omega)
  refine own_go (fun _ k => XS.icmpNo X12.here hx rfl (hb hby at_106) rfl (teq hf106).2 k) ?_
  show own_Go p.tables e below _ (T12.setTop (mkF m 109 #[.val (.int p0), .val (.int v1), .val (.int v2), .val (.int (1 : Int32))] []))
  refine own_go (fun _ k => XS.iconst X12.here hx rfl (hb hby at_109) k) ?_
  show own_Go p.tables e below _ (T12.setTop (mkF m 110 #[.val (.int p0), .val (.int v1), .val (.int v2), .val (.int (1 : Int32))] [(.int (1 : Int32))]))
  refine own_go (fun _ k => XS.goto X12.here hx rfl (pc0 := 110) (pc' := 114) rfl (hb hby at_110) (by decide) (by decide) k) ?_
  show own_Go p.tables e below _ (T12.setTop (mkF m 114 #[.val (.int p0), .val (.int v1), .val (.int v2), .val (.int (1 : Int32))] [(.int (1 : Int32))]))
  refine own_end X12 Bd.notSynchronized (v := some (.int (1 : Int32))) (fun h => by rw [Bd.returns] at h; cases h) (fun fs hr => retN X12 hx (t := .boolean) Bd.returns (by simp) (hb hby at_114) hr) ?_ (by decide) (by decide)
  exact ⟨rfl, N12⟩
set_option maxRecDepth 65536 in
set_option maxHeartbeats 40000000 in
theorem comes_1 {Post : Tables → Env → Array Value → State → Outcome → State → Prop} (hpost : ∀ tb e args s v u, (limb_1_1.after args s (.returned v) u = true ∧ limb_1_2.after args s (.returned v) u = true ∧ True) → FrameEnd s (.returned v) u (Jvm.fieldLocs frame_1_writes args s ++ Jvm.arrayLocs frame_1_arrays args s ++ Jvm.staticLocs frame_1_statics s) 0 0 → Post tb e args s (.returned v) u) :
    ArmFor flags0 classFile x code maxLocals ret World_1 tables_1 room_1 Calls_1 rest_1 Pre_1 Post := by
  intro l hfl _ _ p e ha hc hk s m args below hf hA hF happ hP
  obtain ⟨hcalls, hrest, hpre⟩ := hP
  obtain ⟨-, -, -, hnamed, -, -, -, hat⟩ := (Spec.applies_iff hf).mp happ
  obtain ⟨hg, hn⟩ := and_e (Cond.before_iff.mp (show (Jvm.Cond.and given_1 narrow_1).before args s = true from hpre))
  obtain ⟨g1, g2⟩ := and_e hg
  obtain ⟨w0, rfl⟩ : ∃ w0 : Value, args = #[w0] := by
    have hs : args.size = 1 := by simpa [Cond.value, given_1] using g1
    obtain ⟨L⟩ := args
    match L, hs with
    | [w0], _ => exact ⟨w0, rfl⟩
  have hw := fun d (hd : d ∈ tables_1) => atoms_spec (ws := Jvm.Cond.code x code maxLocals ret :: tables_1) hat d (List.mem_cons_of_mem _ hd)
  obtain ⟨i0, ei0⟩ := is_v g2
  obtain rfl : w0 = (.int i0) := Option.some.inj ei0
  obtain ⟨n, o, h1, h2, h3, _, L, rfl, ⟨rfl, N⟩, hq⟩ := rm0 l s _ hw tables_1 i0 s.heap s.heap.size (Nat.le_refl _) p e ha hc hk s m _ below hf ((Spec.applies_iff_loose hf).mp happ).1 ⟨rfl, State.Warmed39.refl s, rfl⟩ trivial
  refine ⟨n, _, h1, h2, h3, hpost _ _ _ _ _ _ ⟨Cond.after_iff.mpr rfl, Cond.after_iff.mpr (eq_i res_at (Term.int_eval (1)) rfl), trivial⟩ ⟨hq.1, hq.2.1, (hq.2.2.sift fun y hy => Or.inr (N y hy)).mono (by decide) (by decide)⟩⟩
theorem main_1_1 : Claimed_1_1 := comes_1 fun _ _ _ _ _ _ h hF => ⟨h.1, hF⟩
theorem main_1_2 : Claimed_1_2 := comes_1 fun _ _ _ _ _ _ h hF => ⟨h.2.1, hF⟩
end Jvm.Pilot.@@N@@
namespace Jvm.Pilot.@@N@@
open Jvm Jvm.ClassFile Sem Op Lib Jvm.Free Jvm.Stand Jvm.Pilot.@@N@@.Jvm.D
/-! MADE BY PROGRAM (witnessworld.py) out of the Statement's table words and the real class files: 7 classes; the members and pool entries that the words name. The judged class is class 1, her method 2. -/
namespace start1
open Jvm.ClassFile
def u (s : String) : CpInfo := .utf8 (stringToUtf16 s)
/-- a pool by its gaps: so many unusable entries, then the entry; so many at the end -/
def gap : Nat → List CpInfo → List CpInfo
  | 0, r => r
  | n + 1, r => .unusable :: gap n r
def poolList (es : List (Nat × CpInfo)) (last : Nat) : List CpInfo := es.foldr (fun e r => gap e.1 (e.2 :: r)) (gap last [])
def pool (es : List (Nat × CpInfo)) (last : Nat) : Array CpInfo := ⟨poolList es last⟩
def fileOf (pool : Array CpInfo) (this : Nat) (attrs : Array Attribute := #[]) (ms : Array MethodInfo := #[]) (fl : Nat := 33) (sup : Nat := 0) (ifs : Array Nat := #[]) (fds : Array FieldInfo := #[]) : ClassFile where
  minorVersion := 0
  majorVersion := 65
  constantPool := pool
  accessFlags := fl
  thisClass := this
  superClass := sup
  interfaces := ifs
  fields := fds
  methods := ms
  attributes := attrs
def plain (name : String) (sup : Option ClassId) : Class where
  name := name
  kind := .ordinary
  loader := none
  accessFlags := 33
  super := sup
  interfaces := #[]
  cf := none
  fields := #[]
  methods := #[]
  instanceTypes := #[]
  staticTypes := #[]
  resolved := #[]
  callSites := []
  init := .initialized
  statics := none
  mirror := none

def pool0 : Array CpInfo := pool [(5, u "<init>"), (0, u "()V"), (1, .class_ 10), (1, u "java/lang/Object")] 113

def k0m0 : Method := { name := "<init>", desc := "()V", sig := { parameters := [], returnType := none }, accessFlags := 1, code := none }
/-- java/lang/Object -/
def k0 : Class := { plain "java/lang/Object" none with
  accessFlags := 33
  interfaces := #[]
  cf := some (fileOf pool0 8 #[] #[{ accessFlags := 1, nameIndex := 5, descriptorIndex := 6, attributes := #[] }] 33 0 #[] #[])
  fields := #[]
  methods := #[k0m0]
  instanceTypes := #[]
  staticTypes := #[]
  resolved := Array.replicate 124 none
  statics := none }

def pool1 : Array CpInfo := pool [(2, .class_ 4), (1, u "java/lang/Object"), (0, u "<init>"), (0, u "()V"), (0, .long 9), (1, .long 32), (1, .long 12288), (1, .methodref 14 15), (0, .class_ 16), (0, .nameAndType 17 18), (0, u "com/example/cijing/cijing/text/Text"), (0, u "isWhitespace"), (0, u "(C)Z"), (0, .methodref 20 21), (0, .class_ 22), (0, .nameAndType 23 18), (0, u "com/example/cijing/cijing/text/TextIsWhitespacePinLaw"), (0, u "expected"), (3, u "law"), (0, u "(I)Z")] 2

def k1m0 : Method := { name := "<init>", desc := "()V", sig := { parameters := [], returnType := none }, accessFlags := 2, code := none }
def k1c1 : Code := { maxStack := 6, maxLocals := 3, code := method_2_code, exceptionTable := #[], attributes := #[] }
def k1m1 : Method := { name := "expected", desc := "(C)Z", sig := { parameters := [.char], returnType := some .boolean }, accessFlags := 10, code := some k1c1 }
def k1c2 : Code := { maxStack := 2, maxLocals := 4, code := code, exceptionTable := #[], attributes := #[] }
def k1m2 : Method := { name := "law", desc := "(I)Z", sig := { parameters := [.int], returnType := some .boolean }, accessFlags := 9, code := some k1c2 }
/-- com/example/cijing/cijing/text/TextIsWhitespacePinLaw -/
def k1 : Class := { plain "com/example/cijing/cijing/text/TextIsWhitespacePinLaw" (some 0) with
  accessFlags := 49
  interfaces := #[]
  cf := some (fileOf pool1 20 #[] #[{ accessFlags := 2, nameIndex := 5, descriptorIndex := 6, attributes := #[] }, { accessFlags := 10, nameIndex := 23, descriptorIndex := 18, attributes := #[] }, { accessFlags := 9, nameIndex := 27, descriptorIndex := 28, attributes := #[] }] 49 2 #[] #[])
  fields := #[]
  methods := #[k1m0, k1m1, k1m2]
  instanceTypes := #[]
  staticTypes := #[]
  resolved := Array.replicate 31 none
  statics := none }

def pool2 : Array CpInfo := pool [(2, .class_ 4), (1, u "java/lang/Object"), (0, u "<init>"), (0, u "()V"), (11, .class_ 20), (1, u "com/example/cijing/cijing/text/Text"), (0, u "isWhitespace"), (0, u "(C)Z")] 58

def k2m0 : Method := { name := "<init>", desc := "()V", sig := { parameters := [], returnType := none }, accessFlags := 2, code := none }
def k2c1 : Code := { maxStack := 2, maxLocals := 1, code := prog_51_method_2_code, exceptionTable := #[], attributes := #[] }
def k2m1 : Method := { name := "isWhitespace", desc := "(C)Z", sig := { parameters := [.char], returnType := some .boolean }, accessFlags := 9, code := some k2c1 }
/-- com/example/cijing/cijing/text/Text -/
def k2 : Class := { plain "com/example/cijing/cijing/text/Text" (some 0) with
  accessFlags := 49
  interfaces := #[]
  cf := some (fileOf pool2 18 #[] #[{ accessFlags := 2, nameIndex := 5, descriptorIndex := 6, attributes := #[] }, { accessFlags := 9, nameIndex := 21, descriptorIndex := 22, attributes := #[] }] 49 2 #[] #[])
  fields := #[]
  methods := #[k2m0, k2m1]
  instanceTypes := #[]
  staticTypes := #[]
  resolved := Array.replicate 81 none
  statics := none }

def pool3 : Array CpInfo := pool [(1, u "java/lang/Cloneable"), (0, .class_ 1), (0, u "java/lang/Object"), (0, .class_ 3)] 3

/-- java/lang/Cloneable -/
def k3 : Class := { plain "java/lang/Cloneable" (some 0) with
  accessFlags := 1537
  interfaces := #[]
  cf := some (fileOf pool3 2 #[] #[] 1537 4 #[] #[])
  fields := #[]
  methods := #[]
  instanceTypes := #[]
  staticTypes := #[]
  resolved := Array.replicate 8 none
  statics := none }

def pool4 : Array CpInfo := pool [(1, u "java/io/Serializable"), (0, .class_ 1), (0, u "java/lang/Object"), (0, .class_ 3)] 3

/-- java/io/Serializable -/
def k4 : Class := { plain "java/io/Serializable" (some 0) with
  accessFlags := 1537
  interfaces := #[]
  cf := some (fileOf pool4 2 #[] #[] 1537 4 #[] #[])
  fields := #[]
  methods := #[]
  instanceTypes := #[]
  staticTypes := #[]
  resolved := Array.replicate 8 none
  statics := none }

/-- the primitive byte -/
def k5 : Class := { plain "byte" none with kind := .primitive 'B', accessFlags := 0x411 }
/-- [B -/
def k6 : Class := { plain "[B" (some 0) with kind := .array 5 .byte, interfaces := #[3, 4], accessFlags := 1041 }

def heap : Heap := #[]
def classes : Array Class := #[k0, k1, k2, k3, k4, k5, k6]
def interned : List (Array UInt16 × Addr) := []
def slotsUsed : Nat := 0
def theMethod : MethodId := ⟨1, 2⟩
def args0 : Array Value := #[.int 65]
def aboutOver (below : List Frame) : State where
  vm := { classes := classes, interned := interned.toArray }
  heap := heap
  slotsUsed := slotsUsed
  threads := #[{ frames := .invoking theMethod args0 :: below }]
def below0 : List Frame := [.native { method := ⟨0, 0⟩, args := #[] }]
def about1 : State := aboutOver below0
def p0 : Program := .bare "" "" ""
def e0 : Env := launch0.env 0 0 0
theorem w_frames : about1.frames = Frame.invoking theMethod args0 :: below0 := rfl
set_option maxRecDepth 65536 in
theorem w_args : argsFit about1.vm theMethod args0 = true := by decide +kernel
set_option maxRecDepth 65536 in
theorem w_heap : heapFits about1 = true := by decide +kernel
set_option maxRecDepth 65536 in
theorem w_runnable : about1.curStatus? = some .runnable := by decide +kernel
set_option maxRecDepth 65536 in
theorem w_alone : about1.alone = true := by decide +kernel
set_option maxRecDepth 65536 in
theorem w_named : about1.methodNamed? x = some theMethod := by decide +kernel
set_option maxRecDepth 65536 in
theorem w_hears : about1.hears theMethod below0 = true := by decide +kernel
set_option maxRecDepth 65536 in
theorem w_ripe : about1.ripe theMethod args0 below0 = true := by decide +kernel
theorem w_running : about1.status = .running := rfl
set_option maxRecDepth 65536 in
theorem w_room : about1.hasRoom e0.platform room_1 = true :=
  launch0.hasRoom_least _ room_1 (by decide +kernel) (by decide +kernel) (by decide +kernel) (by decide +kernel) (by decide +kernel) (by decide +kernel)
theorem allAtoms_all (ts : List Jvm.Cond) (a : Array Jvm.Value) (st : Jvm.State) : (allAtoms ts).before a st = ts.all (fun c => c.before a st) := by
  induction ts with
  | nil => rfl
  | cons c t ih =>
    show (Jvm.Cond.and c (allAtoms t)).before a st = _
    rw [Jvm.Cond.before_and, ih, List.all_cons]
def words1 : List Jvm.Cond := Jvm.Cond.code x code maxLocals ret :: tables_1
/-- a 'code' word, met by the world's own term for the bytes: nothing is compared byte by byte -/
theorem code_word {y : MethodName} {bytes : ByteArray} {mx : Nat} {rt : Option FieldType} {a : Array Value} {s : State} {m : MethodId} {meth : Method} {c : Code} (h1 : s.methodNamed? y = some m) (h2 : s.vm.method? m = some meth) (h3 : meth.code = some c) (h4 : c.code = bytes)
    (h5 : (c.maxLocals == mx && c.exceptionTable.isEmpty && decide (c.maxStack ≤ mostOperands) && decide (meth.sig.returnType = rt) && !meth.locks && decide (parseMethodDescriptor y.desc = some meth.sig)) = true) : (Jvm.Cond.code y bytes mx rt).before a s = true := by
  simp only [Bool.and_eq_true, beq_iff_eq, Bool.not_eq_true', decide_eq_true_eq] at h5
  obtain ⟨⟨⟨⟨⟨g1, g2⟩, g3⟩, g4⟩, g5⟩, g6⟩ := h5
  simp [Cond.before, Cond.holds, Cond.value, h1, h2, h3, h4, g1, g2, g3, g4, g5, g6]
def isCode : Jvm.Cond → Bool
  | .code _ _ _ _ => true
  | _ => false
theorem all_split {L : List Jvm.Cond} {P : Jvm.Cond → Bool} (h1 : L.all (fun c => isCode c || P c) = true) (h2 : ∀ c ∈ L.filter isCode, P c = true) : L.all P = true := by
  refine List.all_eq_true.mpr fun c hc => ?_
  have h := List.all_eq_true.mp h1 c hc
  rcases Bool.eq_false_or_eq_true (isCode c) with hi | hi
  · exact h2 c (List.mem_filter.mpr ⟨hc, hi⟩)
  · simpa [hi] using h
set_option maxRecDepth 65536 in
theorem w_c0 : (Jvm.Cond.code x code maxLocals ret).before args0 about1 = true := code_word (m := ⟨1, 2⟩) (meth := k1m2) (c := k1c2) (by decide +kernel) rfl rfl rfl (by decide +kernel)
set_option maxRecDepth 65536 in
theorem w_c1 : (Jvm.Cond.code ({ cls := "com/example/cijing/cijing/text/Text", name := "isWhitespace", desc := "(C)Z" } : Jvm.MethodName) prog_51_method_2_code (1 : Nat) (Option.some Jvm.ClassFile.FieldType.boolean)).before args0 about1 = true := code_word (m := ⟨2, 1⟩) (meth := k2m1) (c := k2c1) (by decide +kernel) rfl rfl rfl (by decide +kernel)
set_option maxRecDepth 65536 in
theorem w_c2 : (Jvm.Cond.code ({ cls := "com/example/cijing/cijing/text/TextIsWhitespacePinLaw", name := "expected", desc := "(C)Z" } : Jvm.MethodName) method_2_code (3 : Nat) (Option.some Jvm.ClassFile.FieldType.boolean)).before args0 about1 = true := code_word (m := ⟨1, 1⟩) (meth := k1m1) (c := k1c1) (by decide +kernel) rfl rfl rfl (by decide +kernel)
def codes1 : List Jvm.Cond := [Jvm.Cond.code x code maxLocals ret, Jvm.Cond.code ({ cls := "com/example/cijing/cijing/text/Text", name := "isWhitespace", desc := "(C)Z" } : Jvm.MethodName) prog_51_method_2_code (1 : Nat) (Option.some Jvm.ClassFile.FieldType.boolean), Jvm.Cond.code ({ cls := "com/example/cijing/cijing/text/TextIsWhitespacePinLaw", name := "expected", desc := "(C)Z" } : Jvm.MethodName) method_2_code (3 : Nat) (Option.some Jvm.ClassFile.FieldType.boolean)]
set_option maxRecDepth 65536 in
theorem codes_eq : words1.filter isCode = codes1 := rfl
theorem w_codes : ∀ c ∈ words1.filter isCode, c.before args0 about1 = true := by
  rw [codes_eq]
  intro c hc
  simp only [codes1, List.mem_cons, List.not_mem_nil, or_false] at hc
  rcases hc with rfl | rfl | rfl
  · exact w_c0
  · exact w_c1
  · exact w_c2
set_option maxRecDepth 65536 in
theorem w_t1 : words1.all (fun c => isCode c || c.before args0 about1) = true := by decide +kernel
theorem w_tables : (allAtoms (Jvm.Cond.code x code maxLocals ret :: tables_1)).before args0 about1 = true := by
  rw [allAtoms_all]
  show words1.all (fun c => c.before args0 about1) = true
  refine all_split ?_ w_codes
  rw [w_t1]
set_option maxRecDepth 65536 in
theorem w_case : (Jvm.Cond.and given_1 narrow_1).before args0 about1 = true := by decide +kernel
theorem w_applies : (headSpec (Jvm.Cond.code x code maxLocals ret :: tables_1) room_1).applies x e0.platform about1 = true :=
  (Spec.applies_iff w_frames).mpr ⟨w_running, w_runnable, w_alone, w_named, w_hears, w_ripe, w_room, w_tables⟩
theorem atStart : AtStart classFile x code maxLocals ret World_1 tables_1 room_1 Calls_1 rest_1 Pre_1 launch0 p0 e0 about1 theMethod args0 below0 :=
  ⟨lists_1, trivial, launch0.admits_env _ _ _, launch0.least_env, fairChoices_fair.cas, fairChoices_fair.clock, w_frames, w_args, w_heap, w_applies, trivial, trivial, w_case⟩
end start1
theorem witness_1 : WitnessClaimed_1 := ⟨start1.p0, start1.e0, start1.about1, start1.theMethod, start1.args0, start1.below0, start1.atStart⟩
end Jvm.Pilot.@@N@@
