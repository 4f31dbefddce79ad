import JvmDerived
import JvmDerived.Pilot.@@N@@Statement
import JvmDerived.Pilot.@@N@@Code
set_option linter.unusedVariables false
set_option linter.unusedSimpArgs false

namespace Jvm.Pilot.@@N@@
open Jvm Jvm.ClassFile Sem Op Lib Jvm.Free Jvm.Stand Jvm.LawKit Jvm.RoadKit Bundle Jvm.Pilot.@@N@@.Jvm.D
/-- the run from U comes to an end of which P holds -/
def own_Go (tb : Tables) (e : Env) (below : List Frame) (P : Outcome → State → Prop) (U : State) : Prop :=
  ∃ s₂ o, Steps tb e below U s₂ ∧ s₂.status = .running ∧ Ended s₂ below o ∧ P o s₂
theorem own_go {tb : Tables} {e : Env} {below : List Frame} {P : Outcome → State → Prop} {U U' : State} (k : ∀ t, Steps tb e below U' t → Steps tb e below U t) (h : own_Go tb e below P U') : own_Go tb e below P U := by
  obtain ⟨t, o, h1, h2⟩ := h
  exact ⟨t, o, k t h1, h2⟩
section Own
variable {p : Program} {l : Launch} {e : Env} {R : Room} {s : State} {m : MethodId} {args : Array Value} {below : List Frame} {meth : Method} {c : Code} {T : State} {locs : List Loc} {cells slots : Nat}
theorem own_retI (X : Stand p l e R s m args below meth c T locs cells slots) (hx : p.tables.exec = Jvm.exec) {pc : Nat} {Ls : Array Slot} {z : Int32} {rest : List Value} (hret : meth.sig.returnType = some .int) (hd : decode c.code pc = .ok (.ireturn, 1)) {fs : List Frame}
    (hl : ∀ (f : JFrame) (acts : List Action), f.method = m → f.locked = none → f.entered = [] → (doReturn e (T.setTop f) acts (some (.int z))).1 = T.setFrames fs) : Steps p.tables e below (T.setTop (mkF m pc Ls (.int z :: rest))) (T.setFrames fs) := by
  have hm' : T.vm.method? m = some meth := X.method'
  have hn : narrow .int (.int z) = .int z := rfl
  show Steps p.tables e below (T.setTop { method := m, pc := pc, locals := Ls, stack := _ :: rest, locked := none }) _
  jvm_step X.here [X.here.top, hx, hd, hm', hret, hn]
  first | (intro acts; rw [hl _ acts rfl rfl rfl]) | rw [hl _ _ rfl rfl rfl]
  exact Steps.refl _
theorem own_retJ (X : Stand p l e R s m args below meth c T locs cells slots) (hx : p.tables.exec = Jvm.exec) {pc : Nat} {Ls : Array Slot} {z : Int64} {rest : List Value} (hret : meth.sig.returnType = some .long) (hd : decode c.code pc = .ok (.lreturn, 1)) {fs : List Frame}
    (hl : ∀ (f : JFrame) (acts : List Action), f.method = m → f.locked = none → f.entered = [] → (doReturn e (T.setTop f) acts (some (.long z))).1 = T.setFrames fs) : Steps p.tables e below (T.setTop (mkF m pc Ls (.long z :: rest))) (T.setFrames fs) := by
  have hm' : T.vm.method? m = some meth := X.method'
  show Steps p.tables e below (T.setTop { method := m, pc := pc, locals := Ls, stack := _ :: rest, locked := none }) _
  jvm_step X.here [X.here.top, hx, hd, hm', hret, narrow]
  first | (intro acts; rw [hl _ acts rfl rfl rfl]) | rw [hl _ _ rfl rfl rfl]
  exact Steps.refl _
theorem own_end {Q : Option Value → Heap → List Loc → Prop} {kc ks : Nat} (X : Stand p l e R s m args below meth c T locs cells slots) (hlocks : meth.locks = false) {g : JFrame} {v : Option Value}
    (hv : meth.sig.returnType = none → v = none)
    (hs : ∀ fs, (∀ (f : JFrame) (acts : List Action), f.method = m → f.locked = none → f.entered = [] → (doReturn e (T.setTop f) acts v).1 = T.setFrames fs) → Steps p.tables e below (T.setTop g) (T.setFrames fs))
    (hQ : Q v T.heap locs) (h1 : cells ≤ kc) (h2 : slots ≤ ks) :
    own_Go p.tables e below (fun o U' => ∃ v L, o = .returned v ∧ Q v U'.heap L ∧ FrameEnd s o U' L kc ks) (T.setTop g) := by
  obtain ⟨fs, hr, hrun, hended, hW, hsame⟩ := X.leave (v := v) hv hlocks
  exact ⟨_, _, hs fs hr, hrun, hended, _, _, rfl, hQ, ⟨_, rfl⟩, hW, hsame.mono h1 h2⟩
end Own
def own_f1 (p0 : Int32) : Int32 :=
  (if p0 < (48 : Int32) then (if p0 < (65296 : Int32) then (0 : Int32) else (if (65305 : Int32) < p0 then (0 : Int32) else (1 : Int32))) else (if (57 : Int32) < p0 then (if p0 < (65296 : Int32) then (0 : Int32) else (if (65305 : Int32) < p0 then (0 : Int32) else (1 : Int32))) else (1 : Int32)))
theorem d1_0 : decode prog_51_method_4_code 0 = .ok (.iload_n 0, 1) := by decide +kernel
theorem d1_1 : decode prog_51_method_4_code 1 = .ok (.bipush 48, 2) := by decide +kernel
theorem d1_3 : decode prog_51_method_4_code 3 = .ok (.if_icmp .lt 9, 3) := by decide +kernel
theorem d1_6 : decode prog_51_method_4_code 6 = .ok (.iload_n 0, 1) := by decide +kernel
theorem d1_7 : decode prog_51_method_4_code 7 = .ok (.bipush 57, 2) := by decide +kernel
theorem d1_9 : decode prog_51_method_4_code 9 = .ok (.if_icmp .le 15, 3) := by decide +kernel
theorem d1_12 : decode prog_51_method_4_code 12 = .ok (.iload_n 0, 1) := by decide +kernel
theorem d1_13 : decode prog_51_method_4_code 13 = .ok (.ldc 23, 2) := by decide +kernel
theorem d1_15 : decode prog_51_method_4_code 15 = .ok (.if_icmp .lt 13, 3) := by decide +kernel
theorem d1_18 : decode prog_51_method_4_code 18 = .ok (.iload_n 0, 1) := by decide +kernel
theorem d1_19 : decode prog_51_method_4_code 19 = .ok (.ldc 24, 2) := by decide +kernel
theorem d1_21 : decode prog_51_method_4_code 21 = .ok (.if_icmp .gt 7, 3) := by decide +kernel
theorem d1_24 : decode prog_51_method_4_code 24 = .ok (.iconst 1, 1) := by decide +kernel
theorem d1_25 : decode prog_51_method_4_code 25 = .ok (.goto 4, 3) := by decide +kernel
theorem d1_28 : decode prog_51_method_4_code 28 = .ok (.iconst 0, 1) := by decide +kernel
theorem d1_29 : decode prog_51_method_4_code 29 = .ok (.ireturn, 1) := by decide +kernel
theorem pn1 : plainName "com/example/cijing/cijing/text/Text" = true := by first | (simp [plainName, overriddenIn]; done) | decide +kernel
theorem ef1 (m : MethodId) (p0 : Int32) : entryFrame m #[(.int p0)] 1 = mkF m 0 #[.val (.int p0)] [] := by first | (simp [entryFrame, mkF, argsToLocals, Value.category]; done) | rfl
def own_Q1 (Z : State) (p0 : Int32) (h0 : Heap) (n0 : Nat) (v : Option Value) (h : Heap) (L : List Loc) : Prop := v = some (.int (own_f1 p0)) ∧ Fr n0 L ∧ h = h0
set_option maxRecDepth 65536 in
set_option maxHeartbeats 40000000 in
theorem rm1 (l : Launch) (Z : State) (a0 : Array Value) (hw : ∀ d ∈ tables_1, d.before a0 Z = true) (ws : List Jvm.Cond) (p0 : Int32) (h0 : Heap) (n0 : Nat) (Z0 : n0 ≤ h0.size) :
    MetFree l (⟨"com/example/cijing/cijing/text/Text", "isDigit", "(C)Z"⟩ : MethodName) (head1 (Jvm.Cond.code (⟨"com/example/cijing/cijing/text/Text", "isDigit", "(C)Z"⟩ : MethodName) prog_51_method_4_code 1 (some .boolean) :: ws) ({ frames := 0, cells := 0, slots := 0, locals := 0 } : Room)) (fun a U => a = #[(.int p0)] ∧ Z.Warmed39 U.vm ∧ U.heap = h0) (fun _ _ _ _ _ => True) (fun _ U o U' => ∃ v L, o = .returned v ∧ own_Q1 Z p0 h0 n0 v U'.heap L ∧ FrameEnd U o U' L ({ frames := 0, cells := 0, slots := 0, locals := 0 } : Room).cells ({ frames := 0, cells := 0, slots := 0, locals := 0 } : Room).slots) := by
  refine MetFree.of_bodySF (plainFor_of_name pn1) hisR ?_
  intro p e s m args below meth c s₁ Bd hml0 hP hK
  obtain ⟨rfl, hZ, hh⟩ := hP
  have hx := Bd.exec
  have hby := Bd.bytes
  have hml : c.maxLocals = 1 := hml0
  have hown : s.vm.findClass "com/example/cijing/cijing/text/Text" = some m.cls := findClass_of_methodNamed Bd.named
  have hnm := (name_of_methodNamed Bd.named Bd.method).1
  have X0 : Stand p l e ({ frames := 0, cells := 0, slots := 0, locals := 0 } : Room) s m #[(.int p0)] below meth c s₁ [] 0 0 := Stand.of_body Bd
  have e0 : s₁.heap = h0 := by rw [← hh, Bd.state]; rfl
  have N0 := Fr.nil n0
  show own_Go p.tables e below (fun o U' => ∃ v L, o = .returned v ∧ own_Q1 Z p0 h0 n0 v U'.heap L ∧ FrameEnd s o U' L ({ frames := 0, cells := 0, slots := 0, locals := 0 } : Room).cells ({ frames := 0, cells := 0, slots := 0, locals := 0 } : Room).slots) (s₁.setTop (entryFrame m #[(.int p0)] 1))
  refine own_go (fun _ k => castTop (ef1 m p0) k) ?_
  show own_Go p.tables e below _ (s₁.setTop (mkF m 0 #[.val (.int p0)] []))
  refine own_go (fun _ k => XS.iloadN X0.here hx rfl (hb hby d1_0) rfl k) ?_
  show own_Go p.tables e below _ (s₁.setTop (mkF m 1 #[.val (.int p0)] [(.int p0)]))
  refine own_go (fun _ k => XS.bipush X0.here hx rfl (hb hby d1_1) k) ?_
  show own_Go p.tables e below _ (s₁.setTop (mkF m 3 #[.val (.int p0)] [(.int (48 : Int32)), (.int p0)]))
  by_cases hc3 : p0 < (48 : Int32)
  · refine own_go (fun _ k => XS.icmpYes X0.here hx rfl (pc0 := 3) (pc' := 12) rfl (hb hby d1_3) rfl (tlt hc3).1 (by decide) (by decide) k) ?_
    show own_Go p.tables e below _ (s₁.setTop (mkF m 12 #[.val (.int p0)] []))
    refine own_go (fun _ k => XS.iloadN X0.here hx rfl (hb hby d1_12) rfl k) ?_
    show own_Go p.tables e below _ (s₁.setTop (mkF m 13 #[.val (.int p0)] [(.int p0)]))
    refine own_go (fun _ k => X0.ldcInt hx hown (mvT hZ (hw _ (List.mem_of_getElem? (i := 5) rfl))) (g := (mkF m 13 #[.val (.int p0)] [(.int p0)])) rfl (hb hby d1_13) _ k) ?_
    show own_Go p.tables e below _ (s₁.setTop (mkF m 15 #[.val (.int p0)] [(.int (65296 : Int32)), (.int p0)]))
    by_cases hc15 : p0 < (65296 : Int32)
    · refine own_go (fun _ k => XS.icmpYes X0.here hx rfl (pc0 := 15) (pc' := 28) rfl (hb hby d1_15) rfl (tlt hc15).1 (by decide) (by decide) k) ?_
      show own_Go p.tables e below _ (s₁.setTop (mkF m 28 #[.val (.int p0)] []))
      refine own_go (fun _ k => XS.iconst X0.here hx rfl (hb hby d1_28) k) ?_
      show own_Go p.tables e below _ (s₁.setTop (mkF m 29 #[.val (.int p0)] [(.int (0 : Int32))]))
      refine own_end X0 Bd.notSynchronized (v := some (.int (0 : Int32))) (fun h => by rw [Bd.returns] at h; cases h) (fun fs hr => retN X0 hx (t := .boolean) Bd.returns (by simp) (hb hby d1_29) hr) ?_ (by decide) (by decide)
      exact ⟨by rw [own_f1, if_pos hc3, if_pos hc15], N0, e0⟩
    · refine own_go (fun _ k => XS.icmpNo X0.here hx rfl (hb hby d1_15) rfl (flt hc15).1 k) ?_
      show own_Go p.tables e below _ (s₁.setTop (mkF m 18 #[.val (.int p0)] []))
      refine own_go (fun _ k => XS.iloadN X0.here hx rfl (hb hby d1_18) rfl k) ?_
      show own_Go p.tables e below _ (s₁.setTop (mkF m 19 #[.val (.int p0)] [(.int p0)]))
      refine own_go (fun _ k => X0.ldcInt hx hown (mvT hZ (hw _ (List.mem_of_getElem? (i := 11) rfl))) (g := (mkF m 19 #[.val (.int p0)] [(.int p0)])) rfl (hb hby d1_19) _ k) ?_
      show own_Go p.tables e below _ (s₁.setTop (mkF m 21 #[.val (.int p0)] [(.int (65305 : Int32)), (.int p0)]))
      by_cases hc21 : (65305 : Int32) < p0
      · refine own_go (fun _ k => XS.icmpYes X0.here hx rfl (pc0 := 21) (pc' := 28) rfl (hb hby d1_21) rfl (tlt hc21).2.2.1 (by decide) (by decide) k) ?_
        show own_Go p.tables e below _ (s₁.setTop (mkF m 28 #[.val (.int p0)] []))
        refine own_go (fun _ k => XS.iconst X0.here hx rfl (hb hby d1_28) k) ?_
        show own_Go p.tables e below _ (s₁.setTop (mkF m 29 #[.val (.int p0)] [(.int (0 : Int32))]))
        refine own_end X0 Bd.notSynchronized (v := some (.int (0 : Int32))) (fun h => by rw [Bd.returns] at h; cases h) (fun fs hr => retN X0 hx (t := .boolean) Bd.returns (by simp) (hb hby d1_29) hr) ?_ (by decide) (by decide)
        exact ⟨by rw [own_f1, if_pos hc3, if_neg hc15, if_pos hc21], N0, e0⟩
      · refine own_go (fun _ k => XS.icmpNo X0.here hx rfl (hb hby d1_21) rfl (flt hc21).2.2.1 k) ?_
        show own_Go p.tables e below _ (s₁.setTop (mkF m 24 #[.val (.int p0)] []))
        refine own_go (fun _ k => XS.iconst X0.here hx rfl (hb hby d1_24) k) ?_
        show own_Go p.tables e below _ (s₁.setTop (mkF m 25 #[.val (.int p0)] [(.int (1 : Int32))]))
        refine own_go (fun _ k => XS.goto X0.here hx rfl (pc0 := 25) (pc' := 29) rfl (hb hby d1_25) (by decide) (by decide) k) ?_
        show own_Go p.tables e below _ (s₁.setTop (mkF m 29 #[.val (.int p0)] [(.int (1 : Int32))]))
        refine own_end X0 Bd.notSynchronized (v := some (.int (1 : Int32))) (fun h => by rw [Bd.returns] at h; cases h) (fun fs hr => retN X0 hx (t := .boolean) Bd.returns (by simp) (hb hby d1_29) hr) ?_ (by decide) (by decide)
        exact ⟨by rw [own_f1, if_pos hc3, if_neg hc15, if_neg hc21], N0, e0⟩
  · refine own_go (fun _ k => XS.icmpNo X0.here hx rfl (hb hby d1_3) rfl (flt hc3).1 k) ?_
    show own_Go p.tables e below _ (s₁.setTop (mkF m 6 #[.val (.int p0)] []))
    refine own_go (fun _ k => XS.iloadN X0.here hx rfl (hb hby d1_6) rfl k) ?_
    show own_Go p.tables e below _ (s₁.setTop (mkF m 7 #[.val (.int p0)] [(.int p0)]))
    refine own_go (fun _ k => XS.bipush X0.here hx rfl (hb hby d1_7) k) ?_
    show own_Go p.tables e below _ (s₁.setTop (mkF m 9 #[.val (.int p0)] [(.int (57 : Int32)), (.int p0)]))
    by_cases hc9 : (57 : Int32) < p0
    · refine own_go (fun _ k => XS.icmpNo X0.here hx rfl (hb hby d1_9) rfl (tlt hc9).2.2.2 k) ?_
      show own_Go p.tables e below _ (s₁.setTop (mkF m 12 #[.val (.int p0)] []))
      refine own_go (fun _ k => XS.iloadN X0.here hx rfl (hb hby d1_12) rfl k) ?_
      show own_Go p.tables e below _ (s₁.setTop (mkF m 13 #[.val (.int p0)] [(.int p0)]))
      refine own_go (fun _ k => X0.ldcInt hx hown (mvT hZ (hw _ (List.mem_of_getElem? (i := 5) rfl))) (g := (mkF m 13 #[.val (.int p0)] [(.int p0)])) rfl (hb hby d1_13) _ k) ?_
      show own_Go p.tables e below _ (s₁.setTop (mkF m 15 #[.val (.int p0)] [(.int (65296 : Int32)), (.int p0)]))
      by_cases hc15 : p0 < (65296 : Int32)
      · refine own_go (fun _ k => XS.icmpYes X0.here hx rfl (pc0 := 15) (pc' := 28) rfl (hb hby d1_15) rfl (tlt hc15).1 (by decide) (by decide) k) ?_
        show own_Go p.tables e below _ (s₁.setTop (mkF m 28 #[.val (.int p0)] []))
        refine own_go (fun _ k => XS.iconst X0.here hx rfl (hb hby d1_28) k) ?_
        show own_Go p.tables e below _ (s₁.setTop (mkF m 29 #[.val (.int p0)] [(.int (0 : Int32))]))
        refine own_end X0 Bd.notSynchronized (v := some (.int (0 : Int32))) (fun h => by rw [Bd.returns] at h; cases h) (fun fs hr => retN X0 hx (t := .boolean) Bd.returns (by simp) (hb hby d1_29) hr) ?_ (by decide) (by decide)
        exact ⟨by rw [own_f1, if_neg hc3, if_pos hc9, if_pos hc15], N0, e0⟩
      · refine own_go (fun _ k => XS.icmpNo X0.here hx rfl (hb hby d1_15) rfl (flt hc15).1 k) ?_
        show own_Go p.tables e below _ (s₁.setTop (mkF m 18 #[.val (.int p0)] []))
        refine own_go (fun _ k => XS.iloadN X0.here hx rfl (hb hby d1_18) rfl k) ?_
        show own_Go p.tables e below _ (s₁.setTop (mkF m 19 #[.val (.int p0)] [(.int p0)]))
        refine own_go (fun _ k => X0.ldcInt hx hown (mvT hZ (hw _ (List.mem_of_getElem? (i := 11) rfl))) (g := (mkF m 19 #[.val (.int p0)] [(.int p0)])) rfl (hb hby d1_19) _ k) ?_
        show own_Go p.tables e below _ (s₁.setTop (mkF m 21 #[.val (.int p0)] [(.int (65305 : Int32)), (.int p0)]))
        by_cases hc21 : (65305 : Int32) < p0
        · refine own_go (fun _ k => XS.icmpYes X0.here hx rfl (pc0 := 21) (pc' := 28) rfl (hb hby d1_21) rfl (tlt hc21).2.2.1 (by decide) (by decide) k) ?_
          show own_Go p.tables e below _ (s₁.setTop (mkF m 28 #[.val (.int p0)] []))
          refine own_go (fun _ k => XS.iconst X0.here hx rfl (hb hby d1_28) k) ?_
          show own_Go p.tables e below _ (s₁.setTop (mkF m 29 #[.val (.int p0)] [(.int (0 : Int32))]))
          refine own_end X0 Bd.notSynchronized (v := some (.int (0 : Int32))) (fun h => by rw [Bd.returns] at h; cases h) (fun fs hr => retN X0 hx (t := .boolean) Bd.returns (by simp) (hb hby d1_29) hr) ?_ (by decide) (by decide)
          exact ⟨by rw [own_f1, if_neg hc3, if_pos hc9, if_neg hc15, if_pos hc21], N0, e0⟩
        · refine own_go (fun _ k => XS.icmpNo X0.here hx rfl (hb hby d1_21) rfl (flt hc21).2.2.1 k) ?_
          show own_Go p.tables e below _ (s₁.setTop (mkF m 24 #[.val (.int p0)] []))
          refine own_go (fun _ k => XS.iconst X0.here hx rfl (hb hby d1_24) k) ?_
          show own_Go p.tables e below _ (s₁.setTop (mkF m 25 #[.val (.int p0)] [(.int (1 : Int32))]))
          refine own_go (fun _ k => XS.goto X0.here hx rfl (pc0 := 25) (pc' := 29) rfl (hb hby d1_25) (by decide) (by decide) k) ?_
          show own_Go p.tables e below _ (s₁.setTop (mkF m 29 #[.val (.int p0)] [(.int (1 : Int32))]))
          refine own_end X0 Bd.notSynchronized (v := some (.int (1 : Int32))) (fun h => by rw [Bd.returns] at h; cases h) (fun fs hr => retN X0 hx (t := .boolean) Bd.returns (by simp) (hb hby d1_29) hr) ?_ (by decide) (by decide)
          exact ⟨by rw [own_f1, if_neg hc3, if_pos hc9, if_neg hc15, if_neg hc21], N0, e0⟩
    · refine own_go (fun _ k => XS.icmpYes X0.here hx rfl (pc0 := 9) (pc' := 24) rfl (hb hby d1_9) rfl (flt hc9).2.2.2 (by decide) (by decide) k) ?_
      show own_Go p.tables e below _ (s₁.setTop (mkF m 24 #[.val (.int p0)] []))
      refine own_go (fun _ k => XS.iconst X0.here hx rfl (hb hby d1_24) k) ?_
      show own_Go p.tables e below _ (s₁.setTop (mkF m 25 #[.val (.int p0)] [(.int (1 : Int32))]))
      refine own_go (fun _ k => XS.goto X0.here hx rfl (pc0 := 25) (pc' := 29) rfl (hb hby d1_25) (by decide) (by decide) k) ?_
      show own_Go p.tables e below _ (s₁.setTop (mkF m 29 #[.val (.int p0)] [(.int (1 : Int32))]))
      refine own_end X0 Bd.notSynchronized (v := some (.int (1 : Int32))) (fun h => by rw [Bd.returns] at h; cases h) (fun fs hr => retN X0 hx (t := .boolean) Bd.returns (by simp) (hb hby d1_29) hr) ?_ (by decide) (by decide)
      exact ⟨by rw [own_f1, if_neg hc3, if_neg hc9], N0, e0⟩
def own_f2 (p0 : Int32) : Int32 :=
  (if (p0 - (48 : Int32)) < (0 : Int32) then (if (p0 - (65296 : Int32)) < (0 : Int32) then (0 : Int32) else (if (p0 - (65296 : Int32)) < (10 : Int32) then (1 : Int32) else (0 : Int32))) else (if (p0 - (48 : Int32)) < (10 : Int32) then (1 : Int32) else (if (p0 - (65296 : Int32)) < (0 : Int32) then (0 : Int32) else (if (p0 - (65296 : Int32)) < (10 : Int32) then (1 : Int32) else (0 : Int32)))))
theorem d2_0 : decode method_2_code 0 = .ok (.iload_n 0, 1) := by decide +kernel
theorem d2_1 : decode method_2_code 1 = .ok (.bipush 48, 2) := by decide +kernel
theorem d2_3 : decode method_2_code 3 = .ok (.isub, 1) := by decide +kernel
theorem d2_4 : decode method_2_code 4 = .ok (.istore_n 1, 1) := by decide +kernel
theorem d2_5 : decode method_2_code 5 = .ok (.iload_n 0, 1) := by decide +kernel
theorem d2_6 : decode method_2_code 6 = .ok (.ldc 7, 2) := by decide +kernel
theorem d2_8 : decode method_2_code 8 = .ok (.isub, 1) := by decide +kernel
theorem d2_9 : decode method_2_code 9 = .ok (.istore_n 2, 1) := by decide +kernel
theorem d2_10 : decode method_2_code 10 = .ok (.iload_n 1, 1) := by decide +kernel
theorem d2_11 : decode method_2_code 11 = .ok (.ifCond .lt 9, 3) := by decide +kernel
theorem d2_14 : decode method_2_code 14 = .ok (.iload_n 1, 1) := by decide +kernel
theorem d2_15 : decode method_2_code 15 = .ok (.bipush 10, 2) := by decide +kernel
theorem d2_17 : decode method_2_code 17 = .ok (.if_icmp .lt 13, 3) := by decide +kernel
theorem d2_20 : decode method_2_code 20 = .ok (.iload_n 2, 1) := by decide +kernel
theorem d2_21 : decode method_2_code 21 = .ok (.ifCond .lt 13, 3) := by decide +kernel
theorem d2_24 : decode method_2_code 24 = .ok (.iload_n 2, 1) := by decide +kernel
theorem d2_25 : decode method_2_code 25 = .ok (.bipush 10, 2) := by decide +kernel
theorem d2_27 : decode method_2_code 27 = .ok (.if_icmp .ge 7, 3) := by decide +kernel
theorem d2_30 : decode method_2_code 30 = .ok (.iconst 1, 1) := by decide +kernel
theorem d2_31 : decode method_2_code 31 = .ok (.goto 4, 3) := by decide +kernel
theorem d2_34 : decode method_2_code 34 = .ok (.iconst 0, 1) := by decide +kernel
theorem d2_35 : decode method_2_code 35 = .ok (.ireturn, 1) := by decide +kernel
theorem pn2 : plainName "com/example/cijing/cijing/text/TextIsDigitPinLaw" = true := by first | (simp [plainName, overriddenIn]; done) | decide +kernel
theorem ef2 (m : MethodId) (p0 : Int32) : entryFrame m #[(.int p0)] 3 = mkF m 0 #[.val (.int p0), .unset, .unset] [] := by first | (simp [entryFrame, mkF, argsToLocals, Value.category]; done) | rfl
def own_Q2 (Z : State) (p0 : Int32) (h0 : Heap) (n0 : Nat) (v : Option Value) (h : Heap) (L : List Loc) : Prop := v = some (.int (own_f2 p0)) ∧ Fr n0 L ∧ h = h0
set_option maxRecDepth 65536 in
set_option maxHeartbeats 40000000 in
theorem rm2 (l : Launch) (Z : State) (a0 : Array Value) (hw : ∀ d ∈ tables_1, d.before a0 Z = true) (ws : List Jvm.Cond) (p0 : Int32) (h0 : Heap) (n0 : Nat) (Z0 : n0 ≤ h0.size) :
    MetFree l (⟨"com/example/cijing/cijing/text/TextIsDigitPinLaw", "reference", "(I)Z"⟩ : MethodName) (head1 (Jvm.Cond.code (⟨"com/example/cijing/cijing/text/TextIsDigitPinLaw", "reference", "(I)Z"⟩ : MethodName) method_2_code 3 (some .boolean) :: ws) ({ frames := 0, cells := 0, slots := 0, locals := 0 } : Room)) (fun a U => a = #[(.int p0)] ∧ Z.Warmed39 U.vm ∧ U.heap = h0) (fun _ _ _ _ _ => True) (fun _ U o U' => ∃ v L, o = .returned v ∧ own_Q2 Z p0 h0 n0 v U'.heap L ∧ FrameEnd U o U' L ({ frames := 0, cells := 0, slots := 0, locals := 0 } : Room).cells ({ frames := 0, cells := 0, slots := 0, locals := 0 } : Room).slots) := by
  refine MetFree.of_bodySF (plainFor_of_name pn2) hisR ?_
  intro p e s m args below meth c s₁ Bd hml0 hP hK
  obtain ⟨rfl, hZ, hh⟩ := hP
  have hx := Bd.exec
  have hby := Bd.bytes
  have hml : c.maxLocals = 3 := hml0
  have hown : s.vm.findClass "com/example/cijing/cijing/text/TextIsDigitPinLaw" = some m.cls := findClass_of_methodNamed Bd.named
  have hnm := (name_of_methodNamed Bd.named Bd.method).1
  have X0 : Stand p l e ({ frames := 0, cells := 0, slots := 0, locals := 0 } : Room) s m #[(.int p0)] below meth c s₁ [] 0 0 := Stand.of_body Bd
  have e0 : s₁.heap = h0 := by rw [← hh, Bd.state]; rfl
  have N0 := Fr.nil n0
  show own_Go p.tables e below (fun o U' => ∃ v L, o = .returned v ∧ own_Q2 Z p0 h0 n0 v U'.heap L ∧ FrameEnd s o U' L ({ frames := 0, cells := 0, slots := 0, locals := 0 } : Room).cells ({ frames := 0, cells := 0, slots := 0, locals := 0 } : Room).slots) (s₁.setTop (entryFrame m #[(.int p0)] 3))
  refine own_go (fun _ k => castTop (ef2 m p0) k) ?_
  show own_Go p.tables e below _ (s₁.setTop (mkF m 0 #[.val (.int p0), .unset, .unset] []))
  refine own_go (fun _ k => XS.iloadN X0.here hx rfl (hb hby d2_0) rfl k) ?_
  show own_Go p.tables e below _ (s₁.setTop (mkF m 1 #[.val (.int p0), .unset, .unset] [(.int p0)]))
  refine own_go (fun _ k => XS.bipush X0.here hx rfl (hb hby d2_1) k) ?_
  show own_Go p.tables e below _ (s₁.setTop (mkF m 3 #[.val (.int p0), .unset, .unset] [(.int (48 : Int32)), (.int p0)]))
  refine own_go (fun _ k => XS.isub X0.here hx rfl (hb hby d2_3) rfl k) ?_
  show own_Go p.tables e below _ (s₁.setTop (mkF m 4 #[.val (.int p0), .unset, .unset] [(.int (p0 - (48 : Int32)))]))
  refine own_go (fun _ k => XS.istoreN X0.here hx rfl (hb hby d2_4) rfl (l' := #[.val (.int p0), .val (.int (p0 - (48 : Int32))), .unset]) rfl k) ?_
  show own_Go p.tables e below _ (s₁.setTop (mkF m 5 #[.val (.int p0), .val (.int (p0 - (48 : Int32))), .unset] []))
  refine own_go (fun _ k => XS.iloadN X0.here hx rfl (hb hby d2_5) rfl k) ?_
  show own_Go p.tables e below _ (s₁.setTop (mkF m 6 #[.val (.int p0), .val (.int (p0 - (48 : Int32))), .unset] [(.int p0)]))
  refine own_go (fun _ k => X0.ldcInt hx hown (mvT hZ (hw _ (List.mem_of_getElem? (i := 10) rfl))) (g := (mkF m 6 #[.val (.int p0), .val (.int (p0 - (48 : Int32))), .unset] [(.int p0)])) rfl (hb hby d2_6) _ k) ?_
  show own_Go p.tables e below _ (s₁.setTop (mkF m 8 #[.val (.int p0), .val (.int (p0 - (48 : Int32))), .unset] [(.int (65296 : Int32)), (.int p0)]))
  refine own_go (fun _ k => XS.isub X0.here hx rfl (hb hby d2_8) rfl k) ?_
  show own_Go p.tables e below _ (s₁.setTop (mkF m 9 #[.val (.int p0), .val (.int (p0 - (48 : Int32))), .unset] [(.int (p0 - (65296 : Int32)))]))
  refine own_go (fun _ k => XS.istoreN X0.here hx rfl (hb hby d2_9) rfl (l' := #[.val (.int p0), .val (.int (p0 - (48 : Int32))), .val (.int (p0 - (65296 : Int32)))]) rfl k) ?_
  show own_Go p.tables e below _ (s₁.setTop (mkF m 10 #[.val (.int p0), .val (.int (p0 - (48 : Int32))), .val (.int (p0 - (65296 : Int32)))] []))
  refine own_go (fun _ k => XS.iloadN X0.here hx rfl (hb hby d2_10) rfl k) ?_
  show own_Go p.tables e below _ (s₁.setTop (mkF m 11 #[.val (.int p0), .val (.int (p0 - (48 : Int32))), .val (.int (p0 - (65296 : Int32)))] [(.int (p0 - (48 : Int32)))]))
  by_cases hc11 : (p0 - (48 : Int32)) < (0 : Int32)
  · refine own_go (fun _ k => XS.ifYes X0.here hx rfl (pc0 := 11) (pc' := 20) rfl (hb hby d2_11) rfl ((if0 _ _).trans (tlt hc11).1) (by decide) (by decide) k) ?_
    show own_Go p.tables e below _ (s₁.setTop (mkF m 20 #[.val (.int p0), .val (.int (p0 - (48 : Int32))), .val (.int (p0 - (65296 : Int32)))] []))
    refine own_go (fun _ k => XS.iloadN X0.here hx rfl (hb hby d2_20) rfl k) ?_
    show own_Go p.tables e below _ (s₁.setTop (mkF m 21 #[.val (.int p0), .val (.int (p0 - (48 : Int32))), .val (.int (p0 - (65296 : Int32)))] [(.int (p0 - (65296 : Int32)))]))
    by_cases hc21 : (p0 - (65296 : Int32)) < (0 : Int32)
    · refine own_go (fun _ k => XS.ifYes X0.here hx rfl (pc0 := 21) (pc' := 34) rfl (hb hby d2_21) rfl ((if0 _ _).trans (tlt hc21).1) (by decide) (by decide) k) ?_
      show own_Go p.tables e below _ (s₁.setTop (mkF m 34 #[.val (.int p0), .val (.int (p0 - (48 : Int32))), .val (.int (p0 - (65296 : Int32)))] []))
      refine own_go (fun _ k => XS.iconst X0.here hx rfl (hb hby d2_34) k) ?_
      show own_Go p.tables e below _ (s₁.setTop (mkF m 35 #[.val (.int p0), .val (.int (p0 - (48 : Int32))), .val (.int (p0 - (65296 : Int32)))] [(.int (0 : Int32))]))
      refine own_end X0 Bd.notSynchronized (v := some (.int (0 : Int32))) (fun h => by rw [Bd.returns] at h; cases h) (fun fs hr => retN X0 hx (t := .boolean) Bd.returns (by simp) (hb hby d2_35) hr) ?_ (by decide) (by decide)
      exact ⟨by rw [own_f2, if_pos hc11, if_pos hc21], N0, e0⟩
    · refine own_go (fun _ k => XS.ifNo X0.here hx rfl (hb hby d2_21) rfl ((if0 _ _).trans (flt hc21).1) k) ?_
      show own_Go p.tables e below _ (s₁.setTop (mkF m 24 #[.val (.int p0), .val (.int (p0 - (48 : Int32))), .val (.int (p0 - (65296 : Int32)))] []))
      refine own_go (fun _ k => XS.iloadN X0.here hx rfl (hb hby d2_24) rfl k) ?_
      show own_Go p.tables e below _ (s₁.setTop (mkF m 25 #[.val (.int p0), .val (.int (p0 - (48 : Int32))), .val (.int (p0 - (65296 : Int32)))] [(.int (p0 - (65296 : Int32)))]))
      refine own_go (fun _ k => XS.bipush X0.here hx rfl (hb hby d2_25) k) ?_
      show own_Go p.tables e below _ (s₁.setTop (mkF m 27 #[.val (.int p0), .val (.int (p0 - (48 : Int32))), .val (.int (p0 - (65296 : Int32)))] [(.int (10 : Int32)), (.int (p0 - (65296 : Int32)))]))
      by_cases hc27 : (p0 - (65296 : Int32)) < (10 : Int32)
      · refine own_go (fun _ k => XS.icmpNo X0.here hx rfl (hb hby d2_27) rfl (tlt hc27).2.1 k) ?_
        show own_Go p.tables e below _ (s₁.setTop (mkF m 30 #[.val (.int p0), .val (.int (p0 - (48 : Int32))), .val (.int (p0 - (65296 : Int32)))] []))
        refine own_go (fun _ k => XS.iconst X0.here hx rfl (hb hby d2_30) k) ?_
        show own_Go p.tables e below _ (s₁.setTop (mkF m 31 #[.val (.int p0), .val (.int (p0 - (48 : Int32))), .val (.int (p0 - (65296 : Int32)))] [(.int (1 : Int32))]))
        refine own_go (fun _ k => XS.goto X0.here hx rfl (pc0 := 31) (pc' := 35) rfl (hb hby d2_31) (by decide) (by decide) k) ?_
        show own_Go p.tables e below _ (s₁.setTop (mkF m 35 #[.val (.int p0), .val (.int (p0 - (48 : Int32))), .val (.int (p0 - (65296 : Int32)))] [(.int (1 : Int32))]))
        refine own_end X0 Bd.notSynchronized (v := some (.int (1 : Int32))) (fun h => by rw [Bd.returns] at h; cases h) (fun fs hr => retN X0 hx (t := .boolean) Bd.returns (by simp) (hb hby d2_35) hr) ?_ (by decide) (by decide)
        exact ⟨by rw [own_f2, if_pos hc11, if_neg hc21, if_pos hc27], N0, e0⟩
      · refine own_go (fun _ k => XS.icmpYes X0.here hx rfl (pc0 := 27) (pc' := 34) rfl (hb hby d2_27) rfl (flt hc27).2.1 (by decide) (by decide) k) ?_
        show own_Go p.tables e below _ (s₁.setTop (mkF m 34 #[.val (.int p0), .val (.int (p0 - (48 : Int32))), .val (.int (p0 - (65296 : Int32)))] []))
        refine own_go (fun _ k => XS.iconst X0.here hx rfl (hb hby d2_34) k) ?_
        show own_Go p.tables e below _ (s₁.setTop (mkF m 35 #[.val (.int p0), .val (.int (p0 - (48 : Int32))), .val (.int (p0 - (65296 : Int32)))] [(.int (0 : Int32))]))
        refine own_end X0 Bd.notSynchronized (v := some (.int (0 : Int32))) (fun h => by rw [Bd.returns] at h; cases h) (fun fs hr => retN X0 hx (t := .boolean) Bd.returns (by simp) (hb hby d2_35) hr) ?_ (by decide) (by decide)
        exact ⟨by rw [own_f2, if_pos hc11, if_neg hc21, if_neg hc27], N0, e0⟩
  · refine own_go (fun _ k => XS.ifNo X0.here hx rfl (hb hby d2_11) rfl ((if0 _ _).trans (flt hc11).1) k) ?_
    show own_Go p.tables e below _ (s₁.setTop (mkF m 14 #[.val (.int p0), .val (.int (p0 - (48 : Int32))), .val (.int (p0 - (65296 : Int32)))] []))
    refine own_go (fun _ k => XS.iloadN X0.here hx rfl (hb hby d2_14) rfl k) ?_
    show own_Go p.tables e below _ (s₁.setTop (mkF m 15 #[.val (.int p0), .val (.int (p0 - (48 : Int32))), .val (.int (p0 - (65296 : Int32)))] [(.int (p0 - (48 : Int32)))]))
    refine own_go (fun _ k => XS.bipush X0.here hx rfl (hb hby d2_15) k) ?_
    show own_Go p.tables e below _ (s₁.setTop (mkF m 17 #[.val (.int p0), .val (.int (p0 - (48 : Int32))), .val (.int (p0 - (65296 : Int32)))] [(.int (10 : Int32)), (.int (p0 - (48 : Int32)))]))
    by_cases hc17 : (p0 - (48 : Int32)) < (10 : Int32)
    · refine own_go (fun _ k => XS.icmpYes X0.here hx rfl (pc0 := 17) (pc' := 30) rfl (hb hby d2_17) rfl (tlt hc17).1 (by decide) (by decide) k) ?_
      show own_Go p.tables e below _ (s₁.setTop (mkF m 30 #[.val (.int p0), .val (.int (p0 - (48 : Int32))), .val (.int (p0 - (65296 : Int32)))] []))
      refine own_go (fun _ k => XS.iconst X0.here hx rfl (hb hby d2_30) k) ?_
      show own_Go p.tables e below _ (s₁.setTop (mkF m 31 #[.val (.int p0), .val (.int (p0 - (48 : Int32))), .val (.int (p0 - (65296 : Int32)))] [(.int (1 : Int32))]))
      refine own_go (fun _ k => XS.goto X0.here hx rfl (pc0 := 31) (pc' := 35) rfl (hb hby d2_31) (by decide) (by decide) k) ?_
      show own_Go p.tables e below _ (s₁.setTop (mkF m 35 #[.val (.int p0), .val (.int (p0 - (48 : Int32))), .val (.int (p0 - (65296 : Int32)))] [(.int (1 : Int32))]))
      refine own_end X0 Bd.notSynchronized (v := some (.int (1 : Int32))) (fun h => by rw [Bd.returns] at h; cases h) (fun fs hr => retN X0 hx (t := .boolean) Bd.returns (by simp) (hb hby d2_35) hr) ?_ (by decide) (by decide)
      exact ⟨by rw [own_f2, if_neg hc11, if_pos hc17], N0, e0⟩
    · refine own_go (fun _ k => XS.icmpNo X0.here hx rfl (hb hby d2_17) rfl (flt hc17).1 k) ?_
      show own_Go p.tables e below _ (s₁.setTop (mkF m 20 #[.val (.int p0), .val (.int (p0 - (48 : Int32))), .val (.int (p0 - (65296 : Int32)))] []))
      refine own_go (fun _ k => XS.iloadN X0.here hx rfl (hb hby d2_20) rfl k) ?_
      show own_Go p.tables e below _ (s₁.setTop (mkF m 21 #[.val (.int p0), .val (.int (p0 - (48 : Int32))), .val (.int (p0 - (65296 : Int32)))] [(.int (p0 - (65296 : Int32)))]))
      by_cases hc21 : (p0 - (65296 : Int32)) < (0 : Int32)
      · refine own_go (fun _ k => XS.ifYes X0.here hx rfl (pc0 := 21) (pc' := 34) rfl (hb hby d2_21) rfl ((if0 _ _).trans (tlt hc21).1) (by decide) (by decide) k) ?_
        show own_Go p.tables e below _ (s₁.setTop (mkF m 34 #[.val (.int p0), .val (.int (p0 - (48 : Int32))), .val (.int (p0 - (65296 : Int32)))] []))
        refine own_go (fun _ k => XS.iconst X0.here hx rfl (hb hby d2_34) k) ?_
        show own_Go p.tables e below _ (s₁.setTop (mkF m 35 #[.val (.int p0), .val (.int (p0 - (48 : Int32))), .val (.int (p0 - (65296 : Int32)))] [(.int (0 : Int32))]))
        refine own_end X0 Bd.notSynchronized (v := some (.int (0 : Int32))) (fun h => by rw [Bd.returns] at h; cases h) (fun fs hr => retN X0 hx (t := .boolean) Bd.returns (by simp) (hb hby d2_35) hr) ?_ (by decide) (by decide)
        exact ⟨by rw [own_f2, if_neg hc11, if_neg hc17, if_pos hc21], N0, e0⟩
      · refine own_go (fun _ k => XS.ifNo X0.here hx rfl (hb hby d2_21) rfl ((if0 _ _).trans (flt hc21).1) k) ?_
        show own_Go p.tables e below _ (s₁.setTop (mkF m 24 #[.val (.int p0), .val (.int (p0 - (48 : Int32))), .val (.int (p0 - (65296 : Int32)))] []))
        refine own_go (fun _ k => XS.iloadN X0.here hx rfl (hb hby d2_24) rfl k) ?_
        show own_Go p.tables e below _ (s₁.setTop (mkF m 25 #[.val (.int p0), .val (.int (p0 - (48 : Int32))), .val (.int (p0 - (65296 : Int32)))] [(.int (p0 - (65296 : Int32)))]))
        refine own_go (fun _ k => XS.bipush X0.here hx rfl (hb hby d2_25) k) ?_
        show own_Go p.tables e below _ (s₁.setTop (mkF m 27 #[.val (.int p0), .val (.int (p0 - (48 : Int32))), .val (.int (p0 - (65296 : Int32)))] [(.int (10 : Int32)), (.int (p0 - (65296 : Int32)))]))
        by_cases hc27 : (p0 - (65296 : Int32)) < (10 : Int32)
        · refine own_go (fun _ k => XS.icmpNo X0.here hx rfl (hb hby d2_27) rfl (tlt hc27).2.1 k) ?_
          show own_Go p.tables e below _ (s₁.setTop (mkF m 30 #[.val (.int p0), .val (.int (p0 - (48 : Int32))), .val (.int (p0 - (65296 : Int32)))] []))
          refine own_go (fun _ k => XS.iconst X0.here hx rfl (hb hby d2_30) k) ?_
          show own_Go p.tables e below _ (s₁.setTop (mkF m 31 #[.val (.int p0), .val (.int (p0 - (48 : Int32))), .val (.int (p0 - (65296 : Int32)))] [(.int (1 : Int32))]))
          refine own_go (fun _ k => XS.goto X0.here hx rfl (pc0 := 31) (pc' := 35) rfl (hb hby d2_31) (by decide) (by decide) k) ?_
          show own_Go p.tables e below _ (s₁.setTop (mkF m 35 #[.val (.int p0), .val (.int (p0 - (48 : Int32))), .val (.int (p0 - (65296 : Int32)))] [(.int (1 : Int32))]))
          refine own_end X0 Bd.notSynchronized (v := some (.int (1 : Int32))) (fun h => by rw [Bd.returns] at h; cases h) (fun fs hr => retN X0 hx (t := .boolean) Bd.returns (by simp) (hb hby d2_35) hr) ?_ (by decide) (by decide)
          exact ⟨by rw [own_f2, if_neg hc11, if_neg hc17, if_neg hc21, if_pos hc27], N0, e0⟩
        · refine own_go (fun _ k => XS.icmpYes X0.here hx rfl (pc0 := 27) (pc' := 34) rfl (hb hby d2_27) rfl (flt hc27).2.1 (by decide) (by decide) k) ?_
          show own_Go p.tables e below _ (s₁.setTop (mkF m 34 #[.val (.int p0), .val (.int (p0 - (48 : Int32))), .val (.int (p0 - (65296 : Int32)))] []))
          refine own_go (fun _ k => XS.iconst X0.here hx rfl (hb hby d2_34) k) ?_
          show own_Go p.tables e below _ (s₁.setTop (mkF m 35 #[.val (.int p0), .val (.int (p0 - (48 : Int32))), .val (.int (p0 - (65296 : Int32)))] [(.int (0 : Int32))]))
          refine own_end X0 Bd.notSynchronized (v := some (.int (0 : Int32))) (fun h => by rw [Bd.returns] at h; cases h) (fun fs hr => retN X0 hx (t := .boolean) Bd.returns (by simp) (hb hby d2_35) hr) ?_ (by decide) (by decide)
          exact ⟨by rw [own_f2, if_neg hc11, if_neg hc17, if_neg hc21, if_neg hc27], N0, e0⟩
theorem own_k : (48 : Int32).toInt = 48 ∧ (57 : Int32).toInt = 57 ∧ (65296 : Int32).toInt = 65296 ∧ (65305 : Int32).toInt = 65305 ∧ (10 : Int32).toInt = 10 ∧ (0 : Int32).toInt = 0 := by decide
theorem own_v1 {x c : Int32} (hc : c = x.toUInt32.toUInt16.toUInt32.toInt32) : own_f1 c = own_f2 c := by
  have e1 := c_i2c x
  rw [← hc] at e1
  obtain ⟨k1, k2, k3, k4, k5, k6⟩ := own_k
  have e2 := c_isub c 48
  have e3 := c_isub c 65296
  have r2 := rng32 (c - 48)
  have r3 := rng32 (c - 65296)
  simp only [own_f1, own_f2, Int32.lt_iff_toInt_lt, k1, k2, k3, k4, k5, k6]
  rw [k1] at e2
  rw [k3] at e3
  clear hc
  repeat' split
  all_goals first | rfl | (exfalso; omega)
theorem own_v2 {d v : Int32} (hv : v = ((d &&& 2147483647) - ((d &&& 2147483647) / 10) * 10)) :
    own_f1 ((48 + v).toUInt32.toUInt16.toUInt32.toInt32) = 1 ∧ own_f1 ((65296 + v).toUInt32.toUInt16.toUInt32.toInt32) = 1 := by
  have e1 := c_mask d 2147483647 31 (by decide) (by decide)
  have e2 := c_irem (d &&& 2147483647) 10 10 (by decide)
  rw [← irem_eq_mod, ← hv] at e2
  have e3 := c_iadd 48 v
  have e4 := c_iadd 65296 v
  have e5 := c_i2c (48 + v)
  have e6 := c_i2c (65296 + v)
  obtain ⟨k1, k2, k3, k4, k5, k6⟩ := own_k
  have r3 := rng32 (48 + v)
  have r4 := rng32 (65296 + v)
  rw [k1] at e3
  rw [k3] at e4
  simp only [own_f1, Int32.lt_iff_toInt_lt, k1, k2, k3, k4]
  generalize (48 + v).toUInt32.toUInt16.toUInt32.toInt32 = y at *
  generalize (65296 + v).toUInt32.toUInt16.toUInt32.toInt32 = z at *
  constructor
  · repeat' split
    all_goals first | rfl | (exfalso; omega)
  · repeat' split
    all_goals first | rfl | (exfalso; omega)
theorem pn0 : plainName "com/example/cijing/cijing/text/TextIsDigitPinLaw" = true := by first | (simp [plainName, overriddenIn]; done) | decide +kernel
theorem pd0_0 : parseMethodDescriptor "(C)Z" = some ⟨[.char], some .boolean⟩ := by decide +kernel
theorem pd0_1 : parseMethodDescriptor "(I)Z" = some ⟨[.int], some .boolean⟩ := by decide +kernel
theorem ef0 (m : MethodId) (p0 : Int32) (p1 : Int32) : entryFrame m #[(.int p0), (.int p1)] maxLocals = mkF m 0 #[.val (.int p0), .val (.int p1), .unset, .unset, .unset, .unset, .unset, .unset, .unset] [] := by first | (simp [entryFrame, mkF, argsToLocals, Value.category, maxLocals]; done) | rfl
def own_Q0 (Z : State) (p0 : Int32) (p1 : Int32) (h0 : Heap) (n0 : Nat) (v : Option Value) (h : Heap) (L : List Loc) : Prop := v = some (.int 1) ∧ Fr n0 L
set_option maxRecDepth 65536 in
set_option maxHeartbeats 40000000 in
theorem rm0 (l : Launch) (Z : State) (a0 : Array Value) (hw : ∀ d ∈ tables_1, d.before a0 Z = true) (ws : List Jvm.Cond) (p0 : Int32) (p1 : Int32) (h0 : Heap) (n0 : Nat) (Z0 : n0 ≤ h0.size) :
    MetFree l x (head1 (Jvm.Cond.code x code maxLocals ret :: ws) room_1) (fun a U => a = #[(.int p0), (.int p1)] ∧ Z.Warmed39 U.vm ∧ U.heap = h0) (fun _ _ _ _ _ => True) (fun _ U o U' => ∃ v L, o = .returned v ∧ own_Q0 Z p0 p1 h0 n0 v U'.heap L ∧ FrameEnd U o U' L 0 0) := by
  refine MetFree.of_bodySF (plainFor_of_name pn0) hisR ?_
  intro p e s m args below meth c s₁ Bd hml0 hP hK
  obtain ⟨rfl, hZ, hh⟩ := hP
  have hx := Bd.exec
  have hby := Bd.bytes
  have hml : c.maxLocals = 9 := hml0
  have hown : s.vm.findClass "com/example/cijing/cijing/text/TextIsDigitPinLaw" = some m.cls := findClass_of_methodNamed Bd.named
  have hnm := (name_of_methodNamed Bd.named Bd.method).1
  have X0 : Stand p l e room_1 s m #[(.int p0), (.int p1)] below meth c s₁ [] 0 0 := Stand.of_body Bd
  have e0 : s₁.heap = h0 := by rw [← hh, Bd.state]; rfl
  have N0 := Fr.nil n0
  show own_Go p.tables e below (fun o U' => ∃ v L, o = .returned v ∧ own_Q0 Z p0 p1 h0 n0 v U'.heap L ∧ FrameEnd s o U' L 0 0) (s₁.setTop (entryFrame m #[(.int p0), (.int p1)] maxLocals))
  refine own_go (fun _ k => castTop (ef0 m p0 p1) k) ?_
  show own_Go p.tables e below _ (s₁.setTop (mkF m 0 #[.val (.int p0), .val (.int p1), .unset, .unset, .unset, .unset, .unset, .unset, .unset] []))
  refine own_go (fun _ k => XS.iloadN X0.here hx rfl (hb hby at_0) rfl k) ?_
  show own_Go p.tables e below _ (s₁.setTop (mkF m 1 #[.val (.int p0), .val (.int p1), .unset, .unset, .unset, .unset, .unset, .unset, .unset] [(.int p0)]))
  refine own_go (fun _ k => XS.i2c X0.here hx rfl (hb hby at_1) rfl k) ?_
  show own_Go p.tables e below _ (s₁.setTop (mkF m 2 #[.val (.int p0), .val (.int p1), .unset, .unset, .unset, .unset, .unset, .unset, .unset] [(.int (p0.toUInt32.toUInt16.toUInt32.toInt32))]))
  refine own_go (fun _ k => XS.istoreN X0.here hx rfl (hb hby at_2) rfl (l' := #[.val (.int p0), .val (.int p1), .val (.int (p0.toUInt32.toUInt16.toUInt32.toInt32)), .unset, .unset, .unset, .unset, .unset, .unset]) rfl k) ?_
  show own_Go p.tables e below _ (s₁.setTop (mkF m 3 #[.val (.int p0), .val (.int p1), .val (.int (p0.toUInt32.toUInt16.toUInt32.toInt32)), .unset, .unset, .unset, .unset, .unset, .unset] []))
  obtain ⟨vc, hvc⟩ : ∃ z : Int32, z = (p0.toUInt32.toUInt16.toUInt32.toInt32) := ⟨_, rfl⟩
  rw [← hvc]
  show own_Go p.tables e below _ (s₁.setTop (mkF m 3 #[.val (.int p0), .val (.int p1), .val (.int vc), .unset, .unset, .unset, .unset, .unset, .unset] []))
  refine own_go (fun _ k => XS.iloadN X0.here hx rfl (hb hby at_3) rfl k) ?_
  show own_Go p.tables e below _ (s₁.setTop (mkF m 4 #[.val (.int p0), .val (.int p1), .val (.int vc), .unset, .unset, .unset, .unset, .unset, .unset] [(.int vc)]))
  refine own_go (fun _ k => XS.istoreN X0.here hx rfl (hb hby at_4) rfl (l' := #[.val (.int p0), .val (.int p1), .val (.int vc), .val (.int vc), .unset, .unset, .unset, .unset, .unset]) rfl k) ?_
  show own_Go p.tables e below _ (s₁.setTop (mkF m 5 #[.val (.int p0), .val (.int p1), .val (.int vc), .val (.int vc), .unset, .unset, .unset, .unset, .unset] []))
  refine own_go (fun _ k => XS.iloadN X0.here hx rfl (hb hby at_5) rfl k) ?_
  show own_Go p.tables e below _ (s₁.setTop (mkF m 6 #[.val (.int p0), .val (.int p1), .val (.int vc), .val (.int vc), .unset, .unset, .unset, .unset, .unset] [(.int p1)]))
  refine own_go (fun _ k => X0.ldcInt hx hown (mvT hZ (hw _ (List.mem_of_getElem? (i := 0) rfl))) (g := (mkF m 6 #[.val (.int p0), .val (.int p1), .val (.int vc), .val (.int vc), .unset, .unset, .unset, .unset, .unset] [(.int p1)])) rfl (hb hby at_6) _ k) ?_
  show own_Go p.tables e below _ (s₁.setTop (mkF m 8 #[.val (.int p0), .val (.int p1), .val (.int vc), .val (.int vc), .unset, .unset, .unset, .unset, .unset] [(.int (2147483647 : Int32)), (.int p1)]))
  refine own_go (fun _ k => XS.iand X0.here hx rfl (hb hby at_8) rfl k) ?_
  show own_Go p.tables e below _ (s₁.setTop (mkF m 9 #[.val (.int p0), .val (.int p1), .val (.int vc), .val (.int vc), .unset, .unset, .unset, .unset, .unset] [(.int (p1 &&& (2147483647 : Int32)))]))
  refine own_go (fun _ k => XS.bipush X0.here hx rfl (hb hby at_9) k) ?_
  show own_Go p.tables e below _ (s₁.setTop (mkF m 11 #[.val (.int p0), .val (.int p1), .val (.int vc), .val (.int vc), .unset, .unset, .unset, .unset, .unset] [(.int (10 : Int32)), (.int (p1 &&& (2147483647 : Int32)))]))
  refine own_go (fun _ k => XS.irem X0.here hx rfl (hb hby at_11) rfl (by decide) k) ?_
  show own_Go p.tables e below _ (s₁.setTop (mkF m 12 #[.val (.int p0), .val (.int p1), .val (.int vc), .val (.int vc), .unset, .unset, .unset, .unset, .unset] [(.int ((p1 &&& (2147483647 : Int32)) - ((p1 &&& (2147483647 : Int32)) / (10 : Int32)) * (10 : Int32)))]))
  refine own_go (fun _ k => XS.istore X0.here hx rfl (hb hby at_12) rfl (l' := #[.val (.int p0), .val (.int p1), .val (.int vc), .val (.int vc), .val (.int ((p1 &&& (2147483647 : Int32)) - ((p1 &&& (2147483647 : Int32)) / (10 : Int32)) * (10 : Int32))), .unset, .unset, .unset, .unset]) rfl k) ?_
  show own_Go p.tables e below _ (s₁.setTop (mkF m 14 #[.val (.int p0), .val (.int p1), .val (.int vc), .val (.int vc), .val (.int ((p1 &&& (2147483647 : Int32)) - ((p1 &&& (2147483647 : Int32)) / (10 : Int32)) * (10 : Int32))), .unset, .unset, .unset, .unset] []))
  obtain ⟨vv, hvv⟩ : ∃ z : Int32, z = ((p1 &&& (2147483647 : Int32)) - ((p1 &&& (2147483647 : Int32)) / (10 : Int32)) * (10 : Int32)) := ⟨_, rfl⟩
  rw [← hvv]
  show own_Go p.tables e below _ (s₁.setTop (mkF m 14 #[.val (.int p0), .val (.int p1), .val (.int vc), .val (.int vc), .val (.int vv), .unset, .unset, .unset, .unset] []))
  refine own_go (fun _ k => XS.iloadN X0.here hx rfl (hb hby at_14) rfl k) ?_
  show own_Go p.tables e below _ (s₁.setTop (mkF m 15 #[.val (.int p0), .val (.int p1), .val (.int vc), .val (.int vc), .val (.int vv), .unset, .unset, .unset, .unset] [(.int vc)]))
  obtain ⟨_, _, ⟨T1, L1, k1, n1⟩, -, X1, ⟨Lc1, hQ1, l1, y1, z1⟩, st1⟩ := Jvm.LawKit.callS X0 hx (y := (⟨"com/example/cijing/cijing/text/Text", "isDigit", "(C)Z"⟩ : MethodName)) hown (mvT hZ (hw _ (List.mem_of_getElem? (i := 1) rfl))) (mvT hZ (hw _ (List.mem_of_getElem? (i := 2) rfl))) (mvT hZ (hw _ (List.mem_of_getElem? (i := 3) rfl))) (mvT hZ (hw _ (List.mem_of_getElem? (i := 4) rfl))) (by decide) (backOf (W := 0) (rm1 l Z a0 hw [] vc h0 n0 Z0) hZ (hw _ (List.mem_of_getElem? (i := 4) rfl)) (hw _ (List.mem_of_getElem? (i := 3) rfl)) (by decide) (by decide)) (g := (mkF m 15 #[.val (.int p0), .val (.int p1), .val (.int vc), .val (.int vc), .val (.int vv), .unset, .unset, .unset, .unset] [(.int vc)])) rfl (by rw [hml]; rfl) (argsL := [(.int vc)]) (rest := []) (lenOf pd0_0 rfl) rfl (by show 2 * 0 + _ ≤ _; exact Nat.le_of_eq rfl) (hb hby at_15) (fun _ _ => ⟨rfl, e0, (by decide : 0 + 0 ≤ _), (by decide : 0 + 0 ≤ _)⟩)
  dsimp only [Pt.U, Pt.locs, Pt.cells, Pt.slots] at X1 l1 y1 z1 st1 hQ1
  subst l1 y1 z1
  refine own_go st1 ?_
  obtain ⟨rfl, N1q, e1⟩ := hQ1
  have N1 := Fr.app N0 N1q
  show own_Go p.tables e below _ (T1.setTop (mkF m 18 #[.val (.int p0), .val (.int p1), .val (.int vc), .val (.int vc), .val (.int vv), .unset, .unset, .unset, .unset] [(.int (own_f1 vc))]))
  refine own_go (fun _ k => XS.iloadN X1.here hx rfl (hb hby at_18) rfl k) ?_
  show own_Go p.tables e below _ (T1.setTop (mkF m 19 #[.val (.int p0), .val (.int p1), .val (.int vc), .val (.int vc), .val (.int vv), .unset, .unset, .unset, .unset] [(.int vc), (.int (own_f1 vc))]))
  obtain ⟨_, _, ⟨T2, L2, k2, n2⟩, -, X2, ⟨Lc2, hQ2, l2, y2, z2⟩, st2⟩ := Jvm.LawKit.callS X1 hx (y := (⟨"com/example/cijing/cijing/text/TextIsDigitPinLaw", "reference", "(I)Z"⟩ : MethodName)) hown (mvT hZ (hw _ (List.mem_of_getElem? (i := 6) rfl))) (mvT hZ (hw _ (List.mem_of_getElem? (i := 7) rfl))) (mvT hZ (hw _ (List.mem_of_getElem? (i := 8) rfl))) (mvT hZ (hw _ (List.mem_of_getElem? (i := 9) rfl))) (by decide) (backOf (W := 1) (rm2 l Z a0 hw [] vc h0 n0 Z0) hZ (hw _ (List.mem_of_getElem? (i := 9) rfl)) (hw _ (List.mem_of_getElem? (i := 8) rfl)) (by decide) (by decide)) (g := (mkF m 19 #[.val (.int p0), .val (.int p1), .val (.int vc), .val (.int vc), .val (.int vv), .unset, .unset, .unset, .unset] [(.int vc), (.int (own_f1 vc))])) rfl (by rw [hml]; rfl) (argsL := [(.int vc)]) (rest := [(.int (own_f1 vc))]) (lenOf pd0_1 rfl) rfl (by show 2 * 0 + _ ≤ _; exact Nat.le_of_eq rfl) (hb hby at_19) (fun _ _ => ⟨rfl, (e1 : T1.heap = h0), (by decide : 0 + 0 ≤ _), (by decide : 0 + 0 ≤ _)⟩)
  dsimp only [Pt.U, Pt.locs, Pt.cells, Pt.slots] at X2 l2 y2 z2 st2 hQ2
  subst l2 y2 z2
  refine own_go st2 ?_
  obtain ⟨rfl, N2q, e2⟩ := hQ2
  have N2 := Fr.app N1 N2q
  show own_Go p.tables e below _ (T2.setTop (mkF m 22 #[.val (.int p0), .val (.int p1), .val (.int vc), .val (.int vc), .val (.int vv), .unset, .unset, .unset, .unset] [(.int (own_f2 vc)), (.int (own_f1 vc))]))
  have sg3 : ∀ t, Steps p.tables e below (T2.setTop (mkF m 30 #[.val (.int p0), .val (.int p1), .val (.int vc), .val (.int vc), .val (.int vv), .unset, .unset, .unset, .unset] [(.int (if (own_f1 vc) = (own_f2 vc) then (1 : Int32) else (0 : Int32)))])) t → Steps p.tables e below (T2.setTop (mkF m 22 #[.val (.int p0), .val (.int p1), .val (.int vc), .val (.int vc), .val (.int vv), .unset, .unset, .unset, .unset] [(.int (own_f2 vc)), (.int (own_f1 vc))])) t := by
    intro t k
    by_cases hc22 : (own_f1 vc) = (own_f2 vc)
    · try simp only [if_pos hc22] at k
      refine XS.icmpNo X2.here hx rfl (hb hby at_22) rfl (teq hc22).2 ?_
      show Steps p.tables e below (T2.setTop (mkF m 25 #[.val (.int p0), .val (.int p1), .val (.int vc), .val (.int vc), .val (.int vv), .unset, .unset, .unset, .unset] [])) _
      refine XS.iconst X2.here hx rfl (hb hby at_25) ?_
      show Steps p.tables e below (T2.setTop (mkF m 26 #[.val (.int p0), .val (.int p1), .val (.int vc), .val (.int vc), .val (.int vv), .unset, .unset, .unset, .unset] [(.int (1 : Int32))])) _
      refine XS.goto X2.here hx rfl (pc0 := 26) (pc' := 30) rfl (hb hby at_26) (by decide) (by decide) ?_
      show Steps p.tables e below (T2.setTop (mkF m 30 #[.val (.int p0), .val (.int p1), .val (.int vc), .val (.int vc), .val (.int vv), .unset, .unset, .unset, .unset] [(.int (1 : Int32))])) _
      exact k
    · try simp only [if_neg hc22] at k
      refine XS.icmpYes X2.here hx rfl (pc0 := 22) (pc' := 29) rfl (hb hby at_22) rfl (feq hc22).2 (by decide) (by decide) ?_
      show Steps p.tables e below (T2.setTop (mkF m 29 #[.val (.int p0), .val (.int p1), .val (.int vc), .val (.int vc), .val (.int vv), .unset, .unset, .unset, .unset] [])) _
      refine XS.iconst X2.here hx rfl (hb hby at_29) ?_
      show Steps p.tables e below (T2.setTop (mkF m 30 #[.val (.int p0), .val (.int p1), .val (.int vc), .val (.int vc), .val (.int vv), .unset, .unset, .unset, .unset] [(.int (0 : Int32))])) _
      exact k
  refine own_go sg3 ?_
  show own_Go p.tables e below _ (T2.setTop (mkF m 30 #[.val (.int p0), .val (.int p1), .val (.int vc), .val (.int vc), .val (.int vv), .unset, .unset, .unset, .unset] [(.int (if (own_f1 vc) = (own_f2 vc) then (1 : Int32) else (0 : Int32)))]))
  refine own_go (fun _ k => XS.istore X2.here hx rfl (hb hby at_30) rfl (l' := #[.val (.int p0), .val (.int p1), .val (.int vc), .val (.int vc), .val (.int vv), .val (.int (if (own_f1 vc) = (own_f2 vc) then (1 : Int32) else (0 : Int32))), .unset, .unset, .unset]) rfl k) ?_
  show own_Go p.tables e below _ (T2.setTop (mkF m 32 #[.val (.int p0), .val (.int p1), .val (.int vc), .val (.int vc), .val (.int vv), .val (.int (if (own_f1 vc) = (own_f2 vc) then (1 : Int32) else (0 : Int32))), .unset, .unset, .unset] []))
  refine own_go (fun _ k => XS.bipush X2.here hx rfl (hb hby at_32) k) ?_
  show own_Go p.tables e below _ (T2.setTop (mkF m 34 #[.val (.int p0), .val (.int p1), .val (.int vc), .val (.int vc), .val (.int vv), .val (.int (if (own_f1 vc) = (own_f2 vc) then (1 : Int32) else (0 : Int32))), .unset, .unset, .unset] [(.int (48 : Int32))]))
  refine own_go (fun _ k => XS.iload X2.here hx rfl (hb hby at_34) rfl k) ?_
  show own_Go p.tables e below _ (T2.setTop (mkF m 36 #[.val (.int p0), .val (.int p1), .val (.int vc), .val (.int vc), .val (.int vv), .val (.int (if (own_f1 vc) = (own_f2 vc) then (1 : Int32) else (0 : Int32))), .unset, .unset, .unset] [(.int vv), (.int (48 : Int32))]))
  refine own_go (fun _ k => XS.iadd X2.here hx rfl (hb hby at_36) rfl k) ?_
  show own_Go p.tables e below _ (T2.setTop (mkF m 37 #[.val (.int p0), .val (.int p1), .val (.int vc), .val (.int vc), .val (.int vv), .val (.int (if (own_f1 vc) = (own_f2 vc) then (1 : Int32) else (0 : Int32))), .unset, .unset, .unset] [(.int ((48 : Int32) + vv))]))
  refine own_go (fun _ k => XS.i2c X2.here hx rfl (hb hby at_37) rfl k) ?_
  show own_Go p.tables e below _ (T2.setTop (mkF m 38 #[.val (.int p0), .val (.int p1), .val (.int vc), .val (.int vc), .val (.int vv), .val (.int (if (own_f1 vc) = (own_f2 vc) then (1 : Int32) else (0 : Int32))), .unset, .unset, .unset] [(.int (((48 : Int32) + vv).toUInt32.toUInt16.toUInt32.toInt32))]))
  obtain ⟨_, _, ⟨T4, L4, k4, n4⟩, -, X4, ⟨Lc4, hQ4, l4, y4, z4⟩, st4⟩ := Jvm.LawKit.callS X2 hx (y := (⟨"com/example/cijing/cijing/text/Text", "isDigit", "(C)Z"⟩ : MethodName)) hown (mvT hZ (hw _ (List.mem_of_getElem? (i := 1) rfl))) (mvT hZ (hw _ (List.mem_of_getElem? (i := 2) rfl))) (mvT hZ (hw _ (List.mem_of_getElem? (i := 3) rfl))) (mvT hZ (hw _ (List.mem_of_getElem? (i := 4) rfl))) (by decide) (backOf (W := 0) (rm1 l Z a0 hw [] (((48 : Int32) + vv).toUInt32.toUInt16.toUInt32.toInt32) h0 n0 Z0) hZ (hw _ (List.mem_of_getElem? (i := 4) rfl)) (hw _ (List.mem_of_getElem? (i := 3) rfl)) (by decide) (by decide)) (g := (mkF m 38 #[.val (.int p0), .val (.int p1), .val (.int vc), .val (.int vc), .val (.int vv), .val (.int (if (own_f1 vc) = (own_f2 vc) then (1 : Int32) else (0 : Int32))), .unset, .unset, .unset] [(.int (((48 : Int32) + vv).toUInt32.toUInt16.toUInt32.toInt32))])) rfl (by rw [hml]; rfl) (argsL := [(.int (((48 : Int32) + vv).toUInt32.toUInt16.toUInt32.toInt32))]) (rest := []) (lenOf pd0_0 rfl) rfl (by show 2 * 0 + _ ≤ _; exact Nat.le_of_eq rfl) (hb hby at_38) (fun _ _ => ⟨rfl, (e2 : T2.heap = h0), (by decide : 0 + 0 ≤ _), (by decide : 0 + 0 ≤ _)⟩)
  dsimp only [Pt.U, Pt.locs, Pt.cells, Pt.slots] at X4 l4 y4 z4 st4 hQ4
  subst l4 y4 z4
  refine own_go st4 ?_
  obtain ⟨rfl, N4q, e4⟩ := hQ4
  have N4 := Fr.app N2 N4q
  show own_Go p.tables e below _ (T4.setTop (mkF m 41 #[.val (.int p0), .val (.int p1), .val (.int vc), .val (.int vc), .val (.int vv), .val (.int (if (own_f1 vc) = (own_f2 vc) then (1 : Int32) else (0 : Int32))), .unset, .unset, .unset] [(.int (own_f1 (((48 : Int32) + vv).toUInt32.toUInt16.toUInt32.toInt32)))]))
  refine own_go (fun _ k => XS.istore X4.here hx rfl (hb hby at_41) rfl (l' := #[.val (.int p0), .val (.int p1), .val (.int vc), .val (.int vc), .val (.int vv), .val (.int (if (own_f1 vc) = (own_f2 vc) then (1 : Int32) else (0 : Int32))), .val (.int (own_f1 (((48 : Int32) + vv).toUInt32.toUInt16.toUInt32.toInt32))), .unset, .unset]) rfl k) ?_
  show own_Go p.tables e below _ (T4.setTop (mkF m 43 #[.val (.int p0), .val (.int p1), .val (.int vc), .val (.int vc), .val (.int vv), .val (.int (if (own_f1 vc) = (own_f2 vc) then (1 : Int32) else (0 : Int32))), .val (.int (own_f1 (((48 : Int32) + vv).toUInt32.toUInt16.toUInt32.toInt32))), .unset, .unset] []))
  refine own_go (fun _ k => X4.ldcInt hx hown (mvT hZ (hw _ (List.mem_of_getElem? (i := 10) rfl))) (g := (mkF m 43 #[.val (.int p0), .val (.int p1), .val (.int vc), .val (.int vc), .val (.int vv), .val (.int (if (own_f1 vc) = (own_f2 vc) then (1 : Int32) else (0 : Int32))), .val (.int (own_f1 (((48 : Int32) + vv).toUInt32.toUInt16.toUInt32.toInt32))), .unset, .unset] [])) rfl (hb hby at_43) _ k) ?_
  show own_Go p.tables e below _ (T4.setTop (mkF m 45 #[.val (.int p0), .val (.int p1), .val (.int vc), .val (.int vc), .val (.int vv), .val (.int (if (own_f1 vc) = (own_f2 vc) then (1 : Int32) else (0 : Int32))), .val (.int (own_f1 (((48 : Int32) + vv).toUInt32.toUInt16.toUInt32.toInt32))), .unset, .unset] [(.int (65296 : Int32))]))
  refine own_go (fun _ k => XS.iload X4.here hx rfl (hb hby at_45) rfl k) ?_
  show own_Go p.tables e below _ (T4.setTop (mkF m 47 #[.val (.int p0), .val (.int p1), .val (.int vc), .val (.int vc), .val (.int vv), .val (.int (if (own_f1 vc) = (own_f2 vc) then (1 : Int32) else (0 : Int32))), .val (.int (own_f1 (((48 : Int32) + vv).toUInt32.toUInt16.toUInt32.toInt32))), .unset, .unset] [(.int vv), (.int (65296 : Int32))]))
  refine own_go (fun _ k => XS.iadd X4.here hx rfl (hb hby at_47) rfl k) ?_
  show own_Go p.tables e below _ (T4.setTop (mkF m 48 #[.val (.int p0), .val (.int p1), .val (.int vc), .val (.int vc), .val (.int vv), .val (.int (if (own_f1 vc) = (own_f2 vc) then (1 : Int32) else (0 : Int32))), .val (.int (own_f1 (((48 : Int32) + vv).toUInt32.toUInt16.toUInt32.toInt32))), .unset, .unset] [(.int ((65296 : Int32) + vv))]))
  refine own_go (fun _ k => XS.i2c X4.here hx rfl (hb hby at_48) rfl k) ?_
  show own_Go p.tables e below _ (T4.setTop (mkF m 49 #[.val (.int p0), .val (.int p1), .val (.int vc), .val (.int vc), .val (.int vv), .val (.int (if (own_f1 vc) = (own_f2 vc) then (1 : Int32) else (0 : Int32))), .val (.int (own_f1 (((48 : Int32) + vv).toUInt32.toUInt16.toUInt32.toInt32))), .unset, .unset] [(.int (((65296 : Int32) + vv).toUInt32.toUInt16.toUInt32.toInt32))]))
  obtain ⟨_, _, ⟨T5, L5, k5, n5⟩, -, X5, ⟨Lc5, hQ5, l5, y5, z5⟩, st5⟩ := Jvm.LawKit.callS X4 hx (y := (⟨"com/example/cijing/cijing/text/Text", "isDigit", "(C)Z"⟩ : MethodName)) hown (mvT hZ (hw _ (List.mem_of_getElem? (i := 1) rfl))) (mvT hZ (hw _ (List.mem_of_getElem? (i := 2) rfl))) (mvT hZ (hw _ (List.mem_of_getElem? (i := 3) rfl))) (mvT hZ (hw _ (List.mem_of_getElem? (i := 4) rfl))) (by decide) (backOf (W := 0) (rm1 l Z a0 hw [] (((65296 : Int32) + vv).toUInt32.toUInt16.toUInt32.toInt32) h0 n0 Z0) hZ (hw _ (List.mem_of_getElem? (i := 4) rfl)) (hw _ (List.mem_of_getElem? (i := 3) rfl)) (by decide) (by decide)) (g := (mkF m 49 #[.val (.int p0), .val (.int p1), .val (.int vc), .val (.int vc), .val (.int vv), .val (.int (if (own_f1 vc) = (own_f2 vc) then (1 : Int32) else (0 : Int32))), .val (.int (own_f1 (((48 : Int32) + vv).toUInt32.toUInt16.toUInt32.toInt32))), .unset, .unset] [(.int (((65296 : Int32) + vv).toUInt32.toUInt16.toUInt32.toInt32))])) rfl (by rw [hml]; rfl) (argsL := [(.int (((65296 : Int32) + vv).toUInt32.toUInt16.toUInt32.toInt32))]) (rest := []) (lenOf pd0_0 rfl) rfl (by show 2 * 0 + _ ≤ _; exact Nat.le_of_eq rfl) (hb hby at_49) (fun _ _ => ⟨rfl, (e4 : T4.heap = h0), (by decide : 0 + 0 ≤ _), (by decide : 0 + 0 ≤ _)⟩)
  dsimp only [Pt.U, Pt.locs, Pt.cells, Pt.slots] at X5 l5 y5 z5 st5 hQ5
  subst l5 y5 z5
  refine own_go st5 ?_
  obtain ⟨rfl, N5q, e5⟩ := hQ5
  have N5 := Fr.app N4 N5q
  show own_Go p.tables e below _ (T5.setTop (mkF m 52 #[.val (.int p0), .val (.int p1), .val (.int vc), .val (.int vc), .val (.int vv), .val (.int (if (own_f1 vc) = (own_f2 vc) then (1 : Int32) else (0 : Int32))), .val (.int (own_f1 (((48 : Int32) + vv).toUInt32.toUInt16.toUInt32.toInt32))), .unset, .unset] [(.int (own_f1 (((65296 : Int32) + vv).toUInt32.toUInt16.toUInt32.toInt32)))]))
  refine own_go (fun _ k => XS.istore X5.here hx rfl (hb hby at_52) rfl (l' := #[.val (.int p0), .val (.int p1), .val (.int vc), .val (.int vc), .val (.int vv), .val (.int (if (own_f1 vc) = (own_f2 vc) then (1 : Int32) else (0 : Int32))), .val (.int (own_f1 (((48 : Int32) + vv).toUInt32.toUInt16.toUInt32.toInt32))), .val (.int (own_f1 (((65296 : Int32) + vv).toUInt32.toUInt16.toUInt32.toInt32))), .unset]) rfl k) ?_
  show own_Go p.tables e below _ (T5.setTop (mkF m 54 #[.val (.int p0), .val (.int p1), .val (.int vc), .val (.int vc), .val (.int vv), .val (.int (if (own_f1 vc) = (own_f2 vc) then (1 : Int32) else (0 : Int32))), .val (.int (own_f1 (((48 : Int32) + vv).toUInt32.toUInt16.toUInt32.toInt32))), .val (.int (own_f1 (((65296 : Int32) + vv).toUInt32.toUInt16.toUInt32.toInt32))), .unset] []))
  refine own_go (fun _ k => XS.bipush X5.here hx rfl (hb hby at_54) k) ?_
  show own_Go p.tables e below _ (T5.setTop (mkF m 56 #[.val (.int p0), .val (.int p1), .val (.int vc), .val (.int vc), .val (.int vv), .val (.int (if (own_f1 vc) = (own_f2 vc) then (1 : Int32) else (0 : Int32))), .val (.int (own_f1 (((48 : Int32) + vv).toUInt32.toUInt16.toUInt32.toInt32))), .val (.int (own_f1 (((65296 : Int32) + vv).toUInt32.toUInt16.toUInt32.toInt32))), .unset] [(.int (47 : Int32))]))
  obtain ⟨_, _, ⟨T6, L6, k6, n6⟩, -, X6, ⟨Lc6, hQ6, l6, y6, z6⟩, st6⟩ := Jvm.LawKit.callS X5 hx (y := (⟨"com/example/cijing/cijing/text/Text", "isDigit", "(C)Z"⟩ : MethodName)) hown (mvT hZ (hw _ (List.mem_of_getElem? (i := 1) rfl))) (mvT hZ (hw _ (List.mem_of_getElem? (i := 2) rfl))) (mvT hZ (hw _ (List.mem_of_getElem? (i := 3) rfl))) (mvT hZ (hw _ (List.mem_of_getElem? (i := 4) rfl))) (by decide) (backOf (W := 0) (rm1 l Z a0 hw [] (47 : Int32) h0 n0 Z0) hZ (hw _ (List.mem_of_getElem? (i := 4) rfl)) (hw _ (List.mem_of_getElem? (i := 3) rfl)) (by decide) (by decide)) (g := (mkF m 56 #[.val (.int p0), .val (.int p1), .val (.int vc), .val (.int vc), .val (.int vv), .val (.int (if (own_f1 vc) = (own_f2 vc) then (1 : Int32) else (0 : Int32))), .val (.int (own_f1 (((48 : Int32) + vv).toUInt32.toUInt16.toUInt32.toInt32))), .val (.int (own_f1 (((65296 : Int32) + vv).toUInt32.toUInt16.toUInt32.toInt32))), .unset] [(.int (47 : Int32))])) rfl (by rw [hml]; rfl) (argsL := [(.int (47 : Int32))]) (rest := []) (lenOf pd0_0 rfl) rfl (by show 2 * 0 + _ ≤ _; exact Nat.le_of_eq rfl) (hb hby at_56) (fun _ _ => ⟨rfl, (e5 : T5.heap = h0), (by decide : 0 + 0 ≤ _), (by decide : 0 + 0 ≤ _)⟩)
  dsimp only [Pt.U, Pt.locs, Pt.cells, Pt.slots] at X6 l6 y6 z6 st6 hQ6
  subst l6 y6 z6
  refine own_go st6 ?_
  obtain ⟨rfl, N6q, e6⟩ := hQ6
  have N6 := Fr.app N5 N6q
  show own_Go p.tables e below _ (T6.setTop (mkF m 59 #[.val (.int p0), .val (.int p1), .val (.int vc), .val (.int vc), .val (.int vv), .val (.int (if (own_f1 vc) = (own_f2 vc) then (1 : Int32) else (0 : Int32))), .val (.int (own_f1 (((48 : Int32) + vv).toUInt32.toUInt16.toUInt32.toInt32))), .val (.int (own_f1 (((65296 : Int32) + vv).toUInt32.toUInt16.toUInt32.toInt32))), .unset] [(.int (own_f1 (47 : Int32)))]))
  have hf59 : (own_f1 (47 : Int32)) = (0 : Int32) := by decide
  refine own_go (fun _ k => XS.ifNo X6.here hx rfl (hb hby at_59) rfl ((if0 _ _).trans (teq hf59).2) k) ?_
  show own_Go p.tables e below _ (T6.setTop (mkF m 62 #[.val (.int p0), .val (.int p1), .val (.int vc), .val (.int vc), .val (.int vv), .val (.int (if (own_f1 vc) = (own_f2 vc) then (1 : Int32) else (0 : Int32))), .val (.int (own_f1 (((48 : Int32) + vv).toUInt32.toUInt16.toUInt32.toInt32))), .val (.int (own_f1 (((65296 : Int32) + vv).toUInt32.toUInt16.toUInt32.toInt32))), .unset] []))
  refine own_go (fun _ k => XS.bipush X6.here hx rfl (hb hby at_62) k) ?_
  show own_Go p.tables e below _ (T6.setTop (mkF m 64 #[.val (.int p0), .val (.int p1), .val (.int vc), .val (.int vc), .val (.int vv), .val (.int (if (own_f1 vc) = (own_f2 vc) then (1 : Int32) else (0 : Int32))), .val (.int (own_f1 (((48 : Int32) + vv).toUInt32.toUInt16.toUInt32.toInt32))), .val (.int (own_f1 (((65296 : Int32) + vv).toUInt32.toUInt16.toUInt32.toInt32))), .unset] [(.int (58 : Int32))]))
  obtain ⟨_, _, ⟨T7, L7, k7, n7⟩, -, X7, ⟨Lc7, hQ7, l7, y7, z7⟩, st7⟩ := Jvm.LawKit.callS X6 hx (y := (⟨"com/example/cijing/cijing/text/Text", "isDigit", "(C)Z"⟩ : MethodName)) hown (mvT hZ (hw _ (List.mem_of_getElem? (i := 1) rfl))) (mvT hZ (hw _ (List.mem_of_getElem? (i := 2) rfl))) (mvT hZ (hw _ (List.mem_of_getElem? (i := 3) rfl))) (mvT hZ (hw _ (List.mem_of_getElem? (i := 4) rfl))) (by decide) (backOf (W := 0) (rm1 l Z a0 hw [] (58 : Int32) h0 n0 Z0) hZ (hw _ (List.mem_of_getElem? (i := 4) rfl)) (hw _ (List.mem_of_getElem? (i := 3) rfl)) (by decide) (by decide)) (g := (mkF m 64 #[.val (.int p0), .val (.int p1), .val (.int vc), .val (.int vc), .val (.int vv), .val (.int (if (own_f1 vc) = (own_f2 vc) then (1 : Int32) else (0 : Int32))), .val (.int (own_f1 (((48 : Int32) + vv).toUInt32.toUInt16.toUInt32.toInt32))), .val (.int (own_f1 (((65296 : Int32) + vv).toUInt32.toUInt16.toUInt32.toInt32))), .unset] [(.int (58 : Int32))])) rfl (by rw [hml]; rfl) (argsL := [(.int (58 : Int32))]) (rest := []) (lenOf pd0_0 rfl) rfl (by show 2 * 0 + _ ≤ _; exact Nat.le_of_eq rfl) (hb hby at_64) (fun _ _ => ⟨rfl, (e6 : T6.heap = h0), (by decide : 0 + 0 ≤ _), (by decide : 0 + 0 ≤ _)⟩)
  dsimp only [Pt.U, Pt.locs, Pt.cells, Pt.slots] at X7 l7 y7 z7 st7 hQ7
  subst l7 y7 z7
  refine own_go st7 ?_
  obtain ⟨rfl, N7q, e7⟩ := hQ7
  have N7 := Fr.app N6 N7q
  show own_Go p.tables e below _ (T7.setTop (mkF m 67 #[.val (.int p0), .val (.int p1), .val (.int vc), .val (.int vc), .val (.int vv), .val (.int (if (own_f1 vc) = (own_f2 vc) then (1 : Int32) else (0 : Int32))), .val (.int (own_f1 (((48 : Int32) + vv).toUInt32.toUInt16.toUInt32.toInt32))), .val (.int (own_f1 (((65296 : Int32) + vv).toUInt32.toUInt16.toUInt32.toInt32))), .unset] [(.int (own_f1 (58 : Int32)))]))
  have hf67 : (own_f1 (58 : Int32)) = (0 : Int32) := by decide
  refine own_go (fun _ k => XS.ifNo X7.here hx rfl (hb hby at_67) rfl ((if0 _ _).trans (teq hf67).2) k) ?_
  show own_Go p.tables e below _ (T7.setTop (mkF m 70 #[.val (.int p0), .val (.int p1), .val (.int vc), .val (.int vc), .val (.int vv), .val (.int (if (own_f1 vc) = (own_f2 vc) then (1 : Int32) else (0 : Int32))), .val (.int (own_f1 (((48 : Int32) + vv).toUInt32.toUInt16.toUInt32.toInt32))), .val (.int (own_f1 (((65296 : Int32) + vv).toUInt32.toUInt16.toUInt32.toInt32))), .unset] []))
  refine own_go (fun _ k => X7.ldcInt hx hown (mvT hZ (hw _ (List.mem_of_getElem? (i := 12) rfl))) (g := (mkF m 70 #[.val (.int p0), .val (.int p1), .val (.int vc), .val (.int vc), .val (.int vv), .val (.int (if (own_f1 vc) = (own_f2 vc) then (1 : Int32) else (0 : Int32))), .val (.int (own_f1 (((48 : Int32) + vv).toUInt32.toUInt16.toUInt32.toInt32))), .val (.int (own_f1 (((65296 : Int32) + vv).toUInt32.toUInt16.toUInt32.toInt32))), .unset] [])) rfl (hb hby at_70) _ k) ?_
  show own_Go p.tables e below _ (T7.setTop (mkF m 72 #[.val (.int p0), .val (.int p1), .val (.int vc), .val (.int vc), .val (.int vv), .val (.int (if (own_f1 vc) = (own_f2 vc) then (1 : Int32) else (0 : Int32))), .val (.int (own_f1 (((48 : Int32) + vv).toUInt32.toUInt16.toUInt32.toInt32))), .val (.int (own_f1 (((65296 : Int32) + vv).toUInt32.toUInt16.toUInt32.toInt32))), .unset] [(.int (65295 : Int32))]))
  obtain ⟨_, _, ⟨T8, L8, k8, n8⟩, -, X8, ⟨Lc8, hQ8, l8, y8, z8⟩, st8⟩ := Jvm.LawKit.callS X7 hx (y := (⟨"com/example/cijing/cijing/text/Text", "isDigit", "(C)Z"⟩ : MethodName)) hown (mvT hZ (hw _ (List.mem_of_getElem? (i := 1) rfl))) (mvT hZ (hw _ (List.mem_of_getElem? (i := 2) rfl))) (mvT hZ (hw _ (List.mem_of_getElem? (i := 3) rfl))) (mvT hZ (hw _ (List.mem_of_getElem? (i := 4) rfl))) (by decide) (backOf (W := 0) (rm1 l Z a0 hw [] (65295 : Int32) h0 n0 Z0) hZ (hw _ (List.mem_of_getElem? (i := 4) rfl)) (hw _ (List.mem_of_getElem? (i := 3) rfl)) (by decide) (by decide)) (g := (mkF m 72 #[.val (.int p0), .val (.int p1), .val (.int vc), .val (.int vc), .val (.int vv), .val (.int (if (own_f1 vc) = (own_f2 vc) then (1 : Int32) else (0 : Int32))), .val (.int (own_f1 (((48 : Int32) + vv).toUInt32.toUInt16.toUInt32.toInt32))), .val (.int (own_f1 (((65296 : Int32) + vv).toUInt32.toUInt16.toUInt32.toInt32))), .unset] [(.int (65295 : Int32))])) rfl (by rw [hml]; rfl) (argsL := [(.int (65295 : Int32))]) (rest := []) (lenOf pd0_0 rfl) rfl (by show 2 * 0 + _ ≤ _; exact Nat.le_of_eq rfl) (hb hby at_72) (fun _ _ => ⟨rfl, (e7 : T7.heap = h0), (by decide : 0 + 0 ≤ _), (by decide : 0 + 0 ≤ _)⟩)
  dsimp only [Pt.U, Pt.locs, Pt.cells, Pt.slots] at X8 l8 y8 z8 st8 hQ8
  subst l8 y8 z8
  refine own_go st8 ?_
  obtain ⟨rfl, N8q, e8⟩ := hQ8
  have N8 := Fr.app N7 N8q
  show own_Go p.tables e below _ (T8.setTop (mkF m 75 #[.val (.int p0), .val (.int p1), .val (.int vc), .val (.int vc), .val (.int vv), .val (.int (if (own_f1 vc) = (own_f2 vc) then (1 : Int32) else (0 : Int32))), .val (.int (own_f1 (((48 : Int32) + vv).toUInt32.toUInt16.toUInt32.toInt32))), .val (.int (own_f1 (((65296 : Int32) + vv).toUInt32.toUInt16.toUInt32.toInt32))), .unset] [(.int (own_f1 (65295 : Int32)))]))
  have hf75 : (own_f1 (65295 : Int32)) = (0 : Int32) := by decide
  refine own_go (fun _ k => XS.ifNo X8.here hx rfl (hb hby at_75) rfl ((if0 _ _).trans (teq hf75).2) k) ?_
  show own_Go p.tables e below _ (T8.setTop (mkF m 78 #[.val (.int p0), .val (.int p1), .val (.int vc), .val (.int vc), .val (.int vv), .val (.int (if (own_f1 vc) = (own_f2 vc) then (1 : Int32) else (0 : Int32))), .val (.int (own_f1 (((48 : Int32) + vv).toUInt32.toUInt16.toUInt32.toInt32))), .val (.int (own_f1 (((65296 : Int32) + vv).toUInt32.toUInt16.toUInt32.toInt32))), .unset] []))
  refine own_go (fun _ k => X8.ldcInt hx hown (mvT hZ (hw _ (List.mem_of_getElem? (i := 13) rfl))) (g := (mkF m 78 #[.val (.int p0), .val (.int p1), .val (.int vc), .val (.int vc), .val (.int vv), .val (.int (if (own_f1 vc) = (own_f2 vc) then (1 : Int32) else (0 : Int32))), .val (.int (own_f1 (((48 : Int32) + vv).toUInt32.toUInt16.toUInt32.toInt32))), .val (.int (own_f1 (((65296 : Int32) + vv).toUInt32.toUInt16.toUInt32.toInt32))), .unset] [])) rfl (hb hby at_78) _ k) ?_
  show own_Go p.tables e below _ (T8.setTop (mkF m 80 #[.val (.int p0), .val (.int p1), .val (.int vc), .val (.int vc), .val (.int vv), .val (.int (if (own_f1 vc) = (own_f2 vc) then (1 : Int32) else (0 : Int32))), .val (.int (own_f1 (((48 : Int32) + vv).toUInt32.toUInt16.toUInt32.toInt32))), .val (.int (own_f1 (((65296 : Int32) + vv).toUInt32.toUInt16.toUInt32.toInt32))), .unset] [(.int (65306 : Int32))]))
  obtain ⟨_, _, ⟨T9, L9, k9, n9⟩, -, X9, ⟨Lc9, hQ9, l9, y9, z9⟩, st9⟩ := Jvm.LawKit.callS X8 hx (y := (⟨"com/example/cijing/cijing/text/Text", "isDigit", "(C)Z"⟩ : MethodName)) hown (mvT hZ (hw _ (List.mem_of_getElem? (i := 1) rfl))) (mvT hZ (hw _ (List.mem_of_getElem? (i := 2) rfl))) (mvT hZ (hw _ (List.mem_of_getElem? (i := 3) rfl))) (mvT hZ (hw _ (List.mem_of_getElem? (i := 4) rfl))) (by decide) (backOf (W := 0) (rm1 l Z a0 hw [] (65306 : Int32) h0 n0 Z0) hZ (hw _ (List.mem_of_getElem? (i := 4) rfl)) (hw _ (List.mem_of_getElem? (i := 3) rfl)) (by decide) (by decide)) (g := (mkF m 80 #[.val (.int p0), .val (.int p1), .val (.int vc), .val (.int vc), .val (.int vv), .val (.int (if (own_f1 vc) = (own_f2 vc) then (1 : Int32) else (0 : Int32))), .val (.int (own_f1 (((48 : Int32) + vv).toUInt32.toUInt16.toUInt32.toInt32))), .val (.int (own_f1 (((65296 : Int32) + vv).toUInt32.toUInt16.toUInt32.toInt32))), .unset] [(.int (65306 : Int32))])) rfl (by rw [hml]; rfl) (argsL := [(.int (65306 : Int32))]) (rest := []) (lenOf pd0_0 rfl) rfl (by show 2 * 0 + _ ≤ _; exact Nat.le_of_eq rfl) (hb hby at_80) (fun _ _ => ⟨rfl, (e8 : T8.heap = h0), (by decide : 0 + 0 ≤ _), (by decide : 0 + 0 ≤ _)⟩)
  dsimp only [Pt.U, Pt.locs, Pt.cells, Pt.slots] at X9 l9 y9 z9 st9 hQ9
  subst l9 y9 z9
  refine own_go st9 ?_
  obtain ⟨rfl, N9q, e9⟩ := hQ9
  have N9 := Fr.app N8 N9q
  show own_Go p.tables e below _ (T9.setTop (mkF m 83 #[.val (.int p0), .val (.int p1), .val (.int vc), .val (.int vc), .val (.int vv), .val (.int (if (own_f1 vc) = (own_f2 vc) then (1 : Int32) else (0 : Int32))), .val (.int (own_f1 (((48 : Int32) + vv).toUInt32.toUInt16.toUInt32.toInt32))), .val (.int (own_f1 (((65296 : Int32) + vv).toUInt32.toUInt16.toUInt32.toInt32))), .unset] [(.int (own_f1 (65306 : Int32)))]))
  have hf83 : (own_f1 (65306 : Int32)) = (0 : Int32) := by decide
  refine own_go (fun _ k => XS.ifNo X9.here hx rfl (hb hby at_83) rfl ((if0 _ _).trans (teq hf83).2) k) ?_
  show own_Go p.tables e below _ (T9.setTop (mkF m 86 #[.val (.int p0), .val (.int p1), .val (.int vc), .val (.int vc), .val (.int vv), .val (.int (if (own_f1 vc) = (own_f2 vc) then (1 : Int32) else (0 : Int32))), .val (.int (own_f1 (((48 : Int32) + vv).toUInt32.toUInt16.toUInt32.toInt32))), .val (.int (own_f1 (((65296 : Int32) + vv).toUInt32.toUInt16.toUInt32.toInt32))), .unset] []))
  refine own_go (fun _ k => XS.iconst X9.here hx rfl (hb hby at_86) k) ?_
  show own_Go p.tables e below _ (T9.setTop (mkF m 87 #[.val (.int p0), .val (.int p1), .val (.int vc), .val (.int vc), .val (.int vv), .val (.int (if (own_f1 vc) = (own_f2 vc) then (1 : Int32) else (0 : Int32))), .val (.int (own_f1 (((48 : Int32) + vv).toUInt32.toUInt16.toUInt32.toInt32))), .val (.int (own_f1 (((65296 : Int32) + vv).toUInt32.toUInt16.toUInt32.toInt32))), .unset] [(.int (1 : Int32))]))
  refine own_go (fun _ k => XS.goto X9.here hx rfl (pc0 := 87) (pc' := 91) rfl (hb hby at_87) (by decide) (by decide) k) ?_
  show own_Go p.tables e below _ (T9.setTop (mkF m 91 #[.val (.int p0), .val (.int p1), .val (.int vc), .val (.int vc), .val (.int vv), .val (.int (if (own_f1 vc) = (own_f2 vc) then (1 : Int32) else (0 : Int32))), .val (.int (own_f1 (((48 : Int32) + vv).toUInt32.toUInt16.toUInt32.toInt32))), .val (.int (own_f1 (((65296 : Int32) + vv).toUInt32.toUInt16.toUInt32.toInt32))), .unset] [(.int (1 : Int32))]))
  refine own_go (fun _ k => XS.istore X9.here hx rfl (hb hby at_91) rfl (l' := #[.val (.int p0), .val (.int p1), .val (.int vc), .val (.int vc), .val (.int vv), .val (.int (if (own_f1 vc) = (own_f2 vc) then (1 : Int32) else (0 : Int32))), .val (.int (own_f1 (((48 : Int32) + vv).toUInt32.toUInt16.toUInt32.toInt32))), .val (.int (own_f1 (((65296 : Int32) + vv).toUInt32.toUInt16.toUInt32.toInt32))), .val (.int (1 : Int32))]) rfl k) ?_
  show own_Go p.tables e below _ (T9.setTop (mkF m 93 #[.val (.int p0), .val (.int p1), .val (.int vc), .val (.int vc), .val (.int vv), .val (.int (if (own_f1 vc) = (own_f2 vc) then (1 : Int32) else (0 : Int32))), .val (.int (own_f1 (((48 : Int32) + vv).toUInt32.toUInt16.toUInt32.toInt32))), .val (.int (own_f1 (((65296 : Int32) + vv).toUInt32.toUInt16.toUInt32.toInt32))), .val (.int (1 : Int32))] []))
  refine own_go (fun _ k => XS.iload X9.here hx rfl (hb hby at_93) rfl k) ?_
  show own_Go p.tables e below _ (T9.setTop (mkF m 95 #[.val (.int p0), .val (.int p1), .val (.int vc), .val (.int vc), .val (.int vv), .val (.int (if (own_f1 vc) = (own_f2 vc) then (1 : Int32) else (0 : Int32))), .val (.int (own_f1 (((48 : Int32) + vv).toUInt32.toUInt16.toUInt32.toInt32))), .val (.int (own_f1 (((65296 : Int32) + vv).toUInt32.toUInt16.toUInt32.toInt32))), .val (.int (1 : Int32))] [(.int (if (own_f1 vc) = (own_f2 vc) then (1 : Int32) else (0 : Int32)))]))
  have hf95 : ¬ ((if (own_f1 vc) = (own_f2 vc) then (1 : Int32) else (0 : Int32)) = (0 : Int32)) := by rw [own_v1 hvc]; simp
  refine own_go (fun _ k => XS.ifNo X9.here hx rfl (hb hby at_95) rfl ((if0 _ _).trans (feq hf95).1) k) ?_
  show own_Go p.tables e below _ (T9.setTop (mkF m 98 #[.val (.int p0), .val (.int p1), .val (.int vc), .val (.int vc), .val (.int vv), .val (.int (if (own_f1 vc) = (own_f2 vc) then (1 : Int32) else (0 : Int32))), .val (.int (own_f1 (((48 : Int32) + vv).toUInt32.toUInt16.toUInt32.toInt32))), .val (.int (own_f1 (((65296 : Int32) + vv).toUInt32.toUInt16.toUInt32.toInt32))), .val (.int (1 : Int32))] []))
  refine own_go (fun _ k => XS.iload X9.here hx rfl (hb hby at_98) rfl k) ?_
  show own_Go p.tables e below _ (T9.setTop (mkF m 100 #[.val (.int p0), .val (.int p1), .val (.int vc), .val (.int vc), .val (.int vv), .val (.int (if (own_f1 vc) = (own_f2 vc) then (1 : Int32) else (0 : Int32))), .val (.int (own_f1 (((48 : Int32) + vv).toUInt32.toUInt16.toUInt32.toInt32))), .val (.int (own_f1 (((65296 : Int32) + vv).toUInt32.toUInt16.toUInt32.toInt32))), .val (.int (1 : Int32))] [(.int (own_f1 (((48 : Int32) + vv).toUInt32.toUInt16.toUInt32.toInt32)))]))
  have hf100 : ¬ ((own_f1 (((48 : Int32) + vv).toUInt32.toUInt16.toUInt32.toInt32)) = (0 : Int32)) := by rw [(own_v2 hvv).1]; decide
  refine own_go (fun _ k => XS.ifNo X9.here hx rfl (hb hby at_100) rfl ((if0 _ _).trans (feq hf100).1) k) ?_
  show own_Go p.tables e below _ (T9.setTop (mkF m 103 #[.val (.int p0), .val (.int p1), .val (.int vc), .val (.int vc), .val (.int vv), .val (.int (if (own_f1 vc) = (own_f2 vc) then (1 : Int32) else (0 : Int32))), .val (.int (own_f1 (((48 : Int32) + vv).toUInt32.toUInt16.toUInt32.toInt32))), .val (.int (own_f1 (((65296 : Int32) + vv).toUInt32.toUInt16.toUInt32.toInt32))), .val (.int (1 : Int32))] []))
  refine own_go (fun _ k => XS.iload X9.here hx rfl (hb hby at_103) rfl k) ?_
  show own_Go p.tables e below _ (T9.setTop (mkF m 105 #[.val (.int p0), .val (.int p1), .val (.int vc), .val (.int vc), .val (.int vv), .val (.int (if (own_f1 vc) = (own_f2 vc) then (1 : Int32) else (0 : Int32))), .val (.int (own_f1 (((48 : Int32) + vv).toUInt32.toUInt16.toUInt32.toInt32))), .val (.int (own_f1 (((65296 : Int32) + vv).toUInt32.toUInt16.toUInt32.toInt32))), .val (.int (1 : Int32))] [(.int (own_f1 (((65296 : Int32) + vv).toUInt32.toUInt16.toUInt32.toInt32)))]))
  have hf105 : ¬ ((own_f1 (((65296 : Int32) + vv).toUInt32.toUInt16.toUInt32.toInt32)) = (0 : Int32)) := by rw [(own_v2 hvv).2]; decide
  refine own_go (fun _ k => XS.ifNo X9.here hx rfl (hb hby at_105) rfl ((if0 _ _).trans (feq hf105).1) k) ?_
  show own_Go p.tables e below _ (T9.setTop (mkF m 108 #[.val (.int p0), .val (.int p1), .val (.int vc), .val (.int vc), .val (.int vv), .val (.int (if (own_f1 vc) = (own_f2 vc) then (1 : Int32) else (0 : Int32))), .val (.int (own_f1 (((48 : Int32) + vv).toUInt32.toUInt16.toUInt32.toInt32))), .val (.int (own_f1 (((65296 : Int32) + vv).toUInt32.toUInt16.toUInt32.toInt32))), .val (.int (1 : Int32))] []))
  refine own_go (fun _ k => XS.iload X9.here hx rfl (hb hby at_108) rfl k) ?_
  show own_Go p.tables e below _ (T9.setTop (mkF m 110 #[.val (.int p0), .val (.int p1), .val (.int vc), .val (.int vc), .val (.int vv), .val (.int (if (own_f1 vc) = (own_f2 vc) then (1 : Int32) else (0 : Int32))), .val (.int (own_f1 (((48 : Int32) + vv).toUInt32.toUInt16.toUInt32.toInt32))), .val (.int (own_f1 (((65296 : Int32) + vv).toUInt32.toUInt16.toUInt32.toInt32))), .val (.int (1 : Int32))] [(.int (1 : Int32))]))
  have hf110 : ¬ ((1 : Int32) = (0 : Int32)) := by decide
  refine own_go (fun _ k => XS.ifNo X9.here hx rfl (hb hby at_110) rfl ((if0 _ _).trans (feq hf110).1) k) ?_
  show own_Go p.tables e below _ (T9.setTop (mkF m 113 #[.val (.int p0), .val (.int p1), .val (.int vc), .val (.int vc), .val (.int vv), .val (.int (if (own_f1 vc) = (own_f2 vc) then (1 : Int32) else (0 : Int32))), .val (.int (own_f1 (((48 : Int32) + vv).toUInt32.toUInt16.toUInt32.toInt32))), .val (.int (own_f1 (((65296 : Int32) + vv).toUInt32.toUInt16.toUInt32.toInt32))), .val (.int (1 : Int32))] []))
  refine own_go (fun _ k => XS.iconst X9.here hx rfl (hb hby at_113) k) ?_
  show own_Go p.tables e below _ (T9.setTop (mkF m 114 #[.val (.int p0), .val (.int p1), .val (.int vc), .val (.int vc), .val (.int vv), .val (.int (if (own_f1 vc) = (own_f2 vc) then (1 : Int32) else (0 : Int32))), .val (.int (own_f1 (((48 : Int32) + vv).toUInt32.toUInt16.toUInt32.toInt32))), .val (.int (own_f1 (((65296 : Int32) + vv).toUInt32.toUInt16.toUInt32.toInt32))), .val (.int (1 : Int32))] [(.int (1 : Int32))]))
  refine own_go (fun _ k => XS.goto X9.here hx rfl (pc0 := 114) (pc' := 118) rfl (hb hby at_114) (by decide) (by decide) k) ?_
  show own_Go p.tables e below _ (T9.setTop (mkF m 118 #[.val (.int p0), .val (.int p1), .val (.int vc), .val (.int vc), .val (.int vv), .val (.int (if (own_f1 vc) = (own_f2 vc) then (1 : Int32) else (0 : Int32))), .val (.int (own_f1 (((48 : Int32) + vv).toUInt32.toUInt16.toUInt32.toInt32))), .val (.int (own_f1 (((65296 : Int32) + vv).toUInt32.toUInt16.toUInt32.toInt32))), .val (.int (1 : Int32))] [(.int (1 : Int32))]))
  refine own_end X9 Bd.notSynchronized (v := some (.int (1 : Int32))) (fun h => by rw [Bd.returns] at h; cases h) (fun fs hr => retN X9 hx (t := .boolean) Bd.returns (by simp) (hb hby at_118) hr) ?_ (by decide) (by decide)
  exact ⟨rfl, N9⟩
set_option maxRecDepth 65536 in
set_option maxHeartbeats 40000000 in
theorem comes_1 {Post : Tables → Env → Array Value → State → Outcome → State → Prop} (hpost : ∀ tb e args s v u, (limb_1_1.after args s (.returned v) u = true ∧ limb_1_2.after args s (.returned v) u = true ∧ True) → FrameEnd s (.returned v) u (Jvm.fieldLocs frame_1_writes args s ++ Jvm.arrayLocs frame_1_arrays args s ++ Jvm.staticLocs frame_1_statics s) 0 0 → Post tb e args s (.returned v) u) :
    ArmFor flags0 classFile x code maxLocals ret World_1 tables_1 room_1 Calls_1 rest_1 Pre_1 Post := by
  intro l hfl _ _ p e ha hc hk s m args below hf hA hF happ hP
  obtain ⟨hcalls, hrest, hpre⟩ := hP
  obtain ⟨-, -, -, hnamed, -, -, -, hat⟩ := (Spec.applies_iff hf).mp happ
  obtain ⟨hg, hn⟩ := and_e (Cond.before_iff.mp (show (Jvm.Cond.and given_1 narrow_1).before args s = true from hpre))
  obtain ⟨g1, g2⟩ := and_e hg
  obtain ⟨g3, g4⟩ := and_e g2
  obtain ⟨w0, w1, rfl⟩ : ∃ w0 w1 : Value, args = #[w0, w1] := by
    have hs : args.size = 2 := by simpa [Cond.value, given_1] using g1
    obtain ⟨L⟩ := args
    match L, hs with
    | [w0, w1], _ => exact ⟨w0, w1, rfl⟩
  have hw := fun d (hd : d ∈ tables_1) => atoms_spec (ws := Jvm.Cond.code x code maxLocals ret :: tables_1) hat d (List.mem_cons_of_mem _ hd)
  obtain ⟨i0, ei0⟩ := is_v g3
  obtain rfl : w0 = (.int i0) := Option.some.inj ei0
  obtain ⟨i1, ei1⟩ := is_v g4
  obtain rfl : w1 = (.int i1) := Option.some.inj ei1
  obtain ⟨n, o, h1, h2, h3, _, L, rfl, ⟨rfl, N⟩, hq⟩ := rm0 l s _ hw tables_1 i0 i1 s.heap s.heap.size (Nat.le_refl _) p e ha hc hk s m _ below hf ((Spec.applies_iff_loose hf).mp happ).1 ⟨rfl, State.Warmed39.refl s, rfl⟩ trivial
  refine ⟨n, _, h1, h2, h3, hpost _ _ _ _ _ _ ⟨Cond.after_iff.mpr rfl, Cond.after_iff.mpr (eq_i res_at (Term.int_eval (1)) rfl), trivial⟩ ⟨hq.1, hq.2.1, (hq.2.2.sift fun y hy => Or.inr (N y hy)).mono (by decide) (by decide)⟩⟩
theorem main_1_1 : Claimed_1_1 := comes_1 fun _ _ _ _ _ _ h hF => ⟨h.1, hF⟩
theorem main_1_2 : Claimed_1_2 := comes_1 fun _ _ _ _ _ _ h hF => ⟨h.2.1, hF⟩
end Jvm.Pilot.@@N@@
namespace Jvm.Pilot.@@N@@
open Jvm Jvm.ClassFile Sem Op Lib Jvm.Free Jvm.Stand Jvm.Pilot.@@N@@.Jvm.D
/-! MADE BY PROGRAM (witnessworld.py) out of the Statement's table words and the real class files: 7 classes; the members and pool entries that the words name. The judged class is class 1, her method 2. -/
namespace start1
open Jvm.ClassFile
def u (s : String) : CpInfo := .utf8 (stringToUtf16 s)
/-- a pool by its gaps: so many unusable entries, then the entry; so many at the end -/
def gap : Nat → List CpInfo → List CpInfo
  | 0, r => r
  | n + 1, r => .unusable :: gap n r
def poolList (es : List (Nat × CpInfo)) (last : Nat) : List CpInfo := es.foldr (fun e r => gap e.1 (e.2 :: r)) (gap last [])
def pool (es : List (Nat × CpInfo)) (last : Nat) : Array CpInfo := ⟨poolList es last⟩
def fileOf (pool : Array CpInfo) (this : Nat) (attrs : Array Attribute := #[]) (ms : Array MethodInfo := #[]) (fl : Nat := 33) (sup : Nat := 0) (ifs : Array Nat := #[]) (fds : Array FieldInfo := #[]) : ClassFile where
  minorVersion := 0
  majorVersion := 65
  constantPool := pool
  accessFlags := fl
  thisClass := this
  superClass := sup
  interfaces := ifs
  fields := fds
  methods := ms
  attributes := attrs
def plain (name : String) (sup : Option ClassId) : Class where
  name := name
  kind := .ordinary
  loader := none
  accessFlags := 33
  super := sup
  interfaces := #[]
  cf := none
  fields := #[]
  methods := #[]
  instanceTypes := #[]
  staticTypes := #[]
  resolved := #[]
  callSites := []
  init := .initialized
  statics := none
  mirror := none

def pool0 : Array CpInfo := pool [(5, u "<init>"), (0, u "()V"), (1, .class_ 10), (1, u "java/lang/Object")] 113

def k0m0 : Method := { name := "<init>", desc := "()V", sig := { parameters := [], returnType := none }, accessFlags := 1, code := none }
/-- java/lang/Object -/
def k0 : Class := { plain "java/lang/Object" none with
  accessFlags := 33
  interfaces := #[]
  cf := some (fileOf pool0 8 #[] #[{ accessFlags := 1, nameIndex := 5, descriptorIndex := 6, attributes := #[] }] 33 0 #[] #[])
  fields := #[]
  methods := #[k0m0]
  instanceTypes := #[]
  staticTypes := #[]
  resolved := Array.replicate 124 none
  statics := none }

def pool1 : Array CpInfo := pool [(2, .class_ 4), (1, u "java/lang/Object"), (0, u "<init>"), (0, u "()V"), (0, .integer 65296), (0, .integer 2147483647), (0, .methodref 10 11), (0, .class_ 12), (0, .nameAndType 13 14), (0, u "com/example/cijing/cijing/text/Text"), (0, u "isDigit"), (0, u "(C)Z"), (0, .methodref 16 17), (0, .class_ 18), (0, .nameAndType 19 20), (0, u "com/example/cijing/cijing/text/TextIsDigitPinLaw"), (0, u "reference"), (0, u "(I)Z"), (0, .integer 65295), (0, .integer 65306), (3, u "law"), (0, u "(II)Z")] 2

def k1m0 : Method := { name := "<init>", desc := "()V", sig := { parameters := [], returnType := none }, accessFlags := 2, code := none }
def k1c1 : Code := { maxStack := 2, maxLocals := 3, code := method_2_code, exceptionTable := #[], attributes := #[] }
def k1m1 : Method := { name := "reference", desc := "(I)Z", sig := { parameters := [.int], returnType := some .boolean }, accessFlags := 10, code := some k1c1 }
def k1c2 : Code := { maxStack := 2, maxLocals := 9, code := code, exceptionTable := #[], attributes := #[] }
def k1m2 : Method := { name := "law", desc := "(II)Z", sig := { parameters := [.int, .int], returnType := some .boolean }, accessFlags := 9, code := some k1c2 }
/-- com/example/cijing/cijing/text/TextIsDigitPinLaw -/
def k1 : Class := { plain "com/example/cijing/cijing/text/TextIsDigitPinLaw" (some 0) with
  accessFlags := 49
  interfaces := #[]
  cf := some (fileOf pool1 16 #[] #[{ accessFlags := 2, nameIndex := 5, descriptorIndex := 6, attributes := #[] }, { accessFlags := 10, nameIndex := 19, descriptorIndex := 20, attributes := #[] }, { accessFlags := 9, nameIndex := 26, descriptorIndex := 27, attributes := #[] }] 49 2 #[] #[])
  fields := #[]
  methods := #[k1m0, k1m1, k1m2]
  instanceTypes := #[]
  staticTypes := #[]
  resolved := Array.replicate 30 none
  statics := none }

def pool2 : Array CpInfo := pool [(2, .class_ 4), (1, u "java/lang/Object"), (0, u "<init>"), (0, u "()V"), (11, .class_ 20), (1, u "com/example/cijing/cijing/text/Text"), (1, u "(C)Z"), (0, .integer 65296), (0, .integer 65305), (43, u "isDigit")] 12

def k2m0 : Method := { name := "<init>", desc := "()V", sig := { parameters := [], returnType := none }, accessFlags := 2, code := none }
def k2c1 : Code := { maxStack := 2, maxLocals := 1, code := prog_51_method_4_code, exceptionTable := #[], attributes := #[] }
def k2m1 : Method := { name := "isDigit", desc := "(C)Z", sig := { parameters := [.char], returnType := some .boolean }, accessFlags := 9, code := some k2c1 }
/-- com/example/cijing/cijing/text/Text -/
def k2 : Class := { plain "com/example/cijing/cijing/text/Text" (some 0) with
  accessFlags := 49
  interfaces := #[]
  cf := some (fileOf pool2 18 #[] #[{ accessFlags := 2, nameIndex := 5, descriptorIndex := 6, attributes := #[] }, { accessFlags := 9, nameIndex := 68, descriptorIndex := 22, attributes := #[] }] 49 2 #[] #[])
  fields := #[]
  methods := #[k2m0, k2m1]
  instanceTypes := #[]
  staticTypes := #[]
  resolved := Array.replicate 81 none
  statics := none }

def pool3 : Array CpInfo := pool [(1, u "java/lang/Cloneable"), (0, .class_ 1), (0, u "java/lang/Object"), (0, .class_ 3)] 3

/-- java/lang/Cloneable -/
def k3 : Class := { plain "java/lang/Cloneable" (some 0) with
  accessFlags := 1537
  interfaces := #[]
  cf := some (fileOf pool3 2 #[] #[] 1537 4 #[] #[])
  fields := #[]
  methods := #[]
  instanceTypes := #[]
  staticTypes := #[]
  resolved := Array.replicate 8 none
  statics := none }

def pool4 : Array CpInfo := pool [(1, u "java/io/Serializable"), (0, .class_ 1), (0, u "java/lang/Object"), (0, .class_ 3)] 3

/-- java/io/Serializable -/
def k4 : Class := { plain "java/io/Serializable" (some 0) with
  accessFlags := 1537
  interfaces := #[]
  cf := some (fileOf pool4 2 #[] #[] 1537 4 #[] #[])
  fields := #[]
  methods := #[]
  instanceTypes := #[]
  staticTypes := #[]
  resolved := Array.replicate 8 none
  statics := none }

/-- the primitive byte -/
def k5 : Class := { plain "byte" none with kind := .primitive 'B', accessFlags := 0x411 }
/-- [B -/
def k6 : Class := { plain "[B" (some 0) with kind := .array 5 .byte, interfaces := #[3, 4], accessFlags := 1041 }

def heap : Heap := #[]
def classes : Array Class := #[k0, k1, k2, k3, k4, k5, k6]
def interned : List (Array UInt16 × Addr) := []
def slotsUsed : Nat := 0
def theMethod : MethodId := ⟨1, 2⟩
def args0 : Array Value := #[.int 65, .int 7]
def aboutOver (below : List Frame) : State where
  vm := { classes := classes, interned := interned.toArray }
  heap := heap
  slotsUsed := slotsUsed
  threads := #[{ frames := .invoking theMethod args0 :: below }]
def below0 : List Frame := [.native { method := ⟨0, 0⟩, args := #[] }]
def about1 : State := aboutOver below0
def p0 : Program := .bare "" "" ""
def e0 : Env := launch0.env 0 0 0
theorem w_frames : about1.frames = Frame.invoking theMethod args0 :: below0 := rfl
set_option maxRecDepth 65536 in
theorem w_args : argsFit about1.vm theMethod args0 = true := by decide +kernel
set_option maxRecDepth 65536 in
theorem w_heap : heapFits about1 = true := by decide +kernel
set_option maxRecDepth 65536 in
theorem w_runnable : about1.curStatus? = some .runnable := by decide +kernel
set_option maxRecDepth 65536 in
theorem w_alone : about1.alone = true := by decide +kernel
set_option maxRecDepth 65536 in
theorem w_named : about1.methodNamed? x = some theMethod := by decide +kernel
set_option maxRecDepth 65536 in
theorem w_hears : about1.hears theMethod below0 = true := by decide +kernel
set_option maxRecDepth 65536 in
theorem w_ripe : about1.ripe theMethod args0 below0 = true := by decide +kernel
theorem w_running : about1.status = .running := rfl
set_option maxRecDepth 65536 in
theorem w_room : about1.hasRoom e0.platform room_1 = true :=
  launch0.hasRoom_least _ room_1 (by decide +kernel) (by decide +kernel) (by decide +kernel) (by decide +kernel) (by decide +kernel) (by decide +kernel)
theorem allAtoms_all (ts : List Jvm.Cond) (a : Array Jvm.Value) (st : Jvm.State) : (allAtoms ts).before a st = ts.all (fun c => c.before a st) := by
  induction ts with
  | nil => rfl
  | cons c t ih =>
    show (Jvm.Cond.and c (allAtoms t)).before a st = _
    rw [Jvm.Cond.before_and, ih, List.all_cons]
def words1 : List Jvm.Cond := Jvm.Cond.code x code maxLocals ret :: tables_1
/-- a 'code' word, met by the world's own term for the bytes: nothing is compared byte by byte -/
theorem code_word {y : MethodName} {bytes : ByteArray} {mx : Nat} {rt : Option FieldType} {a : Array Value} {s : State} {m : MethodId} {meth : Method} {c : Code} (h1 : s.methodNamed? y = some m) (h2 : s.vm.method? m = some meth) (h3 : meth.code = some c) (h4 : c.code = bytes)
    (h5 : (c.maxLocals == mx && c.exceptionTable.isEmpty && decide (c.maxStack ≤ mostOperands) && decide (meth.sig.returnType = rt) && !meth.locks && decide (parseMethodDescriptor y.desc = some meth.sig)) = true) : (Jvm.Cond.code y bytes mx rt).before a s = true := by
  simp only [Bool.and_eq_true, beq_iff_eq, Bool.not_eq_true', decide_eq_true_eq] at h5
  obtain ⟨⟨⟨⟨⟨g1, g2⟩, g3⟩, g4⟩, g5⟩, g6⟩ := h5
  simp [Cond.before, Cond.holds, Cond.value, h1, h2, h3, h4, g1, g2, g3, g4, g5, g6]
def isCode : Jvm.Cond → Bool
  | .code _ _ _ _ => true
  | _ => false
theorem all_split {L : List Jvm.Cond} {P : Jvm.Cond → Bool} (h1 : L.all (fun c => isCode c || P c) = true) (h2 : ∀ c ∈ L.filter isCode, P c = true) : L.all P = true := by
  refine List.all_eq_true.mpr fun c hc => ?_
  have h := List.all_eq_true.mp h1 c hc
  rcases Bool.eq_false_or_eq_true (isCode c) with hi | hi
  · exact h2 c (List.mem_filter.mpr ⟨hc, hi⟩)
  · simpa [hi] using h
set_option maxRecDepth 65536 in
theorem w_c0 : (Jvm.Cond.code x code maxLocals ret).before args0 about1 = true := code_word (m := ⟨1, 2⟩) (meth := k1m2) (c := k1c2) (by decide +kernel) rfl rfl rfl (by decide +kernel)
set_option maxRecDepth 65536 in
theorem w_c1 : (Jvm.Cond.code ({ cls := "com/example/cijing/cijing/text/Text", name := "isDigit", desc := "(C)Z" } : Jvm.MethodName) prog_51_method_4_code (1 : Nat) (Option.some Jvm.ClassFile.FieldType.boolean)).before args0 about1 = true := code_word (m := ⟨2, 1⟩) (meth := k2m1) (c := k2c1) (by decide +kernel) rfl rfl rfl (by decide +kernel)
set_option maxRecDepth 65536 in
theorem w_c2 : (Jvm.Cond.code ({ cls := "com/example/cijing/cijing/text/TextIsDigitPinLaw", name := "reference", desc := "(I)Z" } : Jvm.MethodName) method_2_code (3 : Nat) (Option.some Jvm.ClassFile.FieldType.boolean)).before args0 about1 = true := code_word (m := ⟨1, 1⟩) (meth := k1m1) (c := k1c1) (by decide +kernel) rfl rfl rfl (by decide +kernel)
def codes1 : List Jvm.Cond := [Jvm.Cond.code x code maxLocals ret, Jvm.Cond.code ({ cls := "com/example/cijing/cijing/text/Text", name := "isDigit", desc := "(C)Z" } : Jvm.MethodName) prog_51_method_4_code (1 : Nat) (Option.some Jvm.ClassFile.FieldType.boolean), Jvm.Cond.code ({ cls := "com/example/cijing/cijing/text/TextIsDigitPinLaw", name := "reference", desc := "(I)Z" } : Jvm.MethodName) method_2_code (3 : Nat) (Option.some Jvm.ClassFile.FieldType.boolean)]
set_option maxRecDepth 65536 in
theorem codes_eq : words1.filter isCode = codes1 := rfl
theorem w_codes : ∀ c ∈ words1.filter isCode, c.before args0 about1 = true := by
  rw [codes_eq]
  intro c hc
  simp only [codes1, List.mem_cons, List.not_mem_nil, or_false] at hc
  rcases hc with rfl | rfl | rfl
  · exact w_c0
  · exact w_c1
  · exact w_c2
set_option maxRecDepth 65536 in
theorem w_t1 : words1.all (fun c => isCode c || c.before args0 about1) = true := by decide +kernel
theorem w_tables : (allAtoms (Jvm.Cond.code x code maxLocals ret :: tables_1)).before args0 about1 = true := by
  rw [allAtoms_all]
  show words1.all (fun c => c.before args0 about1) = true
  refine all_split ?_ w_codes
  rw [w_t1]
set_option maxRecDepth 65536 in
theorem w_case : (Jvm.Cond.and given_1 narrow_1).before args0 about1 = true := by decide +kernel
theorem w_applies : (headSpec (Jvm.Cond.code x code maxLocals ret :: tables_1) room_1).applies x e0.platform about1 = true :=
  (Spec.applies_iff w_frames).mpr ⟨w_running, w_runnable, w_alone, w_named, w_hears, w_ripe, w_room, w_tables⟩
theorem atStart : AtStart classFile x code maxLocals ret World_1 tables_1 room_1 Calls_1 rest_1 Pre_1 launch0 p0 e0 about1 theMethod args0 below0 :=
  ⟨lists_1, trivial, launch0.admits_env _ _ _, launch0.least_env, fairChoices_fair.cas, fairChoices_fair.clock, w_frames, w_args, w_heap, w_applies, trivial, trivial, w_case⟩
end start1
theorem witness_1 : WitnessClaimed_1 := ⟨start1.p0, start1.e0, start1.about1, start1.theMethod, start1.args0, start1.below0, start1.atStart⟩
end Jvm.Pilot.@@N@@
