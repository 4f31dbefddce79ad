import JvmDerived
import JvmDerived.Pilot.@@N@@Statement
import JvmDerived.Pilot.@@N@@Code
set_option linter.unusedVariables false
set_option linter.unusedSimpArgs false

namespace Jvm.Pilot.@@N@@
open Jvm Jvm.ClassFile Sem Op Lib Jvm.Free Jvm.Stand Jvm.LawKit Jvm.RoadKit Bundle Jvm.Pilot.@@N@@.Jvm.D
/-- the run from U comes to an end of which P holds -/
def own_Go (tb : Tables) (e : Env) (below : List Frame) (P : Outcome → State → Prop) (U : State) : Prop :=
  ∃ s₂ o, Steps tb e below U s₂ ∧ s₂.status = .running ∧ Ended s₂ below o ∧ P o s₂
theorem own_go {tb : Tables} {e : Env} {below : List Frame} {P : Outcome → State → Prop} {U U' : State} (k : ∀ t, Steps tb e below U' t → Steps tb e below U t) (h : own_Go tb e below P U') : own_Go tb e below P U := by
  obtain ⟨t, o, h1, h2⟩ := h
  exact ⟨t, o, k t h1, h2⟩
section Own
variable {p : Program} {l : Launch} {e : Env} {R : Room} {s : State} {m : MethodId} {args : Array Value} {below : List Frame} {meth : Method} {c : Code} {T : State} {locs : List Loc} {cells slots : Nat}
theorem own_retI (X : Stand p l e R s m args below meth c T locs cells slots) (hx : p.tables.exec = Jvm.exec) {pc : Nat} {Ls : Array Slot} {z : Int32} {rest : List Value} (hret : meth.sig.returnType = some .int) (hd : decode c.code pc = .ok (.ireturn, 1)) {fs : List Frame}
    (hl : ∀ (f : JFrame) (acts : List Action), f.method = m → f.locked = none → f.entered = [] → (doReturn e (T.setTop f) acts (some (.int z))).1 = T.setFrames fs) : Steps p.tables e below (T.setTop (mkF m pc Ls (.int z :: rest))) (T.setFrames fs) := by
  have hm' : T.vm.method? m = some meth := X.method'
  have hn : narrow .int (.int z) = .int z := rfl
  show Steps p.tables e below (T.setTop { method := m, pc := pc, locals := Ls, stack := _ :: rest, locked := none }) _
  jvm_step X.here [X.here.top, hx, hd, hm', hret, hn]
  first | (intro acts; rw [hl _ acts rfl rfl rfl]) | rw [hl _ _ rfl rfl rfl]
  exact Steps.refl _
theorem own_retJ (X : Stand p l e R s m args below meth c T locs cells slots) (hx : p.tables.exec = Jvm.exec) {pc : Nat} {Ls : Array Slot} {z : Int64} {rest : List Value} (hret : meth.sig.returnType = some .long) (hd : decode c.code pc = .ok (.lreturn, 1)) {fs : List Frame}
    (hl : ∀ (f : JFrame) (acts : List Action), f.method = m → f.locked = none → f.entered = [] → (doReturn e (T.setTop f) acts (some (.long z))).1 = T.setFrames fs) : Steps p.tables e below (T.setTop (mkF m pc Ls (.long z :: rest))) (T.setFrames fs) := by
  have hm' : T.vm.method? m = some meth := X.method'
  show Steps p.tables e below (T.setTop { method := m, pc := pc, locals := Ls, stack := _ :: rest, locked := none }) _
  jvm_step X.here [X.here.top, hx, hd, hm', hret, narrow]
  first | (intro acts; rw [hl _ acts rfl rfl rfl]) | rw [hl _ _ rfl rfl rfl]
  exact Steps.refl _
theorem own_end {Q : Option Value → Heap → List Loc → Prop} {kc ks : Nat} (X : Stand p l e R s m args below meth c T locs cells slots) (hlocks : meth.locks = false) {g : JFrame} {v : Option Value}
    (hv : meth.sig.returnType = none → v = none)
    (hs : ∀ fs, (∀ (f : JFrame) (acts : List Action), f.method = m → f.locked = none → f.entered = [] → (doReturn e (T.setTop f) acts v).1 = T.setFrames fs) → Steps p.tables e below (T.setTop g) (T.setFrames fs))
    (hQ : Q v T.heap locs) (h1 : cells ≤ kc) (h2 : slots ≤ ks) :
    own_Go p.tables e below (fun o U' => ∃ v L, o = .returned v ∧ Q v U'.heap L ∧ FrameEnd s o U' L kc ks) (T.setTop g) := by
  obtain ⟨fs, hr, hrun, hended, hW, hsame⟩ := X.leave (v := v) hv hlocks
  exact ⟨_, _, hs fs hr, hrun, hended, _, _, rfl, hQ, ⟨_, rfl⟩, hW, hsame.mono h1 h2⟩
end Own
def own_f1 (p0 : Int32) : Int32 :=
  (if p0 < (65 : Int32) then (if p0 < (97 : Int32) then (if p0 < (65313 : Int32) then (if p0 < (65345 : Int32) then (0 : Int32) else (if (65370 : Int32) < p0 then (0 : Int32) else (1 : Int32))) else (if (65338 : Int32) < p0 then (if p0 < (65345 : Int32) then (0 : Int32) else (if (65370 : Int32) < p0 then (0 : Int32) else (1 : Int32))) else (1 : Int32))) else (if (122 : Int32) < p0 then (if p0 < (65313 : Int32) then (if p0 < (65345 : Int32) then (0 : Int32) else (if (65370 : Int32) < p0 then (0 : Int32) else (1 : Int32))) else (if (65338 : Int32) < p0 then (if p0 < (65345 : Int32) then (0 : Int32) else (if (65370 : Int32) < p0 then (0 : Int32) else (1 : Int32))) else (1 : Int32))) else (1 : Int32))) else (if (90 : Int32) < p0 then (if p0 < (97 : Int32) then (if p0 < (65313 : Int32) then (if p0 < (65345 : Int32) then (0 : Int32) else (if (65370 : Int32) < p0 then (0 : Int32) else (1 : Int32))) else (if (65338 : Int32) < p0 then (if p0 < (65345 : Int32) then (0 : Int32) else (if (65370 : Int32) < p0 then (0 : Int32) else (1 : Int32))) else (1 : Int32))) else (if (122 : Int32) < p0 then (if p0 < (65313 : Int32) then (if p0 < (65345 : Int32) then (0 : Int32) else (if (65370 : Int32) < p0 then (0 : Int32) else (1 : Int32))) else (if (65338 : Int32) < p0 then (if p0 < (65345 : Int32) then (0 : Int32) else (if (65370 : Int32) < p0 then (0 : Int32) else (1 : Int32))) else (1 : Int32))) else (1 : Int32))) else (1 : Int32)))
theorem d1_0 : decode prog_51_method_6_code 0 = .ok (.iload_n 0, 1) := by decide +kernel
theorem d1_1 : decode prog_51_method_6_code 1 = .ok (.bipush 65, 2) := by decide +kernel
theorem d1_3 : decode prog_51_method_6_code 3 = .ok (.if_icmp .lt 9, 3) := by decide +kernel
theorem d1_6 : decode prog_51_method_6_code 6 = .ok (.iload_n 0, 1) := by decide +kernel
theorem d1_7 : decode prog_51_method_6_code 7 = .ok (.bipush 90, 2) := by decide +kernel
theorem d1_9 : decode prog_51_method_6_code 9 = .ok (.if_icmp .le 39, 3) := by decide +kernel
theorem d1_12 : decode prog_51_method_6_code 12 = .ok (.iload_n 0, 1) := by decide +kernel
theorem d1_13 : decode prog_51_method_6_code 13 = .ok (.bipush 97, 2) := by decide +kernel
theorem d1_15 : decode prog_51_method_6_code 15 = .ok (.if_icmp .lt 9, 3) := by decide +kernel
theorem d1_18 : decode prog_51_method_6_code 18 = .ok (.iload_n 0, 1) := by decide +kernel
theorem d1_19 : decode prog_51_method_6_code 19 = .ok (.bipush 122, 2) := by decide +kernel
theorem d1_21 : decode prog_51_method_6_code 21 = .ok (.if_icmp .le 27, 3) := by decide +kernel
theorem d1_24 : decode prog_51_method_6_code 24 = .ok (.iload_n 0, 1) := by decide +kernel
theorem d1_25 : decode prog_51_method_6_code 25 = .ok (.ldc 26, 2) := by decide +kernel
theorem d1_27 : decode prog_51_method_6_code 27 = .ok (.if_icmp .lt 9, 3) := by decide +kernel
theorem d1_30 : decode prog_51_method_6_code 30 = .ok (.iload_n 0, 1) := by decide +kernel
theorem d1_31 : decode prog_51_method_6_code 31 = .ok (.ldc 27, 2) := by decide +kernel
theorem d1_33 : decode prog_51_method_6_code 33 = .ok (.if_icmp .le 15, 3) := by decide +kernel
theorem d1_36 : decode prog_51_method_6_code 36 = .ok (.iload_n 0, 1) := by decide +kernel
theorem d1_37 : decode prog_51_method_6_code 37 = .ok (.ldc 28, 2) := by decide +kernel
theorem d1_39 : decode prog_51_method_6_code 39 = .ok (.if_icmp .lt 13, 3) := by decide +kernel
theorem d1_42 : decode prog_51_method_6_code 42 = .ok (.iload_n 0, 1) := by decide +kernel
theorem d1_43 : decode prog_51_method_6_code 43 = .ok (.ldc 29, 2) := by decide +kernel
theorem d1_45 : decode prog_51_method_6_code 45 = .ok (.if_icmp .gt 7, 3) := by decide +kernel
theorem d1_48 : decode prog_51_method_6_code 48 = .ok (.iconst 1, 1) := by decide +kernel
theorem d1_49 : decode prog_51_method_6_code 49 = .ok (.goto 4, 3) := by decide +kernel
theorem d1_52 : decode prog_51_method_6_code 52 = .ok (.iconst 0, 1) := by decide +kernel
theorem d1_53 : decode prog_51_method_6_code 53 = .ok (.ireturn, 1) := by decide +kernel
theorem pn1 : plainName "com/example/cijing/cijing/text/Text" = true := by first | (simp [plainName, overriddenIn]; done) | decide +kernel
theorem ef1 (m : MethodId) (p0 : Int32) : entryFrame m #[(.int p0)] 1 = mkF m 0 #[.val (.int p0)] [] := by first | (simp [entryFrame, mkF, argsToLocals, Value.category]; done) | rfl
def own_Q1 (Z : State) (p0 : Int32) (h0 : Heap) (n0 : Nat) (v : Option Value) (h : Heap) (L : List Loc) : Prop := v = some (.int (own_f1 p0)) ∧ Fr n0 L ∧ h = h0
set_option maxRecDepth 65536 in
set_option maxHeartbeats 40000000 in
theorem rm1 (l : Launch) (Z : State) (a0 : Array Value) (hw : ∀ d ∈ tables_1, d.before a0 Z = true) (ws : List Jvm.Cond) (p0 : Int32) (h0 : Heap) (n0 : Nat) (Z0 : n0 ≤ h0.size) :
    MetFree l (⟨"com/example/cijing/cijing/text/Text", "isLatinLetter", "(C)Z"⟩ : MethodName) (head1 (Jvm.Cond.code (⟨"com/example/cijing/cijing/text/Text", "isLatinLetter", "(C)Z"⟩ : MethodName) prog_51_method_6_code 1 (some .boolean) :: ws) ({ frames := 0, cells := 0, slots := 0, locals := 0 } : Room)) (fun a U => a = #[(.int p0)] ∧ Z.Warmed39 U.vm ∧ U.heap = h0) (fun _ _ _ _ _ => True) (fun _ U o U' => ∃ v L, o = .returned v ∧ own_Q1 Z p0 h0 n0 v U'.heap L ∧ FrameEnd U o U' L ({ frames := 0, cells := 0, slots := 0, locals := 0 } : Room).cells ({ frames := 0, cells := 0, slots := 0, locals := 0 } : Room).slots) := by
  refine MetFree.of_bodySF (plainFor_of_name pn1) hisR ?_
  intro p e s m args below meth c s₁ Bd hml0 hP hK
  obtain ⟨rfl, hZ, hh⟩ := hP
  have hx := Bd.exec
  have hby := Bd.bytes
  have hml : c.maxLocals = 1 := hml0
  have hown : s.vm.findClass "com/example/cijing/cijing/text/Text" = some m.cls := findClass_of_methodNamed Bd.named
  have hnm := (name_of_methodNamed Bd.named Bd.method).1
  have X0 : Stand p l e ({ frames := 0, cells := 0, slots := 0, locals := 0 } : Room) s m #[(.int p0)] below meth c s₁ [] 0 0 := Stand.of_body Bd
  have e0 : s₁.heap = h0 := by rw [← hh, Bd.state]; rfl
  have N0 := Fr.nil n0
  show own_Go p.tables e below (fun o U' => ∃ v L, o = .returned v ∧ own_Q1 Z p0 h0 n0 v U'.heap L ∧ FrameEnd s o U' L ({ frames := 0, cells := 0, slots := 0, locals := 0 } : Room).cells ({ frames := 0, cells := 0, slots := 0, locals := 0 } : Room).slots) (s₁.setTop (entryFrame m #[(.int p0)] 1))
  refine own_go (fun _ k => castTop (ef1 m p0) k) ?_
  show own_Go p.tables e below _ (s₁.setTop (mkF m 0 #[.val (.int p0)] []))
  refine own_go (fun _ k => XS.iloadN X0.here hx rfl (hb hby d1_0) rfl k) ?_
  show own_Go p.tables e below _ (s₁.setTop (mkF m 1 #[.val (.int p0)] [(.int p0)]))
  refine own_go (fun _ k => XS.bipush X0.here hx rfl (hb hby d1_1) k) ?_
  show own_Go p.tables e below _ (s₁.setTop (mkF m 3 #[.val (.int p0)] [(.int (65 : Int32)), (.int p0)]))
  by_cases hc3 : p0 < (65 : Int32)
  · refine own_go (fun _ k => XS.icmpYes X0.here hx rfl (pc0 := 3) (pc' := 12) rfl (hb hby d1_3) rfl (tlt hc3).1 (by decide) (by decide) k) ?_
    show own_Go p.tables e below _ (s₁.setTop (mkF m 12 #[.val (.int p0)] []))
    refine own_go (fun _ k => XS.iloadN X0.here hx rfl (hb hby d1_12) rfl k) ?_
    show own_Go p.tables e below _ (s₁.setTop (mkF m 13 #[.val (.int p0)] [(.int p0)]))
    refine own_go (fun _ k => XS.bipush X0.here hx rfl (hb hby d1_13) k) ?_
    show own_Go p.tables e below _ (s₁.setTop (mkF m 15 #[.val (.int p0)] [(.int (97 : Int32)), (.int p0)]))
    by_cases hc15 : p0 < (97 : Int32)
    · refine own_go (fun _ k => XS.icmpYes X0.here hx rfl (pc0 := 15) (pc' := 24) rfl (hb hby d1_15) rfl (tlt hc15).1 (by decide) (by decide) k) ?_
      show own_Go p.tables e below _ (s₁.setTop (mkF m 24 #[.val (.int p0)] []))
      refine own_go (fun _ k => XS.iloadN X0.here hx rfl (hb hby d1_24) rfl k) ?_
      show own_Go p.tables e below _ (s₁.setTop (mkF m 25 #[.val (.int p0)] [(.int p0)]))
      refine own_go (fun _ k => X0.ldcInt hx hown (mvT hZ (hw _ (List.mem_of_getElem? (i := 6) rfl))) (g := (mkF m 25 #[.val (.int p0)] [(.int p0)])) rfl (hb hby d1_25) _ k) ?_
      show own_Go p.tables e below _ (s₁.setTop (mkF m 27 #[.val (.int p0)] [(.int (65313 : Int32)), (.int p0)]))
      by_cases hc27 : p0 < (65313 : Int32)
      · refine own_go (fun _ k => XS.icmpYes X0.here hx rfl (pc0 := 27) (pc' := 36) rfl (hb hby d1_27) rfl (tlt hc27).1 (by decide) (by decide) k) ?_
        show own_Go p.tables e below _ (s₁.setTop (mkF m 36 #[.val (.int p0)] []))
        refine own_go (fun _ k => XS.iloadN X0.here hx rfl (hb hby d1_36) rfl k) ?_
        show own_Go p.tables e below _ (s₁.setTop (mkF m 37 #[.val (.int p0)] [(.int p0)]))
        refine own_go (fun _ k => X0.ldcInt hx hown (mvT hZ (hw _ (List.mem_of_getElem? (i := 7) rfl))) (g := (mkF m 37 #[.val (.int p0)] [(.int p0)])) rfl (hb hby d1_37) _ k) ?_
        show own_Go p.tables e below _ (s₁.setTop (mkF m 39 #[.val (.int p0)] [(.int (65345 : Int32)), (.int p0)]))
        by_cases hc39 : p0 < (65345 : Int32)
        · refine own_go (fun _ k => XS.icmpYes X0.here hx rfl (pc0 := 39) (pc' := 52) rfl (hb hby d1_39) rfl (tlt hc39).1 (by decide) (by decide) k) ?_
          show own_Go p.tables e below _ (s₁.setTop (mkF m 52 #[.val (.int p0)] []))
          refine own_go (fun _ k => XS.iconst X0.here hx rfl (hb hby d1_52) k) ?_
          show own_Go p.tables e below _ (s₁.setTop (mkF m 53 #[.val (.int p0)] [(.int (0 : Int32))]))
          refine own_end X0 Bd.notSynchronized (v := some (.int (0 : Int32))) (fun h => by rw [Bd.returns] at h; cases h) (fun fs hr => retN X0 hx (t := .boolean) Bd.returns (by simp) (hb hby d1_53) hr) ?_ (by decide) (by decide)
          exact ⟨by rw [own_f1, if_pos hc3, if_pos hc15, if_pos hc27, if_pos hc39], N0, e0⟩
        · refine own_go (fun _ k => XS.icmpNo X0.here hx rfl (hb hby d1_39) rfl (flt hc39).1 k) ?_
          show own_Go p.tables e below _ (s₁.setTop (mkF m 42 #[.val (.int p0)] []))
          refine own_go (fun _ k => XS.iloadN X0.here hx rfl (hb hby d1_42) rfl k) ?_
          show own_Go p.tables e below _ (s₁.setTop (mkF m 43 #[.val (.int p0)] [(.int p0)]))
          refine own_go (fun _ k => X0.ldcInt hx hown (mvT hZ (hw _ (List.mem_of_getElem? (i := 10) rfl))) (g := (mkF m 43 #[.val (.int p0)] [(.int p0)])) rfl (hb hby d1_43) _ k) ?_
          show own_Go p.tables e below _ (s₁.setTop (mkF m 45 #[.val (.int p0)] [(.int (65370 : Int32)), (.int p0)]))
          by_cases hc45 : (65370 : Int32) < p0
          · refine own_go (fun _ k => XS.icmpYes X0.here hx rfl (pc0 := 45) (pc' := 52) rfl (hb hby d1_45) rfl (tlt hc45).2.2.1 (by decide) (by decide) k) ?_
            show own_Go p.tables e below _ (s₁.setTop (mkF m 52 #[.val (.int p0)] []))
            refine own_go (fun _ k => XS.iconst X0.here hx rfl (hb hby d1_52) k) ?_
            show own_Go p.tables e below _ (s₁.setTop (mkF m 53 #[.val (.int p0)] [(.int (0 : Int32))]))
            refine own_end X0 Bd.notSynchronized (v := some (.int (0 : Int32))) (fun h => by rw [Bd.returns] at h; cases h) (fun fs hr => retN X0 hx (t := .boolean) Bd.returns (by simp) (hb hby d1_53) hr) ?_ (by decide) (by decide)
            exact ⟨by rw [own_f1, if_pos hc3, if_pos hc15, if_pos hc27, if_neg hc39, if_pos hc45], N0, e0⟩
          · refine own_go (fun _ k => XS.icmpNo X0.here hx rfl (hb hby d1_45) rfl (flt hc45).2.2.1 k) ?_
            show own_Go p.tables e below _ (s₁.setTop (mkF m 48 #[.val (.int p0)] []))
            refine own_go (fun _ k => XS.iconst X0.here hx rfl (hb hby d1_48) k) ?_
            show own_Go p.tables e below _ (s₁.setTop (mkF m 49 #[.val (.int p0)] [(.int (1 : Int32))]))
            refine own_go (fun _ k => XS.goto X0.here hx rfl (pc0 := 49) (pc' := 53) rfl (hb hby d1_49) (by decide) (by decide) k) ?_
            show own_Go p.tables e below _ (s₁.setTop (mkF m 53 #[.val (.int p0)] [(.int (1 : Int32))]))
            refine own_end X0 Bd.notSynchronized (v := some (.int (1 : Int32))) (fun h => by rw [Bd.returns] at h; cases h) (fun fs hr => retN X0 hx (t := .boolean) Bd.returns (by simp) (hb hby d1_53) hr) ?_ (by decide) (by decide)
            exact ⟨by rw [own_f1, if_pos hc3, if_pos hc15, if_pos hc27, if_neg hc39, if_neg hc45], N0, e0⟩
      · refine own_go (fun _ k => XS.icmpNo X0.here hx rfl (hb hby d1_27) rfl (flt hc27).1 k) ?_
        show own_Go p.tables e below _ (s₁.setTop (mkF m 30 #[.val (.int p0)] []))
        refine own_go (fun _ k => XS.iloadN X0.here hx rfl (hb hby d1_30) rfl k) ?_
        show own_Go p.tables e below _ (s₁.setTop (mkF m 31 #[.val (.int p0)] [(.int p0)]))
        refine own_go (fun _ k => X0.ldcInt hx hown (mvT hZ (hw _ (List.mem_of_getElem? (i := 9) rfl))) (g := (mkF m 31 #[.val (.int p0)] [(.int p0)])) rfl (hb hby d1_31) _ k) ?_
        show own_Go p.tables e below _ (s₁.setTop (mkF m 33 #[.val (.int p0)] [(.int (65338 : Int32)), (.int p0)]))
        by_cases hc33 : (65338 : Int32) < p0
        · refine own_go (fun _ k => XS.icmpNo X0.here hx rfl (hb hby d1_33) rfl (tlt hc33).2.2.2 k) ?_
          show own_Go p.tables e below _ (s₁.setTop (mkF m 36 #[.val (.int p0)] []))
          refine own_go (fun _ k => XS.iloadN X0.here hx rfl (hb hby d1_36) rfl k) ?_
          show own_Go p.tables e below _ (s₁.setTop (mkF m 37 #[.val (.int p0)] [(.int p0)]))
          refine own_go (fun _ k => X0.ldcInt hx hown (mvT hZ (hw _ (List.mem_of_getElem? (i := 7) rfl))) (g := (mkF m 37 #[.val (.int p0)] [(.int p0)])) rfl (hb hby d1_37) _ k) ?_
          show own_Go p.tables e below _ (s₁.setTop (mkF m 39 #[.val (.int p0)] [(.int (65345 : Int32)), (.int p0)]))
          by_cases hc39 : p0 < (65345 : Int32)
          · refine own_go (fun _ k => XS.icmpYes X0.here hx rfl (pc0 := 39) (pc' := 52) rfl (hb hby d1_39) rfl (tlt hc39).1 (by decide) (by decide) k) ?_
            show own_Go p.tables e below _ (s₁.setTop (mkF m 52 #[.val (.int p0)] []))
            refine own_go (fun _ k => XS.iconst X0.here hx rfl (hb hby d1_52) k) ?_
            show own_Go p.tables e below _ (s₁.setTop (mkF m 53 #[.val (.int p0)] [(.int (0 : Int32))]))
            refine own_end X0 Bd.notSynchronized (v := some (.int (0 : Int32))) (fun h => by rw [Bd.returns] at h; cases h) (fun fs hr => retN X0 hx (t := .boolean) Bd.returns (by simp) (hb hby d1_53) hr) ?_ (by decide) (by decide)
            exact ⟨by rw [own_f1, if_pos hc3, if_pos hc15, if_neg hc27, if_pos hc33, if_pos hc39], N0, e0⟩
          · refine own_go (fun _ k => XS.icmpNo X0.here hx rfl (hb hby d1_39) rfl (flt hc39).1 k) ?_
            show own_Go p.tables e below _ (s₁.setTop (mkF m 42 #[.val (.int p0)] []))
            refine own_go (fun _ k => XS.iloadN X0.here hx rfl (hb hby d1_42) rfl k) ?_
            show own_Go p.tables e below _ (s₁.setTop (mkF m 43 #[.val (.int p0)] [(.int p0)]))
            refine own_go (fun _ k => X0.ldcInt hx hown (mvT hZ (hw _ (List.mem_of_getElem? (i := 10) rfl))) (g := (mkF m 43 #[.val (.int p0)] [(.int p0)])) rfl (hb hby d1_43) _ k) ?_
            show own_Go p.tables e below _ (s₁.setTop (mkF m 45 #[.val (.int p0)] [(.int (65370 : Int32)), (.int p0)]))
            by_cases hc45 : (65370 : Int32) < p0
            · refine own_go (fun _ k => XS.icmpYes X0.here hx rfl (pc0 := 45) (pc' := 52) rfl (hb hby d1_45) rfl (tlt hc45).2.2.1 (by decide) (by decide) k) ?_
              show own_Go p.tables e below _ (s₁.setTop (mkF m 52 #[.val (.int p0)] []))
              refine own_go (fun _ k => XS.iconst X0.here hx rfl (hb hby d1_52) k) ?_
              show own_Go p.tables e below _ (s₁.setTop (mkF m 53 #[.val (.int p0)] [(.int (0 : Int32))]))
              refine own_end X0 Bd.notSynchronized (v := some (.int (0 : Int32))) (fun h => by rw [Bd.returns] at h; cases h) (fun fs hr => retN X0 hx (t := .boolean) Bd.returns (by simp) (hb hby d1_53) hr) ?_ (by decide) (by decide)
              exact ⟨by rw [own_f1, if_pos hc3, if_pos hc15, if_neg hc27, if_pos hc33, if_neg hc39, if_pos hc45], N0, e0⟩
            · refine own_go (fun _ k => XS.icmpNo X0.here hx rfl (hb hby d1_45) rfl (flt hc45).2.2.1 k) ?_
              show own_Go p.tables e below _ (s₁.setTop (mkF m 48 #[.val (.int p0)] []))
              refine own_go (fun _ k => XS.iconst X0.here hx rfl (hb hby d1_48) k) ?_
              show own_Go p.tables e below _ (s₁.setTop (mkF m 49 #[.val (.int p0)] [(.int (1 : Int32))]))
              refine own_go (fun _ k => XS.goto X0.here hx rfl (pc0 := 49) (pc' := 53) rfl (hb hby d1_49) (by decide) (by decide) k) ?_
              show own_Go p.tables e below _ (s₁.setTop (mkF m 53 #[.val (.int p0)] [(.int (1 : Int32))]))
              refine own_end X0 Bd.notSynchronized (v := some (.int (1 : Int32))) (fun h => by rw [Bd.returns] at h; cases h) (fun fs hr => retN X0 hx (t := .boolean) Bd.returns (by simp) (hb hby d1_53) hr) ?_ (by decide) (by decide)
              exact ⟨by rw [own_f1, if_pos hc3, if_pos hc15, if_neg hc27, if_pos hc33, if_neg hc39, if_neg hc45], N0, e0⟩
        · refine own_go (fun _ k => XS.icmpYes X0.here hx rfl (pc0 := 33) (pc' := 48) rfl (hb hby d1_33) rfl (flt hc33).2.2.2 (by decide) (by decide) k) ?_
          show own_Go p.tables e below _ (s₁.setTop (mkF m 48 #[.val (.int p0)] []))
          refine own_go (fun _ k => XS.iconst X0.here hx rfl (hb hby d1_48) k) ?_
          show own_Go p.tables e below _ (s₁.setTop (mkF m 49 #[.val (.int p0)] [(.int (1 : Int32))]))
          refine own_go (fun _ k => XS.goto X0.here hx rfl (pc0 := 49) (pc' := 53) rfl (hb hby d1_49) (by decide) (by decide) k) ?_
          show own_Go p.tables e below _ (s₁.setTop (mkF m 53 #[.val (.int p0)] [(.int (1 : Int32))]))
          refine own_end X0 Bd.notSynchronized (v := some (.int (1 : Int32))) (fun h => by rw [Bd.returns] at h; cases h) (fun fs hr => retN X0 hx (t := .boolean) Bd.returns (by simp) (hb hby d1_53) hr) ?_ (by decide) (by decide)
          exact ⟨by rw [own_f1, if_pos hc3, if_pos hc15, if_neg hc27, if_neg hc33], N0, e0⟩
    · refine own_go (fun _ k => XS.icmpNo X0.here hx rfl (hb hby d1_15) rfl (flt hc15).1 k) ?_
      show own_Go p.tables e below _ (s₁.setTop (mkF m 18 #[.val (.int p0)] []))
      refine own_go (fun _ k => XS.iloadN X0.here hx rfl (hb hby d1_18) rfl k) ?_
      show own_Go p.tables e below _ (s₁.setTop (mkF m 19 #[.val (.int p0)] [(.int p0)]))
      refine own_go (fun _ k => XS.bipush X0.here hx rfl (hb hby d1_19) k) ?_
      show own_Go p.tables e below _ (s₁.setTop (mkF m 21 #[.val (.int p0)] [(.int (122 : Int32)), (.int p0)]))
      by_cases hc21 : (122 : Int32) < p0
      · refine own_go (fun _ k => XS.icmpNo X0.here hx rfl (hb hby d1_21) rfl (tlt hc21).2.2.2 k) ?_
        show own_Go p.tables e below _ (s₁.setTop (mkF m 24 #[.val (.int p0)] []))
        refine own_go (fun _ k => XS.iloadN X0.here hx rfl (hb hby d1_24) rfl k) ?_
        show own_Go p.tables e below _ (s₁.setTop (mkF m 25 #[.val (.int p0)] [(.int p0)]))
        refine own_go (fun _ k => X0.ldcInt hx hown (mvT hZ (hw _ (List.mem_of_getElem? (i := 6) rfl))) (g := (mkF m 25 #[.val (.int p0)] [(.int p0)])) rfl (hb hby d1_25) _ k) ?_
        show own_Go p.tables e below _ (s₁.setTop (mkF m 27 #[.val (.int p0)] [(.int (65313 : Int32)), (.int p0)]))
        by_cases hc27 : p0 < (65313 : Int32)
        · refine own_go (fun _ k => XS.icmpYes X0.here hx rfl (pc0 := 27) (pc' := 36) rfl (hb hby d1_27) rfl (tlt hc27).1 (by decide) (by decide) k) ?_
          show own_Go p.tables e below _ (s₁.setTop (mkF m 36 #[.val (.int p0)] []))
          refine own_go (fun _ k => XS.iloadN X0.here hx rfl (hb hby d1_36) rfl k) ?_
          show own_Go p.tables e below _ (s₁.setTop (mkF m 37 #[.val (.int p0)] [(.int p0)]))
          refine own_go (fun _ k => X0.ldcInt hx hown (mvT hZ (hw _ (List.mem_of_getElem? (i := 7) rfl))) (g := (mkF m 37 #[.val (.int p0)] [(.int p0)])) rfl (hb hby d1_37) _ k) ?_
          show own_Go p.tables e below _ (s₁.setTop (mkF m 39 #[.val (.int p0)] [(.int (65345 : Int32)), (.int p0)]))
          by_cases hc39 : p0 < (65345 : Int32)
          · refine own_go (fun _ k => XS.icmpYes X0.here hx rfl (pc0 := 39) (pc' := 52) rfl (hb hby d1_39) rfl (tlt hc39).1 (by decide) (by decide) k) ?_
            show own_Go p.tables e below _ (s₁.setTop (mkF m 52 #[.val (.int p0)] []))
            refine own_go (fun _ k => XS.iconst X0.here hx rfl (hb hby d1_52) k) ?_
            show own_Go p.tables e below _ (s₁.setTop (mkF m 53 #[.val (.int p0)] [(.int (0 : Int32))]))
            refine own_end X0 Bd.notSynchronized (v := some (.int (0 : Int32))) (fun h => by rw [Bd.returns] at h; cases h) (fun fs hr => retN X0 hx (t := .boolean) Bd.returns (by simp) (hb hby d1_53) hr) ?_ (by decide) (by decide)
            exact ⟨by rw [own_f1, if_pos hc3, if_neg hc15, if_pos hc21, if_pos hc27, if_pos hc39], N0, e0⟩
          · refine own_go (fun _ k => XS.icmpNo X0.here hx rfl (hb hby d1_39) rfl (flt hc39).1 k) ?_
            show own_Go p.tables e below _ (s₁.setTop (mkF m 42 #[.val (.int p0)] []))
            refine own_go (fun _ k => XS.iloadN X0.here hx rfl (hb hby d1_42) rfl k) ?_
            show own_Go p.tables e below _ (s₁.setTop (mkF m 43 #[.val (.int p0)] [(.int p0)]))
            refine own_go (fun _ k => X0.ldcInt hx hown (mvT hZ (hw _ (List.mem_of_getElem? (i := 10) rfl))) (g := (mkF m 43 #[.val (.int p0)] [(.int p0)])) rfl (hb hby d1_43) _ k) ?_
            show own_Go p.tables e below _ (s₁.setTop (mkF m 45 #[.val (.int p0)] [(.int (65370 : Int32)), (.int p0)]))
            by_cases hc45 : (65370 : Int32) < p0
            · refine own_go (fun _ k => XS.icmpYes X0.here hx rfl (pc0 := 45) (pc' := 52) rfl (hb hby d1_45) rfl (tlt hc45).2.2.1 (by decide) (by decide) k) ?_
              show own_Go p.tables e below _ (s₁.setTop (mkF m 52 #[.val (.int p0)] []))
              refine own_go (fun _ k => XS.iconst X0.here hx rfl (hb hby d1_52) k) ?_
              show own_Go p.tables e below _ (s₁.setTop (mkF m 53 #[.val (.int p0)] [(.int (0 : Int32))]))
              refine own_end X0 Bd.notSynchronized (v := some (.int (0 : Int32))) (fun h => by rw [Bd.returns] at h; cases h) (fun fs hr => retN X0 hx (t := .boolean) Bd.returns (by simp) (hb hby d1_53) hr) ?_ (by decide) (by decide)
              exact ⟨by rw [own_f1, if_pos hc3, if_neg hc15, if_pos hc21, if_pos hc27, if_neg hc39, if_pos hc45], N0, e0⟩
            · refine own_go (fun _ k => XS.icmpNo X0.here hx rfl (hb hby d1_45) rfl (flt hc45).2.2.1 k) ?_
              show own_Go p.tables e below _ (s₁.setTop (mkF m 48 #[.val (.int p0)] []))
              refine own_go (fun _ k => XS.iconst X0.here hx rfl (hb hby d1_48) k) ?_
              show own_Go p.tables e below _ (s₁.setTop (mkF m 49 #[.val (.int p0)] [(.int (1 : Int32))]))
              refine own_go (fun _ k => XS.goto X0.here hx rfl (pc0 := 49) (pc' := 53) rfl (hb hby d1_49) (by decide) (by decide) k) ?_
              show own_Go p.tables e below _ (s₁.setTop (mkF m 53 #[.val (.int p0)] [(.int (1 : Int32))]))
              refine own_end X0 Bd.notSynchronized (v := some (.int (1 : Int32))) (fun h => by rw [Bd.returns] at h; cases h) (fun fs hr => retN X0 hx (t := .boolean) Bd.returns (by simp) (hb hby d1_53) hr) ?_ (by decide) (by decide)
              exact ⟨by rw [own_f1, if_pos hc3, if_neg hc15, if_pos hc21, if_pos hc27, if_neg hc39, if_neg hc45], N0, e0⟩
        · refine own_go (fun _ k => XS.icmpNo X0.here hx rfl (hb hby d1_27) rfl (flt hc27).1 k) ?_
          show own_Go p.tables e below _ (s₁.setTop (mkF m 30 #[.val (.int p0)] []))
          refine own_go (fun _ k => XS.iloadN X0.here hx rfl (hb hby d1_30) rfl k) ?_
          show own_Go p.tables e below _ (s₁.setTop (mkF m 31 #[.val (.int p0)] [(.int p0)]))
          refine own_go (fun _ k => X0.ldcInt hx hown (mvT hZ (hw _ (List.mem_of_getElem? (i := 9) rfl))) (g := (mkF m 31 #[.val (.int p0)] [(.int p0)])) rfl (hb hby d1_31) _ k) ?_
          show own_Go p.tables e below _ (s₁.setTop (mkF m 33 #[.val (.int p0)] [(.int (65338 : Int32)), (.int p0)]))
          by_cases hc33 : (65338 : Int32) < p0
          · refine own_go (fun _ k => XS.icmpNo X0.here hx rfl (hb hby d1_33) rfl (tlt hc33).2.2.2 k) ?_
            show own_Go p.tables e below _ (s₁.setTop (mkF m 36 #[.val (.int p0)] []))
            refine own_go (fun _ k => XS.iloadN X0.here hx rfl (hb hby d1_36) rfl k) ?_
            show own_Go p.tables e below _ (s₁.setTop (mkF m 37 #[.val (.int p0)] [(.int p0)]))
            refine own_go (fun _ k => X0.ldcInt hx hown (mvT hZ (hw _ (List.mem_of_getElem? (i := 7) rfl))) (g := (mkF m 37 #[.val (.int p0)] [(.int p0)])) rfl (hb hby d1_37) _ k) ?_
            show own_Go p.tables e below _ (s₁.setTop (mkF m 39 #[.val (.int p0)] [(.int (65345 : Int32)), (.int p0)]))
            by_cases hc39 : p0 < (65345 : Int32)
            · refine own_go (fun _ k => XS.icmpYes X0.here hx rfl (pc0 := 39) (pc' := 52) rfl (hb hby d1_39) rfl (tlt hc39).1 (by decide) (by decide) k) ?_
              show own_Go p.tables e below _ (s₁.setTop (mkF m 52 #[.val (.int p0)] []))
              refine own_go (fun _ k => XS.iconst X0.here hx rfl (hb hby d1_52) k) ?_
              show own_Go p.tables e below _ (s₁.setTop (mkF m 53 #[.val (.int p0)] [(.int (0 : Int32))]))
              refine own_end X0 Bd.notSynchronized (v := some (.int (0 : Int32))) (fun h => by rw [Bd.returns] at h; cases h) (fun fs hr => retN X0 hx (t := .boolean) Bd.returns (by simp) (hb hby d1_53) hr) ?_ (by decide) (by decide)
              exact ⟨by rw [own_f1, if_pos hc3, if_neg hc15, if_pos hc21, if_neg hc27, if_pos hc33, if_pos hc39], N0, e0⟩
            · refine own_go (fun _ k => XS.icmpNo X0.here hx rfl (hb hby d1_39) rfl (flt hc39).1 k) ?_
              show own_Go p.tables e below _ (s₁.setTop (mkF m 42 #[.val (.int p0)] []))
              refine own_go (fun _ k => XS.iloadN X0.here hx rfl (hb hby d1_42) rfl k) ?_
              show own_Go p.tables e below _ (s₁.setTop (mkF m 43 #[.val (.int p0)] [(.int p0)]))
              refine own_go (fun _ k => X0.ldcInt hx hown (mvT hZ (hw _ (List.mem_of_getElem? (i := 10) rfl))) (g := (mkF m 43 #[.val (.int p0)] [(.int p0)])) rfl (hb hby d1_43) _ k) ?_
              show own_Go p.tables e below _ (s₁.setTop (mkF m 45 #[.val (.int p0)] [(.int (65370 : Int32)), (.int p0)]))
              by_cases hc45 : (65370 : Int32) < p0
              · refine own_go (fun _ k => XS.icmpYes X0.here hx rfl (pc0 := 45) (pc' := 52) rfl (hb hby d1_45) rfl (tlt hc45).2.2.1 (by decide) (by decide) k) ?_
                show own_Go p.tables e below _ (s₁.setTop (mkF m 52 #[.val (.int p0)] []))
                refine own_go (fun _ k => XS.iconst X0.here hx rfl (hb hby d1_52) k) ?_
                show own_Go p.tables e below _ (s₁.setTop (mkF m 53 #[.val (.int p0)] [(.int (0 : Int32))]))
                refine own_end X0 Bd.notSynchronized (v := some (.int (0 : Int32))) (fun h => by rw [Bd.returns] at h; cases h) (fun fs hr => retN X0 hx (t := .boolean) Bd.returns (by simp) (hb hby d1_53) hr) ?_ (by decide) (by decide)
                exact ⟨by rw [own_f1, if_pos hc3, if_neg hc15, if_pos hc21, if_neg hc27, if_pos hc33, if_neg hc39, if_pos hc45], N0, e0⟩
              · refine own_go (fun _ k => XS.icmpNo X0.here hx rfl (hb hby d1_45) rfl (flt hc45).2.2.1 k) ?_
                show own_Go p.tables e below _ (s₁.setTop (mkF m 48 #[.val (.int p0)] []))
                refine own_go (fun _ k => XS.iconst X0.here hx rfl (hb hby d1_48) k) ?_
                show own_Go p.tables e below _ (s₁.setTop (mkF m 49 #[.val (.int p0)] [(.int (1 : Int32))]))
                refine own_go (fun _ k => XS.goto X0.here hx rfl (pc0 := 49) (pc' := 53) rfl (hb hby d1_49) (by decide) (by decide) k) ?_
                show own_Go p.tables e below _ (s₁.setTop (mkF m 53 #[.val (.int p0)] [(.int (1 : Int32))]))
                refine own_end X0 Bd.notSynchronized (v := some (.int (1 : Int32))) (fun h => by rw [Bd.returns] at h; cases h) (fun fs hr => retN X0 hx (t := .boolean) Bd.returns (by simp) (hb hby d1_53) hr) ?_ (by decide) (by decide)
                exact ⟨by rw [own_f1, if_pos hc3, if_neg hc15, if_pos hc21, if_neg hc27, if_pos hc33, if_neg hc39, if_neg hc45], N0, e0⟩
          · refine own_go (fun _ k => XS.icmpYes X0.here hx rfl (pc0 := 33) (pc' := 48) rfl (hb hby d1_33) rfl (flt hc33).2.2.2 (by decide) (by decide) k) ?_
            show own_Go p.tables e below _ (s₁.setTop (mkF m 48 #[.val (.int p0)] []))
            refine own_go (fun _ k => XS.iconst X0.here hx rfl (hb hby d1_48) k) ?_
            show own_Go p.tables e below _ (s₁.setTop (mkF m 49 #[.val (.int p0)] [(.int (1 : Int32))]))
            refine own_go (fun _ k => XS.goto X0.here hx rfl (pc0 := 49) (pc' := 53) rfl (hb hby d1_49) (by decide) (by decide) k) ?_
            show own_Go p.tables e below _ (s₁.setTop (mkF m 53 #[.val (.int p0)] [(.int (1 : Int32))]))
            refine own_end X0 Bd.notSynchronized (v := some (.int (1 : Int32))) (fun h => by rw [Bd.returns] at h; cases h) (fun fs hr => retN X0 hx (t := .boolean) Bd.returns (by simp) (hb hby d1_53) hr) ?_ (by decide) (by decide)
            exact ⟨by rw [own_f1, if_pos hc3, if_neg hc15, if_pos hc21, if_neg hc27, if_neg hc33], N0, e0⟩
      · refine own_go (fun _ k => XS.icmpYes X0.here hx rfl (pc0 := 21) (pc' := 48) rfl (hb hby d1_21) rfl (flt hc21).2.2.2 (by decide) (by decide) k) ?_
        show own_Go p.tables e below _ (s₁.setTop (mkF m 48 #[.val (.int p0)] []))
        refine own_go (fun _ k => XS.iconst X0.here hx rfl (hb hby d1_48) k) ?_
        show own_Go p.tables e below _ (s₁.setTop (mkF m 49 #[.val (.int p0)] [(.int (1 : Int32))]))
        refine own_go (fun _ k => XS.goto X0.here hx rfl (pc0 := 49) (pc' := 53) rfl (hb hby d1_49) (by decide) (by decide) k) ?_
        show own_Go p.tables e below _ (s₁.setTop (mkF m 53 #[.val (.int p0)] [(.int (1 : Int32))]))
        refine own_end X0 Bd.notSynchronized (v := some (.int (1 : Int32))) (fun h => by rw [Bd.returns] at h; cases h) (fun fs hr => retN X0 hx (t := .boolean) Bd.returns (by simp) (hb hby d1_53) hr) ?_ (by decide) (by decide)
        exact ⟨by rw [own_f1, if_pos hc3, if_neg hc15, if_neg hc21], N0, e0⟩
  · refine own_go (fun _ k => XS.icmpNo X0.here hx rfl (hb hby d1_3) rfl (flt hc3).1 k) ?_
    show own_Go p.tables e below _ (s₁.setTop (mkF m 6 #[.val (.int p0)] []))
    refine own_go (fun _ k => XS.iloadN X0.here hx rfl (hb hby d1_6) rfl k) ?_
    show own_Go p.tables e below _ (s₁.setTop (mkF m 7 #[.val (.int p0)] [(.int p0)]))
    refine own_go (fun _ k => XS.bipush X0.here hx rfl (hb hby d1_7) k) ?_
    show own_Go p.tables e below _ (s₁.setTop (mkF m 9 #[.val (.int p0)] [(.int (90 : Int32)), (.int p0)]))
    by_cases hc9 : (90 : Int32) < p0
    · refine own_go (fun _ k => XS.icmpNo X0.here hx rfl (hb hby d1_9) rfl (tlt hc9).2.2.2 k) ?_
      show own_Go p.tables e below _ (s₁.setTop (mkF m 12 #[.val (.int p0)] []))
      refine own_go (fun _ k => XS.iloadN X0.here hx rfl (hb hby d1_12) rfl k) ?_
      show own_Go p.tables e below _ (s₁.setTop (mkF m 13 #[.val (.int p0)] [(.int p0)]))
      refine own_go (fun _ k => XS.bipush X0.here hx rfl (hb hby d1_13) k) ?_
      show own_Go p.tables e below _ (s₁.setTop (mkF m 15 #[.val (.int p0)] [(.int (97 : Int32)), (.int p0)]))
      by_cases hc15 : p0 < (97 : Int32)
      · refine own_go (fun _ k => XS.icmpYes X0.here hx rfl (pc0 := 15) (pc' := 24) rfl (hb hby d1_15) rfl (tlt hc15).1 (by decide) (by decide) k) ?_
        show own_Go p.tables e below _ (s₁.setTop (mkF m 24 #[.val (.int p0)] []))
        refine own_go (fun _ k => XS.iloadN X0.here hx rfl (hb hby d1_24) rfl k) ?_
        show own_Go p.tables e below _ (s₁.setTop (mkF m 25 #[.val (.int p0)] [(.int p0)]))
        refine own_go (fun _ k => X0.ldcInt hx hown (mvT hZ (hw _ (List.mem_of_getElem? (i := 6) rfl))) (g := (mkF m 25 #[.val (.int p0)] [(.int p0)])) rfl (hb hby d1_25) _ k) ?_
        show own_Go p.tables e below _ (s₁.setTop (mkF m 27 #[.val (.int p0)] [(.int (65313 : Int32)), (.int p0)]))
        by_cases hc27 : p0 < (65313 : Int32)
        · refine own_go (fun _ k => XS.icmpYes X0.here hx rfl (pc0 := 27) (pc' := 36) rfl (hb hby d1_27) rfl (tlt hc27).1 (by decide) (by decide) k) ?_
          show own_Go p.tables e below _ (s₁.setTop (mkF m 36 #[.val (.int p0)] []))
          refine own_go (fun _ k => XS.iloadN X0.here hx rfl (hb hby d1_36) rfl k) ?_
          show own_Go p.tables e below _ (s₁.setTop (mkF m 37 #[.val (.int p0)] [(.int p0)]))
          refine own_go (fun _ k => X0.ldcInt hx hown (mvT hZ (hw _ (List.mem_of_getElem? (i := 7) rfl))) (g := (mkF m 37 #[.val (.int p0)] [(.int p0)])) rfl (hb hby d1_37) _ k) ?_
          show own_Go p.tables e below _ (s₁.setTop (mkF m 39 #[.val (.int p0)] [(.int (65345 : Int32)), (.int p0)]))
          by_cases hc39 : p0 < (65345 : Int32)
          · refine own_go (fun _ k => XS.icmpYes X0.here hx rfl (pc0 := 39) (pc' := 52) rfl (hb hby d1_39) rfl (tlt hc39).1 (by decide) (by decide) k) ?_
            show own_Go p.tables e below _ (s₁.setTop (mkF m 52 #[.val (.int p0)] []))
            refine own_go (fun _ k => XS.iconst X0.here hx rfl (hb hby d1_52) k) ?_
            show own_Go p.tables e below _ (s₁.setTop (mkF m 53 #[.val (.int p0)] [(.int (0 : Int32))]))
            refine own_end X0 Bd.notSynchronized (v := some (.int (0 : Int32))) (fun h => by rw [Bd.returns] at h; cases h) (fun fs hr => retN X0 hx (t := .boolean) Bd.returns (by simp) (hb hby d1_53) hr) ?_ (by decide) (by decide)
            exact ⟨by rw [own_f1, if_neg hc3, if_pos hc9, if_pos hc15, if_pos hc27, if_pos hc39], N0, e0⟩
          · refine own_go (fun _ k => XS.icmpNo X0.here hx rfl (hb hby d1_39) rfl (flt hc39).1 k) ?_
            show own_Go p.tables e below _ (s₁.setTop (mkF m 42 #[.val (.int p0)] []))
            refine own_go (fun _ k => XS.iloadN X0.here hx rfl (hb hby d1_42) rfl k) ?_
            show own_Go p.tables e below _ (s₁.setTop (mkF m 43 #[.val (.int p0)] [(.int p0)]))
            refine own_go (fun _ k => X0.ldcInt hx hown (mvT hZ (hw _ (List.mem_of_getElem? (i := 10) rfl))) (g := (mkF m 43 #[.val (.int p0)] [(.int p0)])) rfl (hb hby d1_43) _ k) ?_
            show own_Go p.tables e below _ (s₁.setTop (mkF m 45 #[.val (.int p0)] [(.int (65370 : Int32)), (.int p0)]))
            by_cases hc45 : (65370 : Int32) < p0
            · refine own_go (fun _ k => XS.icmpYes X0.here hx rfl (pc0 := 45) (pc' := 52) rfl (hb hby d1_45) rfl (tlt hc45).2.2.1 (by decide) (by decide) k) ?_
              show own_Go p.tables e below _ (s₁.setTop (mkF m 52 #[.val (.int p0)] []))
              refine own_go (fun _ k => XS.iconst X0.here hx rfl (hb hby d1_52) k) ?_
              show own_Go p.tables e below _ (s₁.setTop (mkF m 53 #[.val (.int p0)] [(.int (0 : Int32))]))
              refine own_end X0 Bd.notSynchronized (v := some (.int (0 : Int32))) (fun h => by rw [Bd.returns] at h; cases h) (fun fs hr => retN X0 hx (t := .boolean) Bd.returns (by simp) (hb hby d1_53) hr) ?_ (by decide) (by decide)
              exact ⟨by rw [own_f1, if_neg hc3, if_pos hc9, if_pos hc15, if_pos hc27, if_neg hc39, if_pos hc45], N0, e0⟩
            · refine own_go (fun _ k => XS.icmpNo X0.here hx rfl (hb hby d1_45) rfl (flt hc45).2.2.1 k) ?_
              show own_Go p.tables e below _ (s₁.setTop (mkF m 48 #[.val (.int p0)] []))
              refine own_go (fun _ k => XS.iconst X0.here hx rfl (hb hby d1_48) k) ?_
              show own_Go p.tables e below _ (s₁.setTop (mkF m 49 #[.val (.int p0)] [(.int (1 : Int32))]))
              refine own_go (fun _ k => XS.goto X0.here hx rfl (pc0 := 49) (pc' := 53) rfl (hb hby d1_49) (by decide) (by decide) k) ?_
              show own_Go p.tables e below _ (s₁.setTop (mkF m 53 #[.val (.int p0)] [(.int (1 : Int32))]))
              refine own_end X0 Bd.notSynchronized (v := some (.int (1 : Int32))) (fun h => by rw [Bd.returns] at h; cases h) (fun fs hr => retN X0 hx (t := .boolean) Bd.returns (by simp) (hb hby d1_53) hr) ?_ (by decide) (by decide)
              exact ⟨by rw [own_f1, if_neg hc3, if_pos hc9, if_pos hc15, if_pos hc27, if_neg hc39, if_neg hc45], N0, e0⟩
        · refine own_go (fun _ k => XS.icmpNo X0.here hx rfl (hb hby d1_27) rfl (flt hc27).1 k) ?_
          show own_Go p.tables e below _ (s₁.setTop (mkF m 30 #[.val (.int p0)] []))
          refine own_go (fun _ k => XS.iloadN X0.here hx rfl (hb hby d1_30) rfl k) ?_
          show own_Go p.tables e below _ (s₁.setTop (mkF m 31 #[.val (.int p0)] [(.int p0)]))
          refine own_go (fun _ k => X0.ldcInt hx hown (mvT hZ (hw _ (List.mem_of_getElem? (i := 9) rfl))) (g := (mkF m 31 #[.val (.int p0)] [(.int p0)])) rfl (hb hby d1_31) _ k) ?_
          show own_Go p.tables e below _ (s₁.setTop (mkF m 33 #[.val (.int p0)] [(.int (65338 : Int32)), (.int p0)]))
          by_cases hc33 : (65338 : Int32) < p0
          · refine own_go (fun _ k => XS.icmpNo X0.here hx rfl (hb hby d1_33) rfl (tlt hc33).2.2.2 k) ?_
            show own_Go p.tables e below _ (s₁.setTop (mkF m 36 #[.val (.int p0)] []))
            refine own_go (fun _ k => XS.iloadN X0.here hx rfl (hb hby d1_36) rfl k) ?_
            show own_Go p.tables e below _ (s₁.setTop (mkF m 37 #[.val (.int p0)] [(.int p0)]))
            refine own_go (fun _ k => X0.ldcInt hx hown (mvT hZ (hw _ (List.mem_of_getElem? (i := 7) rfl))) (g := (mkF m 37 #[.val (.int p0)] [(.int p0)])) rfl (hb hby d1_37) _ k) ?_
            show own_Go p.tables e below _ (s₁.setTop (mkF m 39 #[.val (.int p0)] [(.int (65345 : Int32)), (.int p0)]))
            by_cases hc39 : p0 < (65345 : Int32)
            · refine own_go (fun _ k => XS.icmpYes X0.here hx rfl (pc0 := 39) (pc' := 52) rfl (hb hby d1_39) rfl (tlt hc39).1 (by decide) (by decide) k) ?_
              show own_Go p.tables e below _ (s₁.setTop (mkF m 52 #[.val (.int p0)] []))
              refine own_go (fun _ k => XS.iconst X0.here hx rfl (hb hby d1_52) k) ?_
              show own_Go p.tables e below _ (s₁.setTop (mkF m 53 #[.val (.int p0)] [(.int (0 : Int32))]))
              refine own_end X0 Bd.notSynchronized (v := some (.int (0 : Int32))) (fun h => by rw [Bd.returns] at h; cases h) (fun fs hr => retN X0 hx (t := .boolean) Bd.returns (by simp) (hb hby d1_53) hr) ?_ (by decide) (by decide)
              exact ⟨by rw [own_f1, if_neg hc3, if_pos hc9, if_pos hc15, if_neg hc27, if_pos hc33, if_pos hc39], N0, e0⟩
            · refine own_go (fun _ k => XS.icmpNo X0.here hx rfl (hb hby d1_39) rfl (flt hc39).1 k) ?_
              show own_Go p.tables e below _ (s₁.setTop (mkF m 42 #[.val (.int p0)] []))
              refine own_go (fun _ k => XS.iloadN X0.here hx rfl (hb hby d1_42) rfl k) ?_
              show own_Go p.tables e below _ (s₁.setTop (mkF m 43 #[.val (.int p0)] [(.int p0)]))
              refine own_go (fun _ k => X0.ldcInt hx hown (mvT hZ (hw _ (List.mem_of_getElem? (i := 10) rfl))) (g := (mkF m 43 #[.val (.int p0)] [(.int p0)])) rfl (hb hby d1_43) _ k) ?_
              show own_Go p.tables e below _ (s₁.setTop (mkF m 45 #[.val (.int p0)] [(.int (65370 : Int32)), (.int p0)]))
              by_cases hc45 : (65370 : Int32) < p0
              · refine own_go (fun _ k => XS.icmpYes X0.here hx rfl (pc0 := 45) (pc' := 52) rfl (hb hby d1_45) rfl (tlt hc45).2.2.1 (by decide) (by decide) k) ?_
                show own_Go p.tables e below _ (s₁.setTop (mkF m 52 #[.val (.int p0)] []))
                refine own_go (fun _ k => XS.iconst X0.here hx rfl (hb hby d1_52) k) ?_
                show own_Go p.tables e below _ (s₁.setTop (mkF m 53 #[.val (.int p0)] [(.int (0 : Int32))]))
                refine own_end X0 Bd.notSynchronized (v := some (.int (0 : Int32))) (fun h => by rw [Bd.returns] at h; cases h) (fun fs hr => retN X0 hx (t := .boolean) Bd.returns (by simp) (hb hby d1_53) hr) ?_ (by decide) (by decide)
                exact ⟨by rw [own_f1, if_neg hc3, if_pos hc9, if_pos hc15, if_neg hc27, if_pos hc33, if_neg hc39, if_pos hc45], N0, e0⟩
              · refine own_go (fun _ k => XS.icmpNo X0.here hx rfl (hb hby d1_45) rfl (flt hc45).2.2.1 k) ?_
                show own_Go p.tables e below _ (s₁.setTop (mkF m 48 #[.val (.int p0)] []))
                refine own_go (fun _ k => XS.iconst X0.here hx rfl (hb hby d1_48) k) ?_
                show own_Go p.tables e below _ (s₁.setTop (mkF m 49 #[.val (.int p0)] [(.int (1 : Int32))]))
                refine own_go (fun _ k => XS.goto X0.here hx rfl (pc0 := 49) (pc' := 53) rfl (hb hby d1_49) (by decide) (by decide) k) ?_
                show own_Go p.tables e below _ (s₁.setTop (mkF m 53 #[.val (.int p0)] [(.int (1 : Int32))]))
                refine own_end X0 Bd.notSynchronized (v := some (.int (1 : Int32))) (fun h => by rw [Bd.returns] at h; cases h) (fun fs hr => retN X0 hx (t := .boolean) Bd.returns (by simp) (hb hby d1_53) hr) ?_ (by decide) (by decide)
                exact ⟨by rw [own_f1, if_neg hc3, if_pos hc9, if_pos hc15, if_neg hc27, if_pos hc33, if_neg hc39, if_neg hc45], N0, e0⟩
          · refine own_go (fun _ k => XS.icmpYes X0.here hx rfl (pc0 := 33) (pc' := 48) rfl (hb hby d1_33) rfl (flt hc33).2.2.2 (by decide) (by decide) k) ?_
            show own_Go p.tables e below _ (s₁.setTop (mkF m 48 #[.val (.int p0)] []))
            refine own_go (fun _ k => XS.iconst X0.here hx rfl (hb hby d1_48) k) ?_
            show own_Go p.tables e below _ (s₁.setTop (mkF m 49 #[.val (.int p0)] [(.int (1 : Int32))]))
            refine own_go (fun _ k => XS.goto X0.here hx rfl (pc0 := 49) (pc' := 53) rfl (hb hby d1_49) (by decide) (by decide) k) ?_
            show own_Go p.tables e below _ (s₁.setTop (mkF m 53 #[.val (.int p0)] [(.int (1 : Int32))]))
            refine own_end X0 Bd.notSynchronized (v := some (.int (1 : Int32))) (fun h => by rw [Bd.returns] at h; cases h) (fun fs hr => retN X0 hx (t := .boolean) Bd.returns (by simp) (hb hby d1_53) hr) ?_ (by decide) (by decide)
            exact ⟨by rw [own_f1, if_neg hc3, if_pos hc9, if_pos hc15, if_neg hc27, if_neg hc33], N0, e0⟩
      · refine own_go (fun _ k => XS.icmpNo X0.here hx rfl (hb hby d1_15) rfl (flt hc15).1 k) ?_
        show own_Go p.tables e below _ (s₁.setTop (mkF m 18 #[.val (.int p0)] []))
        refine own_go (fun _ k => XS.iloadN X0.here hx rfl (hb hby d1_18) rfl k) ?_
        show own_Go p.tables e below _ (s₁.setTop (mkF m 19 #[.val (.int p0)] [(.int p0)]))
        refine own_go (fun _ k => XS.bipush X0.here hx rfl (hb hby d1_19) k) ?_
        show own_Go p.tables e below _ (s₁.setTop (mkF m 21 #[.val (.int p0)] [(.int (122 : Int32)), (.int p0)]))
        by_cases hc21 : (122 : Int32) < p0
        · refine own_go (fun _ k => XS.icmpNo X0.here hx rfl (hb hby d1_21) rfl (tlt hc21).2.2.2 k) ?_
          show own_Go p.tables e below _ (s₁.setTop (mkF m 24 #[.val (.int p0)] []))
          refine own_go (fun _ k => XS.iloadN X0.here hx rfl (hb hby d1_24) rfl k) ?_
          show own_Go p.tables e below _ (s₁.setTop (mkF m 25 #[.val (.int p0)] [(.int p0)]))
          refine own_go (fun _ k => X0.ldcInt hx hown (mvT hZ (hw _ (List.mem_of_getElem? (i := 6) rfl))) (g := (mkF m 25 #[.val (.int p0)] [(.int p0)])) rfl (hb hby d1_25) _ k) ?_
          show own_Go p.tables e below _ (s₁.setTop (mkF m 27 #[.val (.int p0)] [(.int (65313 : Int32)), (.int p0)]))
          by_cases hc27 : p0 < (65313 : Int32)
          · refine own_go (fun _ k => XS.icmpYes X0.here hx rfl (pc0 := 27) (pc' := 36) rfl (hb hby d1_27) rfl (tlt hc27).1 (by decide) (by decide) k) ?_
            show own_Go p.tables e below _ (s₁.setTop (mkF m 36 #[.val (.int p0)] []))
            refine own_go (fun _ k => XS.iloadN X0.here hx rfl (hb hby d1_36) rfl k) ?_
            show own_Go p.tables e below _ (s₁.setTop (mkF m 37 #[.val (.int p0)] [(.int p0)]))
            refine own_go (fun _ k => X0.ldcInt hx hown (mvT hZ (hw _ (List.mem_of_getElem? (i := 7) rfl))) (g := (mkF m 37 #[.val (.int p0)] [(.int p0)])) rfl (hb hby d1_37) _ k) ?_
            show own_Go p.tables e below _ (s₁.setTop (mkF m 39 #[.val (.int p0)] [(.int (65345 : Int32)), (.int p0)]))
            by_cases hc39 : p0 < (65345 : Int32)
            · refine own_go (fun _ k => XS.icmpYes X0.here hx rfl (pc0 := 39) (pc' := 52) rfl (hb hby d1_39) rfl (tlt hc39).1 (by decide) (by decide) k) ?_
              show own_Go p.tables e below _ (s₁.setTop (mkF m 52 #[.val (.int p0)] []))
              refine own_go (fun _ k => XS.iconst X0.here hx rfl (hb hby d1_52) k) ?_
              show own_Go p.tables e below _ (s₁.setTop (mkF m 53 #[.val (.int p0)] [(.int (0 : Int32))]))
              refine own_end X0 Bd.notSynchronized (v := some (.int (0 : Int32))) (fun h => by rw [Bd.returns] at h; cases h) (fun fs hr => retN X0 hx (t := .boolean) Bd.returns (by simp) (hb hby d1_53) hr) ?_ (by decide) (by decide)
              exact ⟨by rw [own_f1, if_neg hc3, if_pos hc9, if_neg hc15, if_pos hc21, if_pos hc27, if_pos hc39], N0, e0⟩
            · refine own_go (fun _ k => XS.icmpNo X0.here hx rfl (hb hby d1_39) rfl (flt hc39).1 k) ?_
              show own_Go p.tables e below _ (s₁.setTop (mkF m 42 #[.val (.int p0)] []))
              refine own_go (fun _ k => XS.iloadN X0.here hx rfl (hb hby d1_42) rfl k) ?_
              show own_Go p.tables e below _ (s₁.setTop (mkF m 43 #[.val (.int p0)] [(.int p0)]))
              refine own_go (fun _ k => X0.ldcInt hx hown (mvT hZ (hw _ (List.mem_of_getElem? (i := 10) rfl))) (g := (mkF m 43 #[.val (.int p0)] [(.int p0)])) rfl (hb hby d1_43) _ k) ?_
              show own_Go p.tables e below _ (s₁.setTop (mkF m 45 #[.val (.int p0)] [(.int (65370 : Int32)), (.int p0)]))
              by_cases hc45 : (65370 : Int32) < p0
              · refine own_go (fun _ k => XS.icmpYes X0.here hx rfl (pc0 := 45) (pc' := 52) rfl (hb hby d1_45) rfl (tlt hc45).2.2.1 (by decide) (by decide) k) ?_
                show own_Go p.tables e below _ (s₁.setTop (mkF m 52 #[.val (.int p0)] []))
                refine own_go (fun _ k => XS.iconst X0.here hx rfl (hb hby d1_52) k) ?_
                show own_Go p.tables e below _ (s₁.setTop (mkF m 53 #[.val (.int p0)] [(.int (0 : Int32))]))
                refine own_end X0 Bd.notSynchronized (v := some (.int (0 : Int32))) (fun h => by rw [Bd.returns] at h; cases h) (fun fs hr => retN X0 hx (t := .boolean) Bd.returns (by simp) (hb hby d1_53) hr) ?_ (by decide) (by decide)
                exact ⟨by rw [own_f1, if_neg hc3, if_pos hc9, if_neg hc15, if_pos hc21, if_pos hc27, if_neg hc39, if_pos hc45], N0, e0⟩
              · refine own_go (fun _ k => XS.icmpNo X0.here hx rfl (hb hby d1_45) rfl (flt hc45).2.2.1 k) ?_
                show own_Go p.tables e below _ (s₁.setTop (mkF m 48 #[.val (.int p0)] []))
                refine own_go (fun _ k => XS.iconst X0.here hx rfl (hb hby d1_48) k) ?_
                show own_Go p.tables e below _ (s₁.setTop (mkF m 49 #[.val (.int p0)] [(.int (1 : Int32))]))
                refine own_go (fun _ k => XS.goto X0.here hx rfl (pc0 := 49) (pc' := 53) rfl (hb hby d1_49) (by decide) (by decide) k) ?_
                show own_Go p.tables e below _ (s₁.setTop (mkF m 53 #[.val (.int p0)] [(.int (1 : Int32))]))
                refine own_end X0 Bd.notSynchronized (v := some (.int (1 : Int32))) (fun h => by rw [Bd.returns] at h; cases h) (fun fs hr => retN X0 hx (t := .boolean) Bd.returns (by simp) (hb hby d1_53) hr) ?_ (by decide) (by decide)
                exact ⟨by rw [own_f1, if_neg hc3, if_pos hc9, if_neg hc15, if_pos hc21, if_pos hc27, if_neg hc39, if_neg hc45], N0, e0⟩
          · refine own_go (fun _ k => XS.icmpNo X0.here hx rfl (hb hby d1_27) rfl (flt hc27).1 k) ?_
            show own_Go p.tables e below _ (s₁.setTop (mkF m 30 #[.val (.int p0)] []))
            refine own_go (fun _ k => XS.iloadN X0.here hx rfl (hb hby d1_30) rfl k) ?_
            show own_Go p.tables e below _ (s₁.setTop (mkF m 31 #[.val (.int p0)] [(.int p0)]))
            refine own_go (fun _ k => X0.ldcInt hx hown (mvT hZ (hw _ (List.mem_of_getElem? (i := 9) rfl))) (g := (mkF m 31 #[.val (.int p0)] [(.int p0)])) rfl (hb hby d1_31) _ k) ?_
            show own_Go p.tables e below _ (s₁.setTop (mkF m 33 #[.val (.int p0)] [(.int (65338 : Int32)), (.int p0)]))
            by_cases hc33 : (65338 : Int32) < p0
            · refine own_go (fun _ k => XS.icmpNo X0.here hx rfl (hb hby d1_33) rfl (tlt hc33).2.2.2 k) ?_
              show own_Go p.tables e below _ (s₁.setTop (mkF m 36 #[.val (.int p0)] []))
              refine own_go (fun _ k => XS.iloadN X0.here hx rfl (hb hby d1_36) rfl k) ?_
              show own_Go p.tables e below _ (s₁.setTop (mkF m 37 #[.val (.int p0)] [(.int p0)]))
              refine own_go (fun _ k => X0.ldcInt hx hown (mvT hZ (hw _ (List.mem_of_getElem? (i := 7) rfl))) (g := (mkF m 37 #[.val (.int p0)] [(.int p0)])) rfl (hb hby d1_37) _ k) ?_
              show own_Go p.tables e below _ (s₁.setTop (mkF m 39 #[.val (.int p0)] [(.int (65345 : Int32)), (.int p0)]))
              by_cases hc39 : p0 < (65345 : Int32)
              · refine own_go (fun _ k => XS.icmpYes X0.here hx rfl (pc0 := 39) (pc' := 52) rfl (hb hby d1_39) rfl (tlt hc39).1 (by decide) (by decide) k) ?_
                show own_Go p.tables e below _ (s₁.setTop (mkF m 52 #[.val (.int p0)] []))
                refine own_go (fun _ k => XS.iconst X0.here hx rfl (hb hby d1_52) k) ?_
                show own_Go p.tables e below _ (s₁.setTop (mkF m 53 #[.val (.int p0)] [(.int (0 : Int32))]))
                refine own_end X0 Bd.notSynchronized (v := some (.int (0 : Int32))) (fun h => by rw [Bd.returns] at h; cases h) (fun fs hr => retN X0 hx (t := .boolean) Bd.returns (by simp) (hb hby d1_53) hr) ?_ (by decide) (by decide)
                exact ⟨by rw [own_f1, if_neg hc3, if_pos hc9, if_neg hc15, if_pos hc21, if_neg hc27, if_pos hc33, if_pos hc39], N0, e0⟩
              · refine own_go (fun _ k => XS.icmpNo X0.here hx rfl (hb hby d1_39) rfl (flt hc39).1 k) ?_
                show own_Go p.tables e below _ (s₁.setTop (mkF m 42 #[.val (.int p0)] []))
                refine own_go (fun _ k => XS.iloadN X0.here hx rfl (hb hby d1_42) rfl k) ?_
                show own_Go p.tables e below _ (s₁.setTop (mkF m 43 #[.val (.int p0)] [(.int p0)]))
                refine own_go (fun _ k => X0.ldcInt hx hown (mvT hZ (hw _ (List.mem_of_getElem? (i := 10) rfl))) (g := (mkF m 43 #[.val (.int p0)] [(.int p0)])) rfl (hb hby d1_43) _ k) ?_
                show own_Go p.tables e below _ (s₁.setTop (mkF m 45 #[.val (.int p0)] [(.int (65370 : Int32)), (.int p0)]))
                by_cases hc45 : (65370 : Int32) < p0
                · refine own_go (fun _ k => XS.icmpYes X0.here hx rfl (pc0 := 45) (pc' := 52) rfl (hb hby d1_45) rfl (tlt hc45).2.2.1 (by decide) (by decide) k) ?_
                  show own_Go p.tables e below _ (s₁.setTop (mkF m 52 #[.val (.int p0)] []))
                  refine own_go (fun _ k => XS.iconst X0.here hx rfl (hb hby d1_52) k) ?_
                  show own_Go p.tables e below _ (s₁.setTop (mkF m 53 #[.val (.int p0)] [(.int (0 : Int32))]))
                  refine own_end X0 Bd.notSynchronized (v := some (.int (0 : Int32))) (fun h => by rw [Bd.returns] at h; cases h) (fun fs hr => retN X0 hx (t := .boolean) Bd.returns (by simp) (hb hby d1_53) hr) ?_ (by decide) (by decide)
                  exact ⟨by rw [own_f1, if_neg hc3, if_pos hc9, if_neg hc15, if_pos hc21, if_neg hc27, if_pos hc33, if_neg hc39, if_pos hc45], N0, e0⟩
                · refine own_go (fun _ k => XS.icmpNo X0.here hx rfl (hb hby d1_45) rfl (flt hc45).2.2.1 k) ?_
                  show own_Go p.tables e below _ (s₁.setTop (mkF m 48 #[.val (.int p0)] []))
                  refine own_go (fun _ k => XS.iconst X0.here hx rfl (hb hby d1_48) k) ?_
                  show own_Go p.tables e below _ (s₁.setTop (mkF m 49 #[.val (.int p0)] [(.int (1 : Int32))]))
                  refine own_go (fun _ k => XS.goto X0.here hx rfl (pc0 := 49) (pc' := 53) rfl (hb hby d1_49) (by decide) (by decide) k) ?_
                  show own_Go p.tables e below _ (s₁.setTop (mkF m 53 #[.val (.int p0)] [(.int (1 : Int32))]))
                  refine own_end X0 Bd.notSynchronized (v := some (.int (1 : Int32))) (fun h => by rw [Bd.returns] at h; cases h) (fun fs hr => retN X0 hx (t := .boolean) Bd.returns (by simp) (hb hby d1_53) hr) ?_ (by decide) (by decide)
                  exact ⟨by rw [own_f1, if_neg hc3, if_pos hc9, if_neg hc15, if_pos hc21, if_neg hc27, if_pos hc33, if_neg hc39, if_neg hc45], N0, e0⟩
            · refine own_go (fun _ k => XS.icmpYes X0.here hx rfl (pc0 := 33) (pc' := 48) rfl (hb hby d1_33) rfl (flt hc33).2.2.2 (by decide) (by decide) k) ?_
              show own_Go p.tables e below _ (s₁.setTop (mkF m 48 #[.val (.int p0)] []))
              refine own_go (fun _ k => XS.iconst X0.here hx rfl (hb hby d1_48) k) ?_
              show own_Go p.tables e below _ (s₁.setTop (mkF m 49 #[.val (.int p0)] [(.int (1 : Int32))]))
              refine own_go (fun _ k => XS.goto X0.here hx rfl (pc0 := 49) (pc' := 53) rfl (hb hby d1_49) (by decide) (by decide) k) ?_
              show own_Go p.tables e below _ (s₁.setTop (mkF m 53 #[.val (.int p0)] [(.int (1 : Int32))]))
              refine own_end X0 Bd.notSynchronized (v := some (.int (1 : Int32))) (fun h => by rw [Bd.returns] at h; cases h) (fun fs hr => retN X0 hx (t := .boolean) Bd.returns (by simp) (hb hby d1_53) hr) ?_ (by decide) (by decide)
              exact ⟨by rw [own_f1, if_neg hc3, if_pos hc9, if_neg hc15, if_pos hc21, if_neg hc27, if_neg hc33], N0, e0⟩
        · refine own_go (fun _ k => XS.icmpYes X0.here hx rfl (pc0 := 21) (pc' := 48) rfl (hb hby d1_21) rfl (flt hc21).2.2.2 (by decide) (by decide) k) ?_
          show own_Go p.tables e below _ (s₁.setTop (mkF m 48 #[.val (.int p0)] []))
          refine own_go (fun _ k => XS.iconst X0.here hx rfl (hb hby d1_48) k) ?_
          show own_Go p.tables e below _ (s₁.setTop (mkF m 49 #[.val (.int p0)] [(.int (1 : Int32))]))
          refine own_go (fun _ k => XS.goto X0.here hx rfl (pc0 := 49) (pc' := 53) rfl (hb hby d1_49) (by decide) (by decide) k) ?_
          show own_Go p.tables e below _ (s₁.setTop (mkF m 53 #[.val (.int p0)] [(.int (1 : Int32))]))
          refine own_end X0 Bd.notSynchronized (v := some (.int (1 : Int32))) (fun h => by rw [Bd.returns] at h; cases h) (fun fs hr => retN X0 hx (t := .boolean) Bd.returns (by simp) (hb hby d1_53) hr) ?_ (by decide) (by decide)
          exact ⟨by rw [own_f1, if_neg hc3, if_pos hc9, if_neg hc15, if_neg hc21], N0, e0⟩
    · refine own_go (fun _ k => XS.icmpYes X0.here hx rfl (pc0 := 9) (pc' := 48) rfl (hb hby d1_9) rfl (flt hc9).2.2.2 (by decide) (by decide) k) ?_
      show own_Go p.tables e below _ (s₁.setTop (mkF m 48 #[.val (.int p0)] []))
      refine own_go (fun _ k => XS.iconst X0.here hx rfl (hb hby d1_48) k) ?_
      show own_Go p.tables e below _ (s₁.setTop (mkF m 49 #[.val (.int p0)] [(.int (1 : Int32))]))
      refine own_go (fun _ k => XS.goto X0.here hx rfl (pc0 := 49) (pc' := 53) rfl (hb hby d1_49) (by decide) (by decide) k) ?_
      show own_Go p.tables e below _ (s₁.setTop (mkF m 53 #[.val (.int p0)] [(.int (1 : Int32))]))
      refine own_end X0 Bd.notSynchronized (v := some (.int (1 : Int32))) (fun h => by rw [Bd.returns] at h; cases h) (fun fs hr => retN X0 hx (t := .boolean) Bd.returns (by simp) (hb hby d1_53) hr) ?_ (by decide) (by decide)
      exact ⟨by rw [own_f1, if_neg hc3, if_neg hc9], N0, e0⟩
theorem own_or (n : Nat) : n ||| 32 = n + 32 - 32 * (n / 32 % 2) := by
  have h1 : ∀ r : Fin 64, r.val ||| 32 = r.val + 32 - 32 * (r.val / 32 % 2) ∧ (r.val ||| 32) < 64 := by decide +kernel
  have h2 := h1 ⟨n % 64, Nat.mod_lt _ (by decide)⟩
  simp only at h2
  have h3 : n = (n / 64) <<< 6 ||| (n % 64) := by
    rw [← Nat.shiftLeft_add_eq_or_of_lt (i := 6) (Nat.mod_lt n (by decide : 64 > 0)), Nat.shiftLeft_eq]; omega
  have h4 : n ||| 32 = (n / 64) <<< 6 ||| (n % 64 ||| 32) := by
    conv => lhs; rw [h3]
    rw [Nat.or_assoc]
  rw [h4, ← Nat.shiftLeft_add_eq_or_of_lt (i := 6) h2.2, h2.1, Nat.shiftLeft_eq]; omega
theorem own_or32 {d : Int32} (h : 0 ≤ d.toInt) (h' : d.toInt < 1000000) : (d ||| 32).toInt = d.toInt + 32 - 32 * (d.toInt / 32 % 2) := by
  have e0 : ∀ y : Int32, y.toInt = y.toBitVec.toInt := fun y => rfl
  have e1 : d.toBitVec.toNat < 1000000 ∧ d.toInt = (d.toBitVec.toNat : Int) := by
    rw [e0] at h h' ⊢
    rw [BitVec.toInt_eq_toNat_cond] at h h' ⊢
    have := d.toBitVec.isLt
    split at h <;> omega
  have e2 : (d ||| 32).toBitVec.toNat = d.toBitVec.toNat ||| 32 := by
    rw [Int32.toBitVec_or, BitVec.toNat_or]; rfl
  rw [own_or] at e2
  rw [e0, BitVec.toInt_eq_toNat_cond, e2, e1.2]
  split <;> omega
theorem own_val {x c d l : Int32} (hc : c = (x &&& 65535).toUInt32.toUInt16.toUInt32.toInt32) (hd : d = if c < 65280 then c else c - 65248) (hl : l = d ||| 32) :
    own_f1 c = if l < 97 then 0 else if 122 < l then 0 else 1 := by
  have e1 := c_i2c (x &&& 65535)
  rw [← hc] at e1
  have e2 := c_isub c 65248
  have k1 : (65280 : Int32).toInt = 65280 := by decide
  have k2 : (65248 : Int32).toInt = 65248 := by decide
  have k3 : (97 : Int32).toInt = 97 := by decide
  have k4 : (122 : Int32).toInt = 122 := by decide
  have k5 : (65 : Int32).toInt = 65 := by decide
  have k6 : (90 : Int32).toInt = 90 := by decide
  have k7 : (65313 : Int32).toInt = 65313 := by decide
  have k8 : (65338 : Int32).toInt = 65338 := by decide
  have k9 : (65345 : Int32).toInt = 65345 := by decide
  have k10 : (65370 : Int32).toInt = 65370 := by decide
  have r1 := rng32 (c - 65248)
  have e3 : d.toInt = if c.toInt < 65280 then c.toInt else c.toInt - 65248 := by
    rw [hd]
    simp only [Int32.lt_iff_toInt_lt, k1]
    split <;> omega
  have e4 := own_or32 (d := d) (by split at e3 <;> omega) (by split at e3 <;> omega)
  rw [← hl] at e4
  simp only [own_f1, Int32.lt_iff_toInt_lt, k3, k4, k5, k6, k7, k8, k9, k10]
  clear hc hd hl
  repeat' split
  all_goals first | rfl | (exfalso; split at e3 <;> omega)
theorem pn0 : plainName "com/example/cijing/cijing/text/TextIsLatinLetterPinLaw" = true := by first | (simp [plainName, overriddenIn]; done) | decide +kernel
theorem pd0_0 : parseMethodDescriptor "(C)Z" = some ⟨[.char], some .boolean⟩ := by decide +kernel
theorem ef0 (m : MethodId) (p0 : Int32) : entryFrame m #[(.int p0)] maxLocals = mkF m 0 #[.val (.int p0), .unset, .unset, .unset, .unset] [] := by first | (simp [entryFrame, mkF, argsToLocals, Value.category, maxLocals]; done) | rfl
def own_Q0 (Z : State) (p0 : Int32) (h0 : Heap) (n0 : Nat) (v : Option Value) (h : Heap) (L : List Loc) : Prop := v = some (.int 1) ∧ Fr n0 L
set_option maxRecDepth 65536 in
set_option maxHeartbeats 40000000 in
theorem rm0 (l : Launch) (Z : State) (a0 : Array Value) (hw : ∀ d ∈ tables_1, d.before a0 Z = true) (ws : List Jvm.Cond) (p0 : Int32) (h0 : Heap) (n0 : Nat) (Z0 : n0 ≤ h0.size) :
    MetFree l x (head1 (Jvm.Cond.code x code maxLocals ret :: ws) room_1) (fun a U => a = #[(.int p0)] ∧ Z.Warmed39 U.vm ∧ U.heap = h0) (fun _ _ _ _ _ => True) (fun _ U o U' => ∃ v L, o = .returned v ∧ own_Q0 Z p0 h0 n0 v U'.heap L ∧ FrameEnd U o U' L 0 0) := by
  refine MetFree.of_bodySF (plainFor_of_name pn0) hisR ?_
  intro p e s m args below meth c s₁ Bd hml0 hP hK
  obtain ⟨rfl, hZ, hh⟩ := hP
  have hx := Bd.exec
  have hby := Bd.bytes
  have hml : c.maxLocals = 5 := hml0
  have hown : s.vm.findClass "com/example/cijing/cijing/text/TextIsLatinLetterPinLaw" = some m.cls := findClass_of_methodNamed Bd.named
  have hnm := (name_of_methodNamed Bd.named Bd.method).1
  have X0 : Stand p l e room_1 s m #[(.int p0)] below meth c s₁ [] 0 0 := Stand.of_body Bd
  have e0 : s₁.heap = h0 := by rw [← hh, Bd.state]; rfl
  have N0 := Fr.nil n0
  show own_Go p.tables e below (fun o U' => ∃ v L, o = .returned v ∧ own_Q0 Z p0 h0 n0 v U'.heap L ∧ FrameEnd s o U' L 0 0) (s₁.setTop (entryFrame m #[(.int p0)] maxLocals))
  refine own_go (fun _ k => castTop (ef0 m p0) k) ?_
  show own_Go p.tables e below _ (s₁.setTop (mkF m 0 #[.val (.int p0), .unset, .unset, .unset, .unset] []))
  refine own_go (fun _ k => XS.iloadN X0.here hx rfl (hb hby at_0) rfl k) ?_
  show own_Go p.tables e below _ (s₁.setTop (mkF m 1 #[.val (.int p0), .unset, .unset, .unset, .unset] [(.int p0)]))
  refine own_go (fun _ k => X0.ldcInt hx hown (mvT hZ (hw _ (List.mem_of_getElem? (i := 0) rfl))) (g := (mkF m 1 #[.val (.int p0), .unset, .unset, .unset, .unset] [(.int p0)])) rfl (hb hby at_1) _ k) ?_
  show own_Go p.tables e below _ (s₁.setTop (mkF m 3 #[.val (.int p0), .unset, .unset, .unset, .unset] [(.int (65535 : Int32)), (.int p0)]))
  refine own_go (fun _ k => XS.iand X0.here hx rfl (hb hby at_3) rfl k) ?_
  show own_Go p.tables e below _ (s₁.setTop (mkF m 4 #[.val (.int p0), .unset, .unset, .unset, .unset] [(.int (p0 &&& (65535 : Int32)))]))
  refine own_go (fun _ k => XS.i2c X0.here hx rfl (hb hby at_4) rfl k) ?_
  show own_Go p.tables e below _ (s₁.setTop (mkF m 5 #[.val (.int p0), .unset, .unset, .unset, .unset] [(.int ((p0 &&& (65535 : Int32)).toUInt32.toUInt16.toUInt32.toInt32))]))
  refine own_go (fun _ k => XS.istoreN X0.here hx rfl (hb hby at_5) rfl (l' := #[.val (.int p0), .val (.int ((p0 &&& (65535 : Int32)).toUInt32.toUInt16.toUInt32.toInt32)), .unset, .unset, .unset]) rfl k) ?_
  show own_Go p.tables e below _ (s₁.setTop (mkF m 6 #[.val (.int p0), .val (.int ((p0 &&& (65535 : Int32)).toUInt32.toUInt16.toUInt32.toInt32)), .unset, .unset, .unset] []))
  obtain ⟨vc, hvc⟩ : ∃ z : Int32, z = ((p0 &&& (65535 : Int32)).toUInt32.toUInt16.toUInt32.toInt32) := ⟨_, rfl⟩
  rw [← hvc]
  show own_Go p.tables e below _ (s₁.setTop (mkF m 6 #[.val (.int p0), .val (.int vc), .unset, .unset, .unset] []))
  refine own_go (fun _ k => XS.iloadN X0.here hx rfl (hb hby at_6) rfl k) ?_
  show own_Go p.tables e below _ (s₁.setTop (mkF m 7 #[.val (.int p0), .val (.int vc), .unset, .unset, .unset] [(.int vc)]))
  refine own_go (fun _ k => X0.ldcInt hx hown (mvT hZ (hw _ (List.mem_of_getElem? (i := 1) rfl))) (g := (mkF m 7 #[.val (.int p0), .val (.int vc), .unset, .unset, .unset] [(.int vc)])) rfl (hb hby at_7) _ k) ?_
  show own_Go p.tables e below _ (s₁.setTop (mkF m 9 #[.val (.int p0), .val (.int vc), .unset, .unset, .unset] [(.int (65280 : Int32)), (.int vc)]))
  have sg1 : ∀ t, Steps p.tables e below (s₁.setTop (mkF m 20 #[.val (.int p0), .val (.int vc), .unset, .unset, .unset] [(.int (if vc < (65280 : Int32) then vc else (vc - (65248 : Int32))))])) t → Steps p.tables e below (s₁.setTop (mkF m 9 #[.val (.int p0), .val (.int vc), .unset, .unset, .unset] [(.int (65280 : Int32)), (.int vc)])) t := by
    intro t k
    by_cases hc9 : vc < (65280 : Int32)
    · try simp only [if_pos hc9] at k
      refine XS.icmpYes X0.here hx rfl (pc0 := 9) (pc' := 19) rfl (hb hby at_9) rfl (tlt hc9).1 (by decide) (by decide) ?_
      show Steps p.tables e below (s₁.setTop (mkF m 19 #[.val (.int p0), .val (.int vc), .unset, .unset, .unset] [])) _
      refine XS.iloadN X0.here hx rfl (hb hby at_19) rfl ?_
      show Steps p.tables e below (s₁.setTop (mkF m 20 #[.val (.int p0), .val (.int vc), .unset, .unset, .unset] [(.int vc)])) _
      exact k
    · try simp only [if_neg hc9] at k
      refine XS.icmpNo X0.here hx rfl (hb hby at_9) rfl (flt hc9).1 ?_
      show Steps p.tables e below (s₁.setTop (mkF m 12 #[.val (.int p0), .val (.int vc), .unset, .unset, .unset] [])) _
      refine XS.iloadN X0.here hx rfl (hb hby at_12) rfl ?_
      show Steps p.tables e below (s₁.setTop (mkF m 13 #[.val (.int p0), .val (.int vc), .unset, .unset, .unset] [(.int vc)])) _
      refine X0.ldcInt hx hown (mvT hZ (hw _ (List.mem_of_getElem? (i := 8) rfl))) (g := (mkF m 13 #[.val (.int p0), .val (.int vc), .unset, .unset, .unset] [(.int vc)])) rfl (hb hby at_13) _ ?_
      show Steps p.tables e below (s₁.setTop (mkF m 15 #[.val (.int p0), .val (.int vc), .unset, .unset, .unset] [(.int (65248 : Int32)), (.int vc)])) _
      refine XS.isub X0.here hx rfl (hb hby at_15) rfl ?_
      show Steps p.tables e below (s₁.setTop (mkF m 16 #[.val (.int p0), .val (.int vc), .unset, .unset, .unset] [(.int (vc - (65248 : Int32)))])) _
      refine XS.goto X0.here hx rfl (pc0 := 16) (pc' := 20) rfl (hb hby at_16) (by decide) (by decide) ?_
      show Steps p.tables e below (s₁.setTop (mkF m 20 #[.val (.int p0), .val (.int vc), .unset, .unset, .unset] [(.int (vc - (65248 : Int32)))])) _
      exact k
  refine own_go sg1 ?_
  show own_Go p.tables e below _ (s₁.setTop (mkF m 20 #[.val (.int p0), .val (.int vc), .unset, .unset, .unset] [(.int (if vc < (65280 : Int32) then vc else (vc - (65248 : Int32))))]))
  refine own_go (fun _ k => XS.istoreN X0.here hx rfl (hb hby at_20) rfl (l' := #[.val (.int p0), .val (.int vc), .val (.int (if vc < (65280 : Int32) then vc else (vc - (65248 : Int32)))), .unset, .unset]) rfl k) ?_
  show own_Go p.tables e below _ (s₁.setTop (mkF m 21 #[.val (.int p0), .val (.int vc), .val (.int (if vc < (65280 : Int32) then vc else (vc - (65248 : Int32)))), .unset, .unset] []))
  obtain ⟨vd, hvd⟩ : ∃ z : Int32, z = (if vc < (65280 : Int32) then vc else (vc - (65248 : Int32))) := ⟨_, rfl⟩
  rw [← hvd]
  show own_Go p.tables e below _ (s₁.setTop (mkF m 21 #[.val (.int p0), .val (.int vc), .val (.int vd), .unset, .unset] []))
  refine own_go (fun _ k => XS.iloadN X0.here hx rfl (hb hby at_21) rfl k) ?_
  show own_Go p.tables e below _ (s₁.setTop (mkF m 22 #[.val (.int p0), .val (.int vc), .val (.int vd), .unset, .unset] [(.int vd)]))
  refine own_go (fun _ k => XS.bipush X0.here hx rfl (hb hby at_22) k) ?_
  show own_Go p.tables e below _ (s₁.setTop (mkF m 24 #[.val (.int p0), .val (.int vc), .val (.int vd), .unset, .unset] [(.int (32 : Int32)), (.int vd)]))
  refine own_go (fun _ k => XS.ior X0.here hx rfl (hb hby at_24) rfl k) ?_
  show own_Go p.tables e below _ (s₁.setTop (mkF m 25 #[.val (.int p0), .val (.int vc), .val (.int vd), .unset, .unset] [(.int (vd ||| (32 : Int32)))]))
  refine own_go (fun _ k => XS.istoreN X0.here hx rfl (hb hby at_25) rfl (l' := #[.val (.int p0), .val (.int vc), .val (.int vd), .val (.int (vd ||| (32 : Int32))), .unset]) rfl k) ?_
  show own_Go p.tables e below _ (s₁.setTop (mkF m 26 #[.val (.int p0), .val (.int vc), .val (.int vd), .val (.int (vd ||| (32 : Int32))), .unset] []))
  obtain ⟨vl, hvl⟩ : ∃ z : Int32, z = (vd ||| (32 : Int32)) := ⟨_, rfl⟩
  rw [← hvl]
  show own_Go p.tables e below _ (s₁.setTop (mkF m 26 #[.val (.int p0), .val (.int vc), .val (.int vd), .val (.int vl), .unset] []))
  refine own_go (fun _ k => XS.iloadN X0.here hx rfl (hb hby at_26) rfl k) ?_
  show own_Go p.tables e below _ (s₁.setTop (mkF m 27 #[.val (.int p0), .val (.int vc), .val (.int vd), .val (.int vl), .unset] [(.int vl)]))
  refine own_go (fun _ k => XS.bipush X0.here hx rfl (hb hby at_27) k) ?_
  show own_Go p.tables e below _ (s₁.setTop (mkF m 29 #[.val (.int p0), .val (.int vc), .val (.int vd), .val (.int vl), .unset] [(.int (97 : Int32)), (.int vl)]))
  have sg2 : ∀ t, Steps p.tables e below (s₁.setTop (mkF m 43 #[.val (.int p0), .val (.int vc), .val (.int vd), .val (.int vl), .unset] [(.int (if vl < (97 : Int32) then (0 : Int32) else (if (122 : Int32) < vl then (0 : Int32) else (1 : Int32))))])) t → Steps p.tables e below (s₁.setTop (mkF m 29 #[.val (.int p0), .val (.int vc), .val (.int vd), .val (.int vl), .unset] [(.int (97 : Int32)), (.int vl)])) t := by
    intro t k
    by_cases hc29 : vl < (97 : Int32)
    · try simp only [if_pos hc29] at k
      refine XS.icmpYes X0.here hx rfl (pc0 := 29) (pc' := 42) rfl (hb hby at_29) rfl (tlt hc29).1 (by decide) (by decide) ?_
      show Steps p.tables e below (s₁.setTop (mkF m 42 #[.val (.int p0), .val (.int vc), .val (.int vd), .val (.int vl), .unset] [])) _
      refine XS.iconst X0.here hx rfl (hb hby at_42) ?_
      show Steps p.tables e below (s₁.setTop (mkF m 43 #[.val (.int p0), .val (.int vc), .val (.int vd), .val (.int vl), .unset] [(.int (0 : Int32))])) _
      exact k
    · try simp only [if_neg hc29] at k
      refine XS.icmpNo X0.here hx rfl (hb hby at_29) rfl (flt hc29).1 ?_
      show Steps p.tables e below (s₁.setTop (mkF m 32 #[.val (.int p0), .val (.int vc), .val (.int vd), .val (.int vl), .unset] [])) _
      refine XS.iloadN X0.here hx rfl (hb hby at_32) rfl ?_
      show Steps p.tables e below (s₁.setTop (mkF m 33 #[.val (.int p0), .val (.int vc), .val (.int vd), .val (.int vl), .unset] [(.int vl)])) _
      refine XS.bipush X0.here hx rfl (hb hby at_33) ?_
      show Steps p.tables e below (s₁.setTop (mkF m 35 #[.val (.int p0), .val (.int vc), .val (.int vd), .val (.int vl), .unset] [(.int (122 : Int32)), (.int vl)])) _
      by_cases hc35 : (122 : Int32) < vl
      · try simp only [if_pos hc35] at k
        refine XS.icmpYes X0.here hx rfl (pc0 := 35) (pc' := 42) rfl (hb hby at_35) rfl (tlt hc35).2.2.1 (by decide) (by decide) ?_
        show Steps p.tables e below (s₁.setTop (mkF m 42 #[.val (.int p0), .val (.int vc), .val (.int vd), .val (.int vl), .unset] [])) _
        refine XS.iconst X0.here hx rfl (hb hby at_42) ?_
        show Steps p.tables e below (s₁.setTop (mkF m 43 #[.val (.int p0), .val (.int vc), .val (.int vd), .val (.int vl), .unset] [(.int (0 : Int32))])) _
        exact k
      · try simp only [if_neg hc35] at k
        refine XS.icmpNo X0.here hx rfl (hb hby at_35) rfl (flt hc35).2.2.1 ?_
        show Steps p.tables e below (s₁.setTop (mkF m 38 #[.val (.int p0), .val (.int vc), .val (.int vd), .val (.int vl), .unset] [])) _
        refine XS.iconst X0.here hx rfl (hb hby at_38) ?_
        show Steps p.tables e below (s₁.setTop (mkF m 39 #[.val (.int p0), .val (.int vc), .val (.int vd), .val (.int vl), .unset] [(.int (1 : Int32))])) _
        refine XS.goto X0.here hx rfl (pc0 := 39) (pc' := 43) rfl (hb hby at_39) (by decide) (by decide) ?_
        show Steps p.tables e below (s₁.setTop (mkF m 43 #[.val (.int p0), .val (.int vc), .val (.int vd), .val (.int vl), .unset] [(.int (1 : Int32))])) _
        exact k
  refine own_go sg2 ?_
  show own_Go p.tables e below _ (s₁.setTop (mkF m 43 #[.val (.int p0), .val (.int vc), .val (.int vd), .val (.int vl), .unset] [(.int (if vl < (97 : Int32) then (0 : Int32) else (if (122 : Int32) < vl then (0 : Int32) else (1 : Int32))))]))
  refine own_go (fun _ k => XS.istore X0.here hx rfl (hb hby at_43) rfl (l' := #[.val (.int p0), .val (.int vc), .val (.int vd), .val (.int vl), .val (.int (if vl < (97 : Int32) then (0 : Int32) else (if (122 : Int32) < vl then (0 : Int32) else (1 : Int32))))]) rfl k) ?_
  show own_Go p.tables e below _ (s₁.setTop (mkF m 45 #[.val (.int p0), .val (.int vc), .val (.int vd), .val (.int vl), .val (.int (if vl < (97 : Int32) then (0 : Int32) else (if (122 : Int32) < vl then (0 : Int32) else (1 : Int32))))] []))
  refine own_go (fun _ k => XS.iloadN X0.here hx rfl (hb hby at_45) rfl k) ?_
  show own_Go p.tables e below _ (s₁.setTop (mkF m 46 #[.val (.int p0), .val (.int vc), .val (.int vd), .val (.int vl), .val (.int (if vl < (97 : Int32) then (0 : Int32) else (if (122 : Int32) < vl then (0 : Int32) else (1 : Int32))))] [(.int vc)]))
  obtain ⟨_, _, ⟨T3, L3, k3, n3⟩, -, X3, ⟨Lc3, hQ3, l3, y3, z3⟩, st3⟩ := Jvm.LawKit.callS X0 hx (y := (⟨"com/example/cijing/cijing/text/Text", "isLatinLetter", "(C)Z"⟩ : MethodName)) hown (mvT hZ (hw _ (List.mem_of_getElem? (i := 2) rfl))) (mvT hZ (hw _ (List.mem_of_getElem? (i := 3) rfl))) (mvT hZ (hw _ (List.mem_of_getElem? (i := 4) rfl))) (mvT hZ (hw _ (List.mem_of_getElem? (i := 5) rfl))) (by decide) (backOf (W := 0) (rm1 l Z a0 hw [] vc h0 n0 Z0) hZ (hw _ (List.mem_of_getElem? (i := 5) rfl)) (hw _ (List.mem_of_getElem? (i := 4) rfl)) (by decide) (by decide)) (g := (mkF m 46 #[.val (.int p0), .val (.int vc), .val (.int vd), .val (.int vl), .val (.int (if vl < (97 : Int32) then (0 : Int32) else (if (122 : Int32) < vl then (0 : Int32) else (1 : Int32))))] [(.int vc)])) rfl (by rw [hml]; rfl) (argsL := [(.int vc)]) (rest := []) (lenOf pd0_0 rfl) rfl (by show 2 * 0 + _ ≤ _; exact Nat.le_of_eq rfl) (hb hby at_46) (fun _ _ => ⟨rfl, e0, (by decide : 0 + 0 ≤ _), (by decide : 0 + 0 ≤ _)⟩)
  dsimp only [Pt.U, Pt.locs, Pt.cells, Pt.slots] at X3 l3 y3 z3 st3 hQ3
  subst l3 y3 z3
  refine own_go st3 ?_
  obtain ⟨rfl, N3q, e3⟩ := hQ3
  have N3 := Fr.app N0 N3q
  show own_Go p.tables e below _ (T3.setTop (mkF m 49 #[.val (.int p0), .val (.int vc), .val (.int vd), .val (.int vl), .val (.int (if vl < (97 : Int32) then (0 : Int32) else (if (122 : Int32) < vl then (0 : Int32) else (1 : Int32))))] [(.int (own_f1 vc))]))
  refine own_go (fun _ k => XS.iload X3.here hx rfl (hb hby at_49) rfl k) ?_
  show own_Go p.tables e below _ (T3.setTop (mkF m 51 #[.val (.int p0), .val (.int vc), .val (.int vd), .val (.int vl), .val (.int (if vl < (97 : Int32) then (0 : Int32) else (if (122 : Int32) < vl then (0 : Int32) else (1 : Int32))))] [(.int (if vl < (97 : Int32) then (0 : Int32) else (if (122 : Int32) < vl then (0 : Int32) else (1 : Int32)))), (.int (own_f1 vc))]))
  have hf51 : (own_f1 vc) = (if vl < (97 : Int32) then (0 : Int32) else (if (122 : Int32) < vl then (0 : Int32) else (1 : Int32))) := own_val hvc hvd hvl
  refine own_go (fun _ k => XS.icmpNo X3.here hx rfl (hb hby at_51) rfl (teq hf51).2 k) ?_
  show own_Go p.tables e below _ (T3.setTop (mkF m 54 #[.val (.int p0), .val (.int vc), .val (.int vd), .val (.int vl), .val (.int (if vl < (97 : Int32) then (0 : Int32) else (if (122 : Int32) < vl then (0 : Int32) else (1 : Int32))))] []))
  refine own_go (fun _ k => XS.iconst X3.here hx rfl (hb hby at_54) k) ?_
  show own_Go p.tables e below _ (T3.setTop (mkF m 55 #[.val (.int p0), .val (.int vc), .val (.int vd), .val (.int vl), .val (.int (if vl < (97 : Int32) then (0 : Int32) else (if (122 : Int32) < vl then (0 : Int32) else (1 : Int32))))] [(.int (1 : Int32))]))
  refine own_go (fun _ k => XS.goto X3.here hx rfl (pc0 := 55) (pc' := 59) rfl (hb hby at_55) (by decide) (by decide) k) ?_
  show own_Go p.tables e below _ (T3.setTop (mkF m 59 #[.val (.int p0), .val (.int vc), .val (.int vd), .val (.int vl), .val (.int (if vl < (97 : Int32) then (0 : Int32) else (if (122 : Int32) < vl then (0 : Int32) else (1 : Int32))))] [(.int (1 : Int32))]))
  refine own_end X3 Bd.notSynchronized (v := some (.int (1 : Int32))) (fun h => by rw [Bd.returns] at h; cases h) (fun fs hr => retN X3 hx (t := .boolean) Bd.returns (by simp) (hb hby at_59) hr) ?_ (by decide) (by decide)
  exact ⟨rfl, N3⟩
set_option maxRecDepth 65536 in
set_option maxHeartbeats 40000000 in
theorem comes_1 {Post : Tables → Env → Array Value → State → Outcome → State → Prop} (hpost : ∀ tb e args s v u, (limb_1_1.after args s (.returned v) u = true ∧ limb_1_2.after args s (.returned v) u = true ∧ True) → FrameEnd s (.returned v) u (Jvm.fieldLocs frame_1_writes args s ++ Jvm.arrayLocs frame_1_arrays args s ++ Jvm.staticLocs frame_1_statics s) 0 0 → Post tb e args s (.returned v) u) :
    ArmFor flags0 classFile x code maxLocals ret World_1 tables_1 room_1 Calls_1 rest_1 Pre_1 Post := by
  intro l hfl _ _ p e ha hc hk s m args below hf hA hF happ hP
  obtain ⟨hcalls, hrest, hpre⟩ := hP
  obtain ⟨-, -, -, hnamed, -, -, -, hat⟩ := (Spec.applies_iff hf).mp happ
  obtain ⟨hg, hn⟩ := and_e (Cond.before_iff.mp (show (Jvm.Cond.and given_1 narrow_1).before args s = true from hpre))
  obtain ⟨g1, g2⟩ := and_e hg
  obtain ⟨w0, rfl⟩ : ∃ w0 : Value, args = #[w0] := by
    have hs : args.size = 1 := by simpa [Cond.value, given_1] using g1
    obtain ⟨L⟩ := args
    match L, hs with
    | [w0], _ => exact ⟨w0, rfl⟩
  have hw := fun d (hd : d ∈ tables_1) => atoms_spec (ws := Jvm.Cond.code x code maxLocals ret :: tables_1) hat d (List.mem_cons_of_mem _ hd)
  obtain ⟨i0, ei0⟩ := is_v g2
  obtain rfl : w0 = (.int i0) := Option.some.inj ei0
  obtain ⟨n, o, h1, h2, h3, _, L, rfl, ⟨rfl, N⟩, hq⟩ := rm0 l s _ hw tables_1 i0 s.heap s.heap.size (Nat.le_refl _) p e ha hc hk s m _ below hf ((Spec.applies_iff_loose hf).mp happ).1 ⟨rfl, State.Warmed39.refl s, rfl⟩ trivial
  refine ⟨n, _, h1, h2, h3, hpost _ _ _ _ _ _ ⟨Cond.after_iff.mpr rfl, Cond.after_iff.mpr (eq_i res_at (Term.int_eval (1)) rfl), trivial⟩ ⟨hq.1, hq.2.1, (hq.2.2.sift fun y hy => Or.inr (N y hy)).mono (by decide) (by decide)⟩⟩
theorem main_1_1 : Claimed_1_1 := comes_1 fun _ _ _ _ _ _ h hF => ⟨h.1, hF⟩
theorem main_1_2 : Claimed_1_2 := comes_1 fun _ _ _ _ _ _ h hF => ⟨h.2.1, hF⟩
end Jvm.Pilot.@@N@@
namespace Jvm.Pilot.@@N@@
open Jvm Jvm.ClassFile Sem Op Lib Jvm.Free Jvm.Stand Jvm.Pilot.@@N@@.Jvm.D
/-! MADE BY PROGRAM (witnessworld.py) out of the Statement's table words and the real class files: 7 classes; the members and pool entries that the words name. The judged class is class 1, her method 1. -/
namespace start1
open Jvm.ClassFile
def u (s : String) : CpInfo := .utf8 (stringToUtf16 s)
/-- a pool by its gaps: so many unusable entries, then the entry; so many at the end -/
def gap : Nat → List CpInfo → List CpInfo
  | 0, r => r
  | n + 1, r => .unusable :: gap n r
def poolList (es : List (Nat × CpInfo)) (last : Nat) : List CpInfo := es.foldr (fun e r => gap e.1 (e.2 :: r)) (gap last [])
def pool (es : List (Nat × CpInfo)) (last : Nat) : Array CpInfo := ⟨poolList es last⟩
def fileOf (pool : Array CpInfo) (this : Nat) (attrs : Array Attribute := #[]) (ms : Array MethodInfo := #[]) (fl : Nat := 33) (sup : Nat := 0) (ifs : Array Nat := #[]) (fds : Array FieldInfo := #[]) : ClassFile where
  minorVersion := 0
  majorVersion := 65
  constantPool := pool
  accessFlags := fl
  thisClass := this
  superClass := sup
  interfaces := ifs
  fields := fds
  methods := ms
  attributes := attrs
def plain (name : String) (sup : Option ClassId) : Class where
  name := name
  kind := .ordinary
  loader := none
  accessFlags := 33
  super := sup
  interfaces := #[]
  cf := none
  fields := #[]
  methods := #[]
  instanceTypes := #[]
  staticTypes := #[]
  resolved := #[]
  callSites := []
  init := .initialized
  statics := none
  mirror := none

def pool0 : Array CpInfo := pool [(5, u "<init>"), (0, u "()V"), (1, .class_ 10), (1, u "java/lang/Object")] 113

def k0m0 : Method := { name := "<init>", desc := "()V", sig := { parameters := [], returnType := none }, accessFlags := 1, code := none }
/-- java/lang/Object -/
def k0 : Class := { plain "java/lang/Object" none with
  accessFlags := 33
  interfaces := #[]
  cf := some (fileOf pool0 8 #[] #[{ accessFlags := 1, nameIndex := 5, descriptorIndex := 6, attributes := #[] }] 33 0 #[] #[])
  fields := #[]
  methods := #[k0m0]
  instanceTypes := #[]
  staticTypes := #[]
  resolved := Array.replicate 124 none
  statics := none }

def pool1 : Array CpInfo := pool [(2, .class_ 4), (1, u "java/lang/Object"), (0, u "<init>"), (0, u "()V"), (0, .integer 65535), (0, .integer 65280), (0, .integer 65248), (0, .methodref 11 12), (0, .class_ 13), (0, .nameAndType 14 15), (0, u "com/example/cijing/cijing/text/Text"), (0, u "isLatinLetter"), (0, u "(C)Z"), (0, .class_ 17), (0, u "com/example/cijing/cijing/text/TextIsLatinLetterPinLaw"), (2, u "law"), (0, u "(I)Z")] 3

def k1m0 : Method := { name := "<init>", desc := "()V", sig := { parameters := [], returnType := none }, accessFlags := 2, code := none }
def k1c1 : Code := { maxStack := 2, maxLocals := 5, code := code, exceptionTable := #[], attributes := #[] }
def k1m1 : Method := { name := "law", desc := "(I)Z", sig := { parameters := [.int], returnType := some .boolean }, accessFlags := 9, code := some k1c1 }
/-- com/example/cijing/cijing/text/TextIsLatinLetterPinLaw -/
def k1 : Class := { plain "com/example/cijing/cijing/text/TextIsLatinLetterPinLaw" (some 0) with
  accessFlags := 49
  interfaces := #[]
  cf := some (fileOf pool1 16 #[] #[{ accessFlags := 2, nameIndex := 5, descriptorIndex := 6, attributes := #[] }, { accessFlags := 9, nameIndex := 20, descriptorIndex := 21, attributes := #[] }] 49 2 #[] #[])
  fields := #[]
  methods := #[k1m0, k1m1]
  instanceTypes := #[]
  staticTypes := #[]
  resolved := Array.replicate 25 none
  statics := none }

def pool2 : Array CpInfo := pool [(2, .class_ 4), (1, u "java/lang/Object"), (0, u "<init>"), (0, u "()V"), (11, .class_ 20), (1, u "com/example/cijing/cijing/text/Text"), (1, u "(C)Z"), (3, .integer 65313), (0, .integer 65338), (0, .integer 65345), (0, .integer 65370), (40, u "isLatinLetter")] 10

def k2m0 : Method := { name := "<init>", desc := "()V", sig := { parameters := [], returnType := none }, accessFlags := 2, code := none }
def k2c1 : Code := { maxStack := 2, maxLocals := 1, code := prog_51_method_6_code, exceptionTable := #[], attributes := #[] }
def k2m1 : Method := { name := "isLatinLetter", desc := "(C)Z", sig := { parameters := [.char], returnType := some .boolean }, accessFlags := 9, code := some k2c1 }
/-- com/example/cijing/cijing/text/Text -/
def k2 : Class := { plain "com/example/cijing/cijing/text/Text" (some 0) with
  accessFlags := 49
  interfaces := #[]
  cf := some (fileOf pool2 18 #[] #[{ accessFlags := 2, nameIndex := 5, descriptorIndex := 6, attributes := #[] }, { accessFlags := 9, nameIndex := 70, descriptorIndex := 22, attributes := #[] }] 49 2 #[] #[])
  fields := #[]
  methods := #[k2m0, k2m1]
  instanceTypes := #[]
  staticTypes := #[]
  resolved := Array.replicate 81 none
  statics := none }

def pool3 : Array CpInfo := pool [(1, u "java/lang/Cloneable"), (0, .class_ 1), (0, u "java/lang/Object"), (0, .class_ 3)] 3

/-- java/lang/Cloneable -/
def k3 : Class := { plain "java/lang/Cloneable" (some 0) with
  accessFlags := 1537
  interfaces := #[]
  cf := some (fileOf pool3 2 #[] #[] 1537 4 #[] #[])
  fields := #[]
  methods := #[]
  instanceTypes := #[]
  staticTypes := #[]
  resolved := Array.replicate 8 none
  statics := none }

def pool4 : Array CpInfo := pool [(1, u "java/io/Serializable"), (0, .class_ 1), (0, u "java/lang/Object"), (0, .class_ 3)] 3

/-- java/io/Serializable -/
def k4 : Class := { plain "java/io/Serializable" (some 0) with
  accessFlags := 1537
  interfaces := #[]
  cf := some (fileOf pool4 2 #[] #[] 1537 4 #[] #[])
  fields := #[]
  methods := #[]
  instanceTypes := #[]
  staticTypes := #[]
  resolved := Array.replicate 8 none
  statics := none }

/-- the primitive byte -/
def k5 : Class := { plain "byte" none with kind := .primitive 'B', accessFlags := 0x411 }
/-- [B -/
def k6 : Class := { plain "[B" (some 0) with kind := .array 5 .byte, interfaces := #[3, 4], accessFlags := 1041 }

def heap : Heap := #[]
def classes : Array Class := #[k0, k1, k2, k3, k4, k5, k6]
def interned : List (Array UInt16 × Addr) := []
def slotsUsed : Nat := 0
def theMethod : MethodId := ⟨1, 1⟩
def args0 : Array Value := #[.int 65]
def aboutOver (below : List Frame) : State where
  vm := { classes := classes, interned := interned.toArray }
  heap := heap
  slotsUsed := slotsUsed
  threads := #[{ frames := .invoking theMethod args0 :: below }]
def below0 : List Frame := [.native { method := ⟨0, 0⟩, args := #[] }]
def about1 : State := aboutOver below0
def p0 : Program := .bare "" "" ""
def e0 : Env := launch0.env 0 0 0
theorem w_frames : about1.frames = Frame.invoking theMethod args0 :: below0 := rfl
set_option maxRecDepth 65536 in
theorem w_args : argsFit about1.vm theMethod args0 = true := by decide +kernel
set_option maxRecDepth 65536 in
theorem w_heap : heapFits about1 = true := by decide +kernel
set_option maxRecDepth 65536 in
theorem w_runnable : about1.curStatus? = some .runnable := by decide +kernel
set_option maxRecDepth 65536 in
theorem w_alone : about1.alone = true := by decide +kernel
set_option maxRecDepth 65536 in
theorem w_named : about1.methodNamed? x = some theMethod := by decide +kernel
set_option maxRecDepth 65536 in
theorem w_hears : about1.hears theMethod below0 = true := by decide +kernel
set_option maxRecDepth 65536 in
theorem w_ripe : about1.ripe theMethod args0 below0 = true := by decide +kernel
theorem w_running : about1.status = .running := rfl
set_option maxRecDepth 65536 in
theorem w_room : about1.hasRoom e0.platform room_1 = true :=
  launch0.hasRoom_least _ room_1 (by decide +kernel) (by decide +kernel) (by decide +kernel) (by decide +kernel) (by decide +kernel) (by decide +kernel)
theorem allAtoms_all (ts : List Jvm.Cond) (a : Array Jvm.Value) (st : Jvm.State) : (allAtoms ts).before a st = ts.all (fun c => c.before a st) := by
  induction ts with
  | nil => rfl
  | cons c t ih =>
    show (Jvm.Cond.and c (allAtoms t)).before a st = _
    rw [Jvm.Cond.before_and, ih, List.all_cons]
def words1 : List Jvm.Cond := Jvm.Cond.code x code maxLocals ret :: tables_1
/-- a 'code' word, met by the world's own term for the bytes: nothing is compared byte by byte -/
theorem code_word {y : MethodName} {bytes : ByteArray} {mx : Nat} {rt : Option FieldType} {a : Array Value} {s : State} {m : MethodId} {meth : Method} {c : Code} (h1 : s.methodNamed? y = some m) (h2 : s.vm.method? m = some meth) (h3 : meth.code = some c) (h4 : c.code = bytes)
    (h5 : (c.maxLocals == mx && c.exceptionTable.isEmpty && decide (c.maxStack ≤ mostOperands) && decide (meth.sig.returnType = rt) && !meth.locks && decide (parseMethodDescriptor y.desc = some meth.sig)) = true) : (Jvm.Cond.code y bytes mx rt).before a s = true := by
  simp only [Bool.and_eq_true, beq_iff_eq, Bool.not_eq_true', decide_eq_true_eq] at h5
  obtain ⟨⟨⟨⟨⟨g1, g2⟩, g3⟩, g4⟩, g5⟩, g6⟩ := h5
  simp [Cond.before, Cond.holds, Cond.value, h1, h2, h3, h4, g1, g2, g3, g4, g5, g6]
def isCode : Jvm.Cond → Bool
  | .code _ _ _ _ => true
  | _ => false
theorem all_split {L : List Jvm.Cond} {P : Jvm.Cond → Bool} (h1 : L.all (fun c => isCode c || P c) = true) (h2 : ∀ c ∈ L.filter isCode, P c = true) : L.all P = true := by
  refine List.all_eq_true.mpr fun c hc => ?_
  have h := List.all_eq_true.mp h1 c hc
  rcases Bool.eq_false_or_eq_true (isCode c) with hi | hi
  · exact h2 c (List.mem_filter.mpr ⟨hc, hi⟩)
  · simpa [hi] using h
set_option maxRecDepth 65536 in
theorem w_c0 : (Jvm.Cond.code x code maxLocals ret).before args0 about1 = true := code_word (m := ⟨1, 1⟩) (meth := k1m1) (c := k1c1) (by decide +kernel) rfl rfl rfl (by decide +kernel)
set_option maxRecDepth 65536 in
theorem w_c1 : (Jvm.Cond.code ({ cls := "com/example/cijing/cijing/text/Text", name := "isLatinLetter", desc := "(C)Z" } : Jvm.MethodName) prog_51_method_6_code (1 : Nat) (Option.some Jvm.ClassFile.FieldType.boolean)).before args0 about1 = true := code_word (m := ⟨2, 1⟩) (meth := k2m1) (c := k2c1) (by decide +kernel) rfl rfl rfl (by decide +kernel)
def codes1 : List Jvm.Cond := [Jvm.Cond.code x code maxLocals ret, Jvm.Cond.code ({ cls := "com/example/cijing/cijing/text/Text", name := "isLatinLetter", desc := "(C)Z" } : Jvm.MethodName) prog_51_method_6_code (1 : Nat) (Option.some Jvm.ClassFile.FieldType.boolean)]
set_option maxRecDepth 65536 in
theorem codes_eq : words1.filter isCode = codes1 := rfl
theorem w_codes : ∀ c ∈ words1.filter isCode, c.before args0 about1 = true := by
  rw [codes_eq]
  intro c hc
  simp only [codes1, List.mem_cons, List.not_mem_nil, or_false] at hc
  rcases hc with rfl | rfl
  · exact w_c0
  · exact w_c1
set_option maxRecDepth 65536 in
theorem w_t1 : words1.all (fun c => isCode c || c.before args0 about1) = true := by decide +kernel
theorem w_tables : (allAtoms (Jvm.Cond.code x code maxLocals ret :: tables_1)).before args0 about1 = true := by
  rw [allAtoms_all]
  show words1.all (fun c => c.before args0 about1) = true
  refine all_split ?_ w_codes
  rw [w_t1]
set_option maxRecDepth 65536 in
theorem w_case : (Jvm.Cond.and given_1 narrow_1).before args0 about1 = true := by decide +kernel
theorem w_applies : (headSpec (Jvm.Cond.code x code maxLocals ret :: tables_1) room_1).applies x e0.platform about1 = true :=
  (Spec.applies_iff w_frames).mpr ⟨w_running, w_runnable, w_alone, w_named, w_hears, w_ripe, w_room, w_tables⟩
theorem atStart : AtStart classFile x code maxLocals ret World_1 tables_1 room_1 Calls_1 rest_1 Pre_1 launch0 p0 e0 about1 theMethod args0 below0 :=
  ⟨lists_1, trivial, launch0.admits_env _ _ _, launch0.least_env, fairChoices_fair.cas, fairChoices_fair.clock, w_frames, w_args, w_heap, w_applies, trivial, trivial, w_case⟩
end start1
theorem witness_1 : WitnessClaimed_1 := ⟨start1.p0, start1.e0, start1.about1, start1.theMethod, start1.args0, start1.below0, start1.atStart⟩
end Jvm.Pilot.@@N@@
