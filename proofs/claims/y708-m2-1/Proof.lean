import JvmDerived
import JvmDerived.Pilot.@@N@@Statement
import JvmDerived.Pilot.@@N@@Code
set_option linter.unusedVariables false
set_option linter.unusedSimpArgs false

namespace Jvm.Pilot.@@N@@
open Jvm Jvm.ClassFile Sem Op Lib Jvm.Free Jvm.Stand Jvm.LawKit Jvm.RoadKit Bundle Jvm.Pilot.@@N@@.Jvm.D
/-- the run from U comes to an end of which P holds -/
def own_Go (tb : Tables) (e : Env) (below : List Frame) (P : Outcome → State → Prop) (U : State) : Prop :=
  ∃ s₂ o, Steps tb e below U s₂ ∧ s₂.status = .running ∧ Ended s₂ below o ∧ P o s₂
theorem own_go {tb : Tables} {e : Env} {below : List Frame} {P : Outcome → State → Prop} {U U' : State} (k : ∀ t, Steps tb e below U' t → Steps tb e below U t) (h : own_Go tb e below P U') : own_Go tb e below P U := by
  obtain ⟨t, o, h1, h2⟩ := h
  exact ⟨t, o, k t h1, h2⟩
section Own
variable {p : Program} {l : Launch} {e : Env} {R : Room} {s : State} {m : MethodId} {args : Array Value} {below : List Frame} {meth : Method} {c : Code} {T : State} {locs : List Loc} {cells slots : Nat}
theorem own_retI (X : Stand p l e R s m args below meth c T locs cells slots) (hx : p.tables.exec = Jvm.exec) {pc : Nat} {Ls : Array Slot} {z : Int32} {rest : List Value} (hret : meth.sig.returnType = some .int) (hd : decode c.code pc = .ok (.ireturn, 1)) {fs : List Frame}
    (hl : ∀ (f : JFrame) (acts : List Action), f.method = m → f.locked = none → f.entered = [] → (doReturn e (T.setTop f) acts (some (.int z))).1 = T.setFrames fs) : Steps p.tables e below (T.setTop (mkF m pc Ls (.int z :: rest))) (T.setFrames fs) := by
  have hm' : T.vm.method? m = some meth := X.method'
  have hn : narrow .int (.int z) = .int z := rfl
  show Steps p.tables e below (T.setTop { method := m, pc := pc, locals := Ls, stack := _ :: rest, locked := none }) _
  jvm_step X.here [X.here.top, hx, hd, hm', hret, hn]
  first | (intro acts; rw [hl _ acts rfl rfl rfl]) | rw [hl _ _ rfl rfl rfl]
  exact Steps.refl _
theorem own_retJ (X : Stand p l e R s m args below meth c T locs cells slots) (hx : p.tables.exec = Jvm.exec) {pc : Nat} {Ls : Array Slot} {z : Int64} {rest : List Value} (hret : meth.sig.returnType = some .long) (hd : decode c.code pc = .ok (.lreturn, 1)) {fs : List Frame}
    (hl : ∀ (f : JFrame) (acts : List Action), f.method = m → f.locked = none → f.entered = [] → (doReturn e (T.setTop f) acts (some (.long z))).1 = T.setFrames fs) : Steps p.tables e below (T.setTop (mkF m pc Ls (.long z :: rest))) (T.setFrames fs) := by
  have hm' : T.vm.method? m = some meth := X.method'
  show Steps p.tables e below (T.setTop { method := m, pc := pc, locals := Ls, stack := _ :: rest, locked := none }) _
  jvm_step X.here [X.here.top, hx, hd, hm', hret, narrow]
  first | (intro acts; rw [hl _ acts rfl rfl rfl]) | rw [hl _ _ rfl rfl rfl]
  exact Steps.refl _
theorem own_end {Q : Option Value → Heap → List Loc → Prop} {kc ks : Nat} (X : Stand p l e R s m args below meth c T locs cells slots) (hlocks : meth.locks = false) {g : JFrame} {v : Option Value}
    (hv : meth.sig.returnType = none → v = none)
    (hs : ∀ fs, (∀ (f : JFrame) (acts : List Action), f.method = m → f.locked = none → f.entered = [] → (doReturn e (T.setTop f) acts v).1 = T.setFrames fs) → Steps p.tables e below (T.setTop g) (T.setFrames fs))
    (hQ : Q v T.heap locs) (h1 : cells ≤ kc) (h2 : slots ≤ ks) :
    own_Go p.tables e below (fun o U' => ∃ v L, o = .returned v ∧ Q v U'.heap L ∧ FrameEnd s o U' L kc ks) (T.setTop g) := by
  obtain ⟨fs, hr, hrun, hended, hW, hsame⟩ := X.leave (v := v) hv hlocks
  exact ⟨_, _, hs fs hr, hrun, hended, _, _, rfl, hQ, ⟨_, rfl⟩, hW, hsame.mono h1 h2⟩
end Own
def own_f1 (q0 : Int64) : Int32 :=
  ((((q0 + (65536 : Int64)) - (1 : Int64)) / (65536 : Int64)).toInt32)
theorem d1_0 : decode prog_92_method_3_code 0 = .ok (.lload_n 0, 1) := by decide +kernel
theorem d1_1 : decode prog_92_method_3_code 1 = .ok (.ldc2_w 64, 3) := by decide +kernel
theorem d1_4 : decode prog_92_method_3_code 4 = .ok (.ladd, 1) := by decide +kernel
theorem d1_5 : decode prog_92_method_3_code 5 = .ok (.lconst 1, 1) := by decide +kernel
theorem d1_6 : decode prog_92_method_3_code 6 = .ok (.lsub, 1) := by decide +kernel
theorem d1_7 : decode prog_92_method_3_code 7 = .ok (.ldc2_w 64, 3) := by decide +kernel
theorem d1_10 : decode prog_92_method_3_code 10 = .ok (.ldiv, 1) := by decide +kernel
theorem d1_11 : decode prog_92_method_3_code 11 = .ok (.l2i, 1) := by decide +kernel
theorem d1_12 : decode prog_92_method_3_code 12 = .ok (.ireturn, 1) := by decide +kernel
theorem pn1 : plainName "com/example/pathwise/pathwise/store/CheckedFile" = true := by first | (simp [plainName, overriddenIn]; done) | decide +kernel
theorem ef1 (m : MethodId) (q0 : Int64) : entryFrame m #[(.long q0)] 2 = mkF m 0 #[.val (.long q0), .second] [] := by first | (simp [entryFrame, mkF, argsToLocals, Value.category]; done) | rfl
def own_Q1 (Z : State) (q0 : Int64) (h0 : Heap) (n0 : Nat) (v : Option Value) (h : Heap) (L : List Loc) : Prop := v = some (.int (own_f1 q0)) ∧ Fr n0 L ∧ h = h0
set_option maxRecDepth 65536 in
set_option maxHeartbeats 40000000 in
theorem rm1 (l : Launch) (Z : State) (a0 : Array Value) (hw : ∀ d ∈ tables_1, d.before a0 Z = true) (ws : List Jvm.Cond) (q0 : Int64) (h0 : Heap) (n0 : Nat) (Z0 : n0 ≤ h0.size) :
    MetFree l (⟨"com/example/pathwise/pathwise/store/CheckedFile", "blocks", "(J)I"⟩ : MethodName) (head1 (Jvm.Cond.code (⟨"com/example/pathwise/pathwise/store/CheckedFile", "blocks", "(J)I"⟩ : MethodName) prog_92_method_3_code 2 (some .int) :: ws) ({ frames := 0, cells := 0, slots := 0, locals := 0 } : Room)) (fun a U => a = #[(.long q0)] ∧ Z.Warmed39 U.vm ∧ U.heap = h0) (fun _ _ _ _ _ => True) (fun _ U o U' => ∃ v L, o = .returned v ∧ own_Q1 Z q0 h0 n0 v U'.heap L ∧ FrameEnd U o U' L ({ frames := 0, cells := 0, slots := 0, locals := 0 } : Room).cells ({ frames := 0, cells := 0, slots := 0, locals := 0 } : Room).slots) := by
  refine MetFree.of_bodySF (plainFor_of_name pn1) hisR ?_
  intro p e s m args below meth c s₁ Bd hml0 hP hK
  obtain ⟨rfl, hZ, hh⟩ := hP
  have hx := Bd.exec
  have hby := Bd.bytes
  have hml : c.maxLocals = 2 := hml0
  have hown : s.vm.findClass "com/example/pathwise/pathwise/store/CheckedFile" = some m.cls := findClass_of_methodNamed Bd.named
  have hnm := (name_of_methodNamed Bd.named Bd.method).1
  have X0 : Stand p l e ({ frames := 0, cells := 0, slots := 0, locals := 0 } : Room) s m #[(.long q0)] below meth c s₁ [] 0 0 := Stand.of_body Bd
  have e0 : s₁.heap = h0 := by rw [← hh, Bd.state]; rfl
  have N0 := Fr.nil n0
  show own_Go p.tables e below (fun o U' => ∃ v L, o = .returned v ∧ own_Q1 Z q0 h0 n0 v U'.heap L ∧ FrameEnd s o U' L ({ frames := 0, cells := 0, slots := 0, locals := 0 } : Room).cells ({ frames := 0, cells := 0, slots := 0, locals := 0 } : Room).slots) (s₁.setTop (entryFrame m #[(.long q0)] 2))
  refine own_go (fun _ k => castTop (ef1 m q0) k) ?_
  show own_Go p.tables e below _ (s₁.setTop (mkF m 0 #[.val (.long q0), .second] []))
  refine own_go (fun _ k => XS.lloadN X0.here hx rfl (hb hby d1_0) rfl k) ?_
  show own_Go p.tables e below _ (s₁.setTop (mkF m 1 #[.val (.long q0), .second] [(.long q0)]))
  refine own_go (fun _ k => X0.ldc2Long hx hown (mvT hZ (hw _ (List.mem_of_getElem? (i := 5) rfl))) (g := (mkF m 1 #[.val (.long q0), .second] [(.long q0)])) rfl (hb hby d1_1) _ k) ?_
  show own_Go p.tables e below _ (s₁.setTop (mkF m 4 #[.val (.long q0), .second] [(.long (65536 : Int64)), (.long q0)]))
  refine own_go (fun _ k => XS.ladd X0.here hx rfl (hb hby d1_4) rfl k) ?_
  show own_Go p.tables e below _ (s₁.setTop (mkF m 5 #[.val (.long q0), .second] [(.long (q0 + (65536 : Int64)))]))
  refine own_go (fun _ k => XS.lconst X0.here hx rfl (hb hby d1_5) k) ?_
  show own_Go p.tables e below _ (s₁.setTop (mkF m 6 #[.val (.long q0), .second] [(.long (1 : Int64)), (.long (q0 + (65536 : Int64)))]))
  refine own_go (fun _ k => XS.lsub X0.here hx rfl (hb hby d1_6) rfl k) ?_
  show own_Go p.tables e below _ (s₁.setTop (mkF m 7 #[.val (.long q0), .second] [(.long ((q0 + (65536 : Int64)) - (1 : Int64)))]))
  refine own_go (fun _ k => X0.ldc2Long hx hown (mvT hZ (hw _ (List.mem_of_getElem? (i := 5) rfl))) (g := (mkF m 7 #[.val (.long q0), .second] [(.long ((q0 + (65536 : Int64)) - (1 : Int64)))])) rfl (hb hby d1_7) _ k) ?_
  show own_Go p.tables e below _ (s₁.setTop (mkF m 10 #[.val (.long q0), .second] [(.long (65536 : Int64)), (.long ((q0 + (65536 : Int64)) - (1 : Int64)))]))
  refine own_go (fun _ k => XS.ldiv X0.here hx rfl (hb hby d1_10) rfl (by decide) k) ?_
  show own_Go p.tables e below _ (s₁.setTop (mkF m 11 #[.val (.long q0), .second] [(.long (((q0 + (65536 : Int64)) - (1 : Int64)) / (65536 : Int64)))]))
  refine own_go (fun _ k => XS.l2i X0.here hx rfl (hb hby d1_11) rfl k) ?_
  show own_Go p.tables e below _ (s₁.setTop (mkF m 12 #[.val (.long q0), .second] [(.int ((((q0 + (65536 : Int64)) - (1 : Int64)) / (65536 : Int64)).toInt32))]))
  refine own_end X0 Bd.notSynchronized (v := some (.int ((((q0 + (65536 : Int64)) - (1 : Int64)) / (65536 : Int64)).toInt32))) (fun h => by rw [Bd.returns] at h; cases h) (fun fs hr => own_retI X0 hx Bd.returns (hb hby d1_12) hr) ?_ (by decide) (by decide)
  exact ⟨by rw [own_f1], N0, e0⟩
theorem own_val {a n b : Int64} (hn : n = a &&& 70368744177663) (hb : b = (own_f1 n).toInt64) :
    ¬ (b < 0) ∧ ¬ (b * 65536 < n) ∧ (b - 1) * 65536 < n := by
  have e1 := c_maskL a 70368744177663 46 (by decide) (by decide)
  rw [← hn] at e1
  have e2 := c_i2l (own_f1 n)
  rw [← hb] at e2
  have e3 := c_ladd n 65536
  have e4 := c_lsub (n + 65536) 1
  have e5 := c_ldiv (n + 65536 - 1) 65536 65536 (by decide) (by decide)
  have e6 := c_l2i ((n + 65536 - 1) / 65536)
  have e7 : own_f1 n = ((n + 65536 - 1) / 65536).toInt32 := rfl
  rw [← e7] at e6
  have e8 : (65536 : Int64).toInt = 65536 := by decide
  have e9 : (1 : Int64).toInt = 1 := by decide
  have e10 : (0 : Int64).toInt = 0 := by decide
  have e11 := c_lmul b 65536
  have e12 := c_lsub b 1
  have e13 := c_lmul (b - 1) 65536
  rw [e8] at e11 e13
  have r1 := rng64 (n + 65536)
  have r2 := rng64 (n + 65536 - 1)
  have r3 := rng32 (own_f1 n)
  have r4 := rng64 (b * 65536)
  have r5 := rng64 (b - 1)
  have r6 := rng64 ((b - 1) * 65536)
  have r7 := rng64 a
  have r8 := rng64 ((n + 65536 - 1) / 65536)
  simp only [Int64.lt_iff_toInt_lt]
  refine ⟨?_, ?_, ?_⟩ <;> omega
theorem pn0 : plainName "com/example/pathwise/pathwise/store/CheckedFileBlocksPinLaw" = true := by first | (simp [plainName, overriddenIn]; done) | decide +kernel
theorem pd0_0 : parseMethodDescriptor "(J)I" = some ⟨[.long], some .int⟩ := by decide +kernel
theorem ef0 (m : MethodId) (q0 : Int64) : entryFrame m #[(.long q0)] maxLocals = mkF m 0 #[.val (.long q0), .second, .unset, .unset, .unset, .unset] [] := by first | (simp [entryFrame, mkF, argsToLocals, Value.category, maxLocals]; done) | rfl
def own_Q0 (Z : State) (q0 : Int64) (h0 : Heap) (n0 : Nat) (v : Option Value) (h : Heap) (L : List Loc) : Prop := v = some (.int 1) ∧ Fr n0 L
set_option maxRecDepth 65536 in
set_option maxHeartbeats 40000000 in
theorem rm0 (l : Launch) (Z : State) (a0 : Array Value) (hw : ∀ d ∈ tables_1, d.before a0 Z = true) (ws : List Jvm.Cond) (q0 : Int64) (h0 : Heap) (n0 : Nat) (Z0 : n0 ≤ h0.size) :
    MetFree l x (head1 (Jvm.Cond.code x code maxLocals ret :: ws) room_1) (fun a U => a = #[(.long q0)] ∧ Z.Warmed39 U.vm ∧ U.heap = h0) (fun _ _ _ _ _ => True) (fun _ U o U' => ∃ v L, o = .returned v ∧ own_Q0 Z q0 h0 n0 v U'.heap L ∧ FrameEnd U o U' L 0 0) := by
  refine MetFree.of_bodySF (plainFor_of_name pn0) hisR ?_
  intro p e s m args below meth c s₁ Bd hml0 hP hK
  obtain ⟨rfl, hZ, hh⟩ := hP
  have hx := Bd.exec
  have hby := Bd.bytes
  have hml : c.maxLocals = 6 := hml0
  have hown : s.vm.findClass "com/example/pathwise/pathwise/store/CheckedFileBlocksPinLaw" = some m.cls := findClass_of_methodNamed Bd.named
  have hnm := (name_of_methodNamed Bd.named Bd.method).1
  have X0 : Stand p l e room_1 s m #[(.long q0)] below meth c s₁ [] 0 0 := Stand.of_body Bd
  have e0 : s₁.heap = h0 := by rw [← hh, Bd.state]; rfl
  have N0 := Fr.nil n0
  show own_Go p.tables e below (fun o U' => ∃ v L, o = .returned v ∧ own_Q0 Z q0 h0 n0 v U'.heap L ∧ FrameEnd s o U' L 0 0) (s₁.setTop (entryFrame m #[(.long q0)] maxLocals))
  refine own_go (fun _ k => castTop (ef0 m q0) k) ?_
  show own_Go p.tables e below _ (s₁.setTop (mkF m 0 #[.val (.long q0), .second, .unset, .unset, .unset, .unset] []))
  refine own_go (fun _ k => XS.lloadN X0.here hx rfl (hb hby at_0) rfl k) ?_
  show own_Go p.tables e below _ (s₁.setTop (mkF m 1 #[.val (.long q0), .second, .unset, .unset, .unset, .unset] [(.long q0)]))
  refine own_go (fun _ k => X0.ldc2Long hx hown (mvT hZ (hw _ (List.mem_of_getElem? (i := 0) rfl))) (g := (mkF m 1 #[.val (.long q0), .second, .unset, .unset, .unset, .unset] [(.long q0)])) rfl (hb hby at_1) _ k) ?_
  show own_Go p.tables e below _ (s₁.setTop (mkF m 4 #[.val (.long q0), .second, .unset, .unset, .unset, .unset] [(.long (70368744177663 : Int64)), (.long q0)]))
  refine own_go (fun _ k => XS.land X0.here hx rfl (hb hby at_4) rfl k) ?_
  show own_Go p.tables e below _ (s₁.setTop (mkF m 5 #[.val (.long q0), .second, .unset, .unset, .unset, .unset] [(.long (q0 &&& (70368744177663 : Int64)))]))
  refine own_go (fun _ k => XS.lstoreN X0.here hx rfl (hb hby at_5) rfl (l' := #[.val (.long q0), .second, .val (.long (q0 &&& (70368744177663 : Int64))), .second, .unset, .unset]) rfl k) ?_
  show own_Go p.tables e below _ (s₁.setTop (mkF m 6 #[.val (.long q0), .second, .val (.long (q0 &&& (70368744177663 : Int64))), .second, .unset, .unset] []))
  obtain ⟨vn, hvn⟩ : ∃ z : Int64, z = (q0 &&& (70368744177663 : Int64)) := ⟨_, rfl⟩
  rw [← hvn]
  show own_Go p.tables e below _ (s₁.setTop (mkF m 6 #[.val (.long q0), .second, .val (.long vn), .second, .unset, .unset] []))
  refine own_go (fun _ k => XS.lloadN X0.here hx rfl (hb hby at_6) rfl k) ?_
  show own_Go p.tables e below _ (s₁.setTop (mkF m 7 #[.val (.long q0), .second, .val (.long vn), .second, .unset, .unset] [(.long vn)]))
  obtain ⟨_, _, ⟨T1, L1, k1, n1⟩, -, X1, ⟨Lc1, hQ1, l1, y1, z1⟩, st1⟩ := Jvm.LawKit.callS X0 hx (y := (⟨"com/example/pathwise/pathwise/store/CheckedFile", "blocks", "(J)I"⟩ : MethodName)) hown (mvT hZ (hw _ (List.mem_of_getElem? (i := 1) rfl))) (mvT hZ (hw _ (List.mem_of_getElem? (i := 2) rfl))) (mvT hZ (hw _ (List.mem_of_getElem? (i := 3) rfl))) (mvT hZ (hw _ (List.mem_of_getElem? (i := 4) rfl))) (by decide) (backOf (W := 0) (rm1 l Z a0 hw [] vn h0 n0 Z0) hZ (hw _ (List.mem_of_getElem? (i := 4) rfl)) (hw _ (List.mem_of_getElem? (i := 3) rfl)) (by decide) (by decide)) (g := (mkF m 7 #[.val (.long q0), .second, .val (.long vn), .second, .unset, .unset] [(.long vn)])) rfl (by rw [hml]; rfl) (argsL := [(.long vn)]) (rest := []) (lenOf pd0_0 rfl) rfl (by show 2 * 0 + _ ≤ _; exact Nat.le_of_eq rfl) (hb hby at_7) (fun _ _ => ⟨rfl, e0, (by decide : 0 + 0 ≤ _), (by decide : 0 + 0 ≤ _)⟩)
  dsimp only [Pt.U, Pt.locs, Pt.cells, Pt.slots] at X1 l1 y1 z1 st1 hQ1
  subst l1 y1 z1
  refine own_go st1 ?_
  obtain ⟨rfl, N1q, e1⟩ := hQ1
  have N1 := Fr.app N0 N1q
  show own_Go p.tables e below _ (T1.setTop (mkF m 10 #[.val (.long q0), .second, .val (.long vn), .second, .unset, .unset] [(.int (own_f1 vn))]))
  refine own_go (fun _ k => XS.i2l X1.here hx rfl (hb hby at_10) rfl k) ?_
  show own_Go p.tables e below _ (T1.setTop (mkF m 11 #[.val (.long q0), .second, .val (.long vn), .second, .unset, .unset] [(.long ((own_f1 vn).toInt64))]))
  refine own_go (fun _ k => XS.lstore X1.here hx rfl (hb hby at_11) rfl (l' := #[.val (.long q0), .second, .val (.long vn), .second, .val (.long ((own_f1 vn).toInt64)), .second]) rfl k) ?_
  show own_Go p.tables e below _ (T1.setTop (mkF m 13 #[.val (.long q0), .second, .val (.long vn), .second, .val (.long ((own_f1 vn).toInt64)), .second] []))
  obtain ⟨vb, hvb⟩ : ∃ z : Int64, z = ((own_f1 vn).toInt64) := ⟨_, rfl⟩
  rw [← hvb]
  show own_Go p.tables e below _ (T1.setTop (mkF m 13 #[.val (.long q0), .second, .val (.long vn), .second, .val (.long vb), .second] []))
  refine own_go (fun _ k => XS.lload X1.here hx rfl (hb hby at_13) rfl k) ?_
  show own_Go p.tables e below _ (T1.setTop (mkF m 15 #[.val (.long q0), .second, .val (.long vn), .second, .val (.long vb), .second] [(.long vb)]))
  refine own_go (fun _ k => XS.lconst X1.here hx rfl (hb hby at_15) k) ?_
  show own_Go p.tables e below _ (T1.setTop (mkF m 16 #[.val (.long q0), .second, .val (.long vn), .second, .val (.long vb), .second] [(.long (0 : Int64)), (.long vb)]))
  refine own_go (fun _ k => XS.lcmp X1.here hx rfl (hb hby at_16) rfl k) ?_
  show own_Go p.tables e below _ (T1.setTop (mkF m 17 #[.val (.long q0), .second, .val (.long vn), .second, .val (.long vb), .second] [(.int (lcmpW vb (0 : Int64)))]))
  have hf17 : ¬ (vb < (0 : Int64)) := (own_val hvn hvb).1
  refine own_go (fun _ k => XS.ifNo X1.here hx rfl (hb hby at_17) rfl ((if0 _ _).trans (flt (mt (lw_lt vb (0 : Int64)).mp hf17)).1) k) ?_
  show own_Go p.tables e below _ (T1.setTop (mkF m 20 #[.val (.long q0), .second, .val (.long vn), .second, .val (.long vb), .second] []))
  refine own_go (fun _ k => XS.lload X1.here hx rfl (hb hby at_20) rfl k) ?_
  show own_Go p.tables e below _ (T1.setTop (mkF m 22 #[.val (.long q0), .second, .val (.long vn), .second, .val (.long vb), .second] [(.long vb)]))
  refine own_go (fun _ k => X1.ldc2Long hx hown (mvT hZ (hw _ (List.mem_of_getElem? (i := 6) rfl))) (g := (mkF m 22 #[.val (.long q0), .second, .val (.long vn), .second, .val (.long vb), .second] [(.long vb)])) rfl (hb hby at_22) _ k) ?_
  show own_Go p.tables e below _ (T1.setTop (mkF m 25 #[.val (.long q0), .second, .val (.long vn), .second, .val (.long vb), .second] [(.long (65536 : Int64)), (.long vb)]))
  refine own_go (fun _ k => XS.lmul X1.here hx rfl (hb hby at_25) rfl k) ?_
  show own_Go p.tables e below _ (T1.setTop (mkF m 26 #[.val (.long q0), .second, .val (.long vn), .second, .val (.long vb), .second] [(.long (vb * (65536 : Int64)))]))
  refine own_go (fun _ k => XS.lloadN X1.here hx rfl (hb hby at_26) rfl k) ?_
  show own_Go p.tables e below _ (T1.setTop (mkF m 27 #[.val (.long q0), .second, .val (.long vn), .second, .val (.long vb), .second] [(.long vn), (.long (vb * (65536 : Int64)))]))
  refine own_go (fun _ k => XS.lcmp X1.here hx rfl (hb hby at_27) rfl k) ?_
  show own_Go p.tables e below _ (T1.setTop (mkF m 28 #[.val (.long q0), .second, .val (.long vn), .second, .val (.long vb), .second] [(.int (lcmpW (vb * (65536 : Int64)) vn))]))
  have hf28 : ¬ ((vb * (65536 : Int64)) < vn) := (own_val hvn hvb).2.1
  refine own_go (fun _ k => XS.ifNo X1.here hx rfl (hb hby at_28) rfl ((if0 _ _).trans (flt (mt (lw_lt (vb * (65536 : Int64)) vn).mp hf28)).1) k) ?_
  show own_Go p.tables e below _ (T1.setTop (mkF m 31 #[.val (.long q0), .second, .val (.long vn), .second, .val (.long vb), .second] []))
  refine own_go (fun _ k => XS.lload X1.here hx rfl (hb hby at_31) rfl k) ?_
  show own_Go p.tables e below _ (T1.setTop (mkF m 33 #[.val (.long q0), .second, .val (.long vn), .second, .val (.long vb), .second] [(.long vb)]))
  refine own_go (fun _ k => XS.lconst X1.here hx rfl (hb hby at_33) k) ?_
  show own_Go p.tables e below _ (T1.setTop (mkF m 34 #[.val (.long q0), .second, .val (.long vn), .second, .val (.long vb), .second] [(.long (1 : Int64)), (.long vb)]))
  refine own_go (fun _ k => XS.lsub X1.here hx rfl (hb hby at_34) rfl k) ?_
  show own_Go p.tables e below _ (T1.setTop (mkF m 35 #[.val (.long q0), .second, .val (.long vn), .second, .val (.long vb), .second] [(.long (vb - (1 : Int64)))]))
  refine own_go (fun _ k => X1.ldc2Long hx hown (mvT hZ (hw _ (List.mem_of_getElem? (i := 6) rfl))) (g := (mkF m 35 #[.val (.long q0), .second, .val (.long vn), .second, .val (.long vb), .second] [(.long (vb - (1 : Int64)))])) rfl (hb hby at_35) _ k) ?_
  show own_Go p.tables e below _ (T1.setTop (mkF m 38 #[.val (.long q0), .second, .val (.long vn), .second, .val (.long vb), .second] [(.long (65536 : Int64)), (.long (vb - (1 : Int64)))]))
  refine own_go (fun _ k => XS.lmul X1.here hx rfl (hb hby at_38) rfl k) ?_
  show own_Go p.tables e below _ (T1.setTop (mkF m 39 #[.val (.long q0), .second, .val (.long vn), .second, .val (.long vb), .second] [(.long ((vb - (1 : Int64)) * (65536 : Int64)))]))
  refine own_go (fun _ k => XS.lloadN X1.here hx rfl (hb hby at_39) rfl k) ?_
  show own_Go p.tables e below _ (T1.setTop (mkF m 40 #[.val (.long q0), .second, .val (.long vn), .second, .val (.long vb), .second] [(.long vn), (.long ((vb - (1 : Int64)) * (65536 : Int64)))]))
  refine own_go (fun _ k => XS.lcmp X1.here hx rfl (hb hby at_40) rfl k) ?_
  show own_Go p.tables e below _ (T1.setTop (mkF m 41 #[.val (.long q0), .second, .val (.long vn), .second, .val (.long vb), .second] [(.int (lcmpW ((vb - (1 : Int64)) * (65536 : Int64)) vn))]))
  have hf41 : ((vb - (1 : Int64)) * (65536 : Int64)) < vn := (own_val hvn hvb).2.2
  refine own_go (fun _ k => XS.ifNo X1.here hx rfl (hb hby at_41) rfl ((if0 _ _).trans (tlt ((lw_lt ((vb - (1 : Int64)) * (65536 : Int64)) vn).mpr hf41)).2.1) k) ?_
  show own_Go p.tables e below _ (T1.setTop (mkF m 44 #[.val (.long q0), .second, .val (.long vn), .second, .val (.long vb), .second] []))
  refine own_go (fun _ k => XS.iconst X1.here hx rfl (hb hby at_44) k) ?_
  show own_Go p.tables e below _ (T1.setTop (mkF m 45 #[.val (.long q0), .second, .val (.long vn), .second, .val (.long vb), .second] [(.int (1 : Int32))]))
  refine own_go (fun _ k => XS.goto X1.here hx rfl (pc0 := 45) (pc' := 49) rfl (hb hby at_45) (by decide) (by decide) k) ?_
  show own_Go p.tables e below _ (T1.setTop (mkF m 49 #[.val (.long q0), .second, .val (.long vn), .second, .val (.long vb), .second] [(.int (1 : Int32))]))
  refine own_end X1 Bd.notSynchronized (v := some (.int (1 : Int32))) (fun h => by rw [Bd.returns] at h; cases h) (fun fs hr => retN X1 hx (t := .boolean) Bd.returns (by simp) (hb hby at_49) hr) ?_ (by decide) (by decide)
  exact ⟨rfl, N1⟩
set_option maxRecDepth 65536 in
set_option maxHeartbeats 40000000 in
theorem comes_1 {Post : Tables → Env → Array Value → State → Outcome → State → Prop} (hpost : ∀ tb e args s v u, (limb_1_1.after args s (.returned v) u = true ∧ limb_1_2.after args s (.returned v) u = true ∧ True) → FrameEnd s (.returned v) u (Jvm.fieldLocs frame_1_writes args s ++ Jvm.arrayLocs frame_1_arrays args s ++ Jvm.staticLocs frame_1_statics s) 0 0 → Post tb e args s (.returned v) u) :
    ArmFor flags0 classFile x code maxLocals ret World_1 tables_1 room_1 Calls_1 rest_1 Pre_1 Post := by
  intro l hfl _ _ p e ha hc hk s m args below hf hA hF happ hP
  obtain ⟨hcalls, hrest, hpre⟩ := hP
  obtain ⟨-, -, -, hnamed, -, -, -, hat⟩ := (Spec.applies_iff hf).mp happ
  obtain ⟨hg, hn⟩ := and_e (Cond.before_iff.mp (show (Jvm.Cond.and given_1 narrow_1).before args s = true from hpre))
  obtain ⟨g1, g2⟩ := and_e hg
  obtain ⟨w0, rfl⟩ : ∃ w0 : Value, args = #[w0] := by
    have hs : args.size = 1 := by simpa [Cond.value, given_1] using g1
    obtain ⟨L⟩ := args
    match L, hs with
    | [w0], _ => exact ⟨w0, rfl⟩
  have hw := fun d (hd : d ∈ tables_1) => atoms_spec (ws := Jvm.Cond.code x code maxLocals ret :: tables_1) hat d (List.mem_cons_of_mem _ hd)
  obtain ⟨i0, ei0⟩ := isL_v g2
  obtain rfl : w0 = (.long i0) := Option.some.inj ei0
  obtain ⟨n, o, h1, h2, h3, _, L, rfl, ⟨rfl, N⟩, hq⟩ := rm0 l s _ hw tables_1 i0 s.heap s.heap.size (Nat.le_refl _) p e ha hc hk s m _ below hf ((Spec.applies_iff_loose hf).mp happ).1 ⟨rfl, State.Warmed39.refl s, rfl⟩ trivial
  refine ⟨n, _, h1, h2, h3, hpost _ _ _ _ _ _ ⟨Cond.after_iff.mpr rfl, Cond.after_iff.mpr (eq_i res_at (Term.int_eval (1)) rfl), trivial⟩ ⟨hq.1, hq.2.1, (hq.2.2.sift fun y hy => Or.inr (N y hy)).mono (by decide) (by decide)⟩⟩
theorem main_1_1 : Claimed_1_1 := comes_1 fun _ _ _ _ _ _ h hF => ⟨h.1, hF⟩
theorem main_1_2 : Claimed_1_2 := comes_1 fun _ _ _ _ _ _ h hF => ⟨h.2.1, hF⟩
end Jvm.Pilot.@@N@@
namespace Jvm.Pilot.@@N@@
open Jvm Jvm.ClassFile Sem Op Lib Jvm.Free Jvm.Stand Jvm.Pilot.@@N@@.Jvm.D
/-! MADE BY PROGRAM (witnessworld.py) out of the Statement's table words and the real class files: 7 classes; the members and pool entries that the words name. The judged class is class 1, her method 1. -/
namespace start1
open Jvm.ClassFile
def u (s : String) : CpInfo := .utf8 (stringToUtf16 s)
/-- a pool by its gaps: so many unusable entries, then the entry; so many at the end -/
def gap : Nat → List CpInfo → List CpInfo
  | 0, r => r
  | n + 1, r => .unusable :: gap n r
def poolList (es : List (Nat × CpInfo)) (last : Nat) : List CpInfo := es.foldr (fun e r => gap e.1 (e.2 :: r)) (gap last [])
def pool (es : List (Nat × CpInfo)) (last : Nat) : Array CpInfo := ⟨poolList es last⟩
def fileOf (pool : Array CpInfo) (this : Nat) (attrs : Array Attribute := #[]) (ms : Array MethodInfo := #[]) (fl : Nat := 33) (sup : Nat := 0) (ifs : Array Nat := #[]) (fds : Array FieldInfo := #[]) : ClassFile where
  minorVersion := 0
  majorVersion := 65
  constantPool := pool
  accessFlags := fl
  thisClass := this
  superClass := sup
  interfaces := ifs
  fields := fds
  methods := ms
  attributes := attrs
def plain (name : String) (sup : Option ClassId) : Class where
  name := name
  kind := .ordinary
  loader := none
  accessFlags := 33
  super := sup
  interfaces := #[]
  cf := none
  fields := #[]
  methods := #[]
  instanceTypes := #[]
  staticTypes := #[]
  resolved := #[]
  callSites := []
  init := .initialized
  statics := none
  mirror := none

def pool0 : Array CpInfo := pool [(5, u "<init>"), (0, u "()V"), (1, .class_ 10), (1, u "java/lang/Object")] 113

def k0m0 : Method := { name := "<init>", desc := "()V", sig := { parameters := [], returnType := none }, accessFlags := 1, code := none }
/-- java/lang/Object -/
def k0 : Class := { plain "java/lang/Object" none with
  accessFlags := 33
  interfaces := #[]
  cf := some (fileOf pool0 8 #[] #[{ accessFlags := 1, nameIndex := 5, descriptorIndex := 6, attributes := #[] }] 33 0 #[] #[])
  fields := #[]
  methods := #[k0m0]
  instanceTypes := #[]
  staticTypes := #[]
  resolved := Array.replicate 124 none
  statics := none }

def pool1 : Array CpInfo := pool [(2, .class_ 4), (1, u "java/lang/Object"), (0, u "<init>"), (0, u "()V"), (0, .long 70368744177663), (1, .methodref 10 11), (0, .class_ 12), (0, .nameAndType 13 14), (0, u "com/example/pathwise/pathwise/store/CheckedFile"), (0, u "blocks"), (0, u "(J)I"), (0, .long 65536), (1, .class_ 18), (0, u "com/example/pathwise/pathwise/store/CheckedFileBlocksPinLaw"), (2, u "law"), (0, u "(J)Z")] 3

def k1m0 : Method := { name := "<init>", desc := "()V", sig := { parameters := [], returnType := none }, accessFlags := 1, code := none }
def k1c1 : Code := { maxStack := 4, maxLocals := 6, code := code, exceptionTable := #[], attributes := #[] }
def k1m1 : Method := { name := "law", desc := "(J)Z", sig := { parameters := [.long], returnType := some .boolean }, accessFlags := 9, code := some k1c1 }
/-- com/example/pathwise/pathwise/store/CheckedFileBlocksPinLaw -/
def k1 : Class := { plain "com/example/pathwise/pathwise/store/CheckedFileBlocksPinLaw" (some 0) with
  accessFlags := 49
  interfaces := #[]
  cf := some (fileOf pool1 17 #[] #[{ accessFlags := 1, nameIndex := 5, descriptorIndex := 6, attributes := #[] }, { accessFlags := 9, nameIndex := 21, descriptorIndex := 22, attributes := #[] }] 49 2 #[] #[])
  fields := #[]
  methods := #[k1m0, k1m1]
  instanceTypes := #[]
  staticTypes := #[]
  resolved := Array.replicate 26 none
  statics := none }

def pool2 : Array CpInfo := pool [(2, .class_ 4), (1, u "java/lang/Object"), (3, .class_ 10), (1, u "com/example/pathwise/pathwise/store/CheckedFile"), (0, u "file"), (0, u "Ljava/nio/file/Path;"), (2, u "bytes"), (0, u "Ljava/nio/ByteBuffer;"), (2, u "contentLength"), (0, u "I"), (2, u "blocks"), (0, u "(J)I"), (2, u "checked"), (0, u "[Z"), (35, .long 65536), (57, u "BLOCK_SIZE"), (18, .class_ 142), (0, u "com/example/pathwise/pathwise/store/CheckedFile$Output")] 17

def k2c0 : Code := { maxStack := 4, maxLocals := 2, code := prog_92_method_3_code, exceptionTable := #[], attributes := #[] }
def k2m0 : Method := { name := "blocks", desc := "(J)I", sig := { parameters := [.long], returnType := some .int }, accessFlags := 8, code := some k2c0 }
/-- com/example/pathwise/pathwise/store/CheckedFile -/
def k2 : Class := { plain "com/example/pathwise/pathwise/store/CheckedFile" (some 0) with
  accessFlags := 48
  interfaces := #[]
  cf := some (fileOf pool2 8 #[.nestMembers #[141]] #[{ accessFlags := 8, nameIndex := 23, descriptorIndex := 24, attributes := #[] }] 48 2 #[] #[{ accessFlags := 24, nameIndex := 122, descriptorIndex := 20, attributes := #[] }, { accessFlags := 18, nameIndex := 11, descriptorIndex := 12, attributes := #[] }, { accessFlags := 18, nameIndex := 15, descriptorIndex := 16, attributes := #[] }, { accessFlags := 18, nameIndex := 19, descriptorIndex := 20, attributes := #[] }, { accessFlags := 18, nameIndex := 27, descriptorIndex := 28, attributes := #[] }])
  fields := #[{ name := "BLOCK_SIZE", type := .int, accessFlags := 24, slot := 0, constantValue := 0 }, { name := "file", type := (.object "java/nio/file/Path"), accessFlags := 18, slot := 0, constantValue := 0 }, { name := "bytes", type := (.object "java/nio/ByteBuffer"), accessFlags := 18, slot := 1, constantValue := 0 }, { name := "contentLength", type := .int, accessFlags := 18, slot := 2, constantValue := 0 }, { name := "checked", type := (.array .boolean), accessFlags := 18, slot := 3, constantValue := 0 }]
  methods := #[k2m0]
  instanceTypes := #[(.object "java/nio/file/Path"), (.object "java/nio/ByteBuffer"), .int, (.array .boolean)]
  staticTypes := #[.int]
  resolved := Array.replicate 160 none
  statics := none }

def pool3 : Array CpInfo := pool [(1, u "java/lang/Cloneable"), (0, .class_ 1), (0, u "java/lang/Object"), (0, .class_ 3)] 3

/-- java/lang/Cloneable -/
def k3 : Class := { plain "java/lang/Cloneable" (some 0) with
  accessFlags := 1537
  interfaces := #[]
  cf := some (fileOf pool3 2 #[] #[] 1537 4 #[] #[])
  fields := #[]
  methods := #[]
  instanceTypes := #[]
  staticTypes := #[]
  resolved := Array.replicate 8 none
  statics := none }

def pool4 : Array CpInfo := pool [(1, u "java/io/Serializable"), (0, .class_ 1), (0, u "java/lang/Object"), (0, .class_ 3)] 3

/-- java/io/Serializable -/
def k4 : Class := { plain "java/io/Serializable" (some 0) with
  accessFlags := 1537
  interfaces := #[]
  cf := some (fileOf pool4 2 #[] #[] 1537 4 #[] #[])
  fields := #[]
  methods := #[]
  instanceTypes := #[]
  staticTypes := #[]
  resolved := Array.replicate 8 none
  statics := none }

/-- the primitive byte -/
def k5 : Class := { plain "byte" none with kind := .primitive 'B', accessFlags := 0x411 }
/-- [B -/
def k6 : Class := { plain "[B" (some 0) with kind := .array 5 .byte, interfaces := #[3, 4], accessFlags := 1041 }

def heap : Heap := #[]
def classes : Array Class := #[k0, k1, k2, k3, k4, k5, k6]
def interned : List (Array UInt16 × Addr) := []
def slotsUsed : Nat := 0
def theMethod : MethodId := ⟨1, 1⟩
def args0 : Array Value := #[.long 100000]
def aboutOver (below : List Frame) : State where
  vm := { classes := classes, interned := interned.toArray }
  heap := heap
  slotsUsed := slotsUsed
  threads := #[{ frames := .invoking theMethod args0 :: below }]
def below0 : List Frame := [.native { method := ⟨0, 0⟩, args := #[] }]
def about1 : State := aboutOver below0
def p0 : Program := .bare "" "" ""
def e0 : Env := launch0.env 0 0 0
theorem w_frames : about1.frames = Frame.invoking theMethod args0 :: below0 := rfl
set_option maxRecDepth 65536 in
theorem w_args : argsFit about1.vm theMethod args0 = true := by decide +kernel
set_option maxRecDepth 65536 in
theorem w_heap : heapFits about1 = true := by decide +kernel
set_option maxRecDepth 65536 in
theorem w_runnable : about1.curStatus? = some .runnable := by decide +kernel
set_option maxRecDepth 65536 in
theorem w_alone : about1.alone = true := by decide +kernel
set_option maxRecDepth 65536 in
theorem w_named : about1.methodNamed? x = some theMethod := by decide +kernel
set_option maxRecDepth 65536 in
theorem w_hears : about1.hears theMethod below0 = true := by decide +kernel
set_option maxRecDepth 65536 in
theorem w_ripe : about1.ripe theMethod args0 below0 = true := by decide +kernel
theorem w_running : about1.status = .running := rfl
set_option maxRecDepth 65536 in
theorem w_room : about1.hasRoom e0.platform room_1 = true :=
  launch0.hasRoom_least _ room_1 (by decide +kernel) (by decide +kernel) (by decide +kernel) (by decide +kernel) (by decide +kernel) (by decide +kernel)
theorem allAtoms_all (ts : List Jvm.Cond) (a : Array Jvm.Value) (st : Jvm.State) : (allAtoms ts).before a st = ts.all (fun c => c.before a st) := by
  induction ts with
  | nil => rfl
  | cons c t ih =>
    show (Jvm.Cond.and c (allAtoms t)).before a st = _
    rw [Jvm.Cond.before_and, ih, List.all_cons]
def words1 : List Jvm.Cond := Jvm.Cond.code x code maxLocals ret :: tables_1
/-- a 'code' word, met by the world's own term for the bytes: nothing is compared byte by byte -/
theorem code_word {y : MethodName} {bytes : ByteArray} {mx : Nat} {rt : Option FieldType} {a : Array Value} {s : State} {m : MethodId} {meth : Method} {c : Code} (h1 : s.methodNamed? y = some m) (h2 : s.vm.method? m = some meth) (h3 : meth.code = some c) (h4 : c.code = bytes)
    (h5 : (c.maxLocals == mx && c.exceptionTable.isEmpty && decide (c.maxStack ≤ mostOperands) && decide (meth.sig.returnType = rt) && !meth.locks && decide (parseMethodDescriptor y.desc = some meth.sig)) = true) : (Jvm.Cond.code y bytes mx rt).before a s = true := by
  simp only [Bool.and_eq_true, beq_iff_eq, Bool.not_eq_true', decide_eq_true_eq] at h5
  obtain ⟨⟨⟨⟨⟨g1, g2⟩, g3⟩, g4⟩, g5⟩, g6⟩ := h5
  simp [Cond.before, Cond.holds, Cond.value, h1, h2, h3, h4, g1, g2, g3, g4, g5, g6]
def isCode : Jvm.Cond → Bool
  | .code _ _ _ _ => true
  | _ => false
theorem all_split {L : List Jvm.Cond} {P : Jvm.Cond → Bool} (h1 : L.all (fun c => isCode c || P c) = true) (h2 : ∀ c ∈ L.filter isCode, P c = true) : L.all P = true := by
  refine List.all_eq_true.mpr fun c hc => ?_
  have h := List.all_eq_true.mp h1 c hc
  rcases Bool.eq_false_or_eq_true (isCode c) with hi | hi
  · exact h2 c (List.mem_filter.mpr ⟨hc, hi⟩)
  · simpa [hi] using h
set_option maxRecDepth 65536 in
theorem w_c0 : (Jvm.Cond.code x code maxLocals ret).before args0 about1 = true := code_word (m := ⟨1, 1⟩) (meth := k1m1) (c := k1c1) (by decide +kernel) rfl rfl rfl (by decide +kernel)
set_option maxRecDepth 65536 in
theorem w_c1 : (Jvm.Cond.code ({ cls := "com/example/pathwise/pathwise/store/CheckedFile", name := "blocks", desc := "(J)I" } : Jvm.MethodName) prog_92_method_3_code (2 : Nat) (Option.some Jvm.ClassFile.FieldType.int)).before args0 about1 = true := code_word (m := ⟨2, 0⟩) (meth := k2m0) (c := k2c0) (by decide +kernel) rfl rfl rfl (by decide +kernel)
def codes1 : List Jvm.Cond := [Jvm.Cond.code x code maxLocals ret, Jvm.Cond.code ({ cls := "com/example/pathwise/pathwise/store/CheckedFile", name := "blocks", desc := "(J)I" } : Jvm.MethodName) prog_92_method_3_code (2 : Nat) (Option.some Jvm.ClassFile.FieldType.int)]
set_option maxRecDepth 65536 in
theorem codes_eq : words1.filter isCode = codes1 := rfl
theorem w_codes : ∀ c ∈ words1.filter isCode, c.before args0 about1 = true := by
  rw [codes_eq]
  intro c hc
  simp only [codes1, List.mem_cons, List.not_mem_nil, or_false] at hc
  rcases hc with rfl | rfl
  · exact w_c0
  · exact w_c1
set_option maxRecDepth 65536 in
theorem w_t1 : words1.all (fun c => isCode c || c.before args0 about1) = true := by decide +kernel
theorem w_tables : (allAtoms (Jvm.Cond.code x code maxLocals ret :: tables_1)).before args0 about1 = true := by
  rw [allAtoms_all]
  show words1.all (fun c => c.before args0 about1) = true
  refine all_split ?_ w_codes
  rw [w_t1]
set_option maxRecDepth 65536 in
theorem w_case : (Jvm.Cond.and given_1 narrow_1).before args0 about1 = true := by decide +kernel
theorem w_applies : (headSpec (Jvm.Cond.code x code maxLocals ret :: tables_1) room_1).applies x e0.platform about1 = true :=
  (Spec.applies_iff w_frames).mpr ⟨w_running, w_runnable, w_alone, w_named, w_hears, w_ripe, w_room, w_tables⟩
theorem atStart : AtStart classFile x code maxLocals ret World_1 tables_1 room_1 Calls_1 rest_1 Pre_1 launch0 p0 e0 about1 theMethod args0 below0 :=
  ⟨lists_1, trivial, launch0.admits_env _ _ _, launch0.least_env, fairChoices_fair.cas, fairChoices_fair.clock, w_frames, w_args, w_heap, w_applies, trivial, trivial, w_case⟩
end start1
theorem witness_1 : WitnessClaimed_1 := ⟨start1.p0, start1.e0, start1.about1, start1.theMethod, start1.args0, start1.below0, start1.atStart⟩
end Jvm.Pilot.@@N@@
