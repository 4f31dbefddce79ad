import JvmDerived
import JvmDerived.Pilot.@@N@@Statement
import JvmDerived.Pilot.@@N@@Code
set_option linter.unusedVariables false
set_option linter.unusedSimpArgs false

namespace Jvm.Pilot.@@N@@
open Jvm Jvm.ClassFile Sem Op Lib Jvm.Free Jvm.Stand Jvm.LawKit Jvm.RoadKit Bundle Jvm.Pilot.@@N@@.Jvm.D
/-- the run from U comes to an end of which P holds -/
def own_Go (tb : Tables) (e : Env) (below : List Frame) (P : Outcome → State → Prop) (U : State) : Prop :=
  ∃ s₂ o, Steps tb e below U s₂ ∧ s₂.status = .running ∧ Ended s₂ below o ∧ P o s₂
theorem own_go {tb : Tables} {e : Env} {below : List Frame} {P : Outcome → State → Prop} {U U' : State} (k : ∀ t, Steps tb e below U' t → Steps tb e below U t) (h : own_Go tb e below P U') : own_Go tb e below P U := by
  obtain ⟨t, o, h1, h2⟩ := h
  exact ⟨t, o, k t h1, h2⟩
section Own
variable {p : Program} {l : Launch} {e : Env} {R : Room} {s : State} {m : MethodId} {args : Array Value} {below : List Frame} {meth : Method} {c : Code} {T : State} {locs : List Loc} {cells slots : Nat}
theorem own_retI (X : Stand p l e R s m args below meth c T locs cells slots) (hx : p.tables.exec = Jvm.exec) {pc : Nat} {Ls : Array Slot} {z : Int32} {rest : List Value} (hret : meth.sig.returnType = some .int) (hd : decode c.code pc = .ok (.ireturn, 1)) {fs : List Frame}
    (hl : ∀ (f : JFrame) (acts : List Action), f.method = m → f.locked = none → f.entered = [] → (doReturn e (T.setTop f) acts (some (.int z))).1 = T.setFrames fs) : Steps p.tables e below (T.setTop (mkF m pc Ls (.int z :: rest))) (T.setFrames fs) := by
  have hm' : T.vm.method? m = some meth := X.method'
  have hn : narrow .int (.int z) = .int z := rfl
  show Steps p.tables e below (T.setTop { method := m, pc := pc, locals := Ls, stack := _ :: rest, locked := none }) _
  jvm_step X.here [X.here.top, hx, hd, hm', hret, hn]
  first | (intro acts; rw [hl _ acts rfl rfl rfl]) | rw [hl _ _ rfl rfl rfl]
  exact Steps.refl _
theorem own_retJ (X : Stand p l e R s m args below meth c T locs cells slots) (hx : p.tables.exec = Jvm.exec) {pc : Nat} {Ls : Array Slot} {z : Int64} {rest : List Value} (hret : meth.sig.returnType = some .long) (hd : decode c.code pc = .ok (.lreturn, 1)) {fs : List Frame}
    (hl : ∀ (f : JFrame) (acts : List Action), f.method = m → f.locked = none → f.entered = [] → (doReturn e (T.setTop f) acts (some (.long z))).1 = T.setFrames fs) : Steps p.tables e below (T.setTop (mkF m pc Ls (.long z :: rest))) (T.setFrames fs) := by
  have hm' : T.vm.method? m = some meth := X.method'
  show Steps p.tables e below (T.setTop { method := m, pc := pc, locals := Ls, stack := _ :: rest, locked := none }) _
  jvm_step X.here [X.here.top, hx, hd, hm', hret, narrow]
  first | (intro acts; rw [hl _ acts rfl rfl rfl]) | rw [hl _ _ rfl rfl rfl]
  exact Steps.refl _
theorem own_mapI (xs : List Int32) (i : Nat) : (xs.map Value.int).getD i (.int 0) = .int (xs.getD i 0) := by
  simp only [List.getD_eq_getElem?_getD, List.getElem?_map]; cases xs[i]? <;> rfl
theorem own_mapJ (xs : List Int64) (i : Nat) : (xs.map Value.long).getD i (.long 0) = .long (xs.getD i 0) := by
  simp only [List.getD_eq_getElem?_getD, List.getElem?_map]; cases xs[i]? <;> rfl
theorem own_kx {h h' : Heap} (K : Keep h h' []) : Ext h h' := ⟨K.1, fun a c q => K.2.1 a c q (by simp)⟩
theorem own_retA (X : Stand p l e R s m args below meth c T locs cells slots) (hx : p.tables.exec = Jvm.exec) {pc : Nat} {Ls : Array Slot} {z : Addr} {rest : List Value} {C : String} (hret : meth.sig.returnType = some (.object C)) (hd : decode c.code pc = .ok (.areturn, 1)) {fs : List Frame}
    (hl : ∀ (f : JFrame) (acts : List Action), f.method = m → f.locked = none → f.entered = [] → (doReturn e (T.setTop f) acts (some (.ref z))).1 = T.setFrames fs) : Steps p.tables e below (T.setTop (mkF m pc Ls (.ref z :: rest))) (T.setFrames fs) := by
  have hm' : T.vm.method? m = some meth := X.method'
  show Steps p.tables e below (T.setTop { method := m, pc := pc, locals := Ls, stack := _ :: rest, locked := none }) _
  jvm_step X.here [X.here.top, hx, hd, hm', hret, Value.isRef, FieldType.isReference]
  first | (intro acts; rw [hl _ acts rfl rfl rfl]) | rw [hl _ _ rfl rfl rfl]
  exact Steps.refl _
theorem own_endH {Q : Option Value → Heap → List Loc → Prop} {kc ks n : Nat} {vm₁ : Vm} {Z : State} {EL : List (String × Nat)} (X : Stand p l e R (s.setVm vm₁) m args below meth c T locs cells slots) (hC : CHr Z EL s.vm s.heap T.vm T.heap) (hS : s.Since vm₁ n) (hn : n ≤ T.heap.size) (hlocks : meth.locks = false) {g : JFrame} {v : Option Value}
    (hv : meth.sig.returnType = none → v = none)
    (hs : ∀ fs, (∀ (f : JFrame) (acts : List Action), f.method = m → f.locked = none → f.entered = [] → (doReturn e (T.setTop f) acts v).1 = T.setFrames fs) → Steps p.tables e below (T.setTop g) (T.setFrames fs))
    (hQ : Q v T.heap locs) (h1 : cells ≤ kc) (h2 : slots ≤ ks) :
    own_Go p.tables e below (fun o U' => ∃ v L, o = .returned v ∧ Q v U'.heap L ∧ CHr Z EL s.vm s.heap U'.vm U'.heap ∧ ReturnedEndW s o U' L kc ks) (T.setTop g) := by
  obtain ⟨fs, hr, hrun, hended, h3, h4, h5, h6⟩ := X.leaveW hS hn (v := v) hv hlocks
  exact ⟨_, _, hs fs hr, hrun, hended, _, _, rfl, hQ, hC, h3, h4, h5, h6.mono h1 h2⟩
theorem own_endW {Q : Option Value → Heap → List Loc → Prop} {kc ks n : Nat} {vm₁ : Vm} (X : Stand p l e R (s.setVm vm₁) m args below meth c T locs cells slots) (hS : s.Since vm₁ n) (hn : n ≤ T.heap.size) (hlocks : meth.locks = false) {g : JFrame} {v : Option Value}
    (hv : meth.sig.returnType = none → v = none)
    (hs : ∀ fs, (∀ (f : JFrame) (acts : List Action), f.method = m → f.locked = none → f.entered = [] → (doReturn e (T.setTop f) acts v).1 = T.setFrames fs) → Steps p.tables e below (T.setTop g) (T.setFrames fs))
    (hQ : Q v T.heap locs) (h1 : cells ≤ kc) (h2 : slots ≤ ks) :
    own_Go p.tables e below (fun o U' => ∃ v L, o = .returned v ∧ Q v U'.heap L ∧ ReturnedEndW s o U' L kc ks) (T.setTop g) := by
  obtain ⟨fs, hr, hrun, hended, h3, h4, h5, h6⟩ := X.leaveW hS hn (v := v) hv hlocks
  exact ⟨_, _, hs fs hr, hrun, hended, _, _, rfl, hQ, h3, h4, h5, h6.mono h1 h2⟩
theorem own_end {Q : Option Value → Heap → List Loc → Prop} {kc ks : Nat} (X : Stand p l e R s m args below meth c T locs cells slots) (hlocks : meth.locks = false) {g : JFrame} {v : Option Value}
    (hv : meth.sig.returnType = none → v = none)
    (hs : ∀ fs, (∀ (f : JFrame) (acts : List Action), f.method = m → f.locked = none → f.entered = [] → (doReturn e (T.setTop f) acts v).1 = T.setFrames fs) → Steps p.tables e below (T.setTop g) (T.setFrames fs))
    (hQ : Q v T.heap locs) (h1 : cells ≤ kc) (h2 : slots ≤ ks) :
    own_Go p.tables e below (fun o U' => ∃ v L, o = .returned v ∧ Q v U'.heap L ∧ FrameEnd s o U' L kc ks) (T.setTop g) := by
  obtain ⟨fs, hr, hrun, hended, hW, hsame⟩ := X.leave (v := v) hv hlocks
  exact ⟨_, _, hs fs hr, hrun, hended, _, _, rfl, hQ, ⟨_, rfl⟩, hW, hsame.mono h1 h2⟩
end Own
def own_f1 (q0 : Int64) (q1 : Int64) : Int32 :=
  (if q0 < ((4 : Int64) * q1) then (1 : Int32) else (0 : Int32))
theorem d1_0 : decode prog_97_method_3_code 0 = .ok (.ldc2_w 26, 3) := by decide +kernel
theorem d1_3 : decode prog_97_method_3_code 3 = .ok (.lload_n 2, 1) := by decide +kernel
theorem d1_4 : decode prog_97_method_3_code 4 = .ok (.lmul, 1) := by decide +kernel
theorem d1_5 : decode prog_97_method_3_code 5 = .ok (.lload_n 0, 1) := by decide +kernel
theorem d1_6 : decode prog_97_method_3_code 6 = .ok (.lcmp, 1) := by decide +kernel
theorem d1_7 : decode prog_97_method_3_code 7 = .ok (.ifCond .le 7, 3) := by decide +kernel
theorem d1_10 : decode prog_97_method_3_code 10 = .ok (.iconst 1, 1) := by decide +kernel
theorem d1_11 : decode prog_97_method_3_code 11 = .ok (.goto 4, 3) := by decide +kernel
theorem d1_14 : decode prog_97_method_3_code 14 = .ok (.iconst 0, 1) := by decide +kernel
theorem d1_15 : decode prog_97_method_3_code 15 = .ok (.ireturn, 1) := by decide +kernel
theorem pn1 : plainName "com/example/pathwise/pathwise/store/MergePolicy" = true := by first | (simp [plainName, overriddenIn]; done) | decide +kernel
theorem ef1 (m : MethodId) (q0 : Int64) (q1 : Int64) : entryFrame m #[(.long q0), (.long q1)] 4 = mkF m 0 #[.val (.long q0), .second, .val (.long q1), .second] [] := by first | (simp [entryFrame, mkF, argsToLocals, Value.category]; done) | rfl
def own_Q1 (Z : State) (q0 : Int64) (q1 : Int64) (h0 : Heap) (n0 : Nat) (v : Option Value) (h : Heap) (L : List Loc) : Prop := v = some (.int (own_f1 q0 q1)) ∧ Fr n0 L ∧ h = h0
set_option maxRecDepth 65536 in
set_option maxHeartbeats 40000000 in
theorem rm1 (l : Launch) (Z : State) (a0 : Array Value) (hw : ∀ d ∈ tables_1, d.before a0 Z = true) (ws : List Jvm.Cond) (q0 : Int64) (q1 : Int64) (h0 : Heap) (n0 : Nat) (Z0 : n0 ≤ h0.size) :
    MetFree l (⟨"com/example/pathwise/pathwise/store/MergePolicy", "rewrites", "(JJ)Z"⟩ : MethodName) (head1 (Jvm.Cond.code (⟨"com/example/pathwise/pathwise/store/MergePolicy", "rewrites", "(JJ)Z"⟩ : MethodName) prog_97_method_3_code 4 (some .boolean) :: ws) ({ frames := 0, cells := 0, slots := 0, locals := 0 } : Room)) (fun a U => a = #[(.long q0), (.long q1)] ∧ Z.Warmed39 U.vm ∧ U.heap = h0) (fun _ _ _ _ _ => True) (fun _ U o U' => ∃ v L, o = .returned v ∧ own_Q1 Z q0 q1 h0 n0 v U'.heap L ∧ FrameEnd U o U' L ({ frames := 0, cells := 0, slots := 0, locals := 0 } : Room).cells ({ frames := 0, cells := 0, slots := 0, locals := 0 } : Room).slots) := by
  refine MetFree.of_bodySF (plainFor_of_name pn1) hisR ?_
  intro p e s m args below meth c s₁ Bd hml0 hP hK
  obtain ⟨rfl, hZ, hh⟩ := hP
  have hx := Bd.exec
  have hby := Bd.bytes
  have hml : c.maxLocals = 4 := hml0
  have hown : s.vm.findClass "com/example/pathwise/pathwise/store/MergePolicy" = some m.cls := findClass_of_methodNamed Bd.named
  have hnm := (name_of_methodNamed Bd.named Bd.method).1
  have X0 : Stand p l e ({ frames := 0, cells := 0, slots := 0, locals := 0 } : Room) s m #[(.long q0), (.long q1)] below meth c s₁ [] 0 0 := Stand.of_body Bd
  have e0 : s₁.heap = h0 := by rw [← hh, Bd.state]; rfl
  have N0 := Fr.nil n0
  show own_Go p.tables e below (fun o U' => ∃ v L, o = .returned v ∧ own_Q1 Z q0 q1 h0 n0 v U'.heap L ∧ FrameEnd s o U' L ({ frames := 0, cells := 0, slots := 0, locals := 0 } : Room).cells ({ frames := 0, cells := 0, slots := 0, locals := 0 } : Room).slots) (s₁.setTop (entryFrame m #[(.long q0), (.long q1)] 4))
  refine own_go (fun _ k => castTop (ef1 m q0 q1) k) ?_
  show own_Go p.tables e below _ (s₁.setTop (mkF m 0 #[.val (.long q0), .second, .val (.long q1), .second] []))
  refine own_go (fun _ k => X0.ldc2Long hx hown (mvT hZ (hw _ (List.mem_of_getElem? (i := 6) rfl))) (g := (mkF m 0 #[.val (.long q0), .second, .val (.long q1), .second] [])) rfl (hb hby d1_0) _ k) ?_
  show own_Go p.tables e below _ (s₁.setTop (mkF m 3 #[.val (.long q0), .second, .val (.long q1), .second] [(.long (4 : Int64))]))
  refine own_go (fun _ k => XS.lloadN X0.here hx rfl (hb hby d1_3) rfl k) ?_
  show own_Go p.tables e below _ (s₁.setTop (mkF m 4 #[.val (.long q0), .second, .val (.long q1), .second] [(.long q1), (.long (4 : Int64))]))
  refine own_go (fun _ k => XS.lmul X0.here hx rfl (hb hby d1_4) rfl k) ?_
  show own_Go p.tables e below _ (s₁.setTop (mkF m 5 #[.val (.long q0), .second, .val (.long q1), .second] [(.long ((4 : Int64) * q1))]))
  refine own_go (fun _ k => XS.lloadN X0.here hx rfl (hb hby d1_5) rfl k) ?_
  show own_Go p.tables e below _ (s₁.setTop (mkF m 6 #[.val (.long q0), .second, .val (.long q1), .second] [(.long q0), (.long ((4 : Int64) * q1))]))
  refine own_go (fun _ k => XS.lcmp X0.here hx rfl (hb hby d1_6) rfl k) ?_
  show own_Go p.tables e below _ (s₁.setTop (mkF m 7 #[.val (.long q0), .second, .val (.long q1), .second] [(.int (lcmpW ((4 : Int64) * q1) q0))]))
  by_cases hc7 : q0 < ((4 : Int64) * q1)
  · refine own_go (fun _ k => XS.ifNo X0.here hx rfl (hb hby d1_7) rfl ((if0 _ _).trans (tlt ((lw_gt ((4 : Int64) * q1) q0).mpr hc7)).2.2.2) k) ?_
    show own_Go p.tables e below _ (s₁.setTop (mkF m 10 #[.val (.long q0), .second, .val (.long q1), .second] []))
    refine own_go (fun _ k => XS.iconst X0.here hx rfl (hb hby d1_10) k) ?_
    show own_Go p.tables e below _ (s₁.setTop (mkF m 11 #[.val (.long q0), .second, .val (.long q1), .second] [(.int (1 : Int32))]))
    refine own_go (fun _ k => XS.goto X0.here hx rfl (pc0 := 11) (pc' := 15) rfl (hb hby d1_11) (by decide) (by decide) k) ?_
    show own_Go p.tables e below _ (s₁.setTop (mkF m 15 #[.val (.long q0), .second, .val (.long q1), .second] [(.int (1 : Int32))]))
    refine own_end X0 Bd.notSynchronized (v := some (.int (1 : Int32))) (fun h => by rw [Bd.returns] at h; cases h) (fun fs hr => retN X0 hx (t := .boolean) Bd.returns (by simp) (hb hby d1_15) hr) ?_ (by decide) (by decide)
    exact ⟨by rw [own_f1, if_pos hc7], N0, e0⟩
  · refine own_go (fun _ k => XS.ifYes X0.here hx rfl (pc0 := 7) (pc' := 14) rfl (hb hby d1_7) rfl ((if0 _ _).trans (flt (mt (lw_gt ((4 : Int64) * q1) q0).mp hc7)).2.2.2) (by decide) (by decide) k) ?_
    show own_Go p.tables e below _ (s₁.setTop (mkF m 14 #[.val (.long q0), .second, .val (.long q1), .second] []))
    refine own_go (fun _ k => XS.iconst X0.here hx rfl (hb hby d1_14) k) ?_
    show own_Go p.tables e below _ (s₁.setTop (mkF m 15 #[.val (.long q0), .second, .val (.long q1), .second] [(.int (0 : Int32))]))
    refine own_end X0 Bd.notSynchronized (v := some (.int (0 : Int32))) (fun h => by rw [Bd.returns] at h; cases h) (fun fs hr => retN X0 hx (t := .boolean) Bd.returns (by simp) (hb hby d1_15) hr) ?_ (by decide) (by decide)
    exact ⟨by rw [own_f1, if_neg hc7], N0, e0⟩
theorem own_val {a b r m q : Int64} (hr : r = a &&& 2305843009213693951) (hm : m = b &&& 2305843009213693951) (hq : q = r / 4) :
    (own_f1 r m = if q < m then 1 else 0) ∧ own_f1 r q = 0 ∧ own_f1 r (q + 1) = 1 := by
  have e1 := c_maskL a 2305843009213693951 61 (by decide) (by decide)
  have e2 := c_maskL b 2305843009213693951 61 (by decide) (by decide)
  rw [← hr] at e1
  rw [← hm] at e2
  have e3 := c_ldiv r 4 4 (by decide) (by decide)
  rw [← hq] at e3
  have e4 := c_lmul 4 m
  have e5 := c_lmul 4 q
  have e6 := c_ladd q 1
  have e7 := c_lmul 4 (q + 1)
  have e8 : (4 : Int64).toInt = 4 := by decide
  have e9 : (1 : Int64).toInt = 1 := by decide
  have r1 := rng64 (4 * m)
  have r2 := rng64 (4 * q)
  have r3 := rng64 (q + 1)
  have r4 := rng64 (4 * (q + 1))
  have r5 := rng64 a
  have r6 := rng64 b
  simp only [own_f1, Int64.lt_iff_toInt_lt]
  rw [e8] at e4 e5 e7
  refine ⟨?_, ?_, ?_⟩
  · by_cases h : q.toInt < m.toInt
    · rw [if_pos h, if_pos (by omega)]
    · rw [if_neg h, if_neg (by omega)]
  · rw [if_neg (by omega)]
  · rw [if_pos (by omega)]
theorem pn0 : plainName "com/example/pathwise/pathwise/store/MergePolicyRewritesPinLaw" = true := by first | (simp [plainName, overriddenIn]; done) | decide +kernel
theorem pd0_0 : parseMethodDescriptor "(JJ)Z" = some ⟨[.long, .long], some .boolean⟩ := by decide +kernel
theorem ef0 (m : MethodId) (q0 : Int64) (q1 : Int64) : entryFrame m #[(.long q0), (.long q1)] maxLocals = mkF m 0 #[.val (.long q0), .second, .val (.long q1), .second, .unset, .unset, .unset, .unset, .unset, .unset, .unset, .unset, .unset, .unset, .unset, .unset] [] := by first | (simp [entryFrame, mkF, argsToLocals, Value.category, maxLocals]; done) | rfl
def own_Q0 (Z : State) (q0 : Int64) (q1 : Int64) (h0 : Heap) (n0 : Nat) (v : Option Value) (h : Heap) (L : List Loc) : Prop := v = some (.int 1) ∧ Fr n0 L
set_option maxRecDepth 65536 in
set_option maxHeartbeats 40000000 in
theorem rm0 (l : Launch) (Z : State) (a0 : Array Value) (hw : ∀ d ∈ tables_1, d.before a0 Z = true) (ws : List Jvm.Cond) (q0 : Int64) (q1 : Int64) (h0 : Heap) (n0 : Nat) (Z0 : n0 ≤ h0.size) :
    MetFree l x (head1 (Jvm.Cond.code x code maxLocals ret :: ws) room_1) (fun a U => a = #[(.long q0), (.long q1)] ∧ Z.Warmed39 U.vm ∧ U.heap = h0) (fun _ _ _ _ _ => True) (fun _ U o U' => ∃ v L, o = .returned v ∧ own_Q0 Z q0 q1 h0 n0 v U'.heap L ∧ FrameEnd U o U' L 0 0) := by
  refine MetFree.of_bodySF (plainFor_of_name pn0) hisR ?_
  intro p e s m args below meth c s₁ Bd hml0 hP hK
  obtain ⟨rfl, hZ, hh⟩ := hP
  have hx := Bd.exec
  have hby := Bd.bytes
  have hml : c.maxLocals = 16 := hml0
  have hown : s.vm.findClass "com/example/pathwise/pathwise/store/MergePolicyRewritesPinLaw" = some m.cls := findClass_of_methodNamed Bd.named
  have hnm := (name_of_methodNamed Bd.named Bd.method).1
  have X0 : Stand p l e room_1 s m #[(.long q0), (.long q1)] below meth c s₁ [] 0 0 := Stand.of_body Bd
  have e0 : s₁.heap = h0 := by rw [← hh, Bd.state]; rfl
  have N0 := Fr.nil n0
  show own_Go p.tables e below (fun o U' => ∃ v L, o = .returned v ∧ own_Q0 Z q0 q1 h0 n0 v U'.heap L ∧ FrameEnd s o U' L 0 0) (s₁.setTop (entryFrame m #[(.long q0), (.long q1)] maxLocals))
  refine own_go (fun _ k => castTop (ef0 m q0 q1) k) ?_
  show own_Go p.tables e below _ (s₁.setTop (mkF m 0 #[.val (.long q0), .second, .val (.long q1), .second, .unset, .unset, .unset, .unset, .unset, .unset, .unset, .unset, .unset, .unset, .unset, .unset] []))
  refine own_go (fun _ k => X0.ldc2Long hx hown (mvT hZ (hw _ (List.mem_of_getElem? (i := 0) rfl))) (g := (mkF m 0 #[.val (.long q0), .second, .val (.long q1), .second, .unset, .unset, .unset, .unset, .unset, .unset, .unset, .unset, .unset, .unset, .unset, .unset] [])) rfl (hb hby at_0) _ k) ?_
  show own_Go p.tables e below _ (s₁.setTop (mkF m 3 #[.val (.long q0), .second, .val (.long q1), .second, .unset, .unset, .unset, .unset, .unset, .unset, .unset, .unset, .unset, .unset, .unset, .unset] [(.long (2305843009213693951 : Int64))]))
  refine own_go (fun _ k => XS.lstore X0.here hx rfl (hb hby at_3) rfl (l' := #[.val (.long q0), .second, .val (.long q1), .second, .val (.long (2305843009213693951 : Int64)), .second, .unset, .unset, .unset, .unset, .unset, .unset, .unset, .unset, .unset, .unset]) rfl k) ?_
  show own_Go p.tables e below _ (s₁.setTop (mkF m 5 #[.val (.long q0), .second, .val (.long q1), .second, .val (.long (2305843009213693951 : Int64)), .second, .unset, .unset, .unset, .unset, .unset, .unset, .unset, .unset, .unset, .unset] []))
  refine own_go (fun _ k => XS.lloadN X0.here hx rfl (hb hby at_5) rfl k) ?_
  show own_Go p.tables e below _ (s₁.setTop (mkF m 6 #[.val (.long q0), .second, .val (.long q1), .second, .val (.long (2305843009213693951 : Int64)), .second, .unset, .unset, .unset, .unset, .unset, .unset, .unset, .unset, .unset, .unset] [(.long q0)]))
  refine own_go (fun _ k => XS.lload X0.here hx rfl (hb hby at_6) rfl k) ?_
  show own_Go p.tables e below _ (s₁.setTop (mkF m 8 #[.val (.long q0), .second, .val (.long q1), .second, .val (.long (2305843009213693951 : Int64)), .second, .unset, .unset, .unset, .unset, .unset, .unset, .unset, .unset, .unset, .unset] [(.long (2305843009213693951 : Int64)), (.long q0)]))
  refine own_go (fun _ k => XS.land X0.here hx rfl (hb hby at_8) rfl k) ?_
  show own_Go p.tables e below _ (s₁.setTop (mkF m 9 #[.val (.long q0), .second, .val (.long q1), .second, .val (.long (2305843009213693951 : Int64)), .second, .unset, .unset, .unset, .unset, .unset, .unset, .unset, .unset, .unset, .unset] [(.long (q0 &&& (2305843009213693951 : Int64)))]))
  refine own_go (fun _ k => XS.lstore X0.here hx rfl (hb hby at_9) rfl (l' := #[.val (.long q0), .second, .val (.long q1), .second, .val (.long (2305843009213693951 : Int64)), .second, .val (.long (q0 &&& (2305843009213693951 : Int64))), .second, .unset, .unset, .unset, .unset, .unset, .unset, .unset, .unset]) rfl k) ?_
  show own_Go p.tables e below _ (s₁.setTop (mkF m 11 #[.val (.long q0), .second, .val (.long q1), .second, .val (.long (2305843009213693951 : Int64)), .second, .val (.long (q0 &&& (2305843009213693951 : Int64))), .second, .unset, .unset, .unset, .unset, .unset, .unset, .unset, .unset] []))
  obtain ⟨vr, hvr⟩ : ∃ z : Int64, z = (q0 &&& (2305843009213693951 : Int64)) := ⟨_, rfl⟩
  rw [← hvr]
  show own_Go p.tables e below _ (s₁.setTop (mkF m 11 #[.val (.long q0), .second, .val (.long q1), .second, .val (.long (2305843009213693951 : Int64)), .second, .val (.long vr), .second, .unset, .unset, .unset, .unset, .unset, .unset, .unset, .unset] []))
  refine own_go (fun _ k => XS.lloadN X0.here hx rfl (hb hby at_11) rfl k) ?_
  show own_Go p.tables e below _ (s₁.setTop (mkF m 12 #[.val (.long q0), .second, .val (.long q1), .second, .val (.long (2305843009213693951 : Int64)), .second, .val (.long vr), .second, .unset, .unset, .unset, .unset, .unset, .unset, .unset, .unset] [(.long q1)]))
  refine own_go (fun _ k => XS.lload X0.here hx rfl (hb hby at_12) rfl k) ?_
  show own_Go p.tables e below _ (s₁.setTop (mkF m 14 #[.val (.long q0), .second, .val (.long q1), .second, .val (.long (2305843009213693951 : Int64)), .second, .val (.long vr), .second, .unset, .unset, .unset, .unset, .unset, .unset, .unset, .unset] [(.long (2305843009213693951 : Int64)), (.long q1)]))
  refine own_go (fun _ k => XS.land X0.here hx rfl (hb hby at_14) rfl k) ?_
  show own_Go p.tables e below _ (s₁.setTop (mkF m 15 #[.val (.long q0), .second, .val (.long q1), .second, .val (.long (2305843009213693951 : Int64)), .second, .val (.long vr), .second, .unset, .unset, .unset, .unset, .unset, .unset, .unset, .unset] [(.long (q1 &&& (2305843009213693951 : Int64)))]))
  refine own_go (fun _ k => XS.lstore X0.here hx rfl (hb hby at_15) rfl (l' := #[.val (.long q0), .second, .val (.long q1), .second, .val (.long (2305843009213693951 : Int64)), .second, .val (.long vr), .second, .val (.long (q1 &&& (2305843009213693951 : Int64))), .second, .unset, .unset, .unset, .unset, .unset, .unset]) rfl k) ?_
  show own_Go p.tables e below _ (s₁.setTop (mkF m 17 #[.val (.long q0), .second, .val (.long q1), .second, .val (.long (2305843009213693951 : Int64)), .second, .val (.long vr), .second, .val (.long (q1 &&& (2305843009213693951 : Int64))), .second, .unset, .unset, .unset, .unset, .unset, .unset] []))
  obtain ⟨vm, hvm⟩ : ∃ z : Int64, z = (q1 &&& (2305843009213693951 : Int64)) := ⟨_, rfl⟩
  rw [← hvm]
  show own_Go p.tables e below _ (s₁.setTop (mkF m 17 #[.val (.long q0), .second, .val (.long q1), .second, .val (.long (2305843009213693951 : Int64)), .second, .val (.long vr), .second, .val (.long vm), .second, .unset, .unset, .unset, .unset, .unset, .unset] []))
  refine own_go (fun _ k => XS.lload X0.here hx rfl (hb hby at_17) rfl k) ?_
  show own_Go p.tables e below _ (s₁.setTop (mkF m 19 #[.val (.long q0), .second, .val (.long q1), .second, .val (.long (2305843009213693951 : Int64)), .second, .val (.long vr), .second, .val (.long vm), .second, .unset, .unset, .unset, .unset, .unset, .unset] [(.long vr)]))
  refine own_go (fun _ k => X0.ldc2Long hx hown (mvT hZ (hw _ (List.mem_of_getElem? (i := 1) rfl))) (g := (mkF m 19 #[.val (.long q0), .second, .val (.long q1), .second, .val (.long (2305843009213693951 : Int64)), .second, .val (.long vr), .second, .val (.long vm), .second, .unset, .unset, .unset, .unset, .unset, .unset] [(.long vr)])) rfl (hb hby at_19) _ k) ?_
  show own_Go p.tables e below _ (s₁.setTop (mkF m 22 #[.val (.long q0), .second, .val (.long q1), .second, .val (.long (2305843009213693951 : Int64)), .second, .val (.long vr), .second, .val (.long vm), .second, .unset, .unset, .unset, .unset, .unset, .unset] [(.long (4 : Int64)), (.long vr)]))
  refine own_go (fun _ k => XS.ldiv X0.here hx rfl (hb hby at_22) rfl (by decide) k) ?_
  show own_Go p.tables e below _ (s₁.setTop (mkF m 23 #[.val (.long q0), .second, .val (.long q1), .second, .val (.long (2305843009213693951 : Int64)), .second, .val (.long vr), .second, .val (.long vm), .second, .unset, .unset, .unset, .unset, .unset, .unset] [(.long (vr / (4 : Int64)))]))
  refine own_go (fun _ k => XS.lstore X0.here hx rfl (hb hby at_23) rfl (l' := #[.val (.long q0), .second, .val (.long q1), .second, .val (.long (2305843009213693951 : Int64)), .second, .val (.long vr), .second, .val (.long vm), .second, .val (.long (vr / (4 : Int64))), .second, .unset, .unset, .unset, .unset]) rfl k) ?_
  show own_Go p.tables e below _ (s₁.setTop (mkF m 25 #[.val (.long q0), .second, .val (.long q1), .second, .val (.long (2305843009213693951 : Int64)), .second, .val (.long vr), .second, .val (.long vm), .second, .val (.long (vr / (4 : Int64))), .second, .unset, .unset, .unset, .unset] []))
  obtain ⟨vq, hvq⟩ : ∃ z : Int64, z = (vr / (4 : Int64)) := ⟨_, rfl⟩
  rw [← hvq]
  show own_Go p.tables e below _ (s₁.setTop (mkF m 25 #[.val (.long q0), .second, .val (.long q1), .second, .val (.long (2305843009213693951 : Int64)), .second, .val (.long vr), .second, .val (.long vm), .second, .val (.long vq), .second, .unset, .unset, .unset, .unset] []))
  refine own_go (fun _ k => XS.lload X0.here hx rfl (hb hby at_25) rfl k) ?_
  show own_Go p.tables e below _ (s₁.setTop (mkF m 27 #[.val (.long q0), .second, .val (.long q1), .second, .val (.long (2305843009213693951 : Int64)), .second, .val (.long vr), .second, .val (.long vm), .second, .val (.long vq), .second, .unset, .unset, .unset, .unset] [(.long vm)]))
  refine own_go (fun _ k => XS.lload X0.here hx rfl (hb hby at_27) rfl k) ?_
  show own_Go p.tables e below _ (s₁.setTop (mkF m 29 #[.val (.long q0), .second, .val (.long q1), .second, .val (.long (2305843009213693951 : Int64)), .second, .val (.long vr), .second, .val (.long vm), .second, .val (.long vq), .second, .unset, .unset, .unset, .unset] [(.long vq), (.long vm)]))
  refine own_go (fun _ k => XS.lcmp X0.here hx rfl (hb hby at_29) rfl k) ?_
  show own_Go p.tables e below _ (s₁.setTop (mkF m 30 #[.val (.long q0), .second, .val (.long q1), .second, .val (.long (2305843009213693951 : Int64)), .second, .val (.long vr), .second, .val (.long vm), .second, .val (.long vq), .second, .unset, .unset, .unset, .unset] [(.int (lcmpW vm vq))]))
  have sg1 : ∀ t, Steps p.tables e below (s₁.setTop (mkF m 38 #[.val (.long q0), .second, .val (.long q1), .second, .val (.long (2305843009213693951 : Int64)), .second, .val (.long vr), .second, .val (.long vm), .second, .val (.long vq), .second, .unset, .unset, .unset, .unset] [(.int (if vq < vm then (1 : Int32) else (0 : Int32)))])) t → Steps p.tables e below (s₁.setTop (mkF m 30 #[.val (.long q0), .second, .val (.long q1), .second, .val (.long (2305843009213693951 : Int64)), .second, .val (.long vr), .second, .val (.long vm), .second, .val (.long vq), .second, .unset, .unset, .unset, .unset] [(.int (lcmpW vm vq))])) t := by
    intro t k
    by_cases hc30 : vq < vm
    · try simp only [if_pos hc30] at k
      refine XS.ifNo X0.here hx rfl (hb hby at_30) rfl ((if0 _ _).trans (tlt ((lw_gt vm vq).mpr hc30)).2.2.2) ?_
      show Steps p.tables e below (s₁.setTop (mkF m 33 #[.val (.long q0), .second, .val (.long q1), .second, .val (.long (2305843009213693951 : Int64)), .second, .val (.long vr), .second, .val (.long vm), .second, .val (.long vq), .second, .unset, .unset, .unset, .unset] [])) _
      refine XS.iconst X0.here hx rfl (hb hby at_33) ?_
      show Steps p.tables e below (s₁.setTop (mkF m 34 #[.val (.long q0), .second, .val (.long q1), .second, .val (.long (2305843009213693951 : Int64)), .second, .val (.long vr), .second, .val (.long vm), .second, .val (.long vq), .second, .unset, .unset, .unset, .unset] [(.int (1 : Int32))])) _
      refine XS.goto X0.here hx rfl (pc0 := 34) (pc' := 38) rfl (hb hby at_34) (by decide) (by decide) ?_
      show Steps p.tables e below (s₁.setTop (mkF m 38 #[.val (.long q0), .second, .val (.long q1), .second, .val (.long (2305843009213693951 : Int64)), .second, .val (.long vr), .second, .val (.long vm), .second, .val (.long vq), .second, .unset, .unset, .unset, .unset] [(.int (1 : Int32))])) _
      exact k
    · try simp only [if_neg hc30] at k
      refine XS.ifYes X0.here hx rfl (pc0 := 30) (pc' := 37) rfl (hb hby at_30) rfl ((if0 _ _).trans (flt (mt (lw_gt vm vq).mp hc30)).2.2.2) (by decide) (by decide) ?_
      show Steps p.tables e below (s₁.setTop (mkF m 37 #[.val (.long q0), .second, .val (.long q1), .second, .val (.long (2305843009213693951 : Int64)), .second, .val (.long vr), .second, .val (.long vm), .second, .val (.long vq), .second, .unset, .unset, .unset, .unset] [])) _
      refine XS.iconst X0.here hx rfl (hb hby at_37) ?_
      show Steps p.tables e below (s₁.setTop (mkF m 38 #[.val (.long q0), .second, .val (.long q1), .second, .val (.long (2305843009213693951 : Int64)), .second, .val (.long vr), .second, .val (.long vm), .second, .val (.long vq), .second, .unset, .unset, .unset, .unset] [(.int (0 : Int32))])) _
      exact k
  refine own_go sg1 ?_
  show own_Go p.tables e below _ (s₁.setTop (mkF m 38 #[.val (.long q0), .second, .val (.long q1), .second, .val (.long (2305843009213693951 : Int64)), .second, .val (.long vr), .second, .val (.long vm), .second, .val (.long vq), .second, .unset, .unset, .unset, .unset] [(.int (if vq < vm then (1 : Int32) else (0 : Int32)))]))
  refine own_go (fun _ k => XS.istore X0.here hx rfl (hb hby at_38) rfl (l' := #[.val (.long q0), .second, .val (.long q1), .second, .val (.long (2305843009213693951 : Int64)), .second, .val (.long vr), .second, .val (.long vm), .second, .val (.long vq), .second, .val (.int (if vq < vm then (1 : Int32) else (0 : Int32))), .unset, .unset, .unset]) rfl k) ?_
  show own_Go p.tables e below _ (s₁.setTop (mkF m 40 #[.val (.long q0), .second, .val (.long q1), .second, .val (.long (2305843009213693951 : Int64)), .second, .val (.long vr), .second, .val (.long vm), .second, .val (.long vq), .second, .val (.int (if vq < vm then (1 : Int32) else (0 : Int32))), .unset, .unset, .unset] []))
  refine own_go (fun _ k => XS.lload X0.here hx rfl (hb hby at_40) rfl k) ?_
  show own_Go p.tables e below _ (s₁.setTop (mkF m 42 #[.val (.long q0), .second, .val (.long q1), .second, .val (.long (2305843009213693951 : Int64)), .second, .val (.long vr), .second, .val (.long vm), .second, .val (.long vq), .second, .val (.int (if vq < vm then (1 : Int32) else (0 : Int32))), .unset, .unset, .unset] [(.long vr)]))
  refine own_go (fun _ k => XS.lload X0.here hx rfl (hb hby at_42) rfl k) ?_
  show own_Go p.tables e below _ (s₁.setTop (mkF m 44 #[.val (.long q0), .second, .val (.long q1), .second, .val (.long (2305843009213693951 : Int64)), .second, .val (.long vr), .second, .val (.long vm), .second, .val (.long vq), .second, .val (.int (if vq < vm then (1 : Int32) else (0 : Int32))), .unset, .unset, .unset] [(.long vm), (.long vr)]))
  obtain ⟨_, _, ⟨T2, L2, k2, n2⟩, -, X2, ⟨Lc2, hQ2, l2, y2, z2⟩, st2⟩ := Jvm.LawKit.callS X0 hx (y := (⟨"com/example/pathwise/pathwise/store/MergePolicy", "rewrites", "(JJ)Z"⟩ : MethodName)) hown (mvT hZ (hw _ (List.mem_of_getElem? (i := 2) rfl))) (mvT hZ (hw _ (List.mem_of_getElem? (i := 3) rfl))) (mvT hZ (hw _ (List.mem_of_getElem? (i := 4) rfl))) (mvT hZ (hw _ (List.mem_of_getElem? (i := 5) rfl))) (by decide) (backOf (W := 0) (rm1 l Z a0 hw [] vr vm h0 n0 Z0) hZ (hw _ (List.mem_of_getElem? (i := 5) rfl)) (hw _ (List.mem_of_getElem? (i := 4) rfl)) (by decide) (by decide)) (g := (mkF m 44 #[.val (.long q0), .second, .val (.long q1), .second, .val (.long (2305843009213693951 : Int64)), .second, .val (.long vr), .second, .val (.long vm), .second, .val (.long vq), .second, .val (.int (if vq < vm then (1 : Int32) else (0 : Int32))), .unset, .unset, .unset] [(.long vm), (.long vr)])) rfl (by rw [hml]; rfl) (argsL := [(.long vr), (.long vm)]) (rest := []) (lenOf pd0_0 rfl) rfl (by show 2 * 0 + _ ≤ _; exact Nat.le_of_eq rfl) (hb hby at_44) (fun _ _ => ⟨rfl, e0, (by decide : 0 + 0 ≤ _), (by decide : 0 + 0 ≤ _)⟩)
  dsimp only [Pt.U, Pt.locs, Pt.cells, Pt.slots] at X2 l2 y2 z2 st2 hQ2
  subst l2 y2 z2
  refine own_go st2 ?_
  obtain ⟨rfl, N2q, e2⟩ := hQ2
  have N2 := Fr.app N0 N2q
  show own_Go p.tables e below _ (T2.setTop (mkF m 47 #[.val (.long q0), .second, .val (.long q1), .second, .val (.long (2305843009213693951 : Int64)), .second, .val (.long vr), .second, .val (.long vm), .second, .val (.long vq), .second, .val (.int (if vq < vm then (1 : Int32) else (0 : Int32))), .unset, .unset, .unset] [(.int (own_f1 vr vm))]))
  refine own_go (fun _ k => XS.iload X2.here hx rfl (hb hby at_47) rfl k) ?_
  show own_Go p.tables e below _ (T2.setTop (mkF m 49 #[.val (.long q0), .second, .val (.long q1), .second, .val (.long (2305843009213693951 : Int64)), .second, .val (.long vr), .second, .val (.long vm), .second, .val (.long vq), .second, .val (.int (if vq < vm then (1 : Int32) else (0 : Int32))), .unset, .unset, .unset] [(.int (if vq < vm then (1 : Int32) else (0 : Int32))), (.int (own_f1 vr vm))]))
  have sg3 : ∀ t, Steps p.tables e below (T2.setTop (mkF m 57 #[.val (.long q0), .second, .val (.long q1), .second, .val (.long (2305843009213693951 : Int64)), .second, .val (.long vr), .second, .val (.long vm), .second, .val (.long vq), .second, .val (.int (if vq < vm then (1 : Int32) else (0 : Int32))), .unset, .unset, .unset] [(.int (if (own_f1 vr vm) = (if vq < vm then (1 : Int32) else (0 : Int32)) then (1 : Int32) else (0 : Int32)))])) t → Steps p.tables e below (T2.setTop (mkF m 49 #[.val (.long q0), .second, .val (.long q1), .second, .val (.long (2305843009213693951 : Int64)), .second, .val (.long vr), .second, .val (.long vm), .second, .val (.long vq), .second, .val (.int (if vq < vm then (1 : Int32) else (0 : Int32))), .unset, .unset, .unset] [(.int (if vq < vm then (1 : Int32) else (0 : Int32))), (.int (own_f1 vr vm))])) t := by
    intro t k
    by_cases hc49 : (own_f1 vr vm) = (if vq < vm then (1 : Int32) else (0 : Int32))
    · try simp only [if_pos hc49] at k
      refine XS.icmpNo X2.here hx rfl (hb hby at_49) rfl (teq hc49).2 ?_
      show Steps p.tables e below (T2.setTop (mkF m 52 #[.val (.long q0), .second, .val (.long q1), .second, .val (.long (2305843009213693951 : Int64)), .second, .val (.long vr), .second, .val (.long vm), .second, .val (.long vq), .second, .val (.int (if vq < vm then (1 : Int32) else (0 : Int32))), .unset, .unset, .unset] [])) _
      refine XS.iconst X2.here hx rfl (hb hby at_52) ?_
      show Steps p.tables e below (T2.setTop (mkF m 53 #[.val (.long q0), .second, .val (.long q1), .second, .val (.long (2305843009213693951 : Int64)), .second, .val (.long vr), .second, .val (.long vm), .second, .val (.long vq), .second, .val (.int (if vq < vm then (1 : Int32) else (0 : Int32))), .unset, .unset, .unset] [(.int (1 : Int32))])) _
      refine XS.goto X2.here hx rfl (pc0 := 53) (pc' := 57) rfl (hb hby at_53) (by decide) (by decide) ?_
      show Steps p.tables e below (T2.setTop (mkF m 57 #[.val (.long q0), .second, .val (.long q1), .second, .val (.long (2305843009213693951 : Int64)), .second, .val (.long vr), .second, .val (.long vm), .second, .val (.long vq), .second, .val (.int (if vq < vm then (1 : Int32) else (0 : Int32))), .unset, .unset, .unset] [(.int (1 : Int32))])) _
      exact k
    · try simp only [if_neg hc49] at k
      refine XS.icmpYes X2.here hx rfl (pc0 := 49) (pc' := 56) rfl (hb hby at_49) rfl (feq hc49).2 (by decide) (by decide) ?_
      show Steps p.tables e below (T2.setTop (mkF m 56 #[.val (.long q0), .second, .val (.long q1), .second, .val (.long (2305843009213693951 : Int64)), .second, .val (.long vr), .second, .val (.long vm), .second, .val (.long vq), .second, .val (.int (if vq < vm then (1 : Int32) else (0 : Int32))), .unset, .unset, .unset] [])) _
      refine XS.iconst X2.here hx rfl (hb hby at_56) ?_
      show Steps p.tables e below (T2.setTop (mkF m 57 #[.val (.long q0), .second, .val (.long q1), .second, .val (.long (2305843009213693951 : Int64)), .second, .val (.long vr), .second, .val (.long vm), .second, .val (.long vq), .second, .val (.int (if vq < vm then (1 : Int32) else (0 : Int32))), .unset, .unset, .unset] [(.int (0 : Int32))])) _
      exact k
  refine own_go sg3 ?_
  show own_Go p.tables e below _ (T2.setTop (mkF m 57 #[.val (.long q0), .second, .val (.long q1), .second, .val (.long (2305843009213693951 : Int64)), .second, .val (.long vr), .second, .val (.long vm), .second, .val (.long vq), .second, .val (.int (if vq < vm then (1 : Int32) else (0 : Int32))), .unset, .unset, .unset] [(.int (if (own_f1 vr vm) = (if vq < vm then (1 : Int32) else (0 : Int32)) then (1 : Int32) else (0 : Int32)))]))
  refine own_go (fun _ k => XS.istore X2.here hx rfl (hb hby at_57) rfl (l' := #[.val (.long q0), .second, .val (.long q1), .second, .val (.long (2305843009213693951 : Int64)), .second, .val (.long vr), .second, .val (.long vm), .second, .val (.long vq), .second, .val (.int (if vq < vm then (1 : Int32) else (0 : Int32))), .val (.int (if (own_f1 vr vm) = (if vq < vm then (1 : Int32) else (0 : Int32)) then (1 : Int32) else (0 : Int32))), .unset, .unset]) rfl k) ?_
  show own_Go p.tables e below _ (T2.setTop (mkF m 59 #[.val (.long q0), .second, .val (.long q1), .second, .val (.long (2305843009213693951 : Int64)), .second, .val (.long vr), .second, .val (.long vm), .second, .val (.long vq), .second, .val (.int (if vq < vm then (1 : Int32) else (0 : Int32))), .val (.int (if (own_f1 vr vm) = (if vq < vm then (1 : Int32) else (0 : Int32)) then (1 : Int32) else (0 : Int32))), .unset, .unset] []))
  refine own_go (fun _ k => XS.lload X2.here hx rfl (hb hby at_59) rfl k) ?_
  show own_Go p.tables e below _ (T2.setTop (mkF m 61 #[.val (.long q0), .second, .val (.long q1), .second, .val (.long (2305843009213693951 : Int64)), .second, .val (.long vr), .second, .val (.long vm), .second, .val (.long vq), .second, .val (.int (if vq < vm then (1 : Int32) else (0 : Int32))), .val (.int (if (own_f1 vr vm) = (if vq < vm then (1 : Int32) else (0 : Int32)) then (1 : Int32) else (0 : Int32))), .unset, .unset] [(.long vr)]))
  refine own_go (fun _ k => XS.lload X2.here hx rfl (hb hby at_61) rfl k) ?_
  show own_Go p.tables e below _ (T2.setTop (mkF m 63 #[.val (.long q0), .second, .val (.long q1), .second, .val (.long (2305843009213693951 : Int64)), .second, .val (.long vr), .second, .val (.long vm), .second, .val (.long vq), .second, .val (.int (if vq < vm then (1 : Int32) else (0 : Int32))), .val (.int (if (own_f1 vr vm) = (if vq < vm then (1 : Int32) else (0 : Int32)) then (1 : Int32) else (0 : Int32))), .unset, .unset] [(.long vq), (.long vr)]))
  obtain ⟨_, _, ⟨T4, L4, k4, n4⟩, -, X4, ⟨Lc4, hQ4, l4, y4, z4⟩, st4⟩ := Jvm.LawKit.callS X2 hx (y := (⟨"com/example/pathwise/pathwise/store/MergePolicy", "rewrites", "(JJ)Z"⟩ : MethodName)) hown (mvT hZ (hw _ (List.mem_of_getElem? (i := 2) rfl))) (mvT hZ (hw _ (List.mem_of_getElem? (i := 3) rfl))) (mvT hZ (hw _ (List.mem_of_getElem? (i := 4) rfl))) (mvT hZ (hw _ (List.mem_of_getElem? (i := 5) rfl))) (by decide) (backOf (W := 0) (rm1 l Z a0 hw [] vr vq h0 n0 Z0) hZ (hw _ (List.mem_of_getElem? (i := 5) rfl)) (hw _ (List.mem_of_getElem? (i := 4) rfl)) (by decide) (by decide)) (g := (mkF m 63 #[.val (.long q0), .second, .val (.long q1), .second, .val (.long (2305843009213693951 : Int64)), .second, .val (.long vr), .second, .val (.long vm), .second, .val (.long vq), .second, .val (.int (if vq < vm then (1 : Int32) else (0 : Int32))), .val (.int (if (own_f1 vr vm) = (if vq < vm then (1 : Int32) else (0 : Int32)) then (1 : Int32) else (0 : Int32))), .unset, .unset] [(.long vq), (.long vr)])) rfl (by rw [hml]; rfl) (argsL := [(.long vr), (.long vq)]) (rest := []) (lenOf pd0_0 rfl) rfl (by show 2 * 0 + _ ≤ _; exact Nat.le_of_eq rfl) (hb hby at_63) (fun _ _ => ⟨rfl, (e2 : T2.heap = h0), (by decide : 0 + 0 ≤ _), (by decide : 0 + 0 ≤ _)⟩)
  dsimp only [Pt.U, Pt.locs, Pt.cells, Pt.slots] at X4 l4 y4 z4 st4 hQ4
  subst l4 y4 z4
  refine own_go st4 ?_
  obtain ⟨rfl, N4q, e4⟩ := hQ4
  have N4 := Fr.app N2 N4q
  show own_Go p.tables e below _ (T4.setTop (mkF m 66 #[.val (.long q0), .second, .val (.long q1), .second, .val (.long (2305843009213693951 : Int64)), .second, .val (.long vr), .second, .val (.long vm), .second, .val (.long vq), .second, .val (.int (if vq < vm then (1 : Int32) else (0 : Int32))), .val (.int (if (own_f1 vr vm) = (if vq < vm then (1 : Int32) else (0 : Int32)) then (1 : Int32) else (0 : Int32))), .unset, .unset] [(.int (own_f1 vr vq))]))
  have sg5 : ∀ t, Steps p.tables e below (T4.setTop (mkF m 74 #[.val (.long q0), .second, .val (.long q1), .second, .val (.long (2305843009213693951 : Int64)), .second, .val (.long vr), .second, .val (.long vm), .second, .val (.long vq), .second, .val (.int (if vq < vm then (1 : Int32) else (0 : Int32))), .val (.int (if (own_f1 vr vm) = (if vq < vm then (1 : Int32) else (0 : Int32)) then (1 : Int32) else (0 : Int32))), .unset, .unset] [(.int (if (own_f1 vr vq) = (0 : Int32) then (1 : Int32) else (0 : Int32)))])) t → Steps p.tables e below (T4.setTop (mkF m 66 #[.val (.long q0), .second, .val (.long q1), .second, .val (.long (2305843009213693951 : Int64)), .second, .val (.long vr), .second, .val (.long vm), .second, .val (.long vq), .second, .val (.int (if vq < vm then (1 : Int32) else (0 : Int32))), .val (.int (if (own_f1 vr vm) = (if vq < vm then (1 : Int32) else (0 : Int32)) then (1 : Int32) else (0 : Int32))), .unset, .unset] [(.int (own_f1 vr vq))])) t := by
    intro t k
    by_cases hc66 : (own_f1 vr vq) = (0 : Int32)
    · try simp only [if_pos hc66] at k
      refine XS.ifNo X4.here hx rfl (hb hby at_66) rfl ((if0 _ _).trans (teq hc66).2) ?_
      show Steps p.tables e below (T4.setTop (mkF m 69 #[.val (.long q0), .second, .val (.long q1), .second, .val (.long (2305843009213693951 : Int64)), .second, .val (.long vr), .second, .val (.long vm), .second, .val (.long vq), .second, .val (.int (if vq < vm then (1 : Int32) else (0 : Int32))), .val (.int (if (own_f1 vr vm) = (if vq < vm then (1 : Int32) else (0 : Int32)) then (1 : Int32) else (0 : Int32))), .unset, .unset] [])) _
      refine XS.iconst X4.here hx rfl (hb hby at_69) ?_
      show Steps p.tables e below (T4.setTop (mkF m 70 #[.val (.long q0), .second, .val (.long q1), .second, .val (.long (2305843009213693951 : Int64)), .second, .val (.long vr), .second, .val (.long vm), .second, .val (.long vq), .second, .val (.int (if vq < vm then (1 : Int32) else (0 : Int32))), .val (.int (if (own_f1 vr vm) = (if vq < vm then (1 : Int32) else (0 : Int32)) then (1 : Int32) else (0 : Int32))), .unset, .unset] [(.int (1 : Int32))])) _
      refine XS.goto X4.here hx rfl (pc0 := 70) (pc' := 74) rfl (hb hby at_70) (by decide) (by decide) ?_
      show Steps p.tables e below (T4.setTop (mkF m 74 #[.val (.long q0), .second, .val (.long q1), .second, .val (.long (2305843009213693951 : Int64)), .second, .val (.long vr), .second, .val (.long vm), .second, .val (.long vq), .second, .val (.int (if vq < vm then (1 : Int32) else (0 : Int32))), .val (.int (if (own_f1 vr vm) = (if vq < vm then (1 : Int32) else (0 : Int32)) then (1 : Int32) else (0 : Int32))), .unset, .unset] [(.int (1 : Int32))])) _
      exact k
    · try simp only [if_neg hc66] at k
      refine XS.ifYes X4.here hx rfl (pc0 := 66) (pc' := 73) rfl (hb hby at_66) rfl ((if0 _ _).trans (feq hc66).2) (by decide) (by decide) ?_
      show Steps p.tables e below (T4.setTop (mkF m 73 #[.val (.long q0), .second, .val (.long q1), .second, .val (.long (2305843009213693951 : Int64)), .second, .val (.long vr), .second, .val (.long vm), .second, .val (.long vq), .second, .val (.int (if vq < vm then (1 : Int32) else (0 : Int32))), .val (.int (if (own_f1 vr vm) = (if vq < vm then (1 : Int32) else (0 : Int32)) then (1 : Int32) else (0 : Int32))), .unset, .unset] [])) _
      refine XS.iconst X4.here hx rfl (hb hby at_73) ?_
      show Steps p.tables e below (T4.setTop (mkF m 74 #[.val (.long q0), .second, .val (.long q1), .second, .val (.long (2305843009213693951 : Int64)), .second, .val (.long vr), .second, .val (.long vm), .second, .val (.long vq), .second, .val (.int (if vq < vm then (1 : Int32) else (0 : Int32))), .val (.int (if (own_f1 vr vm) = (if vq < vm then (1 : Int32) else (0 : Int32)) then (1 : Int32) else (0 : Int32))), .unset, .unset] [(.int (0 : Int32))])) _
      exact k
  refine own_go sg5 ?_
  show own_Go p.tables e below _ (T4.setTop (mkF m 74 #[.val (.long q0), .second, .val (.long q1), .second, .val (.long (2305843009213693951 : Int64)), .second, .val (.long vr), .second, .val (.long vm), .second, .val (.long vq), .second, .val (.int (if vq < vm then (1 : Int32) else (0 : Int32))), .val (.int (if (own_f1 vr vm) = (if vq < vm then (1 : Int32) else (0 : Int32)) then (1 : Int32) else (0 : Int32))), .unset, .unset] [(.int (if (own_f1 vr vq) = (0 : Int32) then (1 : Int32) else (0 : Int32)))]))
  refine own_go (fun _ k => XS.istore X4.here hx rfl (hb hby at_74) rfl (l' := #[.val (.long q0), .second, .val (.long q1), .second, .val (.long (2305843009213693951 : Int64)), .second, .val (.long vr), .second, .val (.long vm), .second, .val (.long vq), .second, .val (.int (if vq < vm then (1 : Int32) else (0 : Int32))), .val (.int (if (own_f1 vr vm) = (if vq < vm then (1 : Int32) else (0 : Int32)) then (1 : Int32) else (0 : Int32))), .val (.int (if (own_f1 vr vq) = (0 : Int32) then (1 : Int32) else (0 : Int32))), .unset]) rfl k) ?_
  show own_Go p.tables e below _ (T4.setTop (mkF m 76 #[.val (.long q0), .second, .val (.long q1), .second, .val (.long (2305843009213693951 : Int64)), .second, .val (.long vr), .second, .val (.long vm), .second, .val (.long vq), .second, .val (.int (if vq < vm then (1 : Int32) else (0 : Int32))), .val (.int (if (own_f1 vr vm) = (if vq < vm then (1 : Int32) else (0 : Int32)) then (1 : Int32) else (0 : Int32))), .val (.int (if (own_f1 vr vq) = (0 : Int32) then (1 : Int32) else (0 : Int32))), .unset] []))
  refine own_go (fun _ k => XS.lload X4.here hx rfl (hb hby at_76) rfl k) ?_
  show own_Go p.tables e below _ (T4.setTop (mkF m 78 #[.val (.long q0), .second, .val (.long q1), .second, .val (.long (2305843009213693951 : Int64)), .second, .val (.long vr), .second, .val (.long vm), .second, .val (.long vq), .second, .val (.int (if vq < vm then (1 : Int32) else (0 : Int32))), .val (.int (if (own_f1 vr vm) = (if vq < vm then (1 : Int32) else (0 : Int32)) then (1 : Int32) else (0 : Int32))), .val (.int (if (own_f1 vr vq) = (0 : Int32) then (1 : Int32) else (0 : Int32))), .unset] [(.long vr)]))
  refine own_go (fun _ k => XS.lload X4.here hx rfl (hb hby at_78) rfl k) ?_
  show own_Go p.tables e below _ (T4.setTop (mkF m 80 #[.val (.long q0), .second, .val (.long q1), .second, .val (.long (2305843009213693951 : Int64)), .second, .val (.long vr), .second, .val (.long vm), .second, .val (.long vq), .second, .val (.int (if vq < vm then (1 : Int32) else (0 : Int32))), .val (.int (if (own_f1 vr vm) = (if vq < vm then (1 : Int32) else (0 : Int32)) then (1 : Int32) else (0 : Int32))), .val (.int (if (own_f1 vr vq) = (0 : Int32) then (1 : Int32) else (0 : Int32))), .unset] [(.long vq), (.long vr)]))
  refine own_go (fun _ k => XS.lconst X4.here hx rfl (hb hby at_80) k) ?_
  show own_Go p.tables e below _ (T4.setTop (mkF m 81 #[.val (.long q0), .second, .val (.long q1), .second, .val (.long (2305843009213693951 : Int64)), .second, .val (.long vr), .second, .val (.long vm), .second, .val (.long vq), .second, .val (.int (if vq < vm then (1 : Int32) else (0 : Int32))), .val (.int (if (own_f1 vr vm) = (if vq < vm then (1 : Int32) else (0 : Int32)) then (1 : Int32) else (0 : Int32))), .val (.int (if (own_f1 vr vq) = (0 : Int32) then (1 : Int32) else (0 : Int32))), .unset] [(.long (1 : Int64)), (.long vq), (.long vr)]))
  refine own_go (fun _ k => XS.ladd X4.here hx rfl (hb hby at_81) rfl k) ?_
  show own_Go p.tables e below _ (T4.setTop (mkF m 82 #[.val (.long q0), .second, .val (.long q1), .second, .val (.long (2305843009213693951 : Int64)), .second, .val (.long vr), .second, .val (.long vm), .second, .val (.long vq), .second, .val (.int (if vq < vm then (1 : Int32) else (0 : Int32))), .val (.int (if (own_f1 vr vm) = (if vq < vm then (1 : Int32) else (0 : Int32)) then (1 : Int32) else (0 : Int32))), .val (.int (if (own_f1 vr vq) = (0 : Int32) then (1 : Int32) else (0 : Int32))), .unset] [(.long (vq + (1 : Int64))), (.long vr)]))
  obtain ⟨_, _, ⟨T6, L6, k6, n6⟩, -, X6, ⟨Lc6, hQ6, l6, y6, z6⟩, st6⟩ := Jvm.LawKit.callS X4 hx (y := (⟨"com/example/pathwise/pathwise/store/MergePolicy", "rewrites", "(JJ)Z"⟩ : MethodName)) hown (mvT hZ (hw _ (List.mem_of_getElem? (i := 2) rfl))) (mvT hZ (hw _ (List.mem_of_getElem? (i := 3) rfl))) (mvT hZ (hw _ (List.mem_of_getElem? (i := 4) rfl))) (mvT hZ (hw _ (List.mem_of_getElem? (i := 5) rfl))) (by decide) (backOf (W := 0) (rm1 l Z a0 hw [] vr (vq + (1 : Int64)) h0 n0 Z0) hZ (hw _ (List.mem_of_getElem? (i := 5) rfl)) (hw _ (List.mem_of_getElem? (i := 4) rfl)) (by decide) (by decide)) (g := (mkF m 82 #[.val (.long q0), .second, .val (.long q1), .second, .val (.long (2305843009213693951 : Int64)), .second, .val (.long vr), .second, .val (.long vm), .second, .val (.long vq), .second, .val (.int (if vq < vm then (1 : Int32) else (0 : Int32))), .val (.int (if (own_f1 vr vm) = (if vq < vm then (1 : Int32) else (0 : Int32)) then (1 : Int32) else (0 : Int32))), .val (.int (if (own_f1 vr vq) = (0 : Int32) then (1 : Int32) else (0 : Int32))), .unset] [(.long (vq + (1 : Int64))), (.long vr)])) rfl (by rw [hml]; rfl) (argsL := [(.long vr), (.long (vq + (1 : Int64)))]) (rest := []) (lenOf pd0_0 rfl) rfl (by show 2 * 0 + _ ≤ _; exact Nat.le_of_eq rfl) (hb hby at_82) (fun _ _ => ⟨rfl, (e4 : T4.heap = h0), (by decide : 0 + 0 ≤ _), (by decide : 0 + 0 ≤ _)⟩)
  dsimp only [Pt.U, Pt.locs, Pt.cells, Pt.slots] at X6 l6 y6 z6 st6 hQ6
  subst l6 y6 z6
  refine own_go st6 ?_
  obtain ⟨rfl, N6q, e6⟩ := hQ6
  have N6 := Fr.app N4 N6q
  show own_Go p.tables e below _ (T6.setTop (mkF m 85 #[.val (.long q0), .second, .val (.long q1), .second, .val (.long (2305843009213693951 : Int64)), .second, .val (.long vr), .second, .val (.long vm), .second, .val (.long vq), .second, .val (.int (if vq < vm then (1 : Int32) else (0 : Int32))), .val (.int (if (own_f1 vr vm) = (if vq < vm then (1 : Int32) else (0 : Int32)) then (1 : Int32) else (0 : Int32))), .val (.int (if (own_f1 vr vq) = (0 : Int32) then (1 : Int32) else (0 : Int32))), .unset] [(.int (own_f1 vr (vq + (1 : Int64))))]))
  refine own_go (fun _ k => XS.istore X6.here hx rfl (hb hby at_85) rfl (l' := #[.val (.long q0), .second, .val (.long q1), .second, .val (.long (2305843009213693951 : Int64)), .second, .val (.long vr), .second, .val (.long vm), .second, .val (.long vq), .second, .val (.int (if vq < vm then (1 : Int32) else (0 : Int32))), .val (.int (if (own_f1 vr vm) = (if vq < vm then (1 : Int32) else (0 : Int32)) then (1 : Int32) else (0 : Int32))), .val (.int (if (own_f1 vr vq) = (0 : Int32) then (1 : Int32) else (0 : Int32))), .val (.int (own_f1 vr (vq + (1 : Int64))))]) rfl k) ?_
  show own_Go p.tables e below _ (T6.setTop (mkF m 87 #[.val (.long q0), .second, .val (.long q1), .second, .val (.long (2305843009213693951 : Int64)), .second, .val (.long vr), .second, .val (.long vm), .second, .val (.long vq), .second, .val (.int (if vq < vm then (1 : Int32) else (0 : Int32))), .val (.int (if (own_f1 vr vm) = (if vq < vm then (1 : Int32) else (0 : Int32)) then (1 : Int32) else (0 : Int32))), .val (.int (if (own_f1 vr vq) = (0 : Int32) then (1 : Int32) else (0 : Int32))), .val (.int (own_f1 vr (vq + (1 : Int64))))] []))
  refine own_go (fun _ k => XS.iload X6.here hx rfl (hb hby at_87) rfl k) ?_
  show own_Go p.tables e below _ (T6.setTop (mkF m 89 #[.val (.long q0), .second, .val (.long q1), .second, .val (.long (2305843009213693951 : Int64)), .second, .val (.long vr), .second, .val (.long vm), .second, .val (.long vq), .second, .val (.int (if vq < vm then (1 : Int32) else (0 : Int32))), .val (.int (if (own_f1 vr vm) = (if vq < vm then (1 : Int32) else (0 : Int32)) then (1 : Int32) else (0 : Int32))), .val (.int (if (own_f1 vr vq) = (0 : Int32) then (1 : Int32) else (0 : Int32))), .val (.int (own_f1 vr (vq + (1 : Int64))))] [(.int (if (own_f1 vr vm) = (if vq < vm then (1 : Int32) else (0 : Int32)) then (1 : Int32) else (0 : Int32)))]))
  have hf89 : ¬ ((if (own_f1 vr vm) = (if vq < vm then (1 : Int32) else (0 : Int32)) then (1 : Int32) else (0 : Int32)) = (0 : Int32)) := by rw [(own_val hvr hvm hvq).1]; simp
  refine own_go (fun _ k => XS.ifNo X6.here hx rfl (hb hby at_89) rfl ((if0 _ _).trans (feq hf89).1) k) ?_
  show own_Go p.tables e below _ (T6.setTop (mkF m 92 #[.val (.long q0), .second, .val (.long q1), .second, .val (.long (2305843009213693951 : Int64)), .second, .val (.long vr), .second, .val (.long vm), .second, .val (.long vq), .second, .val (.int (if vq < vm then (1 : Int32) else (0 : Int32))), .val (.int (if (own_f1 vr vm) = (if vq < vm then (1 : Int32) else (0 : Int32)) then (1 : Int32) else (0 : Int32))), .val (.int (if (own_f1 vr vq) = (0 : Int32) then (1 : Int32) else (0 : Int32))), .val (.int (own_f1 vr (vq + (1 : Int64))))] []))
  refine own_go (fun _ k => XS.iload X6.here hx rfl (hb hby at_92) rfl k) ?_
  show own_Go p.tables e below _ (T6.setTop (mkF m 94 #[.val (.long q0), .second, .val (.long q1), .second, .val (.long (2305843009213693951 : Int64)), .second, .val (.long vr), .second, .val (.long vm), .second, .val (.long vq), .second, .val (.int (if vq < vm then (1 : Int32) else (0 : Int32))), .val (.int (if (own_f1 vr vm) = (if vq < vm then (1 : Int32) else (0 : Int32)) then (1 : Int32) else (0 : Int32))), .val (.int (if (own_f1 vr vq) = (0 : Int32) then (1 : Int32) else (0 : Int32))), .val (.int (own_f1 vr (vq + (1 : Int64))))] [(.int (if (own_f1 vr vq) = (0 : Int32) then (1 : Int32) else (0 : Int32)))]))
  have hf94 : ¬ ((if (own_f1 vr vq) = (0 : Int32) then (1 : Int32) else (0 : Int32)) = (0 : Int32)) := by rw [(own_val hvr hvm hvq).2.1]; decide
  refine own_go (fun _ k => XS.ifNo X6.here hx rfl (hb hby at_94) rfl ((if0 _ _).trans (feq hf94).1) k) ?_
  show own_Go p.tables e below _ (T6.setTop (mkF m 97 #[.val (.long q0), .second, .val (.long q1), .second, .val (.long (2305843009213693951 : Int64)), .second, .val (.long vr), .second, .val (.long vm), .second, .val (.long vq), .second, .val (.int (if vq < vm then (1 : Int32) else (0 : Int32))), .val (.int (if (own_f1 vr vm) = (if vq < vm then (1 : Int32) else (0 : Int32)) then (1 : Int32) else (0 : Int32))), .val (.int (if (own_f1 vr vq) = (0 : Int32) then (1 : Int32) else (0 : Int32))), .val (.int (own_f1 vr (vq + (1 : Int64))))] []))
  refine own_go (fun _ k => XS.iload X6.here hx rfl (hb hby at_97) rfl k) ?_
  show own_Go p.tables e below _ (T6.setTop (mkF m 99 #[.val (.long q0), .second, .val (.long q1), .second, .val (.long (2305843009213693951 : Int64)), .second, .val (.long vr), .second, .val (.long vm), .second, .val (.long vq), .second, .val (.int (if vq < vm then (1 : Int32) else (0 : Int32))), .val (.int (if (own_f1 vr vm) = (if vq < vm then (1 : Int32) else (0 : Int32)) then (1 : Int32) else (0 : Int32))), .val (.int (if (own_f1 vr vq) = (0 : Int32) then (1 : Int32) else (0 : Int32))), .val (.int (own_f1 vr (vq + (1 : Int64))))] [(.int (own_f1 vr (vq + (1 : Int64))))]))
  have hf99 : ¬ ((own_f1 vr (vq + (1 : Int64))) = (0 : Int32)) := by rw [(own_val hvr hvm hvq).2.2]; decide
  refine own_go (fun _ k => XS.ifNo X6.here hx rfl (hb hby at_99) rfl ((if0 _ _).trans (feq hf99).1) k) ?_
  show own_Go p.tables e below _ (T6.setTop (mkF m 102 #[.val (.long q0), .second, .val (.long q1), .second, .val (.long (2305843009213693951 : Int64)), .second, .val (.long vr), .second, .val (.long vm), .second, .val (.long vq), .second, .val (.int (if vq < vm then (1 : Int32) else (0 : Int32))), .val (.int (if (own_f1 vr vm) = (if vq < vm then (1 : Int32) else (0 : Int32)) then (1 : Int32) else (0 : Int32))), .val (.int (if (own_f1 vr vq) = (0 : Int32) then (1 : Int32) else (0 : Int32))), .val (.int (own_f1 vr (vq + (1 : Int64))))] []))
  refine own_go (fun _ k => XS.iconst X6.here hx rfl (hb hby at_102) k) ?_
  show own_Go p.tables e below _ (T6.setTop (mkF m 103 #[.val (.long q0), .second, .val (.long q1), .second, .val (.long (2305843009213693951 : Int64)), .second, .val (.long vr), .second, .val (.long vm), .second, .val (.long vq), .second, .val (.int (if vq < vm then (1 : Int32) else (0 : Int32))), .val (.int (if (own_f1 vr vm) = (if vq < vm then (1 : Int32) else (0 : Int32)) then (1 : Int32) else (0 : Int32))), .val (.int (if (own_f1 vr vq) = (0 : Int32) then (1 : Int32) else (0 : Int32))), .val (.int (own_f1 vr (vq + (1 : Int64))))] [(.int (1 : Int32))]))
  refine own_go (fun _ k => XS.goto X6.here hx rfl (pc0 := 103) (pc' := 107) rfl (hb hby at_103) (by decide) (by decide) k) ?_
  show own_Go p.tables e below _ (T6.setTop (mkF m 107 #[.val (.long q0), .second, .val (.long q1), .second, .val (.long (2305843009213693951 : Int64)), .second, .val (.long vr), .second, .val (.long vm), .second, .val (.long vq), .second, .val (.int (if vq < vm then (1 : Int32) else (0 : Int32))), .val (.int (if (own_f1 vr vm) = (if vq < vm then (1 : Int32) else (0 : Int32)) then (1 : Int32) else (0 : Int32))), .val (.int (if (own_f1 vr vq) = (0 : Int32) then (1 : Int32) else (0 : Int32))), .val (.int (own_f1 vr (vq + (1 : Int64))))] [(.int (1 : Int32))]))
  refine own_end X6 Bd.notSynchronized (v := some (.int (1 : Int32))) (fun h => by rw [Bd.returns] at h; cases h) (fun fs hr => retN X6 hx (t := .boolean) Bd.returns (by simp) (hb hby at_107) hr) ?_ (by decide) (by decide)
  exact ⟨rfl, N6⟩
set_option maxRecDepth 65536 in
set_option maxHeartbeats 40000000 in
theorem comes_1 {Post : Tables → Env → Array Value → State → Outcome → State → Prop} (hpost : ∀ tb e args s v u, (limb_1_1.after args s (.returned v) u = true ∧ limb_1_2.after args s (.returned v) u = true ∧ True) → FrameEnd s (.returned v) u (Jvm.fieldLocs frame_1_writes args s ++ Jvm.arrayLocs frame_1_arrays args s ++ Jvm.staticLocs frame_1_statics s) 0 0 → Post tb e args s (.returned v) u) :
    ArmFor flags0 classFile x code maxLocals ret World_1 tables_1 room_1 Calls_1 rest_1 Pre_1 Post := by
  intro l hfl _ _ p e ha hc hk s m args below hf hA hF happ hP
  obtain ⟨hcalls, hrest, hpre⟩ := hP
  obtain ⟨-, -, -, hnamed, -, -, -, hat⟩ := (Spec.applies_iff hf).mp happ
  obtain ⟨hg, hn⟩ := and_e (Cond.before_iff.mp (show (Jvm.Cond.and given_1 narrow_1).before args s = true from hpre))
  obtain ⟨g1, g2⟩ := and_e hg
  obtain ⟨g3, g4⟩ := and_e g2
  obtain ⟨w0, w1, rfl⟩ : ∃ w0 w1 : Value, args = #[w0, w1] := by
    have hs : args.size = 2 := by simpa [Cond.value, given_1] using g1
    obtain ⟨L⟩ := args
    match L, hs with
    | [w0, w1], _ => exact ⟨w0, w1, rfl⟩
  have hw := fun d (hd : d ∈ tables_1) => atoms_spec (ws := Jvm.Cond.code x code maxLocals ret :: tables_1) hat d (List.mem_cons_of_mem _ hd)
  obtain ⟨i0, ei0⟩ := isL_v g3
  obtain rfl : w0 = (.long i0) := Option.some.inj ei0
  obtain ⟨i1, ei1⟩ := isL_v g4
  obtain rfl : w1 = (.long i1) := Option.some.inj ei1
  obtain ⟨n, o, h1, h2, h3, _, L, rfl, ⟨rfl, N⟩, hq⟩ := rm0 l s _ hw tables_1 i0 i1 s.heap s.heap.size (Nat.le_refl _) p e ha hc hk s m _ below hf ((Spec.applies_iff_loose hf).mp happ).1 ⟨rfl, State.Warmed39.refl s, rfl⟩ trivial
  refine ⟨n, _, h1, h2, h3, hpost _ _ _ _ _ _ ⟨Cond.after_iff.mpr rfl, Cond.after_iff.mpr (eq_i res_at (Term.int_eval (1)) rfl), trivial⟩ ⟨hq.1, hq.2.1, (hq.2.2.sift fun y hy => Or.inr (N y hy)).mono (by decide) (by decide)⟩⟩
theorem main_1_1 : Claimed_1_1 := comes_1 fun _ _ _ _ _ _ h hF => ⟨h.1, hF⟩
theorem main_1_2 : Claimed_1_2 := comes_1 fun _ _ _ _ _ _ h hF => ⟨h.2.1, hF⟩
end Jvm.Pilot.@@N@@
namespace Jvm.Pilot.@@N@@
open Jvm Jvm.ClassFile Sem Op Lib Jvm.Free Jvm.Stand Jvm.Pilot.@@N@@.Jvm.D
/-! MADE BY PROGRAM (witnessworld.py) out of the Statement's table words and the real class files: 7 classes; the members and pool entries that the words name. The judged class is class 1, her method 1. -/
namespace start1
open Jvm.ClassFile
def u (s : String) : CpInfo := .utf8 (stringToUtf16 s)
/-- a pool by its gaps: so many unusable entries, then the entry; so many at the end -/
def gap : Nat → List CpInfo → List CpInfo
  | 0, r => r
  | n + 1, r => .unusable :: gap n r
def poolList (es : List (Nat × CpInfo)) (last : Nat) : List CpInfo := es.foldr (fun e r => gap e.1 (e.2 :: r)) (gap last [])
def pool (es : List (Nat × CpInfo)) (last : Nat) : Array CpInfo := ⟨poolList es last⟩
def fileOf (pool : Array CpInfo) (this : Nat) (attrs : Array Attribute := #[]) (ms : Array MethodInfo := #[]) (fl : Nat := 33) (sup : Nat := 0) (ifs : Array Nat := #[]) (fds : Array FieldInfo := #[]) : ClassFile where
  minorVersion := 0
  majorVersion := 65
  constantPool := pool
  accessFlags := fl
  thisClass := this
  superClass := sup
  interfaces := ifs
  fields := fds
  methods := ms
  attributes := attrs
def plain (name : String) (sup : Option ClassId) : Class where
  name := name
  kind := .ordinary
  loader := none
  accessFlags := 33
  super := sup
  interfaces := #[]
  cf := none
  fields := #[]
  methods := #[]
  instanceTypes := #[]
  staticTypes := #[]
  resolved := #[]
  callSites := []
  init := .initialized
  statics := none
  mirror := none

def pool0 : Array CpInfo := pool [(5, u "<init>"), (0, u "()V"), (1, .class_ 10), (1, u "java/lang/Object")] 113

def k0m0 : Method := { name := "<init>", desc := "()V", sig := { parameters := [], returnType := none }, accessFlags := 1, code := none }
/-- java/lang/Object -/
def k0 : Class := { plain "java/lang/Object" none with
  accessFlags := 33
  interfaces := #[]
  cf := some (fileOf pool0 8 #[] #[{ accessFlags := 1, nameIndex := 5, descriptorIndex := 6, attributes := #[] }] 33 0 #[] #[])
  fields := #[]
  methods := #[k0m0]
  instanceTypes := #[]
  staticTypes := #[]
  resolved := Array.replicate 124 none
  statics := none }

def pool1 : Array CpInfo := pool [(2, .class_ 4), (1, u "java/lang/Object"), (0, u "<init>"), (0, u "()V"), (2, .long 2305843009213693951), (1, .long 4), (1, .methodref 14 15), (0, .class_ 16), (0, .nameAndType 17 18), (0, u "com/example/pathwise/pathwise/store/MergePolicy"), (0, u "rewrites"), (0, u "(JJ)Z"), (0, .class_ 20), (0, u "com/example/pathwise/pathwise/store/MergePolicyRewritesPinLaw"), (2, u "law")] 3

def k1m0 : Method := { name := "<init>", desc := "()V", sig := { parameters := [], returnType := none }, accessFlags := 2, code := none }
def k1c1 : Code := { maxStack := 6, maxLocals := 16, code := code, exceptionTable := #[], attributes := #[] }
def k1m1 : Method := { name := "law", desc := "(JJ)Z", sig := { parameters := [.long, .long], returnType := some .boolean }, accessFlags := 9, code := some k1c1 }
/-- com/example/pathwise/pathwise/store/MergePolicyRewritesPinLaw -/
def k1 : Class := { plain "com/example/pathwise/pathwise/store/MergePolicyRewritesPinLaw" (some 0) with
  accessFlags := 49
  interfaces := #[]
  cf := some (fileOf pool1 19 #[] #[{ accessFlags := 2, nameIndex := 5, descriptorIndex := 6, attributes := #[] }, { accessFlags := 9, nameIndex := 23, descriptorIndex := 18, attributes := #[] }] 49 2 #[] #[])
  fields := #[]
  methods := #[k1m0, k1m1]
  instanceTypes := #[]
  staticTypes := #[]
  resolved := Array.replicate 27 none
  statics := none }

def pool2 : Array CpInfo := pool [(2, .class_ 4), (1, u "java/lang/Object"), (0, u "<init>"), (0, u "()V"), (10, .class_ 18), (0, u "com/example/pathwise/pathwise/store/MergePolicy$Extent"), (7, .long 4), (1, .class_ 29), (0, u "com/example/pathwise/pathwise/store/MergePolicy"), (7, u "rewrites"), (0, u "(JJ)Z")] 5

def k2m0 : Method := { name := "<init>", desc := "()V", sig := { parameters := [], returnType := none }, accessFlags := 2, code := none }
def k2c1 : Code := { maxStack := 4, maxLocals := 4, code := prog_97_method_3_code, exceptionTable := #[], attributes := #[] }
def k2m1 : Method := { name := "rewrites", desc := "(JJ)Z", sig := { parameters := [.long, .long], returnType := some .boolean }, accessFlags := 8, code := some k2c1 }
/-- com/example/pathwise/pathwise/store/MergePolicy -/
def k2 : Class := { plain "com/example/pathwise/pathwise/store/MergePolicy" (some 0) with
  accessFlags := 48
  interfaces := #[]
  cf := some (fileOf pool2 28 #[.nestMembers #[17]] #[{ accessFlags := 2, nameIndex := 5, descriptorIndex := 6, attributes := #[] }, { accessFlags := 8, nameIndex := 37, descriptorIndex := 38, attributes := #[] }] 48 2 #[] #[])
  fields := #[]
  methods := #[k2m0, k2m1]
  instanceTypes := #[]
  staticTypes := #[]
  resolved := Array.replicate 44 none
  statics := none }

def pool3 : Array CpInfo := pool [(1, u "java/lang/Cloneable"), (0, .class_ 1), (0, u "java/lang/Object"), (0, .class_ 3)] 3

/-- java/lang/Cloneable -/
def k3 : Class := { plain "java/lang/Cloneable" (some 0) with
  accessFlags := 1537
  interfaces := #[]
  cf := some (fileOf pool3 2 #[] #[] 1537 4 #[] #[])
  fields := #[]
  methods := #[]
  instanceTypes := #[]
  staticTypes := #[]
  resolved := Array.replicate 8 none
  statics := none }

def pool4 : Array CpInfo := pool [(1, u "java/io/Serializable"), (0, .class_ 1), (0, u "java/lang/Object"), (0, .class_ 3)] 3

/-- java/io/Serializable -/
def k4 : Class := { plain "java/io/Serializable" (some 0) with
  accessFlags := 1537
  interfaces := #[]
  cf := some (fileOf pool4 2 #[] #[] 1537 4 #[] #[])
  fields := #[]
  methods := #[]
  instanceTypes := #[]
  staticTypes := #[]
  resolved := Array.replicate 8 none
  statics := none }

/-- the primitive byte -/
def k5 : Class := { plain "byte" none with kind := .primitive 'B', accessFlags := 0x411 }
/-- [B -/
def k6 : Class := { plain "[B" (some 0) with kind := .array 5 .byte, interfaces := #[3, 4], accessFlags := 1041 }

def heap : Heap := #[]
def classes : Array Class := #[k0, k1, k2, k3, k4, k5, k6]
def interned : List (Array UInt16 × Addr) := []
def slotsUsed : Nat := 0
def theMethod : MethodId := ⟨1, 1⟩
def args0 : Array Value := #[.long 100, .long 26]
def aboutOver (below : List Frame) : State where
  vm := { classes := classes, interned := interned.toArray }
  heap := heap
  slotsUsed := slotsUsed
  threads := #[{ frames := .invoking theMethod args0 :: below }]
def below0 : List Frame := [.native { method := ⟨0, 0⟩, args := #[] }]
def about1 : State := aboutOver below0
def p0 : Program := .bare "" "" ""
def e0 : Env := launch0.env 0 0 0
theorem w_frames : about1.frames = Frame.invoking theMethod args0 :: below0 := rfl
set_option maxRecDepth 65536 in
theorem w_args : argsFit about1.vm theMethod args0 = true := by decide +kernel
set_option maxRecDepth 65536 in
theorem w_heap : heapFits about1 = true := by decide +kernel
set_option maxRecDepth 65536 in
theorem w_runnable : about1.curStatus? = some .runnable := by decide +kernel
set_option maxRecDepth 65536 in
theorem w_alone : about1.alone = true := by decide +kernel
set_option maxRecDepth 65536 in
theorem w_named : about1.methodNamed? x = some theMethod := by decide +kernel
set_option maxRecDepth 65536 in
theorem w_hears : about1.hears theMethod below0 = true := by decide +kernel
set_option maxRecDepth 65536 in
theorem w_ripe : about1.ripe theMethod args0 below0 = true := by decide +kernel
theorem w_running : about1.status = .running := rfl
set_option maxRecDepth 65536 in
theorem w_room : about1.hasRoom e0.platform room_1 = true :=
  launch0.hasRoom_least _ room_1 (by decide +kernel) (by decide +kernel) (by decide +kernel) (by decide +kernel) (by decide +kernel) (by decide +kernel)
theorem allAtoms_all (ts : List Jvm.Cond) (a : Array Jvm.Value) (st : Jvm.State) : (allAtoms ts).before a st = ts.all (fun c => c.before a st) := by
  induction ts with
  | nil => rfl
  | cons c t ih =>
    show (Jvm.Cond.and c (allAtoms t)).before a st = _
    rw [Jvm.Cond.before_and, ih, List.all_cons]
def words1 : List Jvm.Cond := Jvm.Cond.code x code maxLocals ret :: tables_1
/-- a 'code' word, met by the world's own term for the bytes: nothing is compared byte by byte -/
theorem code_word {y : MethodName} {bytes : ByteArray} {mx : Nat} {rt : Option FieldType} {a : Array Value} {s : State} {m : MethodId} {meth : Method} {c : Code} (h1 : s.methodNamed? y = some m) (h2 : s.vm.method? m = some meth) (h3 : meth.code = some c) (h4 : c.code = bytes)
    (h5 : (c.maxLocals == mx && c.exceptionTable.isEmpty && decide (c.maxStack ≤ mostOperands) && decide (meth.sig.returnType = rt) && !meth.locks && decide (parseMethodDescriptor y.desc = some meth.sig)) = true) : (Jvm.Cond.code y bytes mx rt).before a s = true := by
  simp only [Bool.and_eq_true, beq_iff_eq, Bool.not_eq_true', decide_eq_true_eq] at h5
  obtain ⟨⟨⟨⟨⟨g1, g2⟩, g3⟩, g4⟩, g5⟩, g6⟩ := h5
  simp [Cond.before, Cond.holds, Cond.value, h1, h2, h3, h4, g1, g2, g3, g4, g5, g6]
def isCode : Jvm.Cond → Bool
  | .code _ _ _ _ => true
  | _ => false
theorem all_split {L : List Jvm.Cond} {P : Jvm.Cond → Bool} (h1 : L.all (fun c => isCode c || P c) = true) (h2 : ∀ c ∈ L.filter isCode, P c = true) : L.all P = true := by
  refine List.all_eq_true.mpr fun c hc => ?_
  have h := List.all_eq_true.mp h1 c hc
  rcases Bool.eq_false_or_eq_true (isCode c) with hi | hi
  · exact h2 c (List.mem_filter.mpr ⟨hc, hi⟩)
  · simpa [hi] using h
set_option maxRecDepth 65536 in
theorem w_c0 : (Jvm.Cond.code x code maxLocals ret).before args0 about1 = true := code_word (m := ⟨1, 1⟩) (meth := k1m1) (c := k1c1) (by decide +kernel) rfl rfl rfl (by decide +kernel)
set_option maxRecDepth 65536 in
theorem w_c1 : (Jvm.Cond.code ({ cls := "com/example/pathwise/pathwise/store/MergePolicy", name := "rewrites", desc := "(JJ)Z" } : Jvm.MethodName) prog_97_method_3_code (4 : Nat) (Option.some Jvm.ClassFile.FieldType.boolean)).before args0 about1 = true := code_word (m := ⟨2, 1⟩) (meth := k2m1) (c := k2c1) (by decide +kernel) rfl rfl rfl (by decide +kernel)
def codes1 : List Jvm.Cond := [Jvm.Cond.code x code maxLocals ret, Jvm.Cond.code ({ cls := "com/example/pathwise/pathwise/store/MergePolicy", name := "rewrites", desc := "(JJ)Z" } : Jvm.MethodName) prog_97_method_3_code (4 : Nat) (Option.some Jvm.ClassFile.FieldType.boolean)]
set_option maxRecDepth 65536 in
theorem codes_eq : words1.filter isCode = codes1 := rfl
theorem w_codes : ∀ c ∈ words1.filter isCode, c.before args0 about1 = true := by
  rw [codes_eq]
  intro c hc
  simp only [codes1, List.mem_cons, List.not_mem_nil, or_false] at hc
  rcases hc with rfl | rfl
  · exact w_c0
  · exact w_c1
set_option maxRecDepth 65536 in
theorem w_t1 : words1.all (fun c => isCode c || c.before args0 about1) = true := by decide +kernel
theorem w_tables : (allAtoms (Jvm.Cond.code x code maxLocals ret :: tables_1)).before args0 about1 = true := by
  rw [allAtoms_all]
  show words1.all (fun c => c.before args0 about1) = true
  refine all_split ?_ w_codes
  rw [w_t1]
set_option maxRecDepth 65536 in
theorem w_case : (Jvm.Cond.and given_1 narrow_1).before args0 about1 = true := by decide +kernel
theorem w_applies : (headSpec (Jvm.Cond.code x code maxLocals ret :: tables_1) room_1).applies x e0.platform about1 = true :=
  (Spec.applies_iff w_frames).mpr ⟨w_running, w_runnable, w_alone, w_named, w_hears, w_ripe, w_room, w_tables⟩
theorem atStart : AtStart classFile x code maxLocals ret World_1 tables_1 room_1 Calls_1 rest_1 Pre_1 launch0 p0 e0 about1 theMethod args0 below0 :=
  ⟨lists_1, trivial, launch0.admits_env _ _ _, launch0.least_env, fairChoices_fair.cas, fairChoices_fair.clock, w_frames, w_args, w_heap, w_applies, trivial, trivial, w_case⟩
end start1
theorem witness_1 : WitnessClaimed_1 := ⟨start1.p0, start1.e0, start1.about1, start1.theMethod, start1.args0, start1.below0, start1.atStart⟩
end Jvm.Pilot.@@N@@
