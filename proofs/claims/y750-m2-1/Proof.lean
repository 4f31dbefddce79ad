import JvmDerived
import JvmDerived.Pilot.@@N@@Statement
import JvmDerived.Pilot.@@N@@Code
set_option linter.unusedVariables false
set_option linter.unusedSimpArgs false

namespace Jvm.Pilot.@@N@@
open Jvm Jvm.ClassFile Sem Op Lib Jvm.Free Jvm.Stand Jvm.LawKit Jvm.RoadKit Bundle Jvm.Pilot.@@N@@.Jvm.D
/-- the run from U comes to an end of which P holds -/
def own_Go (tb : Tables) (e : Env) (below : List Frame) (P : Outcome → State → Prop) (U : State) : Prop :=
  ∃ s₂ o, Steps tb e below U s₂ ∧ s₂.status = .running ∧ Ended s₂ below o ∧ P o s₂
theorem own_go {tb : Tables} {e : Env} {below : List Frame} {P : Outcome → State → Prop} {U U' : State} (k : ∀ t, Steps tb e below U' t → Steps tb e below U t) (h : own_Go tb e below P U') : own_Go tb e below P U := by
  obtain ⟨t, o, h1, h2⟩ := h
  exact ⟨t, o, k t h1, h2⟩
section Own
variable {p : Program} {l : Launch} {e : Env} {R : Room} {s : State} {m : MethodId} {args : Array Value} {below : List Frame} {meth : Method} {c : Code} {T : State} {locs : List Loc} {cells slots : Nat}
theorem own_retI (X : Stand p l e R s m args below meth c T locs cells slots) (hx : p.tables.exec = Jvm.exec) {pc : Nat} {Ls : Array Slot} {z : Int32} {rest : List Value} (hret : meth.sig.returnType = some .int) (hd : decode c.code pc = .ok (.ireturn, 1)) {fs : List Frame}
    (hl : ∀ (f : JFrame) (acts : List Action), f.method = m → f.locked = none → f.entered = [] → (doReturn e (T.setTop f) acts (some (.int z))).1 = T.setFrames fs) : Steps p.tables e below (T.setTop (mkF m pc Ls (.int z :: rest))) (T.setFrames fs) := by
  have hm' : T.vm.method? m = some meth := X.method'
  have hn : narrow .int (.int z) = .int z := rfl
  show Steps p.tables e below (T.setTop { method := m, pc := pc, locals := Ls, stack := _ :: rest, locked := none }) _
  jvm_step X.here [X.here.top, hx, hd, hm', hret, hn]
  first | (intro acts; rw [hl _ acts rfl rfl rfl]) | rw [hl _ _ rfl rfl rfl]
  exact Steps.refl _
theorem own_retJ (X : Stand p l e R s m args below meth c T locs cells slots) (hx : p.tables.exec = Jvm.exec) {pc : Nat} {Ls : Array Slot} {z : Int64} {rest : List Value} (hret : meth.sig.returnType = some .long) (hd : decode c.code pc = .ok (.lreturn, 1)) {fs : List Frame}
    (hl : ∀ (f : JFrame) (acts : List Action), f.method = m → f.locked = none → f.entered = [] → (doReturn e (T.setTop f) acts (some (.long z))).1 = T.setFrames fs) : Steps p.tables e below (T.setTop (mkF m pc Ls (.long z :: rest))) (T.setFrames fs) := by
  have hm' : T.vm.method? m = some meth := X.method'
  show Steps p.tables e below (T.setTop { method := m, pc := pc, locals := Ls, stack := _ :: rest, locked := none }) _
  jvm_step X.here [X.here.top, hx, hd, hm', hret, narrow]
  first | (intro acts; rw [hl _ acts rfl rfl rfl]) | rw [hl _ _ rfl rfl rfl]
  exact Steps.refl _
theorem own_mapI (xs : List Int32) (i : Nat) : (xs.map Value.int).getD i (.int 0) = .int (xs.getD i 0) := by
  simp only [List.getD_eq_getElem?_getD, List.getElem?_map]; cases xs[i]? <;> rfl
theorem own_mapJ (xs : List Int64) (i : Nat) : (xs.map Value.long).getD i (.long 0) = .long (xs.getD i 0) := by
  simp only [List.getD_eq_getElem?_getD, List.getElem?_map]; cases xs[i]? <;> rfl
theorem own_kx {h h' : Heap} (K : Keep h h' []) : Ext h h' := ⟨K.1, fun a c q => K.2.1 a c q (by simp)⟩
theorem own_retA (X : Stand p l e R s m args below meth c T locs cells slots) (hx : p.tables.exec = Jvm.exec) {pc : Nat} {Ls : Array Slot} {z : Addr} {rest : List Value} {C : String} (hret : meth.sig.returnType = some (.object C)) (hd : decode c.code pc = .ok (.areturn, 1)) {fs : List Frame}
    (hl : ∀ (f : JFrame) (acts : List Action), f.method = m → f.locked = none → f.entered = [] → (doReturn e (T.setTop f) acts (some (.ref z))).1 = T.setFrames fs) : Steps p.tables e below (T.setTop (mkF m pc Ls (.ref z :: rest))) (T.setFrames fs) := by
  have hm' : T.vm.method? m = some meth := X.method'
  show Steps p.tables e below (T.setTop { method := m, pc := pc, locals := Ls, stack := _ :: rest, locked := none }) _
  jvm_step X.here [X.here.top, hx, hd, hm', hret, Value.isRef, FieldType.isReference]
  first | (intro acts; rw [hl _ acts rfl rfl rfl]) | rw [hl _ _ rfl rfl rfl]
  exact Steps.refl _
theorem own_endH {Q : Option Value → Heap → List Loc → Prop} {kc ks n : Nat} {vm₁ : Vm} {Z : State} {EL : List (String × Nat)} (X : Stand p l e R (s.setVm vm₁) m args below meth c T locs cells slots) (hC : CHr Z EL s.vm s.heap T.vm T.heap) (hS : s.Since vm₁ n) (hn : n ≤ T.heap.size) (hlocks : meth.locks = false) {g : JFrame} {v : Option Value}
    (hv : meth.sig.returnType = none → v = none)
    (hs : ∀ fs, (∀ (f : JFrame) (acts : List Action), f.method = m → f.locked = none → f.entered = [] → (doReturn e (T.setTop f) acts v).1 = T.setFrames fs) → Steps p.tables e below (T.setTop g) (T.setFrames fs))
    (hQ : Q v T.heap locs) (h1 : cells ≤ kc) (h2 : slots ≤ ks) :
    own_Go p.tables e below (fun o U' => ∃ v L, o = .returned v ∧ Q v U'.heap L ∧ CHr Z EL s.vm s.heap U'.vm U'.heap ∧ ReturnedEndW s o U' L kc ks) (T.setTop g) := by
  obtain ⟨fs, hr, hrun, hended, h3, h4, h5, h6⟩ := X.leaveW hS hn (v := v) hv hlocks
  exact ⟨_, _, hs fs hr, hrun, hended, _, _, rfl, hQ, hC, h3, h4, h5, h6.mono h1 h2⟩
theorem own_endW {Q : Option Value → Heap → List Loc → Prop} {kc ks n : Nat} {vm₁ : Vm} (X : Stand p l e R (s.setVm vm₁) m args below meth c T locs cells slots) (hS : s.Since vm₁ n) (hn : n ≤ T.heap.size) (hlocks : meth.locks = false) {g : JFrame} {v : Option Value}
    (hv : meth.sig.returnType = none → v = none)
    (hs : ∀ fs, (∀ (f : JFrame) (acts : List Action), f.method = m → f.locked = none → f.entered = [] → (doReturn e (T.setTop f) acts v).1 = T.setFrames fs) → Steps p.tables e below (T.setTop g) (T.setFrames fs))
    (hQ : Q v T.heap locs) (h1 : cells ≤ kc) (h2 : slots ≤ ks) :
    own_Go p.tables e below (fun o U' => ∃ v L, o = .returned v ∧ Q v U'.heap L ∧ ReturnedEndW s o U' L kc ks) (T.setTop g) := by
  obtain ⟨fs, hr, hrun, hended, h3, h4, h5, h6⟩ := X.leaveW hS hn (v := v) hv hlocks
  exact ⟨_, _, hs fs hr, hrun, hended, _, _, rfl, hQ, h3, h4, h5, h6.mono h1 h2⟩
theorem own_end {Q : Option Value → Heap → List Loc → Prop} {kc ks : Nat} (X : Stand p l e R s m args below meth c T locs cells slots) (hlocks : meth.locks = false) {g : JFrame} {v : Option Value}
    (hv : meth.sig.returnType = none → v = none)
    (hs : ∀ fs, (∀ (f : JFrame) (acts : List Action), f.method = m → f.locked = none → f.entered = [] → (doReturn e (T.setTop f) acts v).1 = T.setFrames fs) → Steps p.tables e below (T.setTop g) (T.setFrames fs))
    (hQ : Q v T.heap locs) (h1 : cells ≤ kc) (h2 : slots ≤ ks) :
    own_Go p.tables e below (fun o U' => ∃ v L, o = .returned v ∧ Q v U'.heap L ∧ FrameEnd s o U' L kc ks) (T.setTop g) := by
  obtain ⟨fs, hr, hrun, hended, hW, hsame⟩ := X.leave (v := v) hv hlocks
  exact ⟨_, _, hs fs hr, hrun, hended, _, _, rfl, hQ, ⟨_, rfl⟩, hW, hsame.mono h1 h2⟩
end Own
def own_f1 (p1 : Int32) (xs : List Int64) : Int32 :=
  (if ((xs.getD ((p1 / (64 : Int32))).toNatClampNeg 0) &&& ((1 : Int64) <<< (p1 &&& 0x3f).toInt64)) = (0 : Int64) then (0 : Int32) else (1 : Int32))
theorem d1_0 : decode prog_47_method_4_code 0 = .ok (.aload_n 0, 1) := by decide +kernel
theorem d1_1 : decode prog_47_method_4_code 1 = .ok (.iload_n 1, 1) := by decide +kernel
theorem d1_2 : decode prog_47_method_4_code 2 = .ok (.bipush 64, 2) := by decide +kernel
theorem d1_4 : decode prog_47_method_4_code 4 = .ok (.idiv, 1) := by decide +kernel
theorem d1_5 : decode prog_47_method_4_code 5 = .ok (.laload, 1) := by decide +kernel
theorem d1_6 : decode prog_47_method_4_code 6 = .ok (.lconst 1, 1) := by decide +kernel
theorem d1_7 : decode prog_47_method_4_code 7 = .ok (.iload_n 1, 1) := by decide +kernel
theorem d1_8 : decode prog_47_method_4_code 8 = .ok (.lshl, 1) := by decide +kernel
theorem d1_9 : decode prog_47_method_4_code 9 = .ok (.land, 1) := by decide +kernel
theorem d1_10 : decode prog_47_method_4_code 10 = .ok (.lconst 0, 1) := by decide +kernel
theorem d1_11 : decode prog_47_method_4_code 11 = .ok (.lcmp, 1) := by decide +kernel
theorem d1_12 : decode prog_47_method_4_code 12 = .ok (.ifCond .eq 7, 3) := by decide +kernel
theorem d1_15 : decode prog_47_method_4_code 15 = .ok (.iconst 1, 1) := by decide +kernel
theorem d1_16 : decode prog_47_method_4_code 16 = .ok (.goto 4, 3) := by decide +kernel
theorem d1_19 : decode prog_47_method_4_code 19 = .ok (.iconst 0, 1) := by decide +kernel
theorem d1_20 : decode prog_47_method_4_code 20 = .ok (.ireturn, 1) := by decide +kernel
theorem pn1 : plainName "com/example/meshwright/meshwright/plan/PathCrossings" = true := by first | (simp [plainName, overriddenIn]; done) | decide +kernel
theorem ef1 (m : MethodId) (a0 : Addr) (p1 : Int32) : entryFrame m #[(.ref a0), (.int p1)] 2 = mkF m 0 #[.val (.ref a0), .val (.int p1)] [] := by first | (simp [entryFrame, mkF, argsToLocals, Value.category]; done) | rfl
def own_Q1 (Z : State) (a0 : Addr) (p1 : Int32) (ka : ClassId) (za : Int32) (xs : List Int64) (h0 : Heap) (n0 : Nat) (v : Option Value) (h : Heap) (L : List Loc) : Prop := v = some (.int (own_f1 p1 xs)) ∧ Fr n0 L ∧ h = h0
set_option maxRecDepth 65536 in
set_option maxHeartbeats 40000000 in
theorem rm1 (l : Launch) (Z : State) (az : Array Value) (hw : ∀ d ∈ tables_1, d.before az Z = true) (ws : List Jvm.Cond) (a0 : Addr) (p1 : Int32) (ka : ClassId) (za : Int32) (xs : List Int64) (h0 : Heap) (n0 : Nat) (Z0 : n0 ≤ h0.size) (V_a0 : Arv Z h0 a0 ka .long za (xs.map Value.long) (.long (0 : Int64))) (hi1 : ¬ ((p1 / (64 : Int32)) < 0)) (hi2 : (p1 / (64 : Int32)) < za) :
    MetFree l (⟨"com/example/meshwright/meshwright/plan/PathCrossings", "has", "([JI)Z"⟩ : MethodName) (head1 (Jvm.Cond.code (⟨"com/example/meshwright/meshwright/plan/PathCrossings", "has", "([JI)Z"⟩ : MethodName) prog_47_method_4_code 2 (some .boolean) :: ws) ({ frames := 0, cells := 0, slots := 0, locals := 0 } : Room)) (fun a U => a = #[(.ref a0), (.int p1)] ∧ Z.Warmed39 U.vm ∧ U.heap = h0) (fun _ _ _ _ _ => True) (fun _ U o U' => ∃ v L, o = .returned v ∧ own_Q1 Z a0 p1 ka za xs h0 n0 v U'.heap L ∧ FrameEnd U o U' L ({ frames := 0, cells := 0, slots := 0, locals := 0 } : Room).cells ({ frames := 0, cells := 0, slots := 0, locals := 0 } : Room).slots) := by
  refine MetFree.of_bodySF (plainFor_of_name pn1) hisR ?_
  intro p e s m args below meth c s₁ Bd hml0 hP hK
  obtain ⟨rfl, hZ, hh⟩ := hP
  have hx := Bd.exec
  have hby := Bd.bytes
  have hml : c.maxLocals = 2 := hml0
  have hown : s.vm.findClass "com/example/meshwright/meshwright/plan/PathCrossings" = some m.cls := findClass_of_methodNamed Bd.named
  have hnm := (name_of_methodNamed Bd.named Bd.method).1
  have X0 : Stand p l e ({ frames := 0, cells := 0, slots := 0, locals := 0 } : Room) s m #[(.ref a0), (.int p1)] below meth c s₁ [] 0 0 := Stand.of_body Bd
  have e0 : s₁.heap = h0 := by rw [← hh, Bd.state]; rfl
  have N0 := Fr.nil n0
  show own_Go p.tables e below (fun o U' => ∃ v L, o = .returned v ∧ own_Q1 Z a0 p1 ka za xs h0 n0 v U'.heap L ∧ FrameEnd s o U' L ({ frames := 0, cells := 0, slots := 0, locals := 0 } : Room).cells ({ frames := 0, cells := 0, slots := 0, locals := 0 } : Room).slots) (s₁.setTop (entryFrame m #[(.ref a0), (.int p1)] 2))
  refine own_go (fun _ k => castTop (ef1 m a0 p1) k) ?_
  show own_Go p.tables e below _ (s₁.setTop (mkF m 0 #[.val (.ref a0), .val (.int p1)] []))
  refine own_go (fun _ k => XS.aloadN X0.here hx rfl (hb hby d1_0) rfl rfl k) ?_
  show own_Go p.tables e below _ (s₁.setTop (mkF m 1 #[.val (.ref a0), .val (.int p1)] [(.ref a0)]))
  refine own_go (fun _ k => XS.iloadN X0.here hx rfl (hb hby d1_1) rfl k) ?_
  show own_Go p.tables e below _ (s₁.setTop (mkF m 2 #[.val (.ref a0), .val (.int p1)] [(.int p1), (.ref a0)]))
  refine own_go (fun _ k => XS.bipush X0.here hx rfl (hb hby d1_2) k) ?_
  show own_Go p.tables e below _ (s₁.setTop (mkF m 4 #[.val (.ref a0), .val (.int p1)] [(.int (64 : Int32)), (.int p1), (.ref a0)]))
  refine own_go (fun _ k => XS.idiv X0.here hx rfl (hb hby d1_4) rfl (by decide) k) ?_
  show own_Go p.tables e below _ (s₁.setTop (mkF m 5 #[.val (.ref a0), .val (.int p1)] [(.int (p1 / (64 : Int32))), (.ref a0)]))
  have vo1 := V_a0
  obtain ⟨cl1, Ar1, Aq1, AS1, AN1, AH1, AG1⟩ := vo1
  have hin1 : ¬ ((p1 / (64 : Int32)) < 0 ∨ cl1.slots.size ≤ ((p1 / (64 : Int32))).toNatClampNeg) := inb_of AS1 ⟨hi1, hi2⟩
  have hat1 : cl1.slots[((p1 / (64 : Int32))).toNatClampNeg]? = some (.long (xs.getD ((p1 / (64 : Int32))).toNatClampNeg 0)) := Has.at AH1 hin1 (own_mapJ xs _)
  refine own_go (fun _ k => X0.laload hx (j := (p1 / (64 : Int32))) (v := (.long (xs.getD ((p1 / (64 : Int32))).toNatClampNeg 0))) (by rw [e0]; exact Ar1.1) (State.isArrayOf_alike hZ.alike Ar1.2.1) Ar1.2.2 hin1 hat1 (g := (mkF m 5 #[.val (.ref a0), .val (.int p1)] [(.int (p1 / (64 : Int32))), (.ref a0)])) rfl rfl (hb hby d1_5) _ k) ?_
  show own_Go p.tables e below _ (s₁.setTop (mkF m 6 #[.val (.ref a0), .val (.int p1)] [(.long (xs.getD ((p1 / (64 : Int32))).toNatClampNeg 0))]))
  refine own_go (fun _ k => XS.lconst X0.here hx rfl (hb hby d1_6) k) ?_
  show own_Go p.tables e below _ (s₁.setTop (mkF m 7 #[.val (.ref a0), .val (.int p1)] [(.long (1 : Int64)), (.long (xs.getD ((p1 / (64 : Int32))).toNatClampNeg 0))]))
  refine own_go (fun _ k => XS.iloadN X0.here hx rfl (hb hby d1_7) rfl k) ?_
  show own_Go p.tables e below _ (s₁.setTop (mkF m 8 #[.val (.ref a0), .val (.int p1)] [(.int p1), (.long (1 : Int64)), (.long (xs.getD ((p1 / (64 : Int32))).toNatClampNeg 0))]))
  refine own_go (fun _ k => XS.lshl X0.here hx rfl (hb hby d1_8) rfl k) ?_
  show own_Go p.tables e below _ (s₁.setTop (mkF m 9 #[.val (.ref a0), .val (.int p1)] [(.long ((1 : Int64) <<< (p1 &&& 0x3f).toInt64)), (.long (xs.getD ((p1 / (64 : Int32))).toNatClampNeg 0))]))
  refine own_go (fun _ k => XS.land X0.here hx rfl (hb hby d1_9) rfl k) ?_
  show own_Go p.tables e below _ (s₁.setTop (mkF m 10 #[.val (.ref a0), .val (.int p1)] [(.long ((xs.getD ((p1 / (64 : Int32))).toNatClampNeg 0) &&& ((1 : Int64) <<< (p1 &&& 0x3f).toInt64)))]))
  refine own_go (fun _ k => XS.lconst X0.here hx rfl (hb hby d1_10) k) ?_
  show own_Go p.tables e below _ (s₁.setTop (mkF m 11 #[.val (.ref a0), .val (.int p1)] [(.long (0 : Int64)), (.long ((xs.getD ((p1 / (64 : Int32))).toNatClampNeg 0) &&& ((1 : Int64) <<< (p1 &&& 0x3f).toInt64)))]))
  refine own_go (fun _ k => XS.lcmp X0.here hx rfl (hb hby d1_11) rfl k) ?_
  show own_Go p.tables e below _ (s₁.setTop (mkF m 12 #[.val (.ref a0), .val (.int p1)] [(.int (lcmpW ((xs.getD ((p1 / (64 : Int32))).toNatClampNeg 0) &&& ((1 : Int64) <<< (p1 &&& 0x3f).toInt64)) (0 : Int64)))]))
  by_cases hc12 : ((xs.getD ((p1 / (64 : Int32))).toNatClampNeg 0) &&& ((1 : Int64) <<< (p1 &&& 0x3f).toInt64)) = (0 : Int64)
  · refine own_go (fun _ k => XS.ifYes X0.here hx rfl (pc0 := 12) (pc' := 19) rfl (hb hby d1_12) rfl ((if0 _ _).trans (teq ((lw_eq ((xs.getD ((p1 / (64 : Int32))).toNatClampNeg 0) &&& ((1 : Int64) <<< (p1 &&& 0x3f).toInt64)) (0 : Int64)).mpr hc12)).1) (by decide) (by decide) k) ?_
    show own_Go p.tables e below _ (s₁.setTop (mkF m 19 #[.val (.ref a0), .val (.int p1)] []))
    refine own_go (fun _ k => XS.iconst X0.here hx rfl (hb hby d1_19) k) ?_
    show own_Go p.tables e below _ (s₁.setTop (mkF m 20 #[.val (.ref a0), .val (.int p1)] [(.int (0 : Int32))]))
    refine own_end X0 Bd.notSynchronized (v := some (.int (0 : Int32))) (fun h => by rw [Bd.returns] at h; cases h) (fun fs hr => retN X0 hx (t := .boolean) Bd.returns (by simp) (hb hby d1_20) hr) ?_ (by decide) (by decide)
    exact ⟨by rw [own_f1, if_pos hc12], N0, e0⟩
  · refine own_go (fun _ k => XS.ifNo X0.here hx rfl (hb hby d1_12) rfl ((if0 _ _).trans (feq (mt (lw_eq ((xs.getD ((p1 / (64 : Int32))).toNatClampNeg 0) &&& ((1 : Int64) <<< (p1 &&& 0x3f).toInt64)) (0 : Int64)).mp hc12)).1) k) ?_
    show own_Go p.tables e below _ (s₁.setTop (mkF m 15 #[.val (.ref a0), .val (.int p1)] []))
    refine own_go (fun _ k => XS.iconst X0.here hx rfl (hb hby d1_15) k) ?_
    show own_Go p.tables e below _ (s₁.setTop (mkF m 16 #[.val (.ref a0), .val (.int p1)] [(.int (1 : Int32))]))
    refine own_go (fun _ k => XS.goto X0.here hx rfl (pc0 := 16) (pc' := 20) rfl (hb hby d1_16) (by decide) (by decide) k) ?_
    show own_Go p.tables e below _ (s₁.setTop (mkF m 20 #[.val (.ref a0), .val (.int p1)] [(.int (1 : Int32))]))
    refine own_end X0 Bd.notSynchronized (v := some (.int (1 : Int32))) (fun h => by rw [Bd.returns] at h; cases h) (fun fs hr => retN X0 hx (t := .boolean) Bd.returns (by simp) (hb hby d1_20) hr) ?_ (by decide) (by decide)
    exact ⟨by rw [own_f1, if_neg hc12], N0, e0⟩
theorem own_k : (0 : Int32).toInt = 0 ∧ (3 : Int32).toInt = 3 ∧ (64 : Int32).toInt = 64 ∧ (128 : Int32).toInt = 128 := by decide
theorem own_rng {n v : Int32} (hv : v = ((n &&& 2147483647) - ((n &&& 2147483647) / 192) * 192)) : 0 ≤ v.toInt ∧ v.toInt < 192 := by
  have e1 := c_mask n 2147483647 31 (by decide) (by decide)
  have e2 := c_irem (n &&& 2147483647) 192 192 (by decide)
  rw [← irem_eq_mod, ← hv] at e2
  have r := rng32 n
  omega
theorem own_ix {v : Int32} (h : 0 ≤ v.toInt ∧ v.toInt < 192) : ¬ ((v / 64) < 0) ∧ (v / 64) < 3 := by
  obtain ⟨k1, k2, k3, k4⟩ := own_k
  have e := c_idiv v 64 64 (by decide) (by decide)
  simp only [Int32.lt_iff_toInt_lt, k1, k2]
  omega
theorem own_nat {j : Int32} {i : Nat} (h : j.toInt = i) : j.toNatClampNeg = i := by
  rw [Int32.toNatClampNeg, h]; rfl
/-- one bit of a word, both ways -/
theorem own_bit (w : Int64) (k : Nat) (hk : k < 64) {a b : Int64} (ha : a.toBitVec.toNat = k) (hb : b.toBitVec.toNat = k) :
    (w &&& ((1 : Int64) <<< a) = 0) ↔ ¬ (((w.toUInt64 >>> b.toUInt64).toInt64) &&& 1 = 1) := by
  have s1 : (w &&& ((1 : Int64) <<< a)).toBitVec = w.toBitVec &&& (1#64 <<< k) := by
    rw [Int64.toBitVec_and, Int64.toBitVec_shiftLeft]
    have : (a.toBitVec.smod 64).toNat = k := by
      have : a.toBitVec = BitVec.ofNat 64 k := by apply BitVec.eq_of_toNat_eq; rw [ha, BitVec.toNat_ofNat]; omega
      rw [this]
      have h : ∀ i : Fin 64, ((BitVec.ofNat 64 i.val).smod 64).toNat = i.val := by decide +kernel
      exact h ⟨k, hk⟩
    rw [BitVec.shiftLeft_eq', this]; rfl
  have s2 : ((((w.toUInt64 >>> b.toUInt64).toInt64) &&& 1)).toBitVec = (w.toBitVec >>> k) &&& 1#64 := by
    rw [Int64.toBitVec_and]
    show ((w.toUInt64 >>> b.toUInt64).toBitVec &&& 1#64) = _
    rw [UInt64.toBitVec_shiftRight]
    have : (b.toUInt64.toBitVec % 64).toNat = k := by
      rw [BitVec.toNat_umod]; show b.toBitVec.toNat % 64 = k; omega
    rw [BitVec.ushiftRight_eq', this]; rfl
  have t1 : (w &&& ((1 : Int64) <<< a) = 0) ↔ w.toBitVec.getLsbD k = false := by
    rw [← Int64.toBitVec_inj, s1]
    constructor
    · intro h
      have := congrArg (fun z => BitVec.getLsbD z k) h
      simpa [hk] using this
    · intro h
      apply BitVec.eq_of_getLsbD_eq
      intro i hi
      by_cases e : i = k
      · subst e; simp [h]
      · have : ¬ (i - k = 0 ∧ ¬ i < k) := by omega
        simp [BitVec.getLsbD_one]; omega
  have t2 : (((w.toUInt64 >>> b.toUInt64).toInt64) &&& 1 = 1) ↔ w.toBitVec.getLsbD k = true := by
    rw [← Int64.toBitVec_inj, s2]
    constructor
    · intro h
      have := congrArg (fun z => BitVec.getLsbD z 0) h
      simpa using this
    · intro h
      apply BitVec.eq_of_getLsbD_eq
      intro i hi
      show _ = (1#64).getLsbD i
      by_cases e : i = 0
      · subst e; simp [h]
      · simp [BitVec.getLsbD_one, e]
  rw [t1, t2]; simp
theorem own_bv {y : Int64} {k : Nat} (h : y.toInt = k) : y.toBitVec.toNat = k := by
  have e0 : y.toInt = y.toBitVec.toInt := rfl
  rw [e0, BitVec.toInt_eq_toNat_cond] at h
  have := y.toBitVec.isLt
  split at h <;> omega
theorem own_mk {x : Int32} {k : Nat} (h : x.toInt % 64 = k) : ((x &&& 63).toInt64).toBitVec.toNat = k := by
  have e1 := c_mask x 63 6 (by decide) (by decide)
  have e2 := c_i2l (x &&& 63)
  exact own_bv (by omega)
theorem own_two (w : Int64) (k : Nat) (hk : k < 64) {x y : Int32} (hx : x.toInt % 64 = k) (hy : y.toInt % 64 = k) :
    (if w &&& ((1 : Int64) <<< (x &&& 63).toInt64) = 0 then (0 : Int32) else 1) = (if ((w.toUInt64 >>> (y &&& 63).toInt64.toUInt64).toInt64) &&& 1 = 1 then (1 : Int32) else 0) := by
  have q := own_bit w k hk (own_mk hx) (own_mk hy)
  by_cases t : w &&& ((1 : Int64) <<< (x &&& 63).toInt64) = 0
  · rw [if_pos t, if_neg (q.mp t)]
  · rw [if_neg t, if_pos (Decidable.not_not.mp (fun r => t (q.mpr r)))]
theorem own_val {v : Int32} {q0 q1 q2 : Int64} (h : 0 ≤ v.toInt ∧ v.toInt < 192) :
    own_f1 v [q0, q1, q2] = (if ((((if v < (64 : Int32) then q0 else (if v < (128 : Int32) then q1 else q2)).toUInt64 >>> ((if v < (64 : Int32) then v else (if v < (128 : Int32) then (v - (64 : Int32)) else (v - (128 : Int32)))) &&& 0x3f).toInt64.toUInt64).toInt64) &&& (1 : Int64)) = (1 : Int64) then (1 : Int32) else (0 : Int32)) := by
  obtain ⟨k1, k2, k3, k4⟩ := own_k
  have e := c_idiv v 64 64 (by decide) (by decide)
  have e2 := c_isub v 64
  have e3 := c_isub v 128
  have r2 := rng32 (v - 64)
  have r3 := rng32 (v - 128)
  rw [own_f1]
  by_cases h1 : v < 64
  · have g1 : v.toInt < 64 := by rw [Int32.lt_iff_toInt_lt] at h1; omega
    simp only [if_pos h1, own_nat (j := v / 64) (i := 0) (by omega)]
    exact own_two q0 (v.toInt.toNat % 64) (by omega) (by omega) (by omega)
  · have g1 : ¬ (v.toInt < 64) := by rw [Int32.lt_iff_toInt_lt] at h1; omega
    by_cases h2 : v < 128
    · have g2 : v.toInt < 128 := by rw [Int32.lt_iff_toInt_lt] at h2; omega
      simp only [if_neg h1, if_pos h2, own_nat (j := v / 64) (i := 1) (by omega)]
      exact own_two q1 (v.toInt.toNat % 64) (by omega) (by omega) (by omega)
    · have g2 : ¬ (v.toInt < 128) := by rw [Int32.lt_iff_toInt_lt] at h2; omega
      simp only [if_neg h1, if_neg h2, own_nat (j := v / 64) (i := 2) (by omega)]
      exact own_two q2 (v.toInt.toNat % 64) (by omega) (by omega) (by omega)
theorem pn0 : plainName "com/example/meshwright/meshwright/plan/PathCrossingsHasPinLaw" = true := by first | (simp [plainName, overriddenIn]; done) | decide +kernel
theorem pd0_0 : parseMethodDescriptor "([JI)Z" = some ⟨[(.array .long), .int], some .boolean⟩ := by decide +kernel
theorem ef0 (m : MethodId) (q0 : Int64) (q1 : Int64) (q2 : Int64) (p3 : Int32) : entryFrame m #[(.long q0), (.long q1), (.long q2), (.int p3)] maxLocals = mkF m 0 #[.val (.long q0), .second, .val (.long q1), .second, .val (.long q2), .second, .val (.int p3), .unset, .unset, .unset, .unset, .unset, .unset, .unset] [] := by first | (simp [entryFrame, mkF, argsToLocals, Value.category, maxLocals]; done) | rfl
def own_Q0 (Z : State) (q0 : Int64) (q1 : Int64) (q2 : Int64) (p3 : Int32) (h0 : Heap) (n0 : Nat) (v : Option Value) (h : Heap) (L : List Loc) : Prop := v = some (.int 1) ∧ Fr n0 L
set_option maxRecDepth 65536 in
set_option maxHeartbeats 40000000 in
theorem rm0 (l : Launch) (Z : State) (az : Array Value) (hw : ∀ d ∈ tables_1, d.before az Z = true) (ws : List Jvm.Cond) (q0 : Int64) (q1 : Int64) (q2 : Int64) (p3 : Int32) (h0 : Heap) (n0 : Nat) (Z0 : n0 ≤ h0.size) :
    MetFree l x (head1 (Jvm.Cond.code x code maxLocals ret :: ws) room_1) (fun a U => a = #[(.long q0), (.long q1), (.long q2), (.int p3)] ∧ Z.Warmed39 U.vm ∧ U.heap = h0) (fun _ _ _ _ _ => True) (fun _ U o U' => ∃ v L, o = .returned v ∧ own_Q0 Z q0 q1 q2 p3 h0 n0 v U'.heap L ∧ FrameEnd U o U' L 16 128) := by
  refine MetFree.of_bodySF (plainFor_of_name pn0) hisR ?_
  intro p e s m args below meth c s₁ Bd hml0 hP hK
  obtain ⟨rfl, hZ, hh⟩ := hP
  have hx := Bd.exec
  have hby := Bd.bytes
  have hml : c.maxLocals = 14 := hml0
  have hown : s.vm.findClass "com/example/meshwright/meshwright/plan/PathCrossingsHasPinLaw" = some m.cls := findClass_of_methodNamed Bd.named
  have hnm := (name_of_methodNamed Bd.named Bd.method).1
  have X0 : Stand p l e room_1 s m #[(.long q0), (.long q1), (.long q2), (.int p3)] below meth c s₁ [] 0 0 := Stand.of_body Bd
  have e0 : s₁.heap = h0 := by rw [← hh, Bd.state]; rfl
  have N0 := Fr.nil n0
  show own_Go p.tables e below (fun o U' => ∃ v L, o = .returned v ∧ own_Q0 Z q0 q1 q2 p3 h0 n0 v U'.heap L ∧ FrameEnd s o U' L 16 128) (s₁.setTop (entryFrame m #[(.long q0), (.long q1), (.long q2), (.int p3)] maxLocals))
  refine own_go (fun _ k => castTop (ef0 m q0 q1 q2 p3) k) ?_
  show own_Go p.tables e below _ (s₁.setTop (mkF m 0 #[.val (.long q0), .second, .val (.long q1), .second, .val (.long q2), .second, .val (.int p3), .unset, .unset, .unset, .unset, .unset, .unset, .unset] []))
  refine own_go (fun _ k => XS.iload X0.here hx rfl (hb hby at_0) rfl k) ?_
  show own_Go p.tables e below _ (s₁.setTop (mkF m 2 #[.val (.long q0), .second, .val (.long q1), .second, .val (.long q2), .second, .val (.int p3), .unset, .unset, .unset, .unset, .unset, .unset, .unset] [(.int p3)]))
  refine own_go (fun _ k => X0.ldcInt hx hown (mvT hZ (hw _ (List.mem_of_getElem? (i := 0) rfl))) (g := (mkF m 2 #[.val (.long q0), .second, .val (.long q1), .second, .val (.long q2), .second, .val (.int p3), .unset, .unset, .unset, .unset, .unset, .unset, .unset] [(.int p3)])) rfl (hb hby at_2) _ k) ?_
  show own_Go p.tables e below _ (s₁.setTop (mkF m 4 #[.val (.long q0), .second, .val (.long q1), .second, .val (.long q2), .second, .val (.int p3), .unset, .unset, .unset, .unset, .unset, .unset, .unset] [(.int (2147483647 : Int32)), (.int p3)]))
  refine own_go (fun _ k => XS.iand X0.here hx rfl (hb hby at_4) rfl k) ?_
  show own_Go p.tables e below _ (s₁.setTop (mkF m 5 #[.val (.long q0), .second, .val (.long q1), .second, .val (.long q2), .second, .val (.int p3), .unset, .unset, .unset, .unset, .unset, .unset, .unset] [(.int (p3 &&& (2147483647 : Int32)))]))
  refine own_go (fun _ k => XS.sipush X0.here hx rfl (hb hby at_5) k) ?_
  show own_Go p.tables e below _ (s₁.setTop (mkF m 8 #[.val (.long q0), .second, .val (.long q1), .second, .val (.long q2), .second, .val (.int p3), .unset, .unset, .unset, .unset, .unset, .unset, .unset] [(.int (192 : Int32)), (.int (p3 &&& (2147483647 : Int32)))]))
  refine own_go (fun _ k => XS.irem X0.here hx rfl (hb hby at_8) rfl (by decide) k) ?_
  show own_Go p.tables e below _ (s₁.setTop (mkF m 9 #[.val (.long q0), .second, .val (.long q1), .second, .val (.long q2), .second, .val (.int p3), .unset, .unset, .unset, .unset, .unset, .unset, .unset] [(.int ((p3 &&& (2147483647 : Int32)) - ((p3 &&& (2147483647 : Int32)) / (192 : Int32)) * (192 : Int32)))]))
  refine own_go (fun _ k => XS.istore X0.here hx rfl (hb hby at_9) rfl (l' := #[.val (.long q0), .second, .val (.long q1), .second, .val (.long q2), .second, .val (.int p3), .val (.int ((p3 &&& (2147483647 : Int32)) - ((p3 &&& (2147483647 : Int32)) / (192 : Int32)) * (192 : Int32))), .unset, .unset, .unset, .unset, .unset, .unset]) rfl k) ?_
  show own_Go p.tables e below _ (s₁.setTop (mkF m 11 #[.val (.long q0), .second, .val (.long q1), .second, .val (.long q2), .second, .val (.int p3), .val (.int ((p3 &&& (2147483647 : Int32)) - ((p3 &&& (2147483647 : Int32)) / (192 : Int32)) * (192 : Int32))), .unset, .unset, .unset, .unset, .unset, .unset] []))
  obtain ⟨vn, hvn⟩ : ∃ z : Int32, z = ((p3 &&& (2147483647 : Int32)) - ((p3 &&& (2147483647 : Int32)) / (192 : Int32)) * (192 : Int32)) := ⟨_, rfl⟩
  rw [← hvn]
  show own_Go p.tables e below _ (s₁.setTop (mkF m 11 #[.val (.long q0), .second, .val (.long q1), .second, .val (.long q2), .second, .val (.int p3), .val (.int vn), .unset, .unset, .unset, .unset, .unset, .unset] []))
  refine own_go (fun _ k => XS.iconst X0.here hx rfl (hb hby at_11) k) ?_
  show own_Go p.tables e below _ (s₁.setTop (mkF m 12 #[.val (.long q0), .second, .val (.long q1), .second, .val (.long q2), .second, .val (.int p3), .val (.int vn), .unset, .unset, .unset, .unset, .unset, .unset] [(.int (3 : Int32))]))
  obtain ⟨T1, h1, k1, X1, e1, E1, A1, st1⟩ := newP X0 hx hZ (hw _ (List.mem_of_getElem? (i := 1) rfl)) e0 (g := (mkF m 12 #[.val (.long q0), .second, .val (.long q1), .second, .val (.long q2), .second, .val (.int p3), .val (.int vn), .unset, .unset, .unset, .unset, .unset, .unset] [(.int (3 : Int32))])) rfl (hb hby at_12) rfl (by decide) (cap := 3) (by decide) (by decide) (by decide) (by decide)
  obtain ⟨b1, g1⟩ : ∃ z, z = h0.size := ⟨_, rfl⟩
  rw [← g1] at A1 st1
  have g_b1 : n0 ≤ b1 := Nat.le_trans Z0 (Nat.le_of_eq g1.symm)
  have Z1 : n0 ≤ h1.size := Nat.le_trans Z0 E1.1
  have V1 : Arv Z h1 b1 k1 .long (3 : Int32) [(.long (0 : Int64)), (.long (0 : Int64)), (.long (0 : Int64))] (.long (0 : Int64)) := (Arv.new A1 (by decide)).pad (pad_rep [] (.long (0 : Int64)) 3)
  refine own_go st1 ?_
  show own_Go p.tables e below _ (T1.setTop (mkF m 14 #[.val (.long q0), .second, .val (.long q1), .second, .val (.long q2), .second, .val (.int p3), .val (.int vn), .unset, .unset, .unset, .unset, .unset, .unset] [(.ref b1)]))
  refine own_go (fun _ k => XS.dup X1.here hx rfl (hb hby at_14) rfl rfl k) ?_
  show own_Go p.tables e below _ (T1.setTop (mkF m 15 #[.val (.long q0), .second, .val (.long q1), .second, .val (.long q2), .second, .val (.int p3), .val (.int vn), .unset, .unset, .unset, .unset, .unset, .unset] [(.ref b1), (.ref b1)]))
  refine own_go (fun _ k => XS.iconst X1.here hx rfl (hb hby at_15) k) ?_
  show own_Go p.tables e below _ (T1.setTop (mkF m 16 #[.val (.long q0), .second, .val (.long q1), .second, .val (.long q2), .second, .val (.int p3), .val (.int vn), .unset, .unset, .unset, .unset, .unset, .unset] [(.int (0 : Int32)), (.ref b1), (.ref b1)]))
  refine own_go (fun _ k => XS.lloadN X1.here hx rfl (hb hby at_16) rfl k) ?_
  show own_Go p.tables e below _ (T1.setTop (mkF m 17 #[.val (.long q0), .second, .val (.long q1), .second, .val (.long q2), .second, .val (.int p3), .val (.int vn), .unset, .unset, .unset, .unset, .unset, .unset] [(.long q0), (.int (0 : Int32)), (.ref b1), (.ref b1)]))
  have vo2 := V1
  obtain ⟨cl2, Ar2, Aq2, AS2, AN2, AH2, AG2⟩ := vo2
  have hin3 : ¬ ((0 : Int32) < 0 ∨ cl2.slots.size ≤ ((0 : Int32)).toNatClampNeg) := inb_of AS2 ⟨by decide, by decide⟩
  obtain ⟨T3, h3, X3, e3, W3, st3⟩ := stJ X1 hx hZ e1 Ar2 (j := (0 : Int32)) hin3 (g := (mkF m 17 #[.val (.long q0), .second, .val (.long q1), .second, .val (.long q2), .second, .val (.int p3), .val (.int vn), .unset, .unset, .unset, .unset, .unset, .unset] [(.long q0), (.int (0 : Int32)), (.ref b1), (.ref b1)])) rfl rfl (hb hby at_17)
  have V3 : Arv Z h3 b1 k1 .long (3 : Int32) [(.long q0), (.long (0 : Int64)), (.long (0 : Int64))] (.long (0 : Int64)) := Arv.set Ar2 Aq2 AS2 AN2 AH2 AG2 rfl W3 0 rfl (Nat.le_of_ble_eq_true rfl)
  have N3 := Fr.snoc X3 N0 g_b1
  have Z3 : n0 ≤ h3.size := Nat.le_trans Z1 (Keep.of_wr W3).1
  refine own_go st3 ?_
  show own_Go p.tables e below _ (T3.setTop (mkF m 18 #[.val (.long q0), .second, .val (.long q1), .second, .val (.long q2), .second, .val (.int p3), .val (.int vn), .unset, .unset, .unset, .unset, .unset, .unset] [(.ref b1)]))
  refine own_go (fun _ k => XS.dup X3.here hx rfl (hb hby at_18) rfl rfl k) ?_
  show own_Go p.tables e below _ (T3.setTop (mkF m 19 #[.val (.long q0), .second, .val (.long q1), .second, .val (.long q2), .second, .val (.int p3), .val (.int vn), .unset, .unset, .unset, .unset, .unset, .unset] [(.ref b1), (.ref b1)]))
  refine own_go (fun _ k => XS.iconst X3.here hx rfl (hb hby at_19) k) ?_
  show own_Go p.tables e below _ (T3.setTop (mkF m 20 #[.val (.long q0), .second, .val (.long q1), .second, .val (.long q2), .second, .val (.int p3), .val (.int vn), .unset, .unset, .unset, .unset, .unset, .unset] [(.int (1 : Int32)), (.ref b1), (.ref b1)]))
  refine own_go (fun _ k => XS.lloadN X3.here hx rfl (hb hby at_20) rfl k) ?_
  show own_Go p.tables e below _ (T3.setTop (mkF m 21 #[.val (.long q0), .second, .val (.long q1), .second, .val (.long q2), .second, .val (.int p3), .val (.int vn), .unset, .unset, .unset, .unset, .unset, .unset] [(.long q1), (.int (1 : Int32)), (.ref b1), (.ref b1)]))
  have vo4 := V3
  obtain ⟨cl4, Ar4, Aq4, AS4, AN4, AH4, AG4⟩ := vo4
  have hin5 : ¬ ((1 : Int32) < 0 ∨ cl4.slots.size ≤ ((1 : Int32)).toNatClampNeg) := inb_of AS4 ⟨by decide, by decide⟩
  obtain ⟨T5, h5, X5, e5, W5, st5⟩ := stJ X3 hx hZ e3 Ar4 (j := (1 : Int32)) hin5 (g := (mkF m 21 #[.val (.long q0), .second, .val (.long q1), .second, .val (.long q2), .second, .val (.int p3), .val (.int vn), .unset, .unset, .unset, .unset, .unset, .unset] [(.long q1), (.int (1 : Int32)), (.ref b1), (.ref b1)])) rfl rfl (hb hby at_21)
  have V5 : Arv Z h5 b1 k1 .long (3 : Int32) [(.long q0), (.long q1), (.long (0 : Int64))] (.long (0 : Int64)) := Arv.set Ar4 Aq4 AS4 AN4 AH4 AG4 rfl W5 1 rfl (Nat.le_of_ble_eq_true rfl)
  have N5 := Fr.snoc X5 N3 g_b1
  have Z5 : n0 ≤ h5.size := Nat.le_trans Z3 (Keep.of_wr W5).1
  refine own_go st5 ?_
  show own_Go p.tables e below _ (T5.setTop (mkF m 22 #[.val (.long q0), .second, .val (.long q1), .second, .val (.long q2), .second, .val (.int p3), .val (.int vn), .unset, .unset, .unset, .unset, .unset, .unset] [(.ref b1)]))
  refine own_go (fun _ k => XS.dup X5.here hx rfl (hb hby at_22) rfl rfl k) ?_
  show own_Go p.tables e below _ (T5.setTop (mkF m 23 #[.val (.long q0), .second, .val (.long q1), .second, .val (.long q2), .second, .val (.int p3), .val (.int vn), .unset, .unset, .unset, .unset, .unset, .unset] [(.ref b1), (.ref b1)]))
  refine own_go (fun _ k => XS.iconst X5.here hx rfl (hb hby at_23) k) ?_
  show own_Go p.tables e below _ (T5.setTop (mkF m 24 #[.val (.long q0), .second, .val (.long q1), .second, .val (.long q2), .second, .val (.int p3), .val (.int vn), .unset, .unset, .unset, .unset, .unset, .unset] [(.int (2 : Int32)), (.ref b1), (.ref b1)]))
  refine own_go (fun _ k => XS.lload X5.here hx rfl (hb hby at_24) rfl k) ?_
  show own_Go p.tables e below _ (T5.setTop (mkF m 26 #[.val (.long q0), .second, .val (.long q1), .second, .val (.long q2), .second, .val (.int p3), .val (.int vn), .unset, .unset, .unset, .unset, .unset, .unset] [(.long q2), (.int (2 : Int32)), (.ref b1), (.ref b1)]))
  have vo6 := V5
  obtain ⟨cl6, Ar6, Aq6, AS6, AN6, AH6, AG6⟩ := vo6
  have hin7 : ¬ ((2 : Int32) < 0 ∨ cl6.slots.size ≤ ((2 : Int32)).toNatClampNeg) := inb_of AS6 ⟨by decide, by decide⟩
  obtain ⟨T7, h7, X7, e7, W7, st7⟩ := stJ X5 hx hZ e5 Ar6 (j := (2 : Int32)) hin7 (g := (mkF m 26 #[.val (.long q0), .second, .val (.long q1), .second, .val (.long q2), .second, .val (.int p3), .val (.int vn), .unset, .unset, .unset, .unset, .unset, .unset] [(.long q2), (.int (2 : Int32)), (.ref b1), (.ref b1)])) rfl rfl (hb hby at_26)
  have V7 : Arv Z h7 b1 k1 .long (3 : Int32) [(.long q0), (.long q1), (.long q2)] (.long (0 : Int64)) := Arv.set Ar6 Aq6 AS6 AN6 AH6 AG6 rfl W7 2 rfl (Nat.le_of_ble_eq_true rfl)
  have N7 := Fr.snoc X7 N5 g_b1
  have Z7 : n0 ≤ h7.size := Nat.le_trans Z5 (Keep.of_wr W7).1
  refine own_go st7 ?_
  show own_Go p.tables e below _ (T7.setTop (mkF m 27 #[.val (.long q0), .second, .val (.long q1), .second, .val (.long q2), .second, .val (.int p3), .val (.int vn), .unset, .unset, .unset, .unset, .unset, .unset] [(.ref b1)]))
  refine own_go (fun _ k => XS.astore X7.here hx rfl (hb hby at_27) rfl rfl (l' := #[.val (.long q0), .second, .val (.long q1), .second, .val (.long q2), .second, .val (.int p3), .val (.int vn), .val (.ref b1), .unset, .unset, .unset, .unset, .unset]) rfl k) ?_
  show own_Go p.tables e below _ (T7.setTop (mkF m 29 #[.val (.long q0), .second, .val (.long q1), .second, .val (.long q2), .second, .val (.int p3), .val (.int vn), .val (.ref b1), .unset, .unset, .unset, .unset, .unset] []))
  refine own_go (fun _ k => XS.aload X7.here hx rfl (hb hby at_29) rfl rfl k) ?_
  show own_Go p.tables e below _ (T7.setTop (mkF m 31 #[.val (.long q0), .second, .val (.long q1), .second, .val (.long q2), .second, .val (.int p3), .val (.int vn), .val (.ref b1), .unset, .unset, .unset, .unset, .unset] [(.ref b1)]))
  refine own_go (fun _ k => XS.iload X7.here hx rfl (hb hby at_31) rfl k) ?_
  show own_Go p.tables e below _ (T7.setTop (mkF m 33 #[.val (.long q0), .second, .val (.long q1), .second, .val (.long q2), .second, .val (.int p3), .val (.int vn), .val (.ref b1), .unset, .unset, .unset, .unset, .unset] [(.int vn), (.ref b1)]))
  obtain ⟨_, _, ⟨T8, L8, k8, n8⟩, -, X8, ⟨Lc8, hQ8, l8, y8, z8⟩, st8⟩ := Jvm.LawKit.callS X7 hx (y := (⟨"com/example/meshwright/meshwright/plan/PathCrossings", "has", "([JI)Z"⟩ : MethodName)) hown (mvT hZ (hw _ (List.mem_of_getElem? (i := 2) rfl))) (mvT hZ (hw _ (List.mem_of_getElem? (i := 3) rfl))) (mvT hZ (hw _ (List.mem_of_getElem? (i := 4) rfl))) (mvT hZ (hw _ (List.mem_of_getElem? (i := 5) rfl))) (by decide) (backOf (W := 0) (rm1 l Z az hw [] b1 vn k1 (3 : Int32) [q0, q1, q2] h7 n0 Z7 V7 (own_ix (own_rng hvn)).1 (own_ix (own_rng hvn)).2) hZ (hw _ (List.mem_of_getElem? (i := 5) rfl)) (hw _ (List.mem_of_getElem? (i := 4) rfl)) (by decide) (by decide)) (g := (mkF m 33 #[.val (.long q0), .second, .val (.long q1), .second, .val (.long q2), .second, .val (.int p3), .val (.int vn), .val (.ref b1), .unset, .unset, .unset, .unset, .unset] [(.int vn), (.ref b1)])) rfl (by rw [hml]; rfl) (argsL := [(.ref b1), (.int vn)]) (rest := []) (lenOf pd0_0 rfl) rfl (by show 2 * 0 + _ ≤ _; exact Nat.le_of_eq rfl) (hb hby at_33) (fun _ _ => ⟨rfl, e7, (by decide : 1 + 0 ≤ _), (by decide : 3 + 0 ≤ _)⟩)
  dsimp only [Pt.U, Pt.locs, Pt.cells, Pt.slots] at X8 l8 y8 z8 st8 hQ8
  subst l8 y8 z8
  refine own_go st8 ?_
  obtain ⟨rfl, N8q, e8⟩ := hQ8
  have N8 := Fr.app N7 N8q
  show own_Go p.tables e below _ (T8.setTop (mkF m 36 #[.val (.long q0), .second, .val (.long q1), .second, .val (.long q2), .second, .val (.int p3), .val (.int vn), .val (.ref b1), .unset, .unset, .unset, .unset, .unset] [(.int (own_f1 vn [q0, q1, q2]))]))
  refine own_go (fun _ k => XS.istore X8.here hx rfl (hb hby at_36) rfl (l' := #[.val (.long q0), .second, .val (.long q1), .second, .val (.long q2), .second, .val (.int p3), .val (.int vn), .val (.ref b1), .val (.int (own_f1 vn [q0, q1, q2])), .unset, .unset, .unset, .unset]) rfl k) ?_
  show own_Go p.tables e below _ (T8.setTop (mkF m 38 #[.val (.long q0), .second, .val (.long q1), .second, .val (.long q2), .second, .val (.int p3), .val (.int vn), .val (.ref b1), .val (.int (own_f1 vn [q0, q1, q2])), .unset, .unset, .unset, .unset] []))
  refine own_go (fun _ k => XS.iload X8.here hx rfl (hb hby at_38) rfl k) ?_
  show own_Go p.tables e below _ (T8.setTop (mkF m 40 #[.val (.long q0), .second, .val (.long q1), .second, .val (.long q2), .second, .val (.int p3), .val (.int vn), .val (.ref b1), .val (.int (own_f1 vn [q0, q1, q2])), .unset, .unset, .unset, .unset] [(.int vn)]))
  refine own_go (fun _ k => XS.bipush X8.here hx rfl (hb hby at_40) k) ?_
  show own_Go p.tables e below _ (T8.setTop (mkF m 42 #[.val (.long q0), .second, .val (.long q1), .second, .val (.long q2), .second, .val (.int p3), .val (.int vn), .val (.ref b1), .val (.int (own_f1 vn [q0, q1, q2])), .unset, .unset, .unset, .unset] [(.int (64 : Int32)), (.int vn)]))
  have sg9 : ∀ t, Steps p.tables e below (T8.setTop (mkF m 88 #[.val (.long q0), .second, .val (.long q1), .second, .val (.long q2), .second, .val (.int p3), .val (.int vn), .val (.ref b1), .val (.int (own_f1 vn [q0, q1, q2])), .val (.long (if vn < (64 : Int32) then q0 else (if vn < (128 : Int32) then q1 else q2))), .second, .val (.int (if vn < (64 : Int32) then vn else (if vn < (128 : Int32) then (vn - (64 : Int32)) else (vn - (128 : Int32))))), .unset] [])) t → Steps p.tables e below (T8.setTop (mkF m 42 #[.val (.long q0), .second, .val (.long q1), .second, .val (.long q2), .second, .val (.int p3), .val (.int vn), .val (.ref b1), .val (.int (own_f1 vn [q0, q1, q2])), .unset, .unset, .unset, .unset] [(.int (64 : Int32)), (.int vn)])) t := by
    intro t k
    by_cases hc42 : vn < (64 : Int32)
    · try simp only [if_pos hc42] at k
      refine XS.icmpNo X8.here hx rfl (hb hby at_42) rfl (tlt hc42).2.1 ?_
      show Steps p.tables e below (T8.setTop (mkF m 45 #[.val (.long q0), .second, .val (.long q1), .second, .val (.long q2), .second, .val (.int p3), .val (.int vn), .val (.ref b1), .val (.int (own_f1 vn [q0, q1, q2])), .unset, .unset, .unset, .unset] [])) _
      refine XS.lloadN X8.here hx rfl (hb hby at_45) rfl ?_
      show Steps p.tables e below (T8.setTop (mkF m 46 #[.val (.long q0), .second, .val (.long q1), .second, .val (.long q2), .second, .val (.int p3), .val (.int vn), .val (.ref b1), .val (.int (own_f1 vn [q0, q1, q2])), .unset, .unset, .unset, .unset] [(.long q0)])) _
      refine XS.lstore X8.here hx rfl (hb hby at_46) rfl (l' := #[.val (.long q0), .second, .val (.long q1), .second, .val (.long q2), .second, .val (.int p3), .val (.int vn), .val (.ref b1), .val (.int (own_f1 vn [q0, q1, q2])), .val (.long q0), .second, .unset, .unset]) rfl ?_
      show Steps p.tables e below (T8.setTop (mkF m 48 #[.val (.long q0), .second, .val (.long q1), .second, .val (.long q2), .second, .val (.int p3), .val (.int vn), .val (.ref b1), .val (.int (own_f1 vn [q0, q1, q2])), .val (.long q0), .second, .unset, .unset] [])) _
      refine XS.iload X8.here hx rfl (hb hby at_48) rfl ?_
      show Steps p.tables e below (T8.setTop (mkF m 50 #[.val (.long q0), .second, .val (.long q1), .second, .val (.long q2), .second, .val (.int p3), .val (.int vn), .val (.ref b1), .val (.int (own_f1 vn [q0, q1, q2])), .val (.long q0), .second, .unset, .unset] [(.int vn)])) _
      refine XS.istore X8.here hx rfl (hb hby at_50) rfl (l' := #[.val (.long q0), .second, .val (.long q1), .second, .val (.long q2), .second, .val (.int p3), .val (.int vn), .val (.ref b1), .val (.int (own_f1 vn [q0, q1, q2])), .val (.long q0), .second, .val (.int vn), .unset]) rfl ?_
      show Steps p.tables e below (T8.setTop (mkF m 52 #[.val (.long q0), .second, .val (.long q1), .second, .val (.long q2), .second, .val (.int p3), .val (.int vn), .val (.ref b1), .val (.int (own_f1 vn [q0, q1, q2])), .val (.long q0), .second, .val (.int vn), .unset] [])) _
      refine XS.goto X8.here hx rfl (pc0 := 52) (pc' := 88) rfl (hb hby at_52) (by decide) (by decide) ?_
      show Steps p.tables e below (T8.setTop (mkF m 88 #[.val (.long q0), .second, .val (.long q1), .second, .val (.long q2), .second, .val (.int p3), .val (.int vn), .val (.ref b1), .val (.int (own_f1 vn [q0, q1, q2])), .val (.long q0), .second, .val (.int vn), .unset] [])) _
      exact k
    · try simp only [if_neg hc42] at k
      refine XS.icmpYes X8.here hx rfl (pc0 := 42) (pc' := 55) rfl (hb hby at_42) rfl (flt hc42).2.1 (by decide) (by decide) ?_
      show Steps p.tables e below (T8.setTop (mkF m 55 #[.val (.long q0), .second, .val (.long q1), .second, .val (.long q2), .second, .val (.int p3), .val (.int vn), .val (.ref b1), .val (.int (own_f1 vn [q0, q1, q2])), .unset, .unset, .unset, .unset] [])) _
      refine XS.iload X8.here hx rfl (hb hby at_55) rfl ?_
      show Steps p.tables e below (T8.setTop (mkF m 57 #[.val (.long q0), .second, .val (.long q1), .second, .val (.long q2), .second, .val (.int p3), .val (.int vn), .val (.ref b1), .val (.int (own_f1 vn [q0, q1, q2])), .unset, .unset, .unset, .unset] [(.int vn)])) _
      refine XS.sipush X8.here hx rfl (hb hby at_57) ?_
      show Steps p.tables e below (T8.setTop (mkF m 60 #[.val (.long q0), .second, .val (.long q1), .second, .val (.long q2), .second, .val (.int p3), .val (.int vn), .val (.ref b1), .val (.int (own_f1 vn [q0, q1, q2])), .unset, .unset, .unset, .unset] [(.int (128 : Int32)), (.int vn)])) _
      by_cases hc60 : vn < (128 : Int32)
      · try simp only [if_pos hc60] at k
        refine XS.icmpNo X8.here hx rfl (hb hby at_60) rfl (tlt hc60).2.1 ?_
        show Steps p.tables e below (T8.setTop (mkF m 63 #[.val (.long q0), .second, .val (.long q1), .second, .val (.long q2), .second, .val (.int p3), .val (.int vn), .val (.ref b1), .val (.int (own_f1 vn [q0, q1, q2])), .unset, .unset, .unset, .unset] [])) _
        refine XS.lloadN X8.here hx rfl (hb hby at_63) rfl ?_
        show Steps p.tables e below (T8.setTop (mkF m 64 #[.val (.long q0), .second, .val (.long q1), .second, .val (.long q2), .second, .val (.int p3), .val (.int vn), .val (.ref b1), .val (.int (own_f1 vn [q0, q1, q2])), .unset, .unset, .unset, .unset] [(.long q1)])) _
        refine XS.lstore X8.here hx rfl (hb hby at_64) rfl (l' := #[.val (.long q0), .second, .val (.long q1), .second, .val (.long q2), .second, .val (.int p3), .val (.int vn), .val (.ref b1), .val (.int (own_f1 vn [q0, q1, q2])), .val (.long q1), .second, .unset, .unset]) rfl ?_
        show Steps p.tables e below (T8.setTop (mkF m 66 #[.val (.long q0), .second, .val (.long q1), .second, .val (.long q2), .second, .val (.int p3), .val (.int vn), .val (.ref b1), .val (.int (own_f1 vn [q0, q1, q2])), .val (.long q1), .second, .unset, .unset] [])) _
        refine XS.iload X8.here hx rfl (hb hby at_66) rfl ?_
        show Steps p.tables e below (T8.setTop (mkF m 68 #[.val (.long q0), .second, .val (.long q1), .second, .val (.long q2), .second, .val (.int p3), .val (.int vn), .val (.ref b1), .val (.int (own_f1 vn [q0, q1, q2])), .val (.long q1), .second, .unset, .unset] [(.int vn)])) _
        refine XS.bipush X8.here hx rfl (hb hby at_68) ?_
        show Steps p.tables e below (T8.setTop (mkF m 70 #[.val (.long q0), .second, .val (.long q1), .second, .val (.long q2), .second, .val (.int p3), .val (.int vn), .val (.ref b1), .val (.int (own_f1 vn [q0, q1, q2])), .val (.long q1), .second, .unset, .unset] [(.int (64 : Int32)), (.int vn)])) _
        refine XS.isub X8.here hx rfl (hb hby at_70) rfl ?_
        show Steps p.tables e below (T8.setTop (mkF m 71 #[.val (.long q0), .second, .val (.long q1), .second, .val (.long q2), .second, .val (.int p3), .val (.int vn), .val (.ref b1), .val (.int (own_f1 vn [q0, q1, q2])), .val (.long q1), .second, .unset, .unset] [(.int (vn - (64 : Int32)))])) _
        refine XS.istore X8.here hx rfl (hb hby at_71) rfl (l' := #[.val (.long q0), .second, .val (.long q1), .second, .val (.long q2), .second, .val (.int p3), .val (.int vn), .val (.ref b1), .val (.int (own_f1 vn [q0, q1, q2])), .val (.long q1), .second, .val (.int (vn - (64 : Int32))), .unset]) rfl ?_
        show Steps p.tables e below (T8.setTop (mkF m 73 #[.val (.long q0), .second, .val (.long q1), .second, .val (.long q2), .second, .val (.int p3), .val (.int vn), .val (.ref b1), .val (.int (own_f1 vn [q0, q1, q2])), .val (.long q1), .second, .val (.int (vn - (64 : Int32))), .unset] [])) _
        refine XS.goto X8.here hx rfl (pc0 := 73) (pc' := 88) rfl (hb hby at_73) (by decide) (by decide) ?_
        show Steps p.tables e below (T8.setTop (mkF m 88 #[.val (.long q0), .second, .val (.long q1), .second, .val (.long q2), .second, .val (.int p3), .val (.int vn), .val (.ref b1), .val (.int (own_f1 vn [q0, q1, q2])), .val (.long q1), .second, .val (.int (vn - (64 : Int32))), .unset] [])) _
        exact k
      · try simp only [if_neg hc60] at k
        refine XS.icmpYes X8.here hx rfl (pc0 := 60) (pc' := 76) rfl (hb hby at_60) rfl (flt hc60).2.1 (by decide) (by decide) ?_
        show Steps p.tables e below (T8.setTop (mkF m 76 #[.val (.long q0), .second, .val (.long q1), .second, .val (.long q2), .second, .val (.int p3), .val (.int vn), .val (.ref b1), .val (.int (own_f1 vn [q0, q1, q2])), .unset, .unset, .unset, .unset] [])) _
        refine XS.lload X8.here hx rfl (hb hby at_76) rfl ?_
        show Steps p.tables e below (T8.setTop (mkF m 78 #[.val (.long q0), .second, .val (.long q1), .second, .val (.long q2), .second, .val (.int p3), .val (.int vn), .val (.ref b1), .val (.int (own_f1 vn [q0, q1, q2])), .unset, .unset, .unset, .unset] [(.long q2)])) _
        refine XS.lstore X8.here hx rfl (hb hby at_78) rfl (l' := #[.val (.long q0), .second, .val (.long q1), .second, .val (.long q2), .second, .val (.int p3), .val (.int vn), .val (.ref b1), .val (.int (own_f1 vn [q0, q1, q2])), .val (.long q2), .second, .unset, .unset]) rfl ?_
        show Steps p.tables e below (T8.setTop (mkF m 80 #[.val (.long q0), .second, .val (.long q1), .second, .val (.long q2), .second, .val (.int p3), .val (.int vn), .val (.ref b1), .val (.int (own_f1 vn [q0, q1, q2])), .val (.long q2), .second, .unset, .unset] [])) _
        refine XS.iload X8.here hx rfl (hb hby at_80) rfl ?_
        show Steps p.tables e below (T8.setTop (mkF m 82 #[.val (.long q0), .second, .val (.long q1), .second, .val (.long q2), .second, .val (.int p3), .val (.int vn), .val (.ref b1), .val (.int (own_f1 vn [q0, q1, q2])), .val (.long q2), .second, .unset, .unset] [(.int vn)])) _
        refine XS.sipush X8.here hx rfl (hb hby at_82) ?_
        show Steps p.tables e below (T8.setTop (mkF m 85 #[.val (.long q0), .second, .val (.long q1), .second, .val (.long q2), .second, .val (.int p3), .val (.int vn), .val (.ref b1), .val (.int (own_f1 vn [q0, q1, q2])), .val (.long q2), .second, .unset, .unset] [(.int (128 : Int32)), (.int vn)])) _
        refine XS.isub X8.here hx rfl (hb hby at_85) rfl ?_
        show Steps p.tables e below (T8.setTop (mkF m 86 #[.val (.long q0), .second, .val (.long q1), .second, .val (.long q2), .second, .val (.int p3), .val (.int vn), .val (.ref b1), .val (.int (own_f1 vn [q0, q1, q2])), .val (.long q2), .second, .unset, .unset] [(.int (vn - (128 : Int32)))])) _
        refine XS.istore X8.here hx rfl (hb hby at_86) rfl (l' := #[.val (.long q0), .second, .val (.long q1), .second, .val (.long q2), .second, .val (.int p3), .val (.int vn), .val (.ref b1), .val (.int (own_f1 vn [q0, q1, q2])), .val (.long q2), .second, .val (.int (vn - (128 : Int32))), .unset]) rfl ?_
        show Steps p.tables e below (T8.setTop (mkF m 88 #[.val (.long q0), .second, .val (.long q1), .second, .val (.long q2), .second, .val (.int p3), .val (.int vn), .val (.ref b1), .val (.int (own_f1 vn [q0, q1, q2])), .val (.long q2), .second, .val (.int (vn - (128 : Int32))), .unset] [])) _
        exact k
  refine own_go sg9 ?_
  show own_Go p.tables e below _ (T8.setTop (mkF m 88 #[.val (.long q0), .second, .val (.long q1), .second, .val (.long q2), .second, .val (.int p3), .val (.int vn), .val (.ref b1), .val (.int (own_f1 vn [q0, q1, q2])), .val (.long (if vn < (64 : Int32) then q0 else (if vn < (128 : Int32) then q1 else q2))), .second, .val (.int (if vn < (64 : Int32) then vn else (if vn < (128 : Int32) then (vn - (64 : Int32)) else (vn - (128 : Int32))))), .unset] []))
  refine own_go (fun _ k => XS.lload X8.here hx rfl (hb hby at_88) rfl k) ?_
  show own_Go p.tables e below _ (T8.setTop (mkF m 90 #[.val (.long q0), .second, .val (.long q1), .second, .val (.long q2), .second, .val (.int p3), .val (.int vn), .val (.ref b1), .val (.int (own_f1 vn [q0, q1, q2])), .val (.long (if vn < (64 : Int32) then q0 else (if vn < (128 : Int32) then q1 else q2))), .second, .val (.int (if vn < (64 : Int32) then vn else (if vn < (128 : Int32) then (vn - (64 : Int32)) else (vn - (128 : Int32))))), .unset] [(.long (if vn < (64 : Int32) then q0 else (if vn < (128 : Int32) then q1 else q2)))]))
  refine own_go (fun _ k => XS.iload X8.here hx rfl (hb hby at_90) rfl k) ?_
  show own_Go p.tables e below _ (T8.setTop (mkF m 92 #[.val (.long q0), .second, .val (.long q1), .second, .val (.long q2), .second, .val (.int p3), .val (.int vn), .val (.ref b1), .val (.int (own_f1 vn [q0, q1, q2])), .val (.long (if vn < (64 : Int32) then q0 else (if vn < (128 : Int32) then q1 else q2))), .second, .val (.int (if vn < (64 : Int32) then vn else (if vn < (128 : Int32) then (vn - (64 : Int32)) else (vn - (128 : Int32))))), .unset] [(.int (if vn < (64 : Int32) then vn else (if vn < (128 : Int32) then (vn - (64 : Int32)) else (vn - (128 : Int32))))), (.long (if vn < (64 : Int32) then q0 else (if vn < (128 : Int32) then q1 else q2)))]))
  refine own_go (fun _ k => XS.lushr X8.here hx rfl (hb hby at_92) rfl k) ?_
  show own_Go p.tables e below _ (T8.setTop (mkF m 93 #[.val (.long q0), .second, .val (.long q1), .second, .val (.long q2), .second, .val (.int p3), .val (.int vn), .val (.ref b1), .val (.int (own_f1 vn [q0, q1, q2])), .val (.long (if vn < (64 : Int32) then q0 else (if vn < (128 : Int32) then q1 else q2))), .second, .val (.int (if vn < (64 : Int32) then vn else (if vn < (128 : Int32) then (vn - (64 : Int32)) else (vn - (128 : Int32))))), .unset] [(.long (((if vn < (64 : Int32) then q0 else (if vn < (128 : Int32) then q1 else q2)).toUInt64 >>> ((if vn < (64 : Int32) then vn else (if vn < (128 : Int32) then (vn - (64 : Int32)) else (vn - (128 : Int32)))) &&& 0x3f).toInt64.toUInt64).toInt64))]))
  refine own_go (fun _ k => XS.lconst X8.here hx rfl (hb hby at_93) k) ?_
  show own_Go p.tables e below _ (T8.setTop (mkF m 94 #[.val (.long q0), .second, .val (.long q1), .second, .val (.long q2), .second, .val (.int p3), .val (.int vn), .val (.ref b1), .val (.int (own_f1 vn [q0, q1, q2])), .val (.long (if vn < (64 : Int32) then q0 else (if vn < (128 : Int32) then q1 else q2))), .second, .val (.int (if vn < (64 : Int32) then vn else (if vn < (128 : Int32) then (vn - (64 : Int32)) else (vn - (128 : Int32))))), .unset] [(.long (1 : Int64)), (.long (((if vn < (64 : Int32) then q0 else (if vn < (128 : Int32) then q1 else q2)).toUInt64 >>> ((if vn < (64 : Int32) then vn else (if vn < (128 : Int32) then (vn - (64 : Int32)) else (vn - (128 : Int32)))) &&& 0x3f).toInt64.toUInt64).toInt64))]))
  refine own_go (fun _ k => XS.land X8.here hx rfl (hb hby at_94) rfl k) ?_
  show own_Go p.tables e below _ (T8.setTop (mkF m 95 #[.val (.long q0), .second, .val (.long q1), .second, .val (.long q2), .second, .val (.int p3), .val (.int vn), .val (.ref b1), .val (.int (own_f1 vn [q0, q1, q2])), .val (.long (if vn < (64 : Int32) then q0 else (if vn < (128 : Int32) then q1 else q2))), .second, .val (.int (if vn < (64 : Int32) then vn else (if vn < (128 : Int32) then (vn - (64 : Int32)) else (vn - (128 : Int32))))), .unset] [(.long ((((if vn < (64 : Int32) then q0 else (if vn < (128 : Int32) then q1 else q2)).toUInt64 >>> ((if vn < (64 : Int32) then vn else (if vn < (128 : Int32) then (vn - (64 : Int32)) else (vn - (128 : Int32)))) &&& 0x3f).toInt64.toUInt64).toInt64) &&& (1 : Int64)))]))
  refine own_go (fun _ k => XS.lconst X8.here hx rfl (hb hby at_95) k) ?_
  show own_Go p.tables e below _ (T8.setTop (mkF m 96 #[.val (.long q0), .second, .val (.long q1), .second, .val (.long q2), .second, .val (.int p3), .val (.int vn), .val (.ref b1), .val (.int (own_f1 vn [q0, q1, q2])), .val (.long (if vn < (64 : Int32) then q0 else (if vn < (128 : Int32) then q1 else q2))), .second, .val (.int (if vn < (64 : Int32) then vn else (if vn < (128 : Int32) then (vn - (64 : Int32)) else (vn - (128 : Int32))))), .unset] [(.long (1 : Int64)), (.long ((((if vn < (64 : Int32) then q0 else (if vn < (128 : Int32) then q1 else q2)).toUInt64 >>> ((if vn < (64 : Int32) then vn else (if vn < (128 : Int32) then (vn - (64 : Int32)) else (vn - (128 : Int32)))) &&& 0x3f).toInt64.toUInt64).toInt64) &&& (1 : Int64)))]))
  refine own_go (fun _ k => XS.lcmp X8.here hx rfl (hb hby at_96) rfl k) ?_
  show own_Go p.tables e below _ (T8.setTop (mkF m 97 #[.val (.long q0), .second, .val (.long q1), .second, .val (.long q2), .second, .val (.int p3), .val (.int vn), .val (.ref b1), .val (.int (own_f1 vn [q0, q1, q2])), .val (.long (if vn < (64 : Int32) then q0 else (if vn < (128 : Int32) then q1 else q2))), .second, .val (.int (if vn < (64 : Int32) then vn else (if vn < (128 : Int32) then (vn - (64 : Int32)) else (vn - (128 : Int32))))), .unset] [(.int (lcmpW ((((if vn < (64 : Int32) then q0 else (if vn < (128 : Int32) then q1 else q2)).toUInt64 >>> ((if vn < (64 : Int32) then vn else (if vn < (128 : Int32) then (vn - (64 : Int32)) else (vn - (128 : Int32)))) &&& 0x3f).toInt64.toUInt64).toInt64) &&& (1 : Int64)) (1 : Int64)))]))
  have sg10 : ∀ t, Steps p.tables e below (T8.setTop (mkF m 105 #[.val (.long q0), .second, .val (.long q1), .second, .val (.long q2), .second, .val (.int p3), .val (.int vn), .val (.ref b1), .val (.int (own_f1 vn [q0, q1, q2])), .val (.long (if vn < (64 : Int32) then q0 else (if vn < (128 : Int32) then q1 else q2))), .second, .val (.int (if vn < (64 : Int32) then vn else (if vn < (128 : Int32) then (vn - (64 : Int32)) else (vn - (128 : Int32))))), .unset] [(.int (if ((((if vn < (64 : Int32) then q0 else (if vn < (128 : Int32) then q1 else q2)).toUInt64 >>> ((if vn < (64 : Int32) then vn else (if vn < (128 : Int32) then (vn - (64 : Int32)) else (vn - (128 : Int32)))) &&& 0x3f).toInt64.toUInt64).toInt64) &&& (1 : Int64)) = (1 : Int64) then (1 : Int32) else (0 : Int32)))])) t → Steps p.tables e below (T8.setTop (mkF m 97 #[.val (.long q0), .second, .val (.long q1), .second, .val (.long q2), .second, .val (.int p3), .val (.int vn), .val (.ref b1), .val (.int (own_f1 vn [q0, q1, q2])), .val (.long (if vn < (64 : Int32) then q0 else (if vn < (128 : Int32) then q1 else q2))), .second, .val (.int (if vn < (64 : Int32) then vn else (if vn < (128 : Int32) then (vn - (64 : Int32)) else (vn - (128 : Int32))))), .unset] [(.int (lcmpW ((((if vn < (64 : Int32) then q0 else (if vn < (128 : Int32) then q1 else q2)).toUInt64 >>> ((if vn < (64 : Int32) then vn else (if vn < (128 : Int32) then (vn - (64 : Int32)) else (vn - (128 : Int32)))) &&& 0x3f).toInt64.toUInt64).toInt64) &&& (1 : Int64)) (1 : Int64)))])) t := by
    intro t k
    by_cases hc97 : ((((if vn < (64 : Int32) then q0 else (if vn < (128 : Int32) then q1 else q2)).toUInt64 >>> ((if vn < (64 : Int32) then vn else (if vn < (128 : Int32) then (vn - (64 : Int32)) else (vn - (128 : Int32)))) &&& 0x3f).toInt64.toUInt64).toInt64) &&& (1 : Int64)) = (1 : Int64)
    · try simp only [if_pos hc97] at k
      refine XS.ifNo X8.here hx rfl (hb hby at_97) rfl ((if0 _ _).trans (teq ((lw_eq ((((if vn < (64 : Int32) then q0 else (if vn < (128 : Int32) then q1 else q2)).toUInt64 >>> ((if vn < (64 : Int32) then vn else (if vn < (128 : Int32) then (vn - (64 : Int32)) else (vn - (128 : Int32)))) &&& 0x3f).toInt64.toUInt64).toInt64) &&& (1 : Int64)) (1 : Int64)).mpr hc97)).2) ?_
      show Steps p.tables e below (T8.setTop (mkF m 100 #[.val (.long q0), .second, .val (.long q1), .second, .val (.long q2), .second, .val (.int p3), .val (.int vn), .val (.ref b1), .val (.int (own_f1 vn [q0, q1, q2])), .val (.long (if vn < (64 : Int32) then q0 else (if vn < (128 : Int32) then q1 else q2))), .second, .val (.int (if vn < (64 : Int32) then vn else (if vn < (128 : Int32) then (vn - (64 : Int32)) else (vn - (128 : Int32))))), .unset] [])) _
      refine XS.iconst X8.here hx rfl (hb hby at_100) ?_
      show Steps p.tables e below (T8.setTop (mkF m 101 #[.val (.long q0), .second, .val (.long q1), .second, .val (.long q2), .second, .val (.int p3), .val (.int vn), .val (.ref b1), .val (.int (own_f1 vn [q0, q1, q2])), .val (.long (if vn < (64 : Int32) then q0 else (if vn < (128 : Int32) then q1 else q2))), .second, .val (.int (if vn < (64 : Int32) then vn else (if vn < (128 : Int32) then (vn - (64 : Int32)) else (vn - (128 : Int32))))), .unset] [(.int (1 : Int32))])) _
      refine XS.goto X8.here hx rfl (pc0 := 101) (pc' := 105) rfl (hb hby at_101) (by decide) (by decide) ?_
      show Steps p.tables e below (T8.setTop (mkF m 105 #[.val (.long q0), .second, .val (.long q1), .second, .val (.long q2), .second, .val (.int p3), .val (.int vn), .val (.ref b1), .val (.int (own_f1 vn [q0, q1, q2])), .val (.long (if vn < (64 : Int32) then q0 else (if vn < (128 : Int32) then q1 else q2))), .second, .val (.int (if vn < (64 : Int32) then vn else (if vn < (128 : Int32) then (vn - (64 : Int32)) else (vn - (128 : Int32))))), .unset] [(.int (1 : Int32))])) _
      exact k
    · try simp only [if_neg hc97] at k
      refine XS.ifYes X8.here hx rfl (pc0 := 97) (pc' := 104) rfl (hb hby at_97) rfl ((if0 _ _).trans (feq (mt (lw_eq ((((if vn < (64 : Int32) then q0 else (if vn < (128 : Int32) then q1 else q2)).toUInt64 >>> ((if vn < (64 : Int32) then vn else (if vn < (128 : Int32) then (vn - (64 : Int32)) else (vn - (128 : Int32)))) &&& 0x3f).toInt64.toUInt64).toInt64) &&& (1 : Int64)) (1 : Int64)).mp hc97)).2) (by decide) (by decide) ?_
      show Steps p.tables e below (T8.setTop (mkF m 104 #[.val (.long q0), .second, .val (.long q1), .second, .val (.long q2), .second, .val (.int p3), .val (.int vn), .val (.ref b1), .val (.int (own_f1 vn [q0, q1, q2])), .val (.long (if vn < (64 : Int32) then q0 else (if vn < (128 : Int32) then q1 else q2))), .second, .val (.int (if vn < (64 : Int32) then vn else (if vn < (128 : Int32) then (vn - (64 : Int32)) else (vn - (128 : Int32))))), .unset] [])) _
      refine XS.iconst X8.here hx rfl (hb hby at_104) ?_
      show Steps p.tables e below (T8.setTop (mkF m 105 #[.val (.long q0), .second, .val (.long q1), .second, .val (.long q2), .second, .val (.int p3), .val (.int vn), .val (.ref b1), .val (.int (own_f1 vn [q0, q1, q2])), .val (.long (if vn < (64 : Int32) then q0 else (if vn < (128 : Int32) then q1 else q2))), .second, .val (.int (if vn < (64 : Int32) then vn else (if vn < (128 : Int32) then (vn - (64 : Int32)) else (vn - (128 : Int32))))), .unset] [(.int (0 : Int32))])) _
      exact k
  refine own_go sg10 ?_
  show own_Go p.tables e below _ (T8.setTop (mkF m 105 #[.val (.long q0), .second, .val (.long q1), .second, .val (.long q2), .second, .val (.int p3), .val (.int vn), .val (.ref b1), .val (.int (own_f1 vn [q0, q1, q2])), .val (.long (if vn < (64 : Int32) then q0 else (if vn < (128 : Int32) then q1 else q2))), .second, .val (.int (if vn < (64 : Int32) then vn else (if vn < (128 : Int32) then (vn - (64 : Int32)) else (vn - (128 : Int32))))), .unset] [(.int (if ((((if vn < (64 : Int32) then q0 else (if vn < (128 : Int32) then q1 else q2)).toUInt64 >>> ((if vn < (64 : Int32) then vn else (if vn < (128 : Int32) then (vn - (64 : Int32)) else (vn - (128 : Int32)))) &&& 0x3f).toInt64.toUInt64).toInt64) &&& (1 : Int64)) = (1 : Int64) then (1 : Int32) else (0 : Int32)))]))
  refine own_go (fun _ k => XS.istore X8.here hx rfl (hb hby at_105) rfl (l' := #[.val (.long q0), .second, .val (.long q1), .second, .val (.long q2), .second, .val (.int p3), .val (.int vn), .val (.ref b1), .val (.int (own_f1 vn [q0, q1, q2])), .val (.long (if vn < (64 : Int32) then q0 else (if vn < (128 : Int32) then q1 else q2))), .second, .val (.int (if vn < (64 : Int32) then vn else (if vn < (128 : Int32) then (vn - (64 : Int32)) else (vn - (128 : Int32))))), .val (.int (if ((((if vn < (64 : Int32) then q0 else (if vn < (128 : Int32) then q1 else q2)).toUInt64 >>> ((if vn < (64 : Int32) then vn else (if vn < (128 : Int32) then (vn - (64 : Int32)) else (vn - (128 : Int32)))) &&& 0x3f).toInt64.toUInt64).toInt64) &&& (1 : Int64)) = (1 : Int64) then (1 : Int32) else (0 : Int32)))]) rfl k) ?_
  show own_Go p.tables e below _ (T8.setTop (mkF m 107 #[.val (.long q0), .second, .val (.long q1), .second, .val (.long q2), .second, .val (.int p3), .val (.int vn), .val (.ref b1), .val (.int (own_f1 vn [q0, q1, q2])), .val (.long (if vn < (64 : Int32) then q0 else (if vn < (128 : Int32) then q1 else q2))), .second, .val (.int (if vn < (64 : Int32) then vn else (if vn < (128 : Int32) then (vn - (64 : Int32)) else (vn - (128 : Int32))))), .val (.int (if ((((if vn < (64 : Int32) then q0 else (if vn < (128 : Int32) then q1 else q2)).toUInt64 >>> ((if vn < (64 : Int32) then vn else (if vn < (128 : Int32) then (vn - (64 : Int32)) else (vn - (128 : Int32)))) &&& 0x3f).toInt64.toUInt64).toInt64) &&& (1 : Int64)) = (1 : Int64) then (1 : Int32) else (0 : Int32)))] []))
  refine own_go (fun _ k => XS.iload X8.here hx rfl (hb hby at_107) rfl k) ?_
  show own_Go p.tables e below _ (T8.setTop (mkF m 109 #[.val (.long q0), .second, .val (.long q1), .second, .val (.long q2), .second, .val (.int p3), .val (.int vn), .val (.ref b1), .val (.int (own_f1 vn [q0, q1, q2])), .val (.long (if vn < (64 : Int32) then q0 else (if vn < (128 : Int32) then q1 else q2))), .second, .val (.int (if vn < (64 : Int32) then vn else (if vn < (128 : Int32) then (vn - (64 : Int32)) else (vn - (128 : Int32))))), .val (.int (if ((((if vn < (64 : Int32) then q0 else (if vn < (128 : Int32) then q1 else q2)).toUInt64 >>> ((if vn < (64 : Int32) then vn else (if vn < (128 : Int32) then (vn - (64 : Int32)) else (vn - (128 : Int32)))) &&& 0x3f).toInt64.toUInt64).toInt64) &&& (1 : Int64)) = (1 : Int64) then (1 : Int32) else (0 : Int32)))] [(.int (own_f1 vn [q0, q1, q2]))]))
  refine own_go (fun _ k => XS.iload X8.here hx rfl (hb hby at_109) rfl k) ?_
  show own_Go p.tables e below _ (T8.setTop (mkF m 111 #[.val (.long q0), .second, .val (.long q1), .second, .val (.long q2), .second, .val (.int p3), .val (.int vn), .val (.ref b1), .val (.int (own_f1 vn [q0, q1, q2])), .val (.long (if vn < (64 : Int32) then q0 else (if vn < (128 : Int32) then q1 else q2))), .second, .val (.int (if vn < (64 : Int32) then vn else (if vn < (128 : Int32) then (vn - (64 : Int32)) else (vn - (128 : Int32))))), .val (.int (if ((((if vn < (64 : Int32) then q0 else (if vn < (128 : Int32) then q1 else q2)).toUInt64 >>> ((if vn < (64 : Int32) then vn else (if vn < (128 : Int32) then (vn - (64 : Int32)) else (vn - (128 : Int32)))) &&& 0x3f).toInt64.toUInt64).toInt64) &&& (1 : Int64)) = (1 : Int64) then (1 : Int32) else (0 : Int32)))] [(.int (if ((((if vn < (64 : Int32) then q0 else (if vn < (128 : Int32) then q1 else q2)).toUInt64 >>> ((if vn < (64 : Int32) then vn else (if vn < (128 : Int32) then (vn - (64 : Int32)) else (vn - (128 : Int32)))) &&& 0x3f).toInt64.toUInt64).toInt64) &&& (1 : Int64)) = (1 : Int64) then (1 : Int32) else (0 : Int32))), (.int (own_f1 vn [q0, q1, q2]))]))
  have hf111 : (own_f1 vn [q0, q1, q2]) = (if ((((if vn < (64 : Int32) then q0 else (if vn < (128 : Int32) then q1 else q2)).toUInt64 >>> ((if vn < (64 : Int32) then vn else (if vn < (128 : Int32) then (vn - (64 : Int32)) else (vn - (128 : Int32)))) &&& 0x3f).toInt64.toUInt64).toInt64) &&& (1 : Int64)) = (1 : Int64) then (1 : Int32) else (0 : Int32)) := own_val (own_rng hvn)
  refine own_go (fun _ k => XS.icmpNo X8.here hx rfl (hb hby at_111) rfl (teq hf111).2 k) ?_
  show own_Go p.tables e below _ (T8.setTop (mkF m 114 #[.val (.long q0), .second, .val (.long q1), .second, .val (.long q2), .second, .val (.int p3), .val (.int vn), .val (.ref b1), .val (.int (own_f1 vn [q0, q1, q2])), .val (.long (if vn < (64 : Int32) then q0 else (if vn < (128 : Int32) then q1 else q2))), .second, .val (.int (if vn < (64 : Int32) then vn else (if vn < (128 : Int32) then (vn - (64 : Int32)) else (vn - (128 : Int32))))), .val (.int (if ((((if vn < (64 : Int32) then q0 else (if vn < (128 : Int32) then q1 else q2)).toUInt64 >>> ((if vn < (64 : Int32) then vn else (if vn < (128 : Int32) then (vn - (64 : Int32)) else (vn - (128 : Int32)))) &&& 0x3f).toInt64.toUInt64).toInt64) &&& (1 : Int64)) = (1 : Int64) then (1 : Int32) else (0 : Int32)))] []))
  refine own_go (fun _ k => XS.aload X8.here hx rfl (hb hby at_114) rfl rfl k) ?_
  show own_Go p.tables e below _ (T8.setTop (mkF m 116 #[.val (.long q0), .second, .val (.long q1), .second, .val (.long q2), .second, .val (.int p3), .val (.int vn), .val (.ref b1), .val (.int (own_f1 vn [q0, q1, q2])), .val (.long (if vn < (64 : Int32) then q0 else (if vn < (128 : Int32) then q1 else q2))), .second, .val (.int (if vn < (64 : Int32) then vn else (if vn < (128 : Int32) then (vn - (64 : Int32)) else (vn - (128 : Int32))))), .val (.int (if ((((if vn < (64 : Int32) then q0 else (if vn < (128 : Int32) then q1 else q2)).toUInt64 >>> ((if vn < (64 : Int32) then vn else (if vn < (128 : Int32) then (vn - (64 : Int32)) else (vn - (128 : Int32)))) &&& 0x3f).toInt64.toUInt64).toInt64) &&& (1 : Int64)) = (1 : Int64) then (1 : Int32) else (0 : Int32)))] [(.ref b1)]))
  refine own_go (fun _ k => XS.iconst X8.here hx rfl (hb hby at_116) k) ?_
  show own_Go p.tables e below _ (T8.setTop (mkF m 117 #[.val (.long q0), .second, .val (.long q1), .second, .val (.long q2), .second, .val (.int p3), .val (.int vn), .val (.ref b1), .val (.int (own_f1 vn [q0, q1, q2])), .val (.long (if vn < (64 : Int32) then q0 else (if vn < (128 : Int32) then q1 else q2))), .second, .val (.int (if vn < (64 : Int32) then vn else (if vn < (128 : Int32) then (vn - (64 : Int32)) else (vn - (128 : Int32))))), .val (.int (if ((((if vn < (64 : Int32) then q0 else (if vn < (128 : Int32) then q1 else q2)).toUInt64 >>> ((if vn < (64 : Int32) then vn else (if vn < (128 : Int32) then (vn - (64 : Int32)) else (vn - (128 : Int32)))) &&& 0x3f).toInt64.toUInt64).toInt64) &&& (1 : Int64)) = (1 : Int64) then (1 : Int32) else (0 : Int32)))] [(.int (0 : Int32)), (.ref b1)]))
  have vo11 := V7
  obtain ⟨cl11, Ar11, Aq11, AS11, AN11, AH11, AG11⟩ := vo11
  have hin11 : ¬ ((0 : Int32) < 0 ∨ cl11.slots.size ≤ ((0 : Int32)).toNatClampNeg) := inb_of AS11 ⟨by decide, by decide⟩
  have hat11 : cl11.slots[((0 : Int32)).toNatClampNeg]? = some (.long q0) := Has.at AH11 hin11 rfl
  refine own_go (fun _ k => X8.laload hx (j := (0 : Int32)) (v := (.long q0)) (by rw [(e8 : T8.heap = h7)]; exact Ar11.1) (State.isArrayOf_alike hZ.alike Ar11.2.1) Ar11.2.2 hin11 hat11 (g := (mkF m 117 #[.val (.long q0), .second, .val (.long q1), .second, .val (.long q2), .second, .val (.int p3), .val (.int vn), .val (.ref b1), .val (.int (own_f1 vn [q0, q1, q2])), .val (.long (if vn < (64 : Int32) then q0 else (if vn < (128 : Int32) then q1 else q2))), .second, .val (.int (if vn < (64 : Int32) then vn else (if vn < (128 : Int32) then (vn - (64 : Int32)) else (vn - (128 : Int32))))), .val (.int (if ((((if vn < (64 : Int32) then q0 else (if vn < (128 : Int32) then q1 else q2)).toUInt64 >>> ((if vn < (64 : Int32) then vn else (if vn < (128 : Int32) then (vn - (64 : Int32)) else (vn - (128 : Int32)))) &&& 0x3f).toInt64.toUInt64).toInt64) &&& (1 : Int64)) = (1 : Int64) then (1 : Int32) else (0 : Int32)))] [(.int (0 : Int32)), (.ref b1)])) rfl rfl (hb hby at_117) _ k) ?_
  show own_Go p.tables e below _ (T8.setTop (mkF m 118 #[.val (.long q0), .second, .val (.long q1), .second, .val (.long q2), .second, .val (.int p3), .val (.int vn), .val (.ref b1), .val (.int (own_f1 vn [q0, q1, q2])), .val (.long (if vn < (64 : Int32) then q0 else (if vn < (128 : Int32) then q1 else q2))), .second, .val (.int (if vn < (64 : Int32) then vn else (if vn < (128 : Int32) then (vn - (64 : Int32)) else (vn - (128 : Int32))))), .val (.int (if ((((if vn < (64 : Int32) then q0 else (if vn < (128 : Int32) then q1 else q2)).toUInt64 >>> ((if vn < (64 : Int32) then vn else (if vn < (128 : Int32) then (vn - (64 : Int32)) else (vn - (128 : Int32)))) &&& 0x3f).toInt64.toUInt64).toInt64) &&& (1 : Int64)) = (1 : Int64) then (1 : Int32) else (0 : Int32)))] [(.long q0)]))
  refine own_go (fun _ k => XS.lloadN X8.here hx rfl (hb hby at_118) rfl k) ?_
  show own_Go p.tables e below _ (T8.setTop (mkF m 119 #[.val (.long q0), .second, .val (.long q1), .second, .val (.long q2), .second, .val (.int p3), .val (.int vn), .val (.ref b1), .val (.int (own_f1 vn [q0, q1, q2])), .val (.long (if vn < (64 : Int32) then q0 else (if vn < (128 : Int32) then q1 else q2))), .second, .val (.int (if vn < (64 : Int32) then vn else (if vn < (128 : Int32) then (vn - (64 : Int32)) else (vn - (128 : Int32))))), .val (.int (if ((((if vn < (64 : Int32) then q0 else (if vn < (128 : Int32) then q1 else q2)).toUInt64 >>> ((if vn < (64 : Int32) then vn else (if vn < (128 : Int32) then (vn - (64 : Int32)) else (vn - (128 : Int32)))) &&& 0x3f).toInt64.toUInt64).toInt64) &&& (1 : Int64)) = (1 : Int64) then (1 : Int32) else (0 : Int32)))] [(.long q0), (.long q0)]))
  refine own_go (fun _ k => XS.lcmp X8.here hx rfl (hb hby at_119) rfl k) ?_
  show own_Go p.tables e below _ (T8.setTop (mkF m 120 #[.val (.long q0), .second, .val (.long q1), .second, .val (.long q2), .second, .val (.int p3), .val (.int vn), .val (.ref b1), .val (.int (own_f1 vn [q0, q1, q2])), .val (.long (if vn < (64 : Int32) then q0 else (if vn < (128 : Int32) then q1 else q2))), .second, .val (.int (if vn < (64 : Int32) then vn else (if vn < (128 : Int32) then (vn - (64 : Int32)) else (vn - (128 : Int32))))), .val (.int (if ((((if vn < (64 : Int32) then q0 else (if vn < (128 : Int32) then q1 else q2)).toUInt64 >>> ((if vn < (64 : Int32) then vn else (if vn < (128 : Int32) then (vn - (64 : Int32)) else (vn - (128 : Int32)))) &&& 0x3f).toInt64.toUInt64).toInt64) &&& (1 : Int64)) = (1 : Int64) then (1 : Int32) else (0 : Int32)))] [(.int (lcmpW q0 q0))]))
  have hf120 : q0 = q0 := rfl
  refine own_go (fun _ k => XS.ifNo X8.here hx rfl (hb hby at_120) rfl ((if0 _ _).trans (teq ((lw_eq q0 q0).mpr hf120)).2) k) ?_
  show own_Go p.tables e below _ (T8.setTop (mkF m 123 #[.val (.long q0), .second, .val (.long q1), .second, .val (.long q2), .second, .val (.int p3), .val (.int vn), .val (.ref b1), .val (.int (own_f1 vn [q0, q1, q2])), .val (.long (if vn < (64 : Int32) then q0 else (if vn < (128 : Int32) then q1 else q2))), .second, .val (.int (if vn < (64 : Int32) then vn else (if vn < (128 : Int32) then (vn - (64 : Int32)) else (vn - (128 : Int32))))), .val (.int (if ((((if vn < (64 : Int32) then q0 else (if vn < (128 : Int32) then q1 else q2)).toUInt64 >>> ((if vn < (64 : Int32) then vn else (if vn < (128 : Int32) then (vn - (64 : Int32)) else (vn - (128 : Int32)))) &&& 0x3f).toInt64.toUInt64).toInt64) &&& (1 : Int64)) = (1 : Int64) then (1 : Int32) else (0 : Int32)))] []))
  refine own_go (fun _ k => XS.aload X8.here hx rfl (hb hby at_123) rfl rfl k) ?_
  show own_Go p.tables e below _ (T8.setTop (mkF m 125 #[.val (.long q0), .second, .val (.long q1), .second, .val (.long q2), .second, .val (.int p3), .val (.int vn), .val (.ref b1), .val (.int (own_f1 vn [q0, q1, q2])), .val (.long (if vn < (64 : Int32) then q0 else (if vn < (128 : Int32) then q1 else q2))), .second, .val (.int (if vn < (64 : Int32) then vn else (if vn < (128 : Int32) then (vn - (64 : Int32)) else (vn - (128 : Int32))))), .val (.int (if ((((if vn < (64 : Int32) then q0 else (if vn < (128 : Int32) then q1 else q2)).toUInt64 >>> ((if vn < (64 : Int32) then vn else (if vn < (128 : Int32) then (vn - (64 : Int32)) else (vn - (128 : Int32)))) &&& 0x3f).toInt64.toUInt64).toInt64) &&& (1 : Int64)) = (1 : Int64) then (1 : Int32) else (0 : Int32)))] [(.ref b1)]))
  refine own_go (fun _ k => XS.iconst X8.here hx rfl (hb hby at_125) k) ?_
  show own_Go p.tables e below _ (T8.setTop (mkF m 126 #[.val (.long q0), .second, .val (.long q1), .second, .val (.long q2), .second, .val (.int p3), .val (.int vn), .val (.ref b1), .val (.int (own_f1 vn [q0, q1, q2])), .val (.long (if vn < (64 : Int32) then q0 else (if vn < (128 : Int32) then q1 else q2))), .second, .val (.int (if vn < (64 : Int32) then vn else (if vn < (128 : Int32) then (vn - (64 : Int32)) else (vn - (128 : Int32))))), .val (.int (if ((((if vn < (64 : Int32) then q0 else (if vn < (128 : Int32) then q1 else q2)).toUInt64 >>> ((if vn < (64 : Int32) then vn else (if vn < (128 : Int32) then (vn - (64 : Int32)) else (vn - (128 : Int32)))) &&& 0x3f).toInt64.toUInt64).toInt64) &&& (1 : Int64)) = (1 : Int64) then (1 : Int32) else (0 : Int32)))] [(.int (1 : Int32)), (.ref b1)]))
  have vo12 := V7
  obtain ⟨cl12, Ar12, Aq12, AS12, AN12, AH12, AG12⟩ := vo12
  have hin12 : ¬ ((1 : Int32) < 0 ∨ cl12.slots.size ≤ ((1 : Int32)).toNatClampNeg) := inb_of AS12 ⟨by decide, by decide⟩
  have hat12 : cl12.slots[((1 : Int32)).toNatClampNeg]? = some (.long q1) := Has.at AH12 hin12 rfl
  refine own_go (fun _ k => X8.laload hx (j := (1 : Int32)) (v := (.long q1)) (by rw [(e8 : T8.heap = h7)]; exact Ar12.1) (State.isArrayOf_alike hZ.alike Ar12.2.1) Ar12.2.2 hin12 hat12 (g := (mkF m 126 #[.val (.long q0), .second, .val (.long q1), .second, .val (.long q2), .second, .val (.int p3), .val (.int vn), .val (.ref b1), .val (.int (own_f1 vn [q0, q1, q2])), .val (.long (if vn < (64 : Int32) then q0 else (if vn < (128 : Int32) then q1 else q2))), .second, .val (.int (if vn < (64 : Int32) then vn else (if vn < (128 : Int32) then (vn - (64 : Int32)) else (vn - (128 : Int32))))), .val (.int (if ((((if vn < (64 : Int32) then q0 else (if vn < (128 : Int32) then q1 else q2)).toUInt64 >>> ((if vn < (64 : Int32) then vn else (if vn < (128 : Int32) then (vn - (64 : Int32)) else (vn - (128 : Int32)))) &&& 0x3f).toInt64.toUInt64).toInt64) &&& (1 : Int64)) = (1 : Int64) then (1 : Int32) else (0 : Int32)))] [(.int (1 : Int32)), (.ref b1)])) rfl rfl (hb hby at_126) _ k) ?_
  show own_Go p.tables e below _ (T8.setTop (mkF m 127 #[.val (.long q0), .second, .val (.long q1), .second, .val (.long q2), .second, .val (.int p3), .val (.int vn), .val (.ref b1), .val (.int (own_f1 vn [q0, q1, q2])), .val (.long (if vn < (64 : Int32) then q0 else (if vn < (128 : Int32) then q1 else q2))), .second, .val (.int (if vn < (64 : Int32) then vn else (if vn < (128 : Int32) then (vn - (64 : Int32)) else (vn - (128 : Int32))))), .val (.int (if ((((if vn < (64 : Int32) then q0 else (if vn < (128 : Int32) then q1 else q2)).toUInt64 >>> ((if vn < (64 : Int32) then vn else (if vn < (128 : Int32) then (vn - (64 : Int32)) else (vn - (128 : Int32)))) &&& 0x3f).toInt64.toUInt64).toInt64) &&& (1 : Int64)) = (1 : Int64) then (1 : Int32) else (0 : Int32)))] [(.long q1)]))
  refine own_go (fun _ k => XS.lloadN X8.here hx rfl (hb hby at_127) rfl k) ?_
  show own_Go p.tables e below _ (T8.setTop (mkF m 128 #[.val (.long q0), .second, .val (.long q1), .second, .val (.long q2), .second, .val (.int p3), .val (.int vn), .val (.ref b1), .val (.int (own_f1 vn [q0, q1, q2])), .val (.long (if vn < (64 : Int32) then q0 else (if vn < (128 : Int32) then q1 else q2))), .second, .val (.int (if vn < (64 : Int32) then vn else (if vn < (128 : Int32) then (vn - (64 : Int32)) else (vn - (128 : Int32))))), .val (.int (if ((((if vn < (64 : Int32) then q0 else (if vn < (128 : Int32) then q1 else q2)).toUInt64 >>> ((if vn < (64 : Int32) then vn else (if vn < (128 : Int32) then (vn - (64 : Int32)) else (vn - (128 : Int32)))) &&& 0x3f).toInt64.toUInt64).toInt64) &&& (1 : Int64)) = (1 : Int64) then (1 : Int32) else (0 : Int32)))] [(.long q1), (.long q1)]))
  refine own_go (fun _ k => XS.lcmp X8.here hx rfl (hb hby at_128) rfl k) ?_
  show own_Go p.tables e below _ (T8.setTop (mkF m 129 #[.val (.long q0), .second, .val (.long q1), .second, .val (.long q2), .second, .val (.int p3), .val (.int vn), .val (.ref b1), .val (.int (own_f1 vn [q0, q1, q2])), .val (.long (if vn < (64 : Int32) then q0 else (if vn < (128 : Int32) then q1 else q2))), .second, .val (.int (if vn < (64 : Int32) then vn else (if vn < (128 : Int32) then (vn - (64 : Int32)) else (vn - (128 : Int32))))), .val (.int (if ((((if vn < (64 : Int32) then q0 else (if vn < (128 : Int32) then q1 else q2)).toUInt64 >>> ((if vn < (64 : Int32) then vn else (if vn < (128 : Int32) then (vn - (64 : Int32)) else (vn - (128 : Int32)))) &&& 0x3f).toInt64.toUInt64).toInt64) &&& (1 : Int64)) = (1 : Int64) then (1 : Int32) else (0 : Int32)))] [(.int (lcmpW q1 q1))]))
  have hf129 : q1 = q1 := rfl
  refine own_go (fun _ k => XS.ifNo X8.here hx rfl (hb hby at_129) rfl ((if0 _ _).trans (teq ((lw_eq q1 q1).mpr hf129)).2) k) ?_
  show own_Go p.tables e below _ (T8.setTop (mkF m 132 #[.val (.long q0), .second, .val (.long q1), .second, .val (.long q2), .second, .val (.int p3), .val (.int vn), .val (.ref b1), .val (.int (own_f1 vn [q0, q1, q2])), .val (.long (if vn < (64 : Int32) then q0 else (if vn < (128 : Int32) then q1 else q2))), .second, .val (.int (if vn < (64 : Int32) then vn else (if vn < (128 : Int32) then (vn - (64 : Int32)) else (vn - (128 : Int32))))), .val (.int (if ((((if vn < (64 : Int32) then q0 else (if vn < (128 : Int32) then q1 else q2)).toUInt64 >>> ((if vn < (64 : Int32) then vn else (if vn < (128 : Int32) then (vn - (64 : Int32)) else (vn - (128 : Int32)))) &&& 0x3f).toInt64.toUInt64).toInt64) &&& (1 : Int64)) = (1 : Int64) then (1 : Int32) else (0 : Int32)))] []))
  refine own_go (fun _ k => XS.aload X8.here hx rfl (hb hby at_132) rfl rfl k) ?_
  show own_Go p.tables e below _ (T8.setTop (mkF m 134 #[.val (.long q0), .second, .val (.long q1), .second, .val (.long q2), .second, .val (.int p3), .val (.int vn), .val (.ref b1), .val (.int (own_f1 vn [q0, q1, q2])), .val (.long (if vn < (64 : Int32) then q0 else (if vn < (128 : Int32) then q1 else q2))), .second, .val (.int (if vn < (64 : Int32) then vn else (if vn < (128 : Int32) then (vn - (64 : Int32)) else (vn - (128 : Int32))))), .val (.int (if ((((if vn < (64 : Int32) then q0 else (if vn < (128 : Int32) then q1 else q2)).toUInt64 >>> ((if vn < (64 : Int32) then vn else (if vn < (128 : Int32) then (vn - (64 : Int32)) else (vn - (128 : Int32)))) &&& 0x3f).toInt64.toUInt64).toInt64) &&& (1 : Int64)) = (1 : Int64) then (1 : Int32) else (0 : Int32)))] [(.ref b1)]))
  refine own_go (fun _ k => XS.iconst X8.here hx rfl (hb hby at_134) k) ?_
  show own_Go p.tables e below _ (T8.setTop (mkF m 135 #[.val (.long q0), .second, .val (.long q1), .second, .val (.long q2), .second, .val (.int p3), .val (.int vn), .val (.ref b1), .val (.int (own_f1 vn [q0, q1, q2])), .val (.long (if vn < (64 : Int32) then q0 else (if vn < (128 : Int32) then q1 else q2))), .second, .val (.int (if vn < (64 : Int32) then vn else (if vn < (128 : Int32) then (vn - (64 : Int32)) else (vn - (128 : Int32))))), .val (.int (if ((((if vn < (64 : Int32) then q0 else (if vn < (128 : Int32) then q1 else q2)).toUInt64 >>> ((if vn < (64 : Int32) then vn else (if vn < (128 : Int32) then (vn - (64 : Int32)) else (vn - (128 : Int32)))) &&& 0x3f).toInt64.toUInt64).toInt64) &&& (1 : Int64)) = (1 : Int64) then (1 : Int32) else (0 : Int32)))] [(.int (2 : Int32)), (.ref b1)]))
  have vo13 := V7
  obtain ⟨cl13, Ar13, Aq13, AS13, AN13, AH13, AG13⟩ := vo13
  have hin13 : ¬ ((2 : Int32) < 0 ∨ cl13.slots.size ≤ ((2 : Int32)).toNatClampNeg) := inb_of AS13 ⟨by decide, by decide⟩
  have hat13 : cl13.slots[((2 : Int32)).toNatClampNeg]? = some (.long q2) := Has.at AH13 hin13 rfl
  refine own_go (fun _ k => X8.laload hx (j := (2 : Int32)) (v := (.long q2)) (by rw [(e8 : T8.heap = h7)]; exact Ar13.1) (State.isArrayOf_alike hZ.alike Ar13.2.1) Ar13.2.2 hin13 hat13 (g := (mkF m 135 #[.val (.long q0), .second, .val (.long q1), .second, .val (.long q2), .second, .val (.int p3), .val (.int vn), .val (.ref b1), .val (.int (own_f1 vn [q0, q1, q2])), .val (.long (if vn < (64 : Int32) then q0 else (if vn < (128 : Int32) then q1 else q2))), .second, .val (.int (if vn < (64 : Int32) then vn else (if vn < (128 : Int32) then (vn - (64 : Int32)) else (vn - (128 : Int32))))), .val (.int (if ((((if vn < (64 : Int32) then q0 else (if vn < (128 : Int32) then q1 else q2)).toUInt64 >>> ((if vn < (64 : Int32) then vn else (if vn < (128 : Int32) then (vn - (64 : Int32)) else (vn - (128 : Int32)))) &&& 0x3f).toInt64.toUInt64).toInt64) &&& (1 : Int64)) = (1 : Int64) then (1 : Int32) else (0 : Int32)))] [(.int (2 : Int32)), (.ref b1)])) rfl rfl (hb hby at_135) _ k) ?_
  show own_Go p.tables e below _ (T8.setTop (mkF m 136 #[.val (.long q0), .second, .val (.long q1), .second, .val (.long q2), .second, .val (.int p3), .val (.int vn), .val (.ref b1), .val (.int (own_f1 vn [q0, q1, q2])), .val (.long (if vn < (64 : Int32) then q0 else (if vn < (128 : Int32) then q1 else q2))), .second, .val (.int (if vn < (64 : Int32) then vn else (if vn < (128 : Int32) then (vn - (64 : Int32)) else (vn - (128 : Int32))))), .val (.int (if ((((if vn < (64 : Int32) then q0 else (if vn < (128 : Int32) then q1 else q2)).toUInt64 >>> ((if vn < (64 : Int32) then vn else (if vn < (128 : Int32) then (vn - (64 : Int32)) else (vn - (128 : Int32)))) &&& 0x3f).toInt64.toUInt64).toInt64) &&& (1 : Int64)) = (1 : Int64) then (1 : Int32) else (0 : Int32)))] [(.long q2)]))
  refine own_go (fun _ k => XS.lload X8.here hx rfl (hb hby at_136) rfl k) ?_
  show own_Go p.tables e below _ (T8.setTop (mkF m 138 #[.val (.long q0), .second, .val (.long q1), .second, .val (.long q2), .second, .val (.int p3), .val (.int vn), .val (.ref b1), .val (.int (own_f1 vn [q0, q1, q2])), .val (.long (if vn < (64 : Int32) then q0 else (if vn < (128 : Int32) then q1 else q2))), .second, .val (.int (if vn < (64 : Int32) then vn else (if vn < (128 : Int32) then (vn - (64 : Int32)) else (vn - (128 : Int32))))), .val (.int (if ((((if vn < (64 : Int32) then q0 else (if vn < (128 : Int32) then q1 else q2)).toUInt64 >>> ((if vn < (64 : Int32) then vn else (if vn < (128 : Int32) then (vn - (64 : Int32)) else (vn - (128 : Int32)))) &&& 0x3f).toInt64.toUInt64).toInt64) &&& (1 : Int64)) = (1 : Int64) then (1 : Int32) else (0 : Int32)))] [(.long q2), (.long q2)]))
  refine own_go (fun _ k => XS.lcmp X8.here hx rfl (hb hby at_138) rfl k) ?_
  show own_Go p.tables e below _ (T8.setTop (mkF m 139 #[.val (.long q0), .second, .val (.long q1), .second, .val (.long q2), .second, .val (.int p3), .val (.int vn), .val (.ref b1), .val (.int (own_f1 vn [q0, q1, q2])), .val (.long (if vn < (64 : Int32) then q0 else (if vn < (128 : Int32) then q1 else q2))), .second, .val (.int (if vn < (64 : Int32) then vn else (if vn < (128 : Int32) then (vn - (64 : Int32)) else (vn - (128 : Int32))))), .val (.int (if ((((if vn < (64 : Int32) then q0 else (if vn < (128 : Int32) then q1 else q2)).toUInt64 >>> ((if vn < (64 : Int32) then vn else (if vn < (128 : Int32) then (vn - (64 : Int32)) else (vn - (128 : Int32)))) &&& 0x3f).toInt64.toUInt64).toInt64) &&& (1 : Int64)) = (1 : Int64) then (1 : Int32) else (0 : Int32)))] [(.int (lcmpW q2 q2))]))
  have hf139 : q2 = q2 := rfl
  refine own_go (fun _ k => XS.ifNo X8.here hx rfl (hb hby at_139) rfl ((if0 _ _).trans (teq ((lw_eq q2 q2).mpr hf139)).2) k) ?_
  show own_Go p.tables e below _ (T8.setTop (mkF m 142 #[.val (.long q0), .second, .val (.long q1), .second, .val (.long q2), .second, .val (.int p3), .val (.int vn), .val (.ref b1), .val (.int (own_f1 vn [q0, q1, q2])), .val (.long (if vn < (64 : Int32) then q0 else (if vn < (128 : Int32) then q1 else q2))), .second, .val (.int (if vn < (64 : Int32) then vn else (if vn < (128 : Int32) then (vn - (64 : Int32)) else (vn - (128 : Int32))))), .val (.int (if ((((if vn < (64 : Int32) then q0 else (if vn < (128 : Int32) then q1 else q2)).toUInt64 >>> ((if vn < (64 : Int32) then vn else (if vn < (128 : Int32) then (vn - (64 : Int32)) else (vn - (128 : Int32)))) &&& 0x3f).toInt64.toUInt64).toInt64) &&& (1 : Int64)) = (1 : Int64) then (1 : Int32) else (0 : Int32)))] []))
  refine own_go (fun _ k => XS.iconst X8.here hx rfl (hb hby at_142) k) ?_
  show own_Go p.tables e below _ (T8.setTop (mkF m 143 #[.val (.long q0), .second, .val (.long q1), .second, .val (.long q2), .second, .val (.int p3), .val (.int vn), .val (.ref b1), .val (.int (own_f1 vn [q0, q1, q2])), .val (.long (if vn < (64 : Int32) then q0 else (if vn < (128 : Int32) then q1 else q2))), .second, .val (.int (if vn < (64 : Int32) then vn else (if vn < (128 : Int32) then (vn - (64 : Int32)) else (vn - (128 : Int32))))), .val (.int (if ((((if vn < (64 : Int32) then q0 else (if vn < (128 : Int32) then q1 else q2)).toUInt64 >>> ((if vn < (64 : Int32) then vn else (if vn < (128 : Int32) then (vn - (64 : Int32)) else (vn - (128 : Int32)))) &&& 0x3f).toInt64.toUInt64).toInt64) &&& (1 : Int64)) = (1 : Int64) then (1 : Int32) else (0 : Int32)))] [(.int (1 : Int32))]))
  refine own_go (fun _ k => XS.goto X8.here hx rfl (pc0 := 143) (pc' := 147) rfl (hb hby at_143) (by decide) (by decide) k) ?_
  show own_Go p.tables e below _ (T8.setTop (mkF m 147 #[.val (.long q0), .second, .val (.long q1), .second, .val (.long q2), .second, .val (.int p3), .val (.int vn), .val (.ref b1), .val (.int (own_f1 vn [q0, q1, q2])), .val (.long (if vn < (64 : Int32) then q0 else (if vn < (128 : Int32) then q1 else q2))), .second, .val (.int (if vn < (64 : Int32) then vn else (if vn < (128 : Int32) then (vn - (64 : Int32)) else (vn - (128 : Int32))))), .val (.int (if ((((if vn < (64 : Int32) then q0 else (if vn < (128 : Int32) then q1 else q2)).toUInt64 >>> ((if vn < (64 : Int32) then vn else (if vn < (128 : Int32) then (vn - (64 : Int32)) else (vn - (128 : Int32)))) &&& 0x3f).toInt64.toUInt64).toInt64) &&& (1 : Int64)) = (1 : Int64) then (1 : Int32) else (0 : Int32)))] [(.int (1 : Int32))]))
  refine own_end X8 Bd.notSynchronized (v := some (.int (1 : Int32))) (fun h => by rw [Bd.returns] at h; cases h) (fun fs hr => retN X8 hx (t := .boolean) Bd.returns (by simp) (hb hby at_147) hr) ?_ (by decide) (by decide)
  exact ⟨rfl, N8⟩
set_option maxRecDepth 65536 in
set_option maxHeartbeats 40000000 in
theorem comes_1 {Post : Tables → Env → Array Value → State → Outcome → State → Prop} (hpost : ∀ tb e args s v u, (limb_1_1.after args s (.returned v) u = true ∧ limb_1_2.after args s (.returned v) u = true ∧ True) → FrameEnd s (.returned v) u (Jvm.fieldLocs frame_1_writes args s ++ Jvm.arrayLocs frame_1_arrays args s ++ Jvm.staticLocs frame_1_statics s) 16 128 → Post tb e args s (.returned v) u) :
    ArmFor flags0 classFile x code maxLocals ret World_1 tables_1 room_1 Calls_1 rest_1 Pre_1 Post := by
  intro l hfl _ _ p e ha hc hk s m args below hf hA hF happ hP
  obtain ⟨hcalls, hrest, hpre⟩ := hP
  obtain ⟨-, -, -, hnamed, -, -, -, hat⟩ := (Spec.applies_iff hf).mp happ
  obtain ⟨hg, hn⟩ := and_e (Cond.before_iff.mp (show (Jvm.Cond.and given_1 narrow_1).before args s = true from hpre))
  obtain ⟨g1, g2⟩ := and_e hg
  obtain ⟨g3, g4⟩ := and_e g2
  obtain ⟨g5, g6⟩ := and_e g4
  obtain ⟨g7, g8⟩ := and_e g6
  obtain ⟨w0, w1, w2, w3, rfl⟩ : ∃ w0 w1 w2 w3 : Value, args = #[w0, w1, w2, w3] := by
    have hs : args.size = 4 := by simpa [Cond.value, given_1] using g1
    obtain ⟨L⟩ := args
    match L, hs with
    | [w0, w1, w2, w3], _ => exact ⟨w0, w1, w2, w3, rfl⟩
  have hw := fun d (hd : d ∈ tables_1) => atoms_spec (ws := Jvm.Cond.code x code maxLocals ret :: tables_1) hat d (List.mem_cons_of_mem _ hd)
  obtain ⟨i0, ei0⟩ := isL_v g3
  obtain rfl : w0 = (.long i0) := Option.some.inj ei0
  obtain ⟨i1, ei1⟩ := isL_v g5
  obtain rfl : w1 = (.long i1) := Option.some.inj ei1
  obtain ⟨i2, ei2⟩ := isL_v g7
  obtain rfl : w2 = (.long i2) := Option.some.inj ei2
  obtain ⟨i3, ei3⟩ := is_v g8
  obtain rfl : w3 = (.int i3) := Option.some.inj ei3
  obtain ⟨n, o, h1, h2, h3, _, L, rfl, ⟨rfl, N⟩, hq⟩ := rm0 l s _ hw tables_1 i0 i1 i2 i3 s.heap s.heap.size (Nat.le_refl _) p e ha hc hk s m _ below hf ((Spec.applies_iff_loose hf).mp happ).1 ⟨rfl, State.Warmed39.refl s, rfl⟩ trivial
  refine ⟨n, _, h1, h2, h3, hpost _ _ _ _ _ _ ⟨Cond.after_iff.mpr rfl, Cond.after_iff.mpr (eq_i res_at (Term.int_eval (1)) rfl), trivial⟩ ⟨hq.1, hq.2.1, (hq.2.2.sift fun y hy => Or.inr (N y hy)).mono (by decide) (by decide)⟩⟩
theorem main_1_1 : Claimed_1_1 := comes_1 fun _ _ _ _ _ _ h hF => ⟨h.1, hF⟩
theorem main_1_2 : Claimed_1_2 := comes_1 fun _ _ _ _ _ _ h hF => ⟨h.2.1, hF⟩
end Jvm.Pilot.@@N@@
namespace Jvm.Pilot.@@N@@
open Jvm Jvm.ClassFile Sem Op Lib Jvm.Free Jvm.Stand Jvm.Pilot.@@N@@.Jvm.D
/-! MADE BY PROGRAM (witnessworld.py) out of the Statement's table words and the real class files: 11 classes; the members and pool entries that the words name. The judged class is class 1, her method 1. -/
namespace start1
open Jvm.ClassFile
def u (s : String) : CpInfo := .utf8 (stringToUtf16 s)
/-- a pool by its gaps: so many unusable entries, then the entry; so many at the end -/
def gap : Nat → List CpInfo → List CpInfo
  | 0, r => r
  | n + 1, r => .unusable :: gap n r
def poolList (es : List (Nat × CpInfo)) (last : Nat) : List CpInfo := es.foldr (fun e r => gap e.1 (e.2 :: r)) (gap last [])
def pool (es : List (Nat × CpInfo)) (last : Nat) : Array CpInfo := ⟨poolList es last⟩
def fileOf (pool : Array CpInfo) (this : Nat) (attrs : Array Attribute := #[]) (ms : Array MethodInfo := #[]) (fl : Nat := 33) (sup : Nat := 0) (ifs : Array Nat := #[]) (fds : Array FieldInfo := #[]) : ClassFile where
  minorVersion := 0
  majorVersion := 65
  constantPool := pool
  accessFlags := fl
  thisClass := this
  superClass := sup
  interfaces := ifs
  fields := fds
  methods := ms
  attributes := attrs
def plain (name : String) (sup : Option ClassId) : Class where
  name := name
  kind := .ordinary
  loader := none
  accessFlags := 33
  super := sup
  interfaces := #[]
  cf := none
  fields := #[]
  methods := #[]
  instanceTypes := #[]
  staticTypes := #[]
  resolved := #[]
  callSites := []
  init := .initialized
  statics := none
  mirror := none

def pool0 : Array CpInfo := pool [(5, u "<init>"), (0, u "()V"), (1, .class_ 10), (1, u "java/lang/Object")] 113

def k0m0 : Method := { name := "<init>", desc := "()V", sig := { parameters := [], returnType := none }, accessFlags := 1, code := none }
/-- java/lang/Object -/
def k0 : Class := { plain "java/lang/Object" none with
  accessFlags := 33
  interfaces := #[]
  cf := some (fileOf pool0 8 #[] #[{ accessFlags := 1, nameIndex := 5, descriptorIndex := 6, attributes := #[] }] 33 0 #[] #[])
  fields := #[]
  methods := #[k0m0]
  instanceTypes := #[]
  staticTypes := #[]
  resolved := Array.replicate 124 none
  statics := none }

def pool1 : Array CpInfo := pool [(2, .class_ 4), (1, u "java/lang/Object"), (0, u "<init>"), (0, u "()V"), (0, .integer 2147483647), (0, .methodref 9 10), (0, .class_ 11), (0, .nameAndType 12 13), (0, u "com/example/meshwright/meshwright/plan/PathCrossings"), (0, u "has"), (0, u "([JI)Z"), (0, .class_ 15), (0, u "com/example/meshwright/meshwright/plan/PathCrossingsHasPinLaw"), (2, u "law"), (0, u "(JJJI)Z")] 5

def k1m0 : Method := { name := "<init>", desc := "()V", sig := { parameters := [], returnType := none }, accessFlags := 1, code := none }
def k1c1 : Code := { maxStack := 5, maxLocals := 14, code := code, exceptionTable := #[], attributes := #[] }
def k1m1 : Method := { name := "law", desc := "(JJJI)Z", sig := { parameters := [.long, .long, .long, .int], returnType := some .boolean }, accessFlags := 9, code := some k1c1 }
/-- com/example/meshwright/meshwright/plan/PathCrossingsHasPinLaw -/
def k1 : Class := { plain "com/example/meshwright/meshwright/plan/PathCrossingsHasPinLaw" (some 0) with
  accessFlags := 49
  interfaces := #[]
  cf := some (fileOf pool1 14 #[] #[{ accessFlags := 1, nameIndex := 5, descriptorIndex := 6, attributes := #[] }, { accessFlags := 9, nameIndex := 18, descriptorIndex := 19, attributes := #[] }] 49 2 #[] #[])
  fields := #[]
  methods := #[k1m0, k1m1]
  instanceTypes := #[]
  staticTypes := #[]
  resolved := Array.replicate 25 none
  statics := none }

def pool2 : Array CpInfo := pool [(2, .class_ 4), (1, u "java/lang/Object"), (3, .class_ 10), (1, u "com/example/meshwright/meshwright/plan/PathCrossings"), (0, u "words"), (3, u "I"), (2, u "length"), (2, u "partOf"), (0, u "[I"), (6, u "[[J"), (2, u "parts"), (6, u "reach"), (0, u "[[[J"), (2, u "crossed"), (0, u "[J"), (2, u "seen"), (2, u "firstSeen"), (2, u "touched"), (26, u "has"), (0, u "([JI)Z")] 45

def k2c0 : Code := { maxStack := 5, maxLocals := 2, code := prog_47_method_4_code, exceptionTable := #[], attributes := #[] }
def k2m0 : Method := { name := "has", desc := "([JI)Z", sig := { parameters := [(.array .long), .int], returnType := some .boolean }, accessFlags := 8, code := some k2c0 }
/-- com/example/meshwright/meshwright/plan/PathCrossings -/
def k2 : Class := { plain "com/example/meshwright/meshwright/plan/PathCrossings" (some 0) with
  accessFlags := 48
  interfaces := #[]
  cf := some (fileOf pool2 8 #[] #[{ accessFlags := 8, nameIndex := 80, descriptorIndex := 81, attributes := #[] }] 48 2 #[] #[{ accessFlags := 18, nameIndex := 11, descriptorIndex := 15, attributes := #[] }, { accessFlags := 18, nameIndex := 18, descriptorIndex := 15, attributes := #[] }, { accessFlags := 18, nameIndex := 21, descriptorIndex := 22, attributes := #[] }, { accessFlags := 18, nameIndex := 32, descriptorIndex := 29, attributes := #[] }, { accessFlags := 18, nameIndex := 39, descriptorIndex := 40, attributes := #[] }, { accessFlags := 18, nameIndex := 43, descriptorIndex := 44, attributes := #[] }, { accessFlags := 18, nameIndex := 47, descriptorIndex := 22, attributes := #[] }, { accessFlags := 18, nameIndex := 50, descriptorIndex := 22, attributes := #[] }, { accessFlags := 18, nameIndex := 53, descriptorIndex := 22, attributes := #[] }])
  fields := #[{ name := "words", type := .int, accessFlags := 18, slot := 0, constantValue := 0 }, { name := "length", type := .int, accessFlags := 18, slot := 1, constantValue := 0 }, { name := "partOf", type := (.array .int), accessFlags := 18, slot := 2, constantValue := 0 }, { name := "parts", type := (.array (.array .long)), accessFlags := 18, slot := 3, constantValue := 0 }, { name := "reach", type := (.array (.array (.array .long))), accessFlags := 18, slot := 4, constantValue := 0 }, { name := "crossed", type := (.array .long), accessFlags := 18, slot := 5, constantValue := 0 }, { name := "seen", type := (.array .int), accessFlags := 18, slot := 6, constantValue := 0 }, { name := "firstSeen", type := (.array .int), accessFlags := 18, slot := 7, constantValue := 0 }, { name := "touched", type := (.array .int), accessFlags := 18, slot := 8, constantValue := 0 }]
  methods := #[k2m0]
  instanceTypes := #[.int, .int, (.array .int), (.array (.array .long)), (.array (.array (.array .long))), (.array .long), (.array .int), (.array .int), (.array .int)]
  staticTypes := #[]
  resolved := Array.replicate 127 none
  statics := none }

def pool3 : Array CpInfo := pool [(1, u "java/lang/Cloneable"), (0, .class_ 1), (0, u "java/lang/Object"), (0, .class_ 3)] 3

/-- java/lang/Cloneable -/
def k3 : Class := { plain "java/lang/Cloneable" (some 0) with
  accessFlags := 1537
  interfaces := #[]
  cf := some (fileOf pool3 2 #[] #[] 1537 4 #[] #[])
  fields := #[]
  methods := #[]
  instanceTypes := #[]
  staticTypes := #[]
  resolved := Array.replicate 8 none
  statics := none }

def pool4 : Array CpInfo := pool [(1, u "java/io/Serializable"), (0, .class_ 1), (0, u "java/lang/Object"), (0, .class_ 3)] 3

/-- java/io/Serializable -/
def k4 : Class := { plain "java/io/Serializable" (some 0) with
  accessFlags := 1537
  interfaces := #[]
  cf := some (fileOf pool4 2 #[] #[] 1537 4 #[] #[])
  fields := #[]
  methods := #[]
  instanceTypes := #[]
  staticTypes := #[]
  resolved := Array.replicate 8 none
  statics := none }

/-- the primitive byte -/
def k5 : Class := { plain "byte" none with kind := .primitive 'B', accessFlags := 0x411 }
/-- [B -/
def k6 : Class := { plain "[B" (some 0) with kind := .array 5 .byte, interfaces := #[3, 4], accessFlags := 1041 }

/-- the primitive int -/
def k7 : Class := { plain "int" none with kind := .primitive 'I', accessFlags := 0x411 }
/-- [I -/
def k8 : Class := { plain "[I" (some 0) with kind := .array 7 .int, interfaces := #[3, 4], accessFlags := 1041 }

/-- the primitive long -/
def k9 : Class := { plain "long" none with kind := .primitive 'J', accessFlags := 0x411 }
/-- [J -/
def k10 : Class := { plain "[J" (some 0) with kind := .array 9 .long, interfaces := #[3, 4], accessFlags := 1041 }

def heap : Heap := #[]
def classes : Array Class := #[k0, k1, k2, k3, k4, k5, k6, k7, k8, k9, k10]
def interned : List (Array UInt16 × Addr) := []
def slotsUsed : Nat := 0
def theMethod : MethodId := ⟨1, 1⟩
def args0 : Array Value := #[.long 5, .long 6, .long 7, .int 70]
def aboutOver (below : List Frame) : State where
  vm := { classes := classes, interned := interned.toArray }
  heap := heap
  slotsUsed := slotsUsed
  threads := #[{ frames := .invoking theMethod args0 :: below }]
def below0 : List Frame := [.native { method := ⟨0, 0⟩, args := #[] }]
def about1 : State := aboutOver below0
def p0 : Program := .bare "" "" ""
def e0 : Env := launch0.env 0 0 0
theorem w_frames : about1.frames = Frame.invoking theMethod args0 :: below0 := rfl
set_option maxRecDepth 65536 in
theorem w_args : argsFit about1.vm theMethod args0 = true := by decide +kernel
set_option maxRecDepth 65536 in
theorem w_heap : heapFits about1 = true := by decide +kernel
set_option maxRecDepth 65536 in
theorem w_runnable : about1.curStatus? = some .runnable := by decide +kernel
set_option maxRecDepth 65536 in
theorem w_alone : about1.alone = true := by decide +kernel
set_option maxRecDepth 65536 in
theorem w_named : about1.methodNamed? x = some theMethod := by decide +kernel
set_option maxRecDepth 65536 in
theorem w_hears : about1.hears theMethod below0 = true := by decide +kernel
set_option maxRecDepth 65536 in
theorem w_ripe : about1.ripe theMethod args0 below0 = true := by decide +kernel
theorem w_running : about1.status = .running := rfl
set_option maxRecDepth 65536 in
theorem w_room : about1.hasRoom e0.platform room_1 = true :=
  launch0.hasRoom_least _ room_1 (by decide +kernel) (by decide +kernel) (by decide +kernel) (by decide +kernel) (by decide +kernel) (by decide +kernel)
theorem allAtoms_all (ts : List Jvm.Cond) (a : Array Jvm.Value) (st : Jvm.State) : (allAtoms ts).before a st = ts.all (fun c => c.before a st) := by
  induction ts with
  | nil => rfl
  | cons c t ih =>
    show (Jvm.Cond.and c (allAtoms t)).before a st = _
    rw [Jvm.Cond.before_and, ih, List.all_cons]
def words1 : List Jvm.Cond := Jvm.Cond.code x code maxLocals ret :: tables_1
/-- a 'code' word, met by the world's own term for the bytes: nothing is compared byte by byte -/
theorem code_word {y : MethodName} {bytes : ByteArray} {mx : Nat} {rt : Option FieldType} {a : Array Value} {s : State} {m : MethodId} {meth : Method} {c : Code} (h1 : s.methodNamed? y = some m) (h2 : s.vm.method? m = some meth) (h3 : meth.code = some c) (h4 : c.code = bytes)
    (h5 : (c.maxLocals == mx && c.exceptionTable.isEmpty && decide (c.maxStack ≤ mostOperands) && decide (meth.sig.returnType = rt) && !meth.locks && decide (parseMethodDescriptor y.desc = some meth.sig)) = true) : (Jvm.Cond.code y bytes mx rt).before a s = true := by
  simp only [Bool.and_eq_true, beq_iff_eq, Bool.not_eq_true', decide_eq_true_eq] at h5
  obtain ⟨⟨⟨⟨⟨g1, g2⟩, g3⟩, g4⟩, g5⟩, g6⟩ := h5
  simp [Cond.before, Cond.holds, Cond.value, h1, h2, h3, h4, g1, g2, g3, g4, g5, g6]
def isCode : Jvm.Cond → Bool
  | .code _ _ _ _ => true
  | _ => false
theorem all_split {L : List Jvm.Cond} {P : Jvm.Cond → Bool} (h1 : L.all (fun c => isCode c || P c) = true) (h2 : ∀ c ∈ L.filter isCode, P c = true) : L.all P = true := by
  refine List.all_eq_true.mpr fun c hc => ?_
  have h := List.all_eq_true.mp h1 c hc
  rcases Bool.eq_false_or_eq_true (isCode c) with hi | hi
  · exact h2 c (List.mem_filter.mpr ⟨hc, hi⟩)
  · simpa [hi] using h
set_option maxRecDepth 65536 in
theorem w_c0 : (Jvm.Cond.code x code maxLocals ret).before args0 about1 = true := code_word (m := ⟨1, 1⟩) (meth := k1m1) (c := k1c1) (by decide +kernel) rfl rfl rfl (by decide +kernel)
set_option maxRecDepth 65536 in
theorem w_c1 : (Jvm.Cond.code ({ cls := "com/example/meshwright/meshwright/plan/PathCrossings", name := "has", desc := "([JI)Z" } : Jvm.MethodName) prog_47_method_4_code (2 : Nat) (Option.some Jvm.ClassFile.FieldType.boolean)).before args0 about1 = true := code_word (m := ⟨2, 0⟩) (meth := k2m0) (c := k2c0) (by decide +kernel) rfl rfl rfl (by decide +kernel)
def codes1 : List Jvm.Cond := [Jvm.Cond.code x code maxLocals ret, Jvm.Cond.code ({ cls := "com/example/meshwright/meshwright/plan/PathCrossings", name := "has", desc := "([JI)Z" } : Jvm.MethodName) prog_47_method_4_code (2 : Nat) (Option.some Jvm.ClassFile.FieldType.boolean)]
set_option maxRecDepth 65536 in
theorem codes_eq : words1.filter isCode = codes1 := rfl
theorem w_codes : ∀ c ∈ words1.filter isCode, c.before args0 about1 = true := by
  rw [codes_eq]
  intro c hc
  simp only [codes1, List.mem_cons, List.not_mem_nil, or_false] at hc
  rcases hc with rfl | rfl
  · exact w_c0
  · exact w_c1
set_option maxRecDepth 65536 in
theorem w_t1 : words1.all (fun c => isCode c || c.before args0 about1) = true := by decide +kernel
theorem w_tables : (allAtoms (Jvm.Cond.code x code maxLocals ret :: tables_1)).before args0 about1 = true := by
  rw [allAtoms_all]
  show words1.all (fun c => c.before args0 about1) = true
  refine all_split ?_ w_codes
  rw [w_t1]
set_option maxRecDepth 65536 in
theorem w_case : (Jvm.Cond.and given_1 narrow_1).before args0 about1 = true := by decide +kernel
theorem w_applies : (headSpec (Jvm.Cond.code x code maxLocals ret :: tables_1) room_1).applies x e0.platform about1 = true :=
  (Spec.applies_iff w_frames).mpr ⟨w_running, w_runnable, w_alone, w_named, w_hears, w_ripe, w_room, w_tables⟩
theorem atStart : AtStart classFile x code maxLocals ret World_1 tables_1 room_1 Calls_1 rest_1 Pre_1 launch0 p0 e0 about1 theMethod args0 below0 :=
  ⟨lists_1, trivial, launch0.admits_env _ _ _, launch0.least_env, fairChoices_fair.cas, fairChoices_fair.clock, w_frames, w_args, w_heap, w_applies, trivial, trivial, w_case⟩
end start1
theorem witness_1 : WitnessClaimed_1 := ⟨start1.p0, start1.e0, start1.about1, start1.theMethod, start1.args0, start1.below0, start1.atStart⟩
end Jvm.Pilot.@@N@@
