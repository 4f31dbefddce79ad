import JvmDerived
import JvmDerived.Pilot.@@N@@Statement
import JvmDerived.Pilot.@@N@@Code
set_option linter.unusedVariables false
set_option linter.unusedSimpArgs false

namespace Jvm.Pilot.@@N@@
open Jvm Jvm.ClassFile Sem Op Lib Jvm.Free Jvm.Stand Jvm.LawKit Jvm.RoadKit Bundle Jvm.Pilot.@@N@@.Jvm.D
/-- the run from U comes to an end of which P holds -/
def own_Go (tb : Tables) (e : Env) (below : List Frame) (P : Outcome → State → Prop) (U : State) : Prop :=
  ∃ s₂ o, Steps tb e below U s₂ ∧ s₂.status = .running ∧ Ended s₂ below o ∧ P o s₂
theorem own_go {tb : Tables} {e : Env} {below : List Frame} {P : Outcome → State → Prop} {U U' : State} (k : ∀ t, Steps tb e below U' t → Steps tb e below U t) (h : own_Go tb e below P U') : own_Go tb e below P U := by
  obtain ⟨t, o, h1, h2⟩ := h
  exact ⟨t, o, k t h1, h2⟩
section Own
variable {p : Program} {l : Launch} {e : Env} {R : Room} {s : State} {m : MethodId} {args : Array Value} {below : List Frame} {meth : Method} {c : Code} {T : State} {locs : List Loc} {cells slots : Nat}
theorem own_retI (X : Stand p l e R s m args below meth c T locs cells slots) (hx : p.tables.exec = Jvm.exec) {pc : Nat} {Ls : Array Slot} {z : Int32} {rest : List Value} (hret : meth.sig.returnType = some .int) (hd : decode c.code pc = .ok (.ireturn, 1)) {fs : List Frame}
    (hl : ∀ (f : JFrame) (acts : List Action), f.method = m → f.locked = none → f.entered = [] → (doReturn e (T.setTop f) acts (some (.int z))).1 = T.setFrames fs) : Steps p.tables e below (T.setTop (mkF m pc Ls (.int z :: rest))) (T.setFrames fs) := by
  have hm' : T.vm.method? m = some meth := X.method'
  have hn : narrow .int (.int z) = .int z := rfl
  show Steps p.tables e below (T.setTop { method := m, pc := pc, locals := Ls, stack := _ :: rest, locked := none }) _
  jvm_step X.here [X.here.top, hx, hd, hm', hret, hn]
  first | (intro acts; rw [hl _ acts rfl rfl rfl]) | rw [hl _ _ rfl rfl rfl]
  exact Steps.refl _
theorem own_retJ (X : Stand p l e R s m args below meth c T locs cells slots) (hx : p.tables.exec = Jvm.exec) {pc : Nat} {Ls : Array Slot} {z : Int64} {rest : List Value} (hret : meth.sig.returnType = some .long) (hd : decode c.code pc = .ok (.lreturn, 1)) {fs : List Frame}
    (hl : ∀ (f : JFrame) (acts : List Action), f.method = m → f.locked = none → f.entered = [] → (doReturn e (T.setTop f) acts (some (.long z))).1 = T.setFrames fs) : Steps p.tables e below (T.setTop (mkF m pc Ls (.long z :: rest))) (T.setFrames fs) := by
  have hm' : T.vm.method? m = some meth := X.method'
  show Steps p.tables e below (T.setTop { method := m, pc := pc, locals := Ls, stack := _ :: rest, locked := none }) _
  jvm_step X.here [X.here.top, hx, hd, hm', hret, narrow]
  first | (intro acts; rw [hl _ acts rfl rfl rfl]) | rw [hl _ _ rfl rfl rfl]
  exact Steps.refl _
theorem own_end {Q : Option Value → Heap → List Loc → Prop} {kc ks : Nat} (X : Stand p l e R s m args below meth c T locs cells slots) (hlocks : meth.locks = false) {g : JFrame} {v : Option Value}
    (hv : meth.sig.returnType = none → v = none)
    (hs : ∀ fs, (∀ (f : JFrame) (acts : List Action), f.method = m → f.locked = none → f.entered = [] → (doReturn e (T.setTop f) acts v).1 = T.setFrames fs) → Steps p.tables e below (T.setTop g) (T.setFrames fs))
    (hQ : Q v T.heap locs) (h1 : cells ≤ kc) (h2 : slots ≤ ks) :
    own_Go p.tables e below (fun o U' => ∃ v L, o = .returned v ∧ Q v U'.heap L ∧ FrameEnd s o U' L kc ks) (T.setTop g) := by
  obtain ⟨fs, hr, hrun, hended, hW, hsame⟩ := X.leave (v := v) hv hlocks
  exact ⟨_, _, hs fs hr, hrun, hended, _, _, rfl, hQ, ⟨_, rfl⟩, hW, hsame.mono h1 h2⟩
end Own
def own_f1 (q0 : Int64) : Int32 :=
  (q0.toInt32)
theorem d1_0 : decode prog_30_method_2_code 0 = .ok (.lload_n 0, 1) := by decide +kernel
theorem d1_1 : decode prog_30_method_2_code 1 = .ok (.ldc2_w 40, 3) := by decide +kernel
theorem d1_4 : decode prog_30_method_2_code 4 = .ok (.lcmp, 1) := by decide +kernel
theorem d1_5 : decode prog_30_method_2_code 5 = .ok (.ifCond .lt 11, 3) := by decide +kernel
theorem d1_8 : decode prog_30_method_2_code 8 = .ok (.lload_n 0, 1) := by decide +kernel
theorem d1_9 : decode prog_30_method_2_code 9 = .ok (.ldc2_w 44, 3) := by decide +kernel
theorem d1_12 : decode prog_30_method_2_code 12 = .ok (.lcmp, 1) := by decide +kernel
theorem d1_13 : decode prog_30_method_2_code 13 = .ok (.ifCond .le 13, 3) := by decide +kernel
theorem d1_26 : decode prog_30_method_2_code 26 = .ok (.lload_n 0, 1) := by decide +kernel
theorem d1_27 : decode prog_30_method_2_code 27 = .ok (.l2i, 1) := by decide +kernel
theorem d1_28 : decode prog_30_method_2_code 28 = .ok (.ireturn, 1) := by decide +kernel
theorem pn1 : plainName "com/example/gna/gna/model/Recurrence$Interval" = true := by first | (simp [plainName, overriddenIn]; done) | decide +kernel
theorem ef1 (m : MethodId) (q0 : Int64) : entryFrame m #[(.long q0)] 2 = mkF m 0 #[.val (.long q0), .second] [] := by first | (simp [entryFrame, mkF, argsToLocals, Value.category]; done) | rfl
def own_Q1 (Z : State) (q0 : Int64) (h0 : Heap) (n0 : Nat) (v : Option Value) (h : Heap) (L : List Loc) : Prop := v = some (.int (own_f1 q0)) ∧ Fr n0 L ∧ h = h0
set_option maxRecDepth 65536 in
set_option maxHeartbeats 40000000 in
theorem rm1 (l : Launch) (Z : State) (a0 : Array Value) (hw : ∀ d ∈ tables_1, d.before a0 Z = true) (ws : List Jvm.Cond) (q0 : Int64) (h0 : Heap) (n0 : Nat) (Z0 : n0 ≤ h0.size) (hf5 : ¬ (q0 < (1000 : Int64))) (hf13 : ¬ ((2147483647 : Int64) < q0)) :
    MetFree l (⟨"com/example/gna/gna/model/Recurrence$Interval", "checked", "(J)I"⟩ : MethodName) (head1 (Jvm.Cond.code (⟨"com/example/gna/gna/model/Recurrence$Interval", "checked", "(J)I"⟩ : MethodName) prog_30_method_2_code 2 (some .int) :: ws) ({ frames := 0, cells := 0, slots := 0, locals := 0 } : Room)) (fun a U => a = #[(.long q0)] ∧ Z.Warmed39 U.vm ∧ U.heap = h0) (fun _ _ _ _ _ => True) (fun _ U o U' => ∃ v L, o = .returned v ∧ own_Q1 Z q0 h0 n0 v U'.heap L ∧ FrameEnd U o U' L ({ frames := 0, cells := 0, slots := 0, locals := 0 } : Room).cells ({ frames := 0, cells := 0, slots := 0, locals := 0 } : Room).slots) := by
  refine MetFree.of_bodySF (plainFor_of_name pn1) hisR ?_
  intro p e s m args below meth c s₁ Bd hml0 hP hK
  obtain ⟨rfl, hZ, hh⟩ := hP
  have hx := Bd.exec
  have hby := Bd.bytes
  have hml : c.maxLocals = 2 := hml0
  have hown : s.vm.findClass "com/example/gna/gna/model/Recurrence$Interval" = some m.cls := findClass_of_methodNamed Bd.named
  have hnm := (name_of_methodNamed Bd.named Bd.method).1
  have X0 : Stand p l e ({ frames := 0, cells := 0, slots := 0, locals := 0 } : Room) s m #[(.long q0)] below meth c s₁ [] 0 0 := Stand.of_body Bd
  have e0 : s₁.heap = h0 := by rw [← hh, Bd.state]; rfl
  have N0 := Fr.nil n0
  show own_Go p.tables e below (fun o U' => ∃ v L, o = .returned v ∧ own_Q1 Z q0 h0 n0 v U'.heap L ∧ FrameEnd s o U' L ({ frames := 0, cells := 0, slots := 0, locals := 0 } : Room).cells ({ frames := 0, cells := 0, slots := 0, locals := 0 } : Room).slots) (s₁.setTop (entryFrame m #[(.long q0)] 2))
  refine own_go (fun _ k => castTop (ef1 m q0) k) ?_
  show own_Go p.tables e below _ (s₁.setTop (mkF m 0 #[.val (.long q0), .second] []))
  refine own_go (fun _ k => XS.lloadN X0.here hx rfl (hb hby d1_0) rfl k) ?_
  show own_Go p.tables e below _ (s₁.setTop (mkF m 1 #[.val (.long q0), .second] [(.long q0)]))
  refine own_go (fun _ k => X0.ldc2Long hx hown (mvT hZ (hw _ (List.mem_of_getElem? (i := 7) rfl))) (g := (mkF m 1 #[.val (.long q0), .second] [(.long q0)])) rfl (hb hby d1_1) _ k) ?_
  show own_Go p.tables e below _ (s₁.setTop (mkF m 4 #[.val (.long q0), .second] [(.long (1000 : Int64)), (.long q0)]))
  refine own_go (fun _ k => XS.lcmp X0.here hx rfl (hb hby d1_4) rfl k) ?_
  show own_Go p.tables e below _ (s₁.setTop (mkF m 5 #[.val (.long q0), .second] [(.int (lcmpW q0 (1000 : Int64)))]))
  refine own_go (fun _ k => XS.ifNo X0.here hx rfl (hb hby d1_5) rfl ((if0 _ _).trans (flt (mt (lw_lt q0 (1000 : Int64)).mp hf5)).1) k) ?_
  show own_Go p.tables e below _ (s₁.setTop (mkF m 8 #[.val (.long q0), .second] []))
  refine own_go (fun _ k => XS.lloadN X0.here hx rfl (hb hby d1_8) rfl k) ?_
  show own_Go p.tables e below _ (s₁.setTop (mkF m 9 #[.val (.long q0), .second] [(.long q0)]))
  refine own_go (fun _ k => X0.ldc2Long hx hown (mvT hZ (hw _ (List.mem_of_getElem? (i := 8) rfl))) (g := (mkF m 9 #[.val (.long q0), .second] [(.long q0)])) rfl (hb hby d1_9) _ k) ?_
  show own_Go p.tables e below _ (s₁.setTop (mkF m 12 #[.val (.long q0), .second] [(.long (2147483647 : Int64)), (.long q0)]))
  refine own_go (fun _ k => XS.lcmp X0.here hx rfl (hb hby d1_12) rfl k) ?_
  show own_Go p.tables e below _ (s₁.setTop (mkF m 13 #[.val (.long q0), .second] [(.int (lcmpW q0 (2147483647 : Int64)))]))
  refine own_go (fun _ k => XS.ifYes X0.here hx rfl (pc0 := 13) (pc' := 26) rfl (hb hby d1_13) rfl ((if0 _ _).trans (flt (mt (lw_gt q0 (2147483647 : Int64)).mp hf13)).2.2.2) (by decide) (by decide) k) ?_
  show own_Go p.tables e below _ (s₁.setTop (mkF m 26 #[.val (.long q0), .second] []))
  refine own_go (fun _ k => XS.lloadN X0.here hx rfl (hb hby d1_26) rfl k) ?_
  show own_Go p.tables e below _ (s₁.setTop (mkF m 27 #[.val (.long q0), .second] [(.long q0)]))
  refine own_go (fun _ k => XS.l2i X0.here hx rfl (hb hby d1_27) rfl k) ?_
  show own_Go p.tables e below _ (s₁.setTop (mkF m 28 #[.val (.long q0), .second] [(.int (q0.toInt32))]))
  refine own_end X0 Bd.notSynchronized (v := some (.int (q0.toInt32))) (fun h => by rw [Bd.returns] at h; cases h) (fun fs hr => own_retI X0 hx Bd.returns (hb hby d1_28) hr) ?_ (by decide) (by decide)
  exact ⟨by rw [own_f1], N0, e0⟩
theorem own_val {x : Int64} {m : Int32} {v : Int64} (hv : v = (if m = (0 : Int32) then (1000 : Int64) else (if m = (1 : Int32) then (2147483647 : Int64) else (if x < (1000 : Int64) then ((1000 : Int64) + ((x &&& (9223372036854775807 : Int64)) - ((x &&& (9223372036854775807 : Int64)) / (2147482648 : Int64)) * (2147482648 : Int64))) else (if (2147483647 : Int64) < x then ((1000 : Int64) + ((x &&& (9223372036854775807 : Int64)) - ((x &&& (9223372036854775807 : Int64)) / (2147482648 : Int64)) * (2147482648 : Int64))) else x))))) :
    ¬ (v < 1000) ∧ ¬ (2147483647 < v) ∧ (own_f1 v).toInt64 = v ∧ ¬ (own_f1 v < 1000) := by
  have k1 : (1000 : Int64).toInt = 1000 := by decide
  have k2 : (2147483647 : Int64).toInt = 2147483647 := by decide
  have k3 : (2147482648 : Int64).toInt = 2147482648 := by decide
  have k4 : (1000 : Int32).toInt = 1000 := by decide
  have e1 := c_maskL x 9223372036854775807 63 (by decide) (by decide)
  have e1' : 0 ≤ (x &&& 9223372036854775807).toInt := by rw [e1]; exact Int.emod_nonneg _ (by decide)
  clear e1
  obtain ⟨w, hw⟩ : ∃ w, w = ((x &&& 9223372036854775807) - (x &&& 9223372036854775807) / 2147482648 * 2147482648) := ⟨_, rfl⟩
  have e2 : 0 ≤ w.toInt ∧ w.toInt < 2147482648 := by
    rw [hw, lrem_mod, Int64.toInt_mod, k3, Int.tmod_eq_emod_of_nonneg e1']
    exact ⟨Int.emod_nonneg _ (by decide), Int.emod_lt_of_pos _ (by decide)⟩
  rw [← hw] at hv
  have e3 := c_ladd 1000 w
  have r3 := rng64 (1000 + w)
  have e3' : (1000 + w).toInt = 1000 + w.toInt := by omega
  clear e3 r3 hw
  have e4 : 1000 ≤ v.toInt ∧ v.toInt ≤ 2147483647 := by
    simp only [Int64.lt_iff_toInt_lt, k1, k2] at hv
    repeat' split at hv
    all_goals (subst hv; omega)
  clear hv e1' e2 e3'
  have e5 := c_l2i v
  have e6 : own_f1 v = v.toInt32 := rfl
  have e7 := c_i2l (own_f1 v)
  rw [← e6] at e5
  have r5 := rng32 (own_f1 v)
  simp only [Int64.lt_iff_toInt_lt, Int32.lt_iff_toInt_lt, ← Int64.toInt_inj, k1, k2, k4]
  refine ⟨?_, ?_, ?_, ?_⟩ <;> omega
theorem pn0 : plainName "com/example/gna/gna/model/IntervalCheckedPinLaw" = true := by first | (simp [plainName, overriddenIn]; done) | decide +kernel
theorem pd0_0 : parseMethodDescriptor "(J)I" = some ⟨[.long], some .int⟩ := by decide +kernel
theorem ef0 (m : MethodId) (q0 : Int64) (p1 : Int32) : entryFrame m #[(.long q0), (.int p1)] maxLocals = mkF m 0 #[.val (.long q0), .second, .val (.int p1), .unset, .unset, .unset, .unset] [] := by first | (simp [entryFrame, mkF, argsToLocals, Value.category, maxLocals]; done) | rfl
def own_Q0 (Z : State) (q0 : Int64) (p1 : Int32) (h0 : Heap) (n0 : Nat) (v : Option Value) (h : Heap) (L : List Loc) : Prop := v = some (.int 1) ∧ Fr n0 L
set_option maxRecDepth 65536 in
set_option maxHeartbeats 40000000 in
theorem rm0 (l : Launch) (Z : State) (a0 : Array Value) (hw : ∀ d ∈ tables_1, d.before a0 Z = true) (ws : List Jvm.Cond) (q0 : Int64) (p1 : Int32) (h0 : Heap) (n0 : Nat) (Z0 : n0 ≤ h0.size) :
    MetFree l x (head1 (Jvm.Cond.code x code maxLocals ret :: ws) room_1) (fun a U => a = #[(.long q0), (.int p1)] ∧ Z.Warmed39 U.vm ∧ U.heap = h0) (fun _ _ _ _ _ => True) (fun _ U o U' => ∃ v L, o = .returned v ∧ own_Q0 Z q0 p1 h0 n0 v U'.heap L ∧ FrameEnd U o U' L 0 0) := by
  refine MetFree.of_bodySF (plainFor_of_name pn0) hisR ?_
  intro p e s m args below meth c s₁ Bd hml0 hP hK
  obtain ⟨rfl, hZ, hh⟩ := hP
  have hx := Bd.exec
  have hby := Bd.bytes
  have hml : c.maxLocals = 7 := hml0
  have hown : s.vm.findClass "com/example/gna/gna/model/IntervalCheckedPinLaw" = some m.cls := findClass_of_methodNamed Bd.named
  have hnm := (name_of_methodNamed Bd.named Bd.method).1
  have X0 : Stand p l e room_1 s m #[(.long q0), (.int p1)] below meth c s₁ [] 0 0 := Stand.of_body Bd
  have e0 : s₁.heap = h0 := by rw [← hh, Bd.state]; rfl
  have N0 := Fr.nil n0
  show own_Go p.tables e below (fun o U' => ∃ v L, o = .returned v ∧ own_Q0 Z q0 p1 h0 n0 v U'.heap L ∧ FrameEnd s o U' L 0 0) (s₁.setTop (entryFrame m #[(.long q0), (.int p1)] maxLocals))
  refine own_go (fun _ k => castTop (ef0 m q0 p1) k) ?_
  show own_Go p.tables e below _ (s₁.setTop (mkF m 0 #[.val (.long q0), .second, .val (.int p1), .unset, .unset, .unset, .unset] []))
  refine own_go (fun _ k => XS.iloadN X0.here hx rfl (hb hby at_0) rfl k) ?_
  show own_Go p.tables e below _ (s₁.setTop (mkF m 1 #[.val (.long q0), .second, .val (.int p1), .unset, .unset, .unset, .unset] [(.int p1)]))
  refine own_go (fun _ k => XS.iconst X0.here hx rfl (hb hby at_1) k) ?_
  show own_Go p.tables e below _ (s₁.setTop (mkF m 2 #[.val (.long q0), .second, .val (.int p1), .unset, .unset, .unset, .unset] [(.int (3 : Int32)), (.int p1)]))
  refine own_go (fun _ k => XS.iand X0.here hx rfl (hb hby at_2) rfl k) ?_
  show own_Go p.tables e below _ (s₁.setTop (mkF m 3 #[.val (.long q0), .second, .val (.int p1), .unset, .unset, .unset, .unset] [(.int (p1 &&& (3 : Int32)))]))
  refine own_go (fun _ k => XS.istoreN X0.here hx rfl (hb hby at_3) rfl (l' := #[.val (.long q0), .second, .val (.int p1), .val (.int (p1 &&& (3 : Int32))), .unset, .unset, .unset]) rfl k) ?_
  show own_Go p.tables e below _ (s₁.setTop (mkF m 4 #[.val (.long q0), .second, .val (.int p1), .val (.int (p1 &&& (3 : Int32))), .unset, .unset, .unset] []))
  obtain ⟨vk, hvk⟩ : ∃ z : Int32, z = (p1 &&& (3 : Int32)) := ⟨_, rfl⟩
  rw [← hvk]
  show own_Go p.tables e below _ (s₁.setTop (mkF m 4 #[.val (.long q0), .second, .val (.int p1), .val (.int vk), .unset, .unset, .unset] []))
  refine own_go (fun _ k => XS.iloadN X0.here hx rfl (hb hby at_4) rfl k) ?_
  show own_Go p.tables e below _ (s₁.setTop (mkF m 5 #[.val (.long q0), .second, .val (.int p1), .val (.int vk), .unset, .unset, .unset] [(.int vk)]))
  have sg1 : ∀ t, Steps p.tables e below (s₁.setTop (mkF m 66 #[.val (.long q0), .second, .val (.int p1), .val (.int vk), .val (.long (if vk = (0 : Int32) then (1000 : Int64) else (if vk = (1 : Int32) then (2147483647 : Int64) else (if q0 < (1000 : Int64) then ((1000 : Int64) + ((q0 &&& (9223372036854775807 : Int64)) - ((q0 &&& (9223372036854775807 : Int64)) / (2147482648 : Int64)) * (2147482648 : Int64))) else (if (2147483647 : Int64) < q0 then ((1000 : Int64) + ((q0 &&& (9223372036854775807 : Int64)) - ((q0 &&& (9223372036854775807 : Int64)) / (2147482648 : Int64)) * (2147482648 : Int64))) else q0))))), .second, .unset] [])) t → Steps p.tables e below (s₁.setTop (mkF m 5 #[.val (.long q0), .second, .val (.int p1), .val (.int vk), .unset, .unset, .unset] [(.int vk)])) t := by
    intro t k
    by_cases hc5 : vk = (0 : Int32)
    · try simp only [if_pos hc5] at k
      refine XS.ifNo X0.here hx rfl (hb hby at_5) rfl ((if0 _ _).trans (teq hc5).2) ?_
      show Steps p.tables e below (s₁.setTop (mkF m 8 #[.val (.long q0), .second, .val (.int p1), .val (.int vk), .unset, .unset, .unset] [])) _
      refine X0.ldc2Long hx hown (mvT hZ (hw _ (List.mem_of_getElem? (i := 0) rfl))) (g := (mkF m 8 #[.val (.long q0), .second, .val (.int p1), .val (.int vk), .unset, .unset, .unset] [])) rfl (hb hby at_8) _ ?_
      show Steps p.tables e below (s₁.setTop (mkF m 11 #[.val (.long q0), .second, .val (.int p1), .val (.int vk), .unset, .unset, .unset] [(.long (1000 : Int64))])) _
      refine XS.lstore X0.here hx rfl (hb hby at_11) rfl (l' := #[.val (.long q0), .second, .val (.int p1), .val (.int vk), .val (.long (1000 : Int64)), .second, .unset]) rfl ?_
      show Steps p.tables e below (s₁.setTop (mkF m 13 #[.val (.long q0), .second, .val (.int p1), .val (.int vk), .val (.long (1000 : Int64)), .second, .unset] [])) _
      refine XS.goto X0.here hx rfl (pc0 := 13) (pc' := 66) rfl (hb hby at_13) (by decide) (by decide) ?_
      show Steps p.tables e below (s₁.setTop (mkF m 66 #[.val (.long q0), .second, .val (.int p1), .val (.int vk), .val (.long (1000 : Int64)), .second, .unset] [])) _
      exact k
    · try simp only [if_neg hc5] at k
      refine XS.ifYes X0.here hx rfl (pc0 := 5) (pc' := 16) rfl (hb hby at_5) rfl ((if0 _ _).trans (feq hc5).2) (by decide) (by decide) ?_
      show Steps p.tables e below (s₁.setTop (mkF m 16 #[.val (.long q0), .second, .val (.int p1), .val (.int vk), .unset, .unset, .unset] [])) _
      refine XS.iloadN X0.here hx rfl (hb hby at_16) rfl ?_
      show Steps p.tables e below (s₁.setTop (mkF m 17 #[.val (.long q0), .second, .val (.int p1), .val (.int vk), .unset, .unset, .unset] [(.int vk)])) _
      refine XS.iconst X0.here hx rfl (hb hby at_17) ?_
      show Steps p.tables e below (s₁.setTop (mkF m 18 #[.val (.long q0), .second, .val (.int p1), .val (.int vk), .unset, .unset, .unset] [(.int (1 : Int32)), (.int vk)])) _
      by_cases hc18 : vk = (1 : Int32)
      · try simp only [if_pos hc18] at k
        refine XS.icmpNo X0.here hx rfl (hb hby at_18) rfl (teq hc18).2 ?_
        show Steps p.tables e below (s₁.setTop (mkF m 21 #[.val (.long q0), .second, .val (.int p1), .val (.int vk), .unset, .unset, .unset] [])) _
        refine X0.ldc2Long hx hown (mvT hZ (hw _ (List.mem_of_getElem? (i := 9) rfl))) (g := (mkF m 21 #[.val (.long q0), .second, .val (.int p1), .val (.int vk), .unset, .unset, .unset] [])) rfl (hb hby at_21) _ ?_
        show Steps p.tables e below (s₁.setTop (mkF m 24 #[.val (.long q0), .second, .val (.int p1), .val (.int vk), .unset, .unset, .unset] [(.long (2147483647 : Int64))])) _
        refine XS.lstore X0.here hx rfl (hb hby at_24) rfl (l' := #[.val (.long q0), .second, .val (.int p1), .val (.int vk), .val (.long (2147483647 : Int64)), .second, .unset]) rfl ?_
        show Steps p.tables e below (s₁.setTop (mkF m 26 #[.val (.long q0), .second, .val (.int p1), .val (.int vk), .val (.long (2147483647 : Int64)), .second, .unset] [])) _
        refine XS.goto X0.here hx rfl (pc0 := 26) (pc' := 66) rfl (hb hby at_26) (by decide) (by decide) ?_
        show Steps p.tables e below (s₁.setTop (mkF m 66 #[.val (.long q0), .second, .val (.int p1), .val (.int vk), .val (.long (2147483647 : Int64)), .second, .unset] [])) _
        exact k
      · try simp only [if_neg hc18] at k
        refine XS.icmpYes X0.here hx rfl (pc0 := 18) (pc' := 29) rfl (hb hby at_18) rfl (feq hc18).2 (by decide) (by decide) ?_
        show Steps p.tables e below (s₁.setTop (mkF m 29 #[.val (.long q0), .second, .val (.int p1), .val (.int vk), .unset, .unset, .unset] [])) _
        refine XS.lloadN X0.here hx rfl (hb hby at_29) rfl ?_
        show Steps p.tables e below (s₁.setTop (mkF m 30 #[.val (.long q0), .second, .val (.int p1), .val (.int vk), .unset, .unset, .unset] [(.long q0)])) _
        refine X0.ldc2Long hx hown (mvT hZ (hw _ (List.mem_of_getElem? (i := 0) rfl))) (g := (mkF m 30 #[.val (.long q0), .second, .val (.int p1), .val (.int vk), .unset, .unset, .unset] [(.long q0)])) rfl (hb hby at_30) _ ?_
        show Steps p.tables e below (s₁.setTop (mkF m 33 #[.val (.long q0), .second, .val (.int p1), .val (.int vk), .unset, .unset, .unset] [(.long (1000 : Int64)), (.long q0)])) _
        refine XS.lcmp X0.here hx rfl (hb hby at_33) rfl ?_
        show Steps p.tables e below (s₁.setTop (mkF m 34 #[.val (.long q0), .second, .val (.int p1), .val (.int vk), .unset, .unset, .unset] [(.int (lcmpW q0 (1000 : Int64)))])) _
        by_cases hc34 : q0 < (1000 : Int64)
        · try simp only [if_pos hc34] at k
          refine XS.ifYes X0.here hx rfl (pc0 := 34) (pc' := 51) rfl (hb hby at_34) rfl ((if0 _ _).trans (tlt ((lw_lt q0 (1000 : Int64)).mpr hc34)).1) (by decide) (by decide) ?_
          show Steps p.tables e below (s₁.setTop (mkF m 51 #[.val (.long q0), .second, .val (.int p1), .val (.int vk), .unset, .unset, .unset] [])) _
          refine X0.ldc2Long hx hown (mvT hZ (hw _ (List.mem_of_getElem? (i := 0) rfl))) (g := (mkF m 51 #[.val (.long q0), .second, .val (.int p1), .val (.int vk), .unset, .unset, .unset] [])) rfl (hb hby at_51) _ ?_
          show Steps p.tables e below (s₁.setTop (mkF m 54 #[.val (.long q0), .second, .val (.int p1), .val (.int vk), .unset, .unset, .unset] [(.long (1000 : Int64))])) _
          refine XS.lloadN X0.here hx rfl (hb hby at_54) rfl ?_
          show Steps p.tables e below (s₁.setTop (mkF m 55 #[.val (.long q0), .second, .val (.int p1), .val (.int vk), .unset, .unset, .unset] [(.long q0), (.long (1000 : Int64))])) _
          refine X0.ldc2Long hx hown (mvT hZ (hw _ (List.mem_of_getElem? (i := 1) rfl))) (g := (mkF m 55 #[.val (.long q0), .second, .val (.int p1), .val (.int vk), .unset, .unset, .unset] [(.long q0), (.long (1000 : Int64))])) rfl (hb hby at_55) _ ?_
          show Steps p.tables e below (s₁.setTop (mkF m 58 #[.val (.long q0), .second, .val (.int p1), .val (.int vk), .unset, .unset, .unset] [(.long (9223372036854775807 : Int64)), (.long q0), (.long (1000 : Int64))])) _
          refine XS.land X0.here hx rfl (hb hby at_58) rfl ?_
          show Steps p.tables e below (s₁.setTop (mkF m 59 #[.val (.long q0), .second, .val (.int p1), .val (.int vk), .unset, .unset, .unset] [(.long (q0 &&& (9223372036854775807 : Int64))), (.long (1000 : Int64))])) _
          refine X0.ldc2Long hx hown (mvT hZ (hw _ (List.mem_of_getElem? (i := 2) rfl))) (g := (mkF m 59 #[.val (.long q0), .second, .val (.int p1), .val (.int vk), .unset, .unset, .unset] [(.long (q0 &&& (9223372036854775807 : Int64))), (.long (1000 : Int64))])) rfl (hb hby at_59) _ ?_
          show Steps p.tables e below (s₁.setTop (mkF m 62 #[.val (.long q0), .second, .val (.int p1), .val (.int vk), .unset, .unset, .unset] [(.long (2147482648 : Int64)), (.long (q0 &&& (9223372036854775807 : Int64))), (.long (1000 : Int64))])) _
          refine XS.lrem X0.here hx rfl (hb hby at_62) rfl (by decide) ?_
          show Steps p.tables e below (s₁.setTop (mkF m 63 #[.val (.long q0), .second, .val (.int p1), .val (.int vk), .unset, .unset, .unset] [(.long ((q0 &&& (9223372036854775807 : Int64)) - ((q0 &&& (9223372036854775807 : Int64)) / (2147482648 : Int64)) * (2147482648 : Int64))), (.long (1000 : Int64))])) _
          refine XS.ladd X0.here hx rfl (hb hby at_63) rfl ?_
          show Steps p.tables e below (s₁.setTop (mkF m 64 #[.val (.long q0), .second, .val (.int p1), .val (.int vk), .unset, .unset, .unset] [(.long ((1000 : Int64) + ((q0 &&& (9223372036854775807 : Int64)) - ((q0 &&& (9223372036854775807 : Int64)) / (2147482648 : Int64)) * (2147482648 : Int64))))])) _
          refine XS.lstore X0.here hx rfl (hb hby at_64) rfl (l' := #[.val (.long q0), .second, .val (.int p1), .val (.int vk), .val (.long ((1000 : Int64) + ((q0 &&& (9223372036854775807 : Int64)) - ((q0 &&& (9223372036854775807 : Int64)) / (2147482648 : Int64)) * (2147482648 : Int64)))), .second, .unset]) rfl ?_
          show Steps p.tables e below (s₁.setTop (mkF m 66 #[.val (.long q0), .second, .val (.int p1), .val (.int vk), .val (.long ((1000 : Int64) + ((q0 &&& (9223372036854775807 : Int64)) - ((q0 &&& (9223372036854775807 : Int64)) / (2147482648 : Int64)) * (2147482648 : Int64)))), .second, .unset] [])) _
          exact k
        · try simp only [if_neg hc34] at k
          refine XS.ifNo X0.here hx rfl (hb hby at_34) rfl ((if0 _ _).trans (flt (mt (lw_lt q0 (1000 : Int64)).mp hc34)).1) ?_
          show Steps p.tables e below (s₁.setTop (mkF m 37 #[.val (.long q0), .second, .val (.int p1), .val (.int vk), .unset, .unset, .unset] [])) _
          refine XS.lloadN X0.here hx rfl (hb hby at_37) rfl ?_
          show Steps p.tables e below (s₁.setTop (mkF m 38 #[.val (.long q0), .second, .val (.int p1), .val (.int vk), .unset, .unset, .unset] [(.long q0)])) _
          refine X0.ldc2Long hx hown (mvT hZ (hw _ (List.mem_of_getElem? (i := 9) rfl))) (g := (mkF m 38 #[.val (.long q0), .second, .val (.int p1), .val (.int vk), .unset, .unset, .unset] [(.long q0)])) rfl (hb hby at_38) _ ?_
          show Steps p.tables e below (s₁.setTop (mkF m 41 #[.val (.long q0), .second, .val (.int p1), .val (.int vk), .unset, .unset, .unset] [(.long (2147483647 : Int64)), (.long q0)])) _
          refine XS.lcmp X0.here hx rfl (hb hby at_41) rfl ?_
          show Steps p.tables e below (s₁.setTop (mkF m 42 #[.val (.long q0), .second, .val (.int p1), .val (.int vk), .unset, .unset, .unset] [(.int (lcmpW q0 (2147483647 : Int64)))])) _
          by_cases hc42 : (2147483647 : Int64) < q0
          · try simp only [if_pos hc42] at k
            refine XS.ifYes X0.here hx rfl (pc0 := 42) (pc' := 51) rfl (hb hby at_42) rfl ((if0 _ _).trans (tlt ((lw_gt q0 (2147483647 : Int64)).mpr hc42)).2.2.1) (by decide) (by decide) ?_
            show Steps p.tables e below (s₁.setTop (mkF m 51 #[.val (.long q0), .second, .val (.int p1), .val (.int vk), .unset, .unset, .unset] [])) _
            refine X0.ldc2Long hx hown (mvT hZ (hw _ (List.mem_of_getElem? (i := 0) rfl))) (g := (mkF m 51 #[.val (.long q0), .second, .val (.int p1), .val (.int vk), .unset, .unset, .unset] [])) rfl (hb hby at_51) _ ?_
            show Steps p.tables e below (s₁.setTop (mkF m 54 #[.val (.long q0), .second, .val (.int p1), .val (.int vk), .unset, .unset, .unset] [(.long (1000 : Int64))])) _
            refine XS.lloadN X0.here hx rfl (hb hby at_54) rfl ?_
            show Steps p.tables e below (s₁.setTop (mkF m 55 #[.val (.long q0), .second, .val (.int p1), .val (.int vk), .unset, .unset, .unset] [(.long q0), (.long (1000 : Int64))])) _
            refine X0.ldc2Long hx hown (mvT hZ (hw _ (List.mem_of_getElem? (i := 1) rfl))) (g := (mkF m 55 #[.val (.long q0), .second, .val (.int p1), .val (.int vk), .unset, .unset, .unset] [(.long q0), (.long (1000 : Int64))])) rfl (hb hby at_55) _ ?_
            show Steps p.tables e below (s₁.setTop (mkF m 58 #[.val (.long q0), .second, .val (.int p1), .val (.int vk), .unset, .unset, .unset] [(.long (9223372036854775807 : Int64)), (.long q0), (.long (1000 : Int64))])) _
            refine XS.land X0.here hx rfl (hb hby at_58) rfl ?_
            show Steps p.tables e below (s₁.setTop (mkF m 59 #[.val (.long q0), .second, .val (.int p1), .val (.int vk), .unset, .unset, .unset] [(.long (q0 &&& (9223372036854775807 : Int64))), (.long (1000 : Int64))])) _
            refine X0.ldc2Long hx hown (mvT hZ (hw _ (List.mem_of_getElem? (i := 2) rfl))) (g := (mkF m 59 #[.val (.long q0), .second, .val (.int p1), .val (.int vk), .unset, .unset, .unset] [(.long (q0 &&& (9223372036854775807 : Int64))), (.long (1000 : Int64))])) rfl (hb hby at_59) _ ?_
            show Steps p.tables e below (s₁.setTop (mkF m 62 #[.val (.long q0), .second, .val (.int p1), .val (.int vk), .unset, .unset, .unset] [(.long (2147482648 : Int64)), (.long (q0 &&& (9223372036854775807 : Int64))), (.long (1000 : Int64))])) _
            refine XS.lrem X0.here hx rfl (hb hby at_62) rfl (by decide) ?_
            show Steps p.tables e below (s₁.setTop (mkF m 63 #[.val (.long q0), .second, .val (.int p1), .val (.int vk), .unset, .unset, .unset] [(.long ((q0 &&& (9223372036854775807 : Int64)) - ((q0 &&& (9223372036854775807 : Int64)) / (2147482648 : Int64)) * (2147482648 : Int64))), (.long (1000 : Int64))])) _
            refine XS.ladd X0.here hx rfl (hb hby at_63) rfl ?_
            show Steps p.tables e below (s₁.setTop (mkF m 64 #[.val (.long q0), .second, .val (.int p1), .val (.int vk), .unset, .unset, .unset] [(.long ((1000 : Int64) + ((q0 &&& (9223372036854775807 : Int64)) - ((q0 &&& (9223372036854775807 : Int64)) / (2147482648 : Int64)) * (2147482648 : Int64))))])) _
            refine XS.lstore X0.here hx rfl (hb hby at_64) rfl (l' := #[.val (.long q0), .second, .val (.int p1), .val (.int vk), .val (.long ((1000 : Int64) + ((q0 &&& (9223372036854775807 : Int64)) - ((q0 &&& (9223372036854775807 : Int64)) / (2147482648 : Int64)) * (2147482648 : Int64)))), .second, .unset]) rfl ?_
            show Steps p.tables e below (s₁.setTop (mkF m 66 #[.val (.long q0), .second, .val (.int p1), .val (.int vk), .val (.long ((1000 : Int64) + ((q0 &&& (9223372036854775807 : Int64)) - ((q0 &&& (9223372036854775807 : Int64)) / (2147482648 : Int64)) * (2147482648 : Int64)))), .second, .unset] [])) _
            exact k
          · try simp only [if_neg hc42] at k
            refine XS.ifNo X0.here hx rfl (hb hby at_42) rfl ((if0 _ _).trans (flt (mt (lw_gt q0 (2147483647 : Int64)).mp hc42)).2.2.1) ?_
            show Steps p.tables e below (s₁.setTop (mkF m 45 #[.val (.long q0), .second, .val (.int p1), .val (.int vk), .unset, .unset, .unset] [])) _
            refine XS.lloadN X0.here hx rfl (hb hby at_45) rfl ?_
            show Steps p.tables e below (s₁.setTop (mkF m 46 #[.val (.long q0), .second, .val (.int p1), .val (.int vk), .unset, .unset, .unset] [(.long q0)])) _
            refine XS.lstore X0.here hx rfl (hb hby at_46) rfl (l' := #[.val (.long q0), .second, .val (.int p1), .val (.int vk), .val (.long q0), .second, .unset]) rfl ?_
            show Steps p.tables e below (s₁.setTop (mkF m 48 #[.val (.long q0), .second, .val (.int p1), .val (.int vk), .val (.long q0), .second, .unset] [])) _
            refine XS.goto X0.here hx rfl (pc0 := 48) (pc' := 66) rfl (hb hby at_48) (by decide) (by decide) ?_
            show Steps p.tables e below (s₁.setTop (mkF m 66 #[.val (.long q0), .second, .val (.int p1), .val (.int vk), .val (.long q0), .second, .unset] [])) _
            exact k
  refine own_go sg1 ?_
  show own_Go p.tables e below _ (s₁.setTop (mkF m 66 #[.val (.long q0), .second, .val (.int p1), .val (.int vk), .val (.long (if vk = (0 : Int32) then (1000 : Int64) else (if vk = (1 : Int32) then (2147483647 : Int64) else (if q0 < (1000 : Int64) then ((1000 : Int64) + ((q0 &&& (9223372036854775807 : Int64)) - ((q0 &&& (9223372036854775807 : Int64)) / (2147482648 : Int64)) * (2147482648 : Int64))) else (if (2147483647 : Int64) < q0 then ((1000 : Int64) + ((q0 &&& (9223372036854775807 : Int64)) - ((q0 &&& (9223372036854775807 : Int64)) / (2147482648 : Int64)) * (2147482648 : Int64))) else q0))))), .second, .unset] []))
  obtain ⟨vv, hvv⟩ : ∃ z : Int64, z = (if vk = (0 : Int32) then (1000 : Int64) else (if vk = (1 : Int32) then (2147483647 : Int64) else (if q0 < (1000 : Int64) then ((1000 : Int64) + ((q0 &&& (9223372036854775807 : Int64)) - ((q0 &&& (9223372036854775807 : Int64)) / (2147482648 : Int64)) * (2147482648 : Int64))) else (if (2147483647 : Int64) < q0 then ((1000 : Int64) + ((q0 &&& (9223372036854775807 : Int64)) - ((q0 &&& (9223372036854775807 : Int64)) / (2147482648 : Int64)) * (2147482648 : Int64))) else q0)))) := ⟨_, rfl⟩
  rw [← hvv]
  show own_Go p.tables e below _ (s₁.setTop (mkF m 66 #[.val (.long q0), .second, .val (.int p1), .val (.int vk), .val (.long vv), .second, .unset] []))
  refine own_go (fun _ k => XS.lload X0.here hx rfl (hb hby at_66) rfl k) ?_
  show own_Go p.tables e below _ (s₁.setTop (mkF m 68 #[.val (.long q0), .second, .val (.int p1), .val (.int vk), .val (.long vv), .second, .unset] [(.long vv)]))
  obtain ⟨_, _, ⟨T2, L2, k2, n2⟩, -, X2, ⟨Lc2, hQ2, l2, y2, z2⟩, st2⟩ := Jvm.LawKit.callS X0 hx (y := (⟨"com/example/gna/gna/model/Recurrence$Interval", "checked", "(J)I"⟩ : MethodName)) hown (mvT hZ (hw _ (List.mem_of_getElem? (i := 3) rfl))) (mvT hZ (hw _ (List.mem_of_getElem? (i := 4) rfl))) (mvT hZ (hw _ (List.mem_of_getElem? (i := 5) rfl))) (mvT hZ (hw _ (List.mem_of_getElem? (i := 6) rfl))) (by decide) (backOf (W := 0) (rm1 l Z a0 hw [] vv h0 n0 Z0 (own_val hvv).1 (own_val hvv).2.1) hZ (hw _ (List.mem_of_getElem? (i := 6) rfl)) (hw _ (List.mem_of_getElem? (i := 5) rfl)) (by decide) (by decide)) (g := (mkF m 68 #[.val (.long q0), .second, .val (.int p1), .val (.int vk), .val (.long vv), .second, .unset] [(.long vv)])) rfl (by rw [hml]; rfl) (argsL := [(.long vv)]) (rest := []) (lenOf pd0_0 rfl) rfl (by show 2 * 0 + _ ≤ _; exact Nat.le_of_eq rfl) (hb hby at_68) (fun _ _ => ⟨rfl, e0, (by decide : 0 + 0 ≤ _), (by decide : 0 + 0 ≤ _)⟩)
  dsimp only [Pt.U, Pt.locs, Pt.cells, Pt.slots] at X2 l2 y2 z2 st2 hQ2
  subst l2 y2 z2
  refine own_go st2 ?_
  obtain ⟨rfl, N2q, e2⟩ := hQ2
  have N2 := Fr.app N0 N2q
  show own_Go p.tables e below _ (T2.setTop (mkF m 71 #[.val (.long q0), .second, .val (.int p1), .val (.int vk), .val (.long vv), .second, .unset] [(.int (own_f1 vv))]))
  refine own_go (fun _ k => XS.istore X2.here hx rfl (hb hby at_71) rfl (l' := #[.val (.long q0), .second, .val (.int p1), .val (.int vk), .val (.long vv), .second, .val (.int (own_f1 vv))]) rfl k) ?_
  show own_Go p.tables e below _ (T2.setTop (mkF m 73 #[.val (.long q0), .second, .val (.int p1), .val (.int vk), .val (.long vv), .second, .val (.int (own_f1 vv))] []))
  refine own_go (fun _ k => XS.iload X2.here hx rfl (hb hby at_73) rfl k) ?_
  show own_Go p.tables e below _ (T2.setTop (mkF m 75 #[.val (.long q0), .second, .val (.int p1), .val (.int vk), .val (.long vv), .second, .val (.int (own_f1 vv))] [(.int (own_f1 vv))]))
  refine own_go (fun _ k => XS.i2l X2.here hx rfl (hb hby at_75) rfl k) ?_
  show own_Go p.tables e below _ (T2.setTop (mkF m 76 #[.val (.long q0), .second, .val (.int p1), .val (.int vk), .val (.long vv), .second, .val (.int (own_f1 vv))] [(.long ((own_f1 vv).toInt64))]))
  refine own_go (fun _ k => XS.lload X2.here hx rfl (hb hby at_76) rfl k) ?_
  show own_Go p.tables e below _ (T2.setTop (mkF m 78 #[.val (.long q0), .second, .val (.int p1), .val (.int vk), .val (.long vv), .second, .val (.int (own_f1 vv))] [(.long vv), (.long ((own_f1 vv).toInt64))]))
  refine own_go (fun _ k => XS.lcmp X2.here hx rfl (hb hby at_78) rfl k) ?_
  show own_Go p.tables e below _ (T2.setTop (mkF m 79 #[.val (.long q0), .second, .val (.int p1), .val (.int vk), .val (.long vv), .second, .val (.int (own_f1 vv))] [(.int (lcmpW ((own_f1 vv).toInt64) vv))]))
  have hf79 : ((own_f1 vv).toInt64) = vv := (own_val hvv).2.2.1
  refine own_go (fun _ k => XS.ifNo X2.here hx rfl (hb hby at_79) rfl ((if0 _ _).trans (teq ((lw_eq ((own_f1 vv).toInt64) vv).mpr hf79)).2) k) ?_
  show own_Go p.tables e below _ (T2.setTop (mkF m 82 #[.val (.long q0), .second, .val (.int p1), .val (.int vk), .val (.long vv), .second, .val (.int (own_f1 vv))] []))
  refine own_go (fun _ k => XS.iload X2.here hx rfl (hb hby at_82) rfl k) ?_
  show own_Go p.tables e below _ (T2.setTop (mkF m 84 #[.val (.long q0), .second, .val (.int p1), .val (.int vk), .val (.long vv), .second, .val (.int (own_f1 vv))] [(.int (own_f1 vv))]))
  refine own_go (fun _ k => XS.sipush X2.here hx rfl (hb hby at_84) k) ?_
  show own_Go p.tables e below _ (T2.setTop (mkF m 87 #[.val (.long q0), .second, .val (.int p1), .val (.int vk), .val (.long vv), .second, .val (.int (own_f1 vv))] [(.int (1000 : Int32)), (.int (own_f1 vv))]))
  have hf87 : ¬ ((own_f1 vv) < (1000 : Int32)) := (own_val hvv).2.2.2
  refine own_go (fun _ k => XS.icmpNo X2.here hx rfl (hb hby at_87) rfl (flt hf87).1 k) ?_
  show own_Go p.tables e below _ (T2.setTop (mkF m 90 #[.val (.long q0), .second, .val (.int p1), .val (.int vk), .val (.long vv), .second, .val (.int (own_f1 vv))] []))
  refine own_go (fun _ k => XS.iconst X2.here hx rfl (hb hby at_90) k) ?_
  show own_Go p.tables e below _ (T2.setTop (mkF m 91 #[.val (.long q0), .second, .val (.int p1), .val (.int vk), .val (.long vv), .second, .val (.int (own_f1 vv))] [(.int (1 : Int32))]))
  refine own_go (fun _ k => XS.goto X2.here hx rfl (pc0 := 91) (pc' := 95) rfl (hb hby at_91) (by decide) (by decide) k) ?_
  show own_Go p.tables e below _ (T2.setTop (mkF m 95 #[.val (.long q0), .second, .val (.int p1), .val (.int vk), .val (.long vv), .second, .val (.int (own_f1 vv))] [(.int (1 : Int32))]))
  refine own_end X2 Bd.notSynchronized (v := some (.int (1 : Int32))) (fun h => by rw [Bd.returns] at h; cases h) (fun fs hr => retN X2 hx (t := .boolean) Bd.returns (by simp) (hb hby at_95) hr) ?_ (by decide) (by decide)
  exact ⟨rfl, N2⟩
set_option maxRecDepth 65536 in
set_option maxHeartbeats 40000000 in
theorem comes_1 {Post : Tables → Env → Array Value → State → Outcome → State → Prop} (hpost : ∀ tb e args s v u, (limb_1_1.after args s (.returned v) u = true ∧ limb_1_2.after args s (.returned v) u = true ∧ True) → FrameEnd s (.returned v) u (Jvm.fieldLocs frame_1_writes args s ++ Jvm.arrayLocs frame_1_arrays args s ++ Jvm.staticLocs frame_1_statics s) 0 0 → Post tb e args s (.returned v) u) :
    ArmFor flags0 classFile x code maxLocals ret World_1 tables_1 room_1 Calls_1 rest_1 Pre_1 Post := by
  intro l hfl _ _ p e ha hc hk s m args below hf hA hF happ hP
  obtain ⟨hcalls, hrest, hpre⟩ := hP
  obtain ⟨-, -, -, hnamed, -, -, -, hat⟩ := (Spec.applies_iff hf).mp happ
  obtain ⟨hg, hn⟩ := and_e (Cond.before_iff.mp (show (Jvm.Cond.and given_1 narrow_1).before args s = true from hpre))
  obtain ⟨g1, g2⟩ := and_e hg
  obtain ⟨g3, g4⟩ := and_e g2
  obtain ⟨w0, w1, rfl⟩ : ∃ w0 w1 : Value, args = #[w0, w1] := by
    have hs : args.size = 2 := by simpa [Cond.value, given_1] using g1
    obtain ⟨L⟩ := args
    match L, hs with
    | [w0, w1], _ => exact ⟨w0, w1, rfl⟩
  have hw := fun d (hd : d ∈ tables_1) => atoms_spec (ws := Jvm.Cond.code x code maxLocals ret :: tables_1) hat d (List.mem_cons_of_mem _ hd)
  obtain ⟨i0, ei0⟩ := isL_v g3
  obtain rfl : w0 = (.long i0) := Option.some.inj ei0
  obtain ⟨i1, ei1⟩ := is_v g4
  obtain rfl : w1 = (.int i1) := Option.some.inj ei1
  obtain ⟨n, o, h1, h2, h3, _, L, rfl, ⟨rfl, N⟩, hq⟩ := rm0 l s _ hw tables_1 i0 i1 s.heap s.heap.size (Nat.le_refl _) p e ha hc hk s m _ below hf ((Spec.applies_iff_loose hf).mp happ).1 ⟨rfl, State.Warmed39.refl s, rfl⟩ trivial
  refine ⟨n, _, h1, h2, h3, hpost _ _ _ _ _ _ ⟨Cond.after_iff.mpr rfl, Cond.after_iff.mpr (eq_i res_at (Term.int_eval (1)) rfl), trivial⟩ ⟨hq.1, hq.2.1, (hq.2.2.sift fun y hy => Or.inr (N y hy)).mono (by decide) (by decide)⟩⟩
theorem main_1_1 : Claimed_1_1 := comes_1 fun _ _ _ _ _ _ h hF => ⟨h.1, hF⟩
theorem main_1_2 : Claimed_1_2 := comes_1 fun _ _ _ _ _ _ h hF => ⟨h.2.1, hF⟩
end Jvm.Pilot.@@N@@
namespace Jvm.Pilot.@@N@@
open Jvm Jvm.ClassFile Sem Op Lib Jvm.Free Jvm.Stand Jvm.Pilot.@@N@@.Jvm.D
/-! MADE BY PROGRAM (witnessworld.py) out of the Statement's table words and the real class files: 9 classes; the members and pool entries that the words name. The judged class is class 1, her method 1. -/
namespace start1
open Jvm.ClassFile
def u (s : String) : CpInfo := .utf8 (stringToUtf16 s)
/-- a pool by its gaps: so many unusable entries, then the entry; so many at the end -/
def gap : Nat → List CpInfo → List CpInfo
  | 0, r => r
  | n + 1, r => .unusable :: gap n r
def poolList (es : List (Nat × CpInfo)) (last : Nat) : List CpInfo := es.foldr (fun e r => gap e.1 (e.2 :: r)) (gap last [])
def pool (es : List (Nat × CpInfo)) (last : Nat) : Array CpInfo := ⟨poolList es last⟩
def fileOf (pool : Array CpInfo) (this : Nat) (attrs : Array Attribute := #[]) (ms : Array MethodInfo := #[]) (fl : Nat := 33) (sup : Nat := 0) (ifs : Array Nat := #[]) (fds : Array FieldInfo := #[]) : ClassFile where
  minorVersion := 0
  majorVersion := 65
  constantPool := pool
  accessFlags := fl
  thisClass := this
  superClass := sup
  interfaces := ifs
  fields := fds
  methods := ms
  attributes := attrs
def plain (name : String) (sup : Option ClassId) : Class where
  name := name
  kind := .ordinary
  loader := none
  accessFlags := 33
  super := sup
  interfaces := #[]
  cf := none
  fields := #[]
  methods := #[]
  instanceTypes := #[]
  staticTypes := #[]
  resolved := #[]
  callSites := []
  init := .initialized
  statics := none
  mirror := none

def pool0 : Array CpInfo := pool [(5, u "<init>"), (0, u "()V"), (1, .class_ 10), (1, u "java/lang/Object")] 113

def k0m0 : Method := { name := "<init>", desc := "()V", sig := { parameters := [], returnType := none }, accessFlags := 1, code := none }
/-- java/lang/Object -/
def k0 : Class := { plain "java/lang/Object" none with
  accessFlags := 33
  interfaces := #[]
  cf := some (fileOf pool0 8 #[] #[{ accessFlags := 1, nameIndex := 5, descriptorIndex := 6, attributes := #[] }] 33 0 #[] #[])
  fields := #[]
  methods := #[k0m0]
  instanceTypes := #[]
  staticTypes := #[]
  resolved := Array.replicate 124 none
  statics := none }

def pool1 : Array CpInfo := pool [(2, .class_ 4), (1, u "java/lang/Object"), (0, u "<init>"), (0, u "()V"), (0, .long 1000), (1, .long 2147483647), (3, .long 9223372036854775807), (1, .long 2147482648), (1, .methodref 18 19), (0, .class_ 20), (0, .nameAndType 21 22), (0, u "com/example/gna/gna/model/Recurrence$Interval"), (0, u "checked"), (0, u "(J)I"), (0, .class_ 24), (0, u "com/example/gna/gna/model/IntervalCheckedPinLaw"), (2, u "law"), (0, u "(JI)Z")] 7

def k1m0 : Method := { name := "<init>", desc := "()V", sig := { parameters := [], returnType := none }, accessFlags := 2, code := none }
def k1c1 : Code := { maxStack := 6, maxLocals := 7, code := code, exceptionTable := #[], attributes := #[] }
def k1m1 : Method := { name := "law", desc := "(JI)Z", sig := { parameters := [.long, .int], returnType := some .boolean }, accessFlags := 9, code := some k1c1 }
/-- com/example/gna/gna/model/IntervalCheckedPinLaw -/
def k1 : Class := { plain "com/example/gna/gna/model/IntervalCheckedPinLaw" (some 0) with
  accessFlags := 49
  interfaces := #[]
  cf := some (fileOf pool1 23 #[] #[{ accessFlags := 2, nameIndex := 5, descriptorIndex := 6, attributes := #[] }, { accessFlags := 9, nameIndex := 27, descriptorIndex := 28, attributes := #[] }] 49 2 #[] #[])
  fields := #[]
  methods := #[k1m0, k1m1]
  instanceTypes := #[]
  staticTypes := #[]
  resolved := Array.replicate 36 none
  statics := none }

def pool2 : Array CpInfo := pool [(2, .class_ 4), (1, u "java/lang/Object"), (0, u "<init>"), (0, u "()V"), (0, .class_ 8), (0, u "java/lang/Record")] 13

def k2m0 : Method := { name := "<init>", desc := "()V", sig := { parameters := [], returnType := none }, accessFlags := 4, code := none }
/-- java/lang/Record -/
def k2 : Class := { plain "java/lang/Record" (some 0) with
  accessFlags := 1057
  interfaces := #[]
  cf := some (fileOf pool2 7 #[] #[{ accessFlags := 4, nameIndex := 5, descriptorIndex := 6, attributes := #[] }] 1057 2 #[] #[])
  fields := #[]
  methods := #[k2m0]
  instanceTypes := #[]
  staticTypes := #[]
  resolved := Array.replicate 22 none
  statics := none }

def pool3 : Array CpInfo := pool [(2, .class_ 4), (1, u "com/example/gna/gna/model/Recurrence"), (46, .class_ 52), (0, u "java/lang/Object"), (10, .class_ 64), (0, u "com/example/gna/gna/model/Recurrence$Unreadable"), (0, .class_ 66), (0, u "com/example/gna/gna/model/Recurrence$Timetable"), (0, .class_ 68), (0, u "com/example/gna/gna/model/Recurrence$Interval")] 5

/-- com/example/gna/gna/model/Recurrence -/
def k3 : Class := { plain "com/example/gna/gna/model/Recurrence" (some 0) with
  accessFlags := 1537
  interfaces := #[]
  cf := some (fileOf pool3 2 #[.nestMembers #[63, 65, 67]] #[] 1537 51 #[] #[])
  fields := #[]
  methods := #[]
  instanceTypes := #[]
  staticTypes := #[]
  resolved := Array.replicate 74 none
  statics := none }

def pool4 : Array CpInfo := pool [(2, .class_ 4), (1, u "java/lang/Record"), (3, u "startAt"), (19, .class_ 30), (1, u "com/example/gna/gna/model/Recurrence$Interval"), (0, u "checked"), (0, u "(J)I"), (2, u "Ljava/time/Instant;"), (2, u "everyMs"), (0, u "I"), (0, .long 1000), (3, .long 2147483647), (42, .class_ 89), (1, u "com/example/gna/gna/model/Recurrence"), (14, u "SHORTEST_MS")] 35

def k4c0 : Code := { maxStack := 4, maxLocals := 2, code := prog_30_method_2_code, exceptionTable := #[], attributes := #[] }
def k4m0 : Method := { name := "checked", desc := "(J)I", sig := { parameters := [.long], returnType := some .int }, accessFlags := 9, code := some k4c0 }
/-- com/example/gna/gna/model/Recurrence$Interval -/
def k4 : Class := { plain "com/example/gna/gna/model/Recurrence$Interval" (some 2) with
  accessFlags := 49
  interfaces := #[3]
  cf := some (fileOf pool4 28 #[.nestHost 87] #[{ accessFlags := 9, nameIndex := 31, descriptorIndex := 32, attributes := #[] }] 49 2 #[87] #[{ accessFlags := 18, nameIndex := 8, descriptorIndex := 35, attributes := #[] }, { accessFlags := 18, nameIndex := 38, descriptorIndex := 39, attributes := #[] }, { accessFlags := 25, nameIndex := 104, descriptorIndex := 39, attributes := #[] }])
  fields := #[{ name := "startAt", type := (.object "java/time/Instant"), accessFlags := 18, slot := 0, constantValue := 0 }, { name := "everyMs", type := .int, accessFlags := 18, slot := 1, constantValue := 0 }, { name := "SHORTEST_MS", type := .int, accessFlags := 25, slot := 0, constantValue := 0 }]
  methods := #[k4m0]
  instanceTypes := #[(.object "java/time/Instant"), .int]
  staticTypes := #[.int]
  resolved := Array.replicate 140 none
  statics := none }

def pool5 : Array CpInfo := pool [(1, u "java/lang/Cloneable"), (0, .class_ 1), (0, u "java/lang/Object"), (0, .class_ 3)] 3

/-- java/lang/Cloneable -/
def k5 : Class := { plain "java/lang/Cloneable" (some 0) with
  accessFlags := 1537
  interfaces := #[]
  cf := some (fileOf pool5 2 #[] #[] 1537 4 #[] #[])
  fields := #[]
  methods := #[]
  instanceTypes := #[]
  staticTypes := #[]
  resolved := Array.replicate 8 none
  statics := none }

def pool6 : Array CpInfo := pool [(1, u "java/io/Serializable"), (0, .class_ 1), (0, u "java/lang/Object"), (0, .class_ 3)] 3

/-- java/io/Serializable -/
def k6 : Class := { plain "java/io/Serializable" (some 0) with
  accessFlags := 1537
  interfaces := #[]
  cf := some (fileOf pool6 2 #[] #[] 1537 4 #[] #[])
  fields := #[]
  methods := #[]
  instanceTypes := #[]
  staticTypes := #[]
  resolved := Array.replicate 8 none
  statics := none }

/-- the primitive byte -/
def k7 : Class := { plain "byte" none with kind := .primitive 'B', accessFlags := 0x411 }
/-- [B -/
def k8 : Class := { plain "[B" (some 0) with kind := .array 7 .byte, interfaces := #[5, 6], accessFlags := 1041 }

def heap : Heap := #[]
def classes : Array Class := #[k0, k1, k2, k3, k4, k5, k6, k7, k8]
def interned : List (Array UInt16 × Addr) := []
def slotsUsed : Nat := 0
def theMethod : MethodId := ⟨1, 1⟩
def args0 : Array Value := #[.long 100000, .int 3]
def aboutOver (below : List Frame) : State where
  vm := { classes := classes, interned := interned.toArray }
  heap := heap
  slotsUsed := slotsUsed
  threads := #[{ frames := .invoking theMethod args0 :: below }]
def below0 : List Frame := [.native { method := ⟨0, 0⟩, args := #[] }]
def about1 : State := aboutOver below0
def p0 : Program := .bare "" "" ""
def e0 : Env := launch0.env 0 0 0
theorem w_frames : about1.frames = Frame.invoking theMethod args0 :: below0 := rfl
set_option maxRecDepth 65536 in
theorem w_args : argsFit about1.vm theMethod args0 = true := by decide +kernel
set_option maxRecDepth 65536 in
theorem w_heap : heapFits about1 = true := by decide +kernel
set_option maxRecDepth 65536 in
theorem w_runnable : about1.curStatus? = some .runnable := by decide +kernel
set_option maxRecDepth 65536 in
theorem w_alone : about1.alone = true := by decide +kernel
set_option maxRecDepth 65536 in
theorem w_named : about1.methodNamed? x = some theMethod := by decide +kernel
set_option maxRecDepth 65536 in
theorem w_hears : about1.hears theMethod below0 = true := by decide +kernel
set_option maxRecDepth 65536 in
theorem w_ripe : about1.ripe theMethod args0 below0 = true := by decide +kernel
theorem w_running : about1.status = .running := rfl
set_option maxRecDepth 65536 in
theorem w_room : about1.hasRoom e0.platform room_1 = true :=
  launch0.hasRoom_least _ room_1 (by decide +kernel) (by decide +kernel) (by decide +kernel) (by decide +kernel) (by decide +kernel) (by decide +kernel)
theorem allAtoms_all (ts : List Jvm.Cond) (a : Array Jvm.Value) (st : Jvm.State) : (allAtoms ts).before a st = ts.all (fun c => c.before a st) := by
  induction ts with
  | nil => rfl
  | cons c t ih =>
    show (Jvm.Cond.and c (allAtoms t)).before a st = _
    rw [Jvm.Cond.before_and, ih, List.all_cons]
def words1 : List Jvm.Cond := Jvm.Cond.code x code maxLocals ret :: tables_1
/-- a 'code' word, met by the world's own term for the bytes: nothing is compared byte by byte -/
theorem code_word {y : MethodName} {bytes : ByteArray} {mx : Nat} {rt : Option FieldType} {a : Array Value} {s : State} {m : MethodId} {meth : Method} {c : Code} (h1 : s.methodNamed? y = some m) (h2 : s.vm.method? m = some meth) (h3 : meth.code = some c) (h4 : c.code = bytes)
    (h5 : (c.maxLocals == mx && c.exceptionTable.isEmpty && decide (c.maxStack ≤ mostOperands) && decide (meth.sig.returnType = rt) && !meth.locks && decide (parseMethodDescriptor y.desc = some meth.sig)) = true) : (Jvm.Cond.code y bytes mx rt).before a s = true := by
  simp only [Bool.and_eq_true, beq_iff_eq, Bool.not_eq_true', decide_eq_true_eq] at h5
  obtain ⟨⟨⟨⟨⟨g1, g2⟩, g3⟩, g4⟩, g5⟩, g6⟩ := h5
  simp [Cond.before, Cond.holds, Cond.value, h1, h2, h3, h4, g1, g2, g3, g4, g5, g6]
def isCode : Jvm.Cond → Bool
  | .code _ _ _ _ => true
  | _ => false
theorem all_split {L : List Jvm.Cond} {P : Jvm.Cond → Bool} (h1 : L.all (fun c => isCode c || P c) = true) (h2 : ∀ c ∈ L.filter isCode, P c = true) : L.all P = true := by
  refine List.all_eq_true.mpr fun c hc => ?_
  have h := List.all_eq_true.mp h1 c hc
  rcases Bool.eq_false_or_eq_true (isCode c) with hi | hi
  · exact h2 c (List.mem_filter.mpr ⟨hc, hi⟩)
  · simpa [hi] using h
set_option maxRecDepth 65536 in
theorem w_c0 : (Jvm.Cond.code x code maxLocals ret).before args0 about1 = true := code_word (m := ⟨1, 1⟩) (meth := k1m1) (c := k1c1) (by decide +kernel) rfl rfl rfl (by decide +kernel)
set_option maxRecDepth 65536 in
theorem w_c1 : (Jvm.Cond.code ({ cls := "com/example/gna/gna/model/Recurrence$Interval", name := "checked", desc := "(J)I" } : Jvm.MethodName) prog_30_method_2_code (2 : Nat) (Option.some Jvm.ClassFile.FieldType.int)).before args0 about1 = true := code_word (m := ⟨4, 0⟩) (meth := k4m0) (c := k4c0) (by decide +kernel) rfl rfl rfl (by decide +kernel)
def codes1 : List Jvm.Cond := [Jvm.Cond.code x code maxLocals ret, Jvm.Cond.code ({ cls := "com/example/gna/gna/model/Recurrence$Interval", name := "checked", desc := "(J)I" } : Jvm.MethodName) prog_30_method_2_code (2 : Nat) (Option.some Jvm.ClassFile.FieldType.int)]
set_option maxRecDepth 65536 in
theorem codes_eq : words1.filter isCode = codes1 := rfl
theorem w_codes : ∀ c ∈ words1.filter isCode, c.before args0 about1 = true := by
  rw [codes_eq]
  intro c hc
  simp only [codes1, List.mem_cons, List.not_mem_nil, or_false] at hc
  rcases hc with rfl | rfl
  · exact w_c0
  · exact w_c1
set_option maxRecDepth 65536 in
theorem w_t1 : words1.all (fun c => isCode c || c.before args0 about1) = true := by decide +kernel
theorem w_tables : (allAtoms (Jvm.Cond.code x code maxLocals ret :: tables_1)).before args0 about1 = true := by
  rw [allAtoms_all]
  show words1.all (fun c => c.before args0 about1) = true
  refine all_split ?_ w_codes
  rw [w_t1]
set_option maxRecDepth 65536 in
theorem w_case : (Jvm.Cond.and given_1 narrow_1).before args0 about1 = true := by decide +kernel
theorem w_applies : (headSpec (Jvm.Cond.code x code maxLocals ret :: tables_1) room_1).applies x e0.platform about1 = true :=
  (Spec.applies_iff w_frames).mpr ⟨w_running, w_runnable, w_alone, w_named, w_hears, w_ripe, w_room, w_tables⟩
theorem atStart : AtStart classFile x code maxLocals ret World_1 tables_1 room_1 Calls_1 rest_1 Pre_1 launch0 p0 e0 about1 theMethod args0 below0 :=
  ⟨lists_1, trivial, launch0.admits_env _ _ _, launch0.least_env, fairChoices_fair.cas, fairChoices_fair.clock, w_frames, w_args, w_heap, w_applies, trivial, trivial, w_case⟩
end start1
theorem witness_1 : WitnessClaimed_1 := ⟨start1.p0, start1.e0, start1.about1, start1.theMethod, start1.args0, start1.below0, start1.atStart⟩
end Jvm.Pilot.@@N@@
