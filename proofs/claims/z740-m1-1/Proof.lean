import JvmDerived
import JvmDerived.Pilot.@@N@@Statement
import JvmDerived.Pilot.@@N@@Code
set_option linter.unusedVariables false
set_option linter.unusedSimpArgs false
namespace Jvm.RoadKit
open Sem ClassFile Op Lib Jvm.Stand Jvm.Free Jvm.LawKit
section New
variable {p : Program} {l : Launch} {e : Env} {R : Room} {s : State} {m : MethodId} {args : Array Value} {below : List Frame} {meth : Method} {c : Code} {T : State} {locs : List Loc} {cells slots : Nat}
theorem retI (X : Stand p l e R s m args below meth c T locs cells slots) (hx : p.tables.exec = Jvm.exec) {pc : Nat} {Ls : Array Slot} {z : Int32} {rest : List Value} (hret : meth.sig.returnType = some .int) (hd : decode c.code pc = .ok (.ireturn, 1)) {fs : List Frame}
    (hl : ∀ (f : JFrame) (acts : List Action), f.method = m → f.locked = none → f.entered = [] → (doReturn e (T.setTop f) acts (some (.int z))).1 = T.setFrames fs) : Steps p.tables e below (T.setTop (mkF m pc Ls (.int z :: rest))) (T.setFrames fs) := by
  have hm' : T.vm.method? m = some meth := X.method'
  have hn : narrow .int (.int z) = .int z := rfl
  show Steps p.tables e below (T.setTop { method := m, pc := pc, locals := Ls, stack := _ :: rest, locked := none }) _
  jvm_step X.here [X.here.top, hx, hd, hm', hret, hn]
  first | (intro acts; rw [hl _ acts rfl rfl rfl]) | rw [hl _ _ rfl rfl rfl]
  exact Steps.refl _
end New
end Jvm.RoadKit
namespace Jvm.Pilot.@@N@@
open Jvm Jvm.ClassFile Sem Op Lib Jvm.Free Jvm.Stand Jvm.LawKit Jvm.RoadKit Bundle Jvm.Pilot.@@N@@.Jvm.D
abbrev St (p : Program) (e : Env) (below : List Frame) (T : State) (g : JFrame) (t : State) : Prop := Steps p.tables e below (T.setTop g) t
theorem hwi {Z : State} {a0 : Array Value} (hw : ∀ d ∈ tables_1, d.before a0 Z = true) (i : Nat) {d : Jvm.Cond} (h : tables_1[i]? = some d) : d.before a0 Z = true := hw d (List.mem_of_getElem? h)
theorem own_w0 {n : Nat} : n ≤ n := Nat.le_refl n
theorem d1_0 : decode method_3_code 0 = .ok (.iload_n 0, 1) := by decide +kernel
theorem d1_1 : decode method_3_code 1 = .ok (.ifCond .ne 7, 3) := by decide +kernel
theorem d1_4 : decode method_3_code 4 = .ok (.getstatic 27, 3) := by decide +kernel
theorem d1_7 : decode method_3_code 7 = .ok (.areturn, 1) := by decide +kernel
theorem pn_1 : plainName "com/example/demarc/demarc/PropagationStepPinLaw" = true := by first | (simp [plainName, overriddenIn]; done) | decide +kernel
theorem ef_1_I (m : MethodId) (x0 : Int32) : entryFrame m #[(.int x0)] 1 = mkF m 0 #[.val (.int x0)] [] := by first | (simp [entryFrame, mkF, argsToLocals, Value.category]; done) | rfl
def Q_pick_0 (Z : State) (w_REQUIRED : Addr) (h0 : Heap) (n0 : Nat) (v : Option Value) (h : Heap) (L : List Loc) : Prop := v = some (.ref w_REQUIRED) ∧ Fr n0 L ∧ h = h0
set_option maxRecDepth 65536 in
set_option maxHeartbeats 40000000 in
theorem rm_pick_0 (l : Launch) (Z : State) (a0 : Array Value) (hw : ∀ d ∈ tables_1, d.before a0 Z = true) (ws : List Jvm.Cond) (w_REQUIRED : Addr) (h0 : Heap) (n0 : Nat) (Z0 : n0 ≤ h0.size) (S_REQUIRED : Sta Z Z.heap "com/example/demarc/demarc/Propagation" "REQUIRED" "Lcom/example/demarc/demarc/Propagation;" (.ref w_REQUIRED)) (O0 : Old Z n0 h0) :
    MetFree l (⟨"com/example/demarc/demarc/PropagationStepPinLaw", "pick", "(I)Lcom/example/demarc/demarc/Propagation;"⟩ : MethodName) (head1 (Jvm.Cond.code (⟨"com/example/demarc/demarc/PropagationStepPinLaw", "pick", "(I)Lcom/example/demarc/demarc/Propagation;"⟩ : MethodName) method_3_code 1 (some (.object "com/example/demarc/demarc/Propagation")) :: ws) ({ frames := 0, cells := 0, slots := 0, locals := 0 } : Room)) (fun a U => a = #[(.int 0)] ∧ Z.Warmed39 U.vm ∧ U.heap = h0) (fun _ _ _ _ _ => True) (fun _ U o U' => ∃ v L, o = .returned v ∧ Q_pick_0 Z w_REQUIRED h0 n0 v U'.heap L ∧ FrameEnd U o U' L ({ frames := 0, cells := 0, slots := 0, locals := 0 } : Room).cells ({ frames := 0, cells := 0, slots := 0, locals := 0 } : Room).slots) := by
  refine MetFree.of_bodySF (plainFor_of_name pn_1) hisR ?_
  intro p e s m args below meth c s₁ Bd hml0 hP hK
  obtain ⟨rfl, hZ, hh⟩ := hP
  have hx := Bd.exec
  have hby := Bd.bytes
  have hml : c.maxLocals = 1 := hml0
  have hown : s.vm.findClass "com/example/demarc/demarc/PropagationStepPinLaw" = some m.cls := findClass_of_methodNamed Bd.named
  have hnm := (name_of_methodNamed Bd.named Bd.method).1
  have X0 : Stand p l e ({ frames := 0, cells := 0, slots := 0, locals := 0 } : Room) s m #[(.int 0)] below meth c s₁ [] 0 0 := Stand.of_body Bd
  have e0 : s₁.heap = h0 := by rw [← hh, Bd.state]; rfl
  have N0 := Fr.nil n0
  have pre0 : ∀ t, Steps p.tables e below (s₁.setTop (mkF m 0 #[.val (.int 0)] [])) t → Steps p.tables e below (s₁.setTop (entryFrame m #[(.int 0)] 1)) t := fun t k => castTop (ef_1_I m (0 : Int32)) k
  obtain ⟨T1, X1, e1, st1⟩ := getS2 X0 hx hZ hown (host := "") (Or.inl (hwi hw 5 rfl)) Via.refl e0 (S_REQUIRED.ext O0.2) (g := (mkF m 4 #[.val (.int 0)] [])) rfl (hb hby d1_4)
  obtain ⟨fs, hr, hrun, hended, hW, hsame⟩ := X1.leave (v := some (.ref w_REQUIRED)) (fun h => by rw [Bd.returns] at h; cases h)
  refine ⟨_, _, pre0 _ ?_, hrun, hended, _, _, rfl, ?_, ⟨_, rfl⟩, hW, hsame.mono (by decide) (by decide)⟩
  · show St p e below s₁ (mkF m 0 #[.val (.int 0)] []) _
    refine XS.iloadN X0.here hx rfl (hb hby d1_0) rfl ?_
    show St p e below s₁ (mkF m 1 #[.val (.int 0)] [(.int 0)]) _
    refine XS.ifNo X0.here hx rfl (hb hby d1_1) rfl ((if0 _ _).trans (teq (by decide : (0 : Int32) = (0 : Int32))).2) ?_
    show St p e below s₁ (mkF m 4 #[.val (.int 0)] []) _
    refine st1 _ ?_
    show St p e below T1 (mkF m 7 #[.val (.int 0)] [(.ref w_REQUIRED)]) _
    jvm_step X1.here [X1.here.top, hx, (hb hby d1_7), X1.method', Bd.returns, Value.isRef, FieldType.isReference]
    first | (intro acts; rw [hr _ acts rfl rfl rfl]) | rw [hr _ _ rfl rfl rfl]
    exact Steps.refl _
  · show Q_pick_0 Z w_REQUIRED h0 n0 _ T1.heap _
    rw [e1]
    exact ⟨rfl, N0, rfl⟩
theorem d1_8 : decode method_3_code 8 = .ok (.iload_n 0, 1) := by decide +kernel
theorem d1_9 : decode method_3_code 9 = .ok (.iconst 1, 1) := by decide +kernel
theorem d1_10 : decode method_3_code 10 = .ok (.if_icmp .ne 7, 3) := by decide +kernel
theorem d1_13 : decode method_3_code 13 = .ok (.getstatic 31, 3) := by decide +kernel
theorem d1_16 : decode method_3_code 16 = .ok (.areturn, 1) := by decide +kernel
def Q_pick_1 (Z : State) (w_REQUIRES_NEW : Addr) (h0 : Heap) (n0 : Nat) (v : Option Value) (h : Heap) (L : List Loc) : Prop := v = some (.ref w_REQUIRES_NEW) ∧ Fr n0 L ∧ h = h0
set_option maxRecDepth 65536 in
set_option maxHeartbeats 40000000 in
theorem rm_pick_1 (l : Launch) (Z : State) (a0 : Array Value) (hw : ∀ d ∈ tables_1, d.before a0 Z = true) (ws : List Jvm.Cond) (w_REQUIRES_NEW : Addr) (h0 : Heap) (n0 : Nat) (Z0 : n0 ≤ h0.size) (S_REQUIRES_NEW : Sta Z Z.heap "com/example/demarc/demarc/Propagation" "REQUIRES_NEW" "Lcom/example/demarc/demarc/Propagation;" (.ref w_REQUIRES_NEW)) (O0 : Old Z n0 h0) :
    MetFree l (⟨"com/example/demarc/demarc/PropagationStepPinLaw", "pick", "(I)Lcom/example/demarc/demarc/Propagation;"⟩ : MethodName) (head1 (Jvm.Cond.code (⟨"com/example/demarc/demarc/PropagationStepPinLaw", "pick", "(I)Lcom/example/demarc/demarc/Propagation;"⟩ : MethodName) method_3_code 1 (some (.object "com/example/demarc/demarc/Propagation")) :: ws) ({ frames := 0, cells := 0, slots := 0, locals := 0 } : Room)) (fun a U => a = #[(.int 1)] ∧ Z.Warmed39 U.vm ∧ U.heap = h0) (fun _ _ _ _ _ => True) (fun _ U o U' => ∃ v L, o = .returned v ∧ Q_pick_1 Z w_REQUIRES_NEW h0 n0 v U'.heap L ∧ FrameEnd U o U' L ({ frames := 0, cells := 0, slots := 0, locals := 0 } : Room).cells ({ frames := 0, cells := 0, slots := 0, locals := 0 } : Room).slots) := by
  refine MetFree.of_bodySF (plainFor_of_name pn_1) hisR ?_
  intro p e s m args below meth c s₁ Bd hml0 hP hK
  obtain ⟨rfl, hZ, hh⟩ := hP
  have hx := Bd.exec
  have hby := Bd.bytes
  have hml : c.maxLocals = 1 := hml0
  have hown : s.vm.findClass "com/example/demarc/demarc/PropagationStepPinLaw" = some m.cls := findClass_of_methodNamed Bd.named
  have hnm := (name_of_methodNamed Bd.named Bd.method).1
  have X0 : Stand p l e ({ frames := 0, cells := 0, slots := 0, locals := 0 } : Room) s m #[(.int 1)] below meth c s₁ [] 0 0 := Stand.of_body Bd
  have e0 : s₁.heap = h0 := by rw [← hh, Bd.state]; rfl
  have N0 := Fr.nil n0
  have pre0 : ∀ t, Steps p.tables e below (s₁.setTop (mkF m 0 #[.val (.int 1)] [])) t → Steps p.tables e below (s₁.setTop (entryFrame m #[(.int 1)] 1)) t := fun t k => castTop (ef_1_I m (1 : Int32)) k
  obtain ⟨T1, X1, e1, st1⟩ := getS2 X0 hx hZ hown (host := "") (Or.inl (hwi hw 44 rfl)) Via.refl e0 (S_REQUIRES_NEW.ext O0.2) (g := (mkF m 13 #[.val (.int 1)] [])) rfl (hb hby d1_13)
  obtain ⟨fs, hr, hrun, hended, hW, hsame⟩ := X1.leave (v := some (.ref w_REQUIRES_NEW)) (fun h => by rw [Bd.returns] at h; cases h)
  refine ⟨_, _, pre0 _ ?_, hrun, hended, _, _, rfl, ?_, ⟨_, rfl⟩, hW, hsame.mono (by decide) (by decide)⟩
  · show St p e below s₁ (mkF m 0 #[.val (.int 1)] []) _
    refine XS.iloadN X0.here hx rfl (hb hby d1_0) rfl ?_
    show St p e below s₁ (mkF m 1 #[.val (.int 1)] [(.int 1)]) _
    refine XS.ifYes X0.here hx rfl (pc0 := 1) (pc' := 8) rfl (hb hby d1_1) rfl ((if0 _ _).trans (feq (by decide : ¬ ((1 : Int32) = (0 : Int32)))).2) (by decide) (by decide) ?_
    show St p e below s₁ (mkF m 8 #[.val (.int 1)] []) _
    refine XS.iloadN X0.here hx rfl (hb hby d1_8) rfl ?_
    show St p e below s₁ (mkF m 9 #[.val (.int 1)] [(.int 1)]) _
    refine XS.iconst X0.here hx rfl (hb hby d1_9) ?_
    show St p e below s₁ (mkF m 10 #[.val (.int 1)] [(.int 1), (.int 1)]) _
    refine XS.icmpNo X0.here hx rfl (hb hby d1_10) rfl (teq (by decide : (1 : Int32) = (1 : Int32))).2 ?_
    show St p e below s₁ (mkF m 13 #[.val (.int 1)] []) _
    refine st1 _ ?_
    show St p e below T1 (mkF m 16 #[.val (.int 1)] [(.ref w_REQUIRES_NEW)]) _
    jvm_step X1.here [X1.here.top, hx, (hb hby d1_16), X1.method', Bd.returns, Value.isRef, FieldType.isReference]
    first | (intro acts; rw [hr _ acts rfl rfl rfl]) | rw [hr _ _ rfl rfl rfl]
    exact Steps.refl _
  · show Q_pick_1 Z w_REQUIRES_NEW h0 n0 _ T1.heap _
    rw [e1]
    exact ⟨rfl, N0, rfl⟩
theorem d1_17 : decode method_3_code 17 = .ok (.iload_n 0, 1) := by decide +kernel
theorem d1_18 : decode method_3_code 18 = .ok (.iconst 2, 1) := by decide +kernel
theorem d1_19 : decode method_3_code 19 = .ok (.if_icmp .ne 7, 3) := by decide +kernel
theorem d1_22 : decode method_3_code 22 = .ok (.getstatic 34, 3) := by decide +kernel
theorem d1_25 : decode method_3_code 25 = .ok (.areturn, 1) := by decide +kernel
def Q_pick_2 (Z : State) (w_MANDATORY : Addr) (h0 : Heap) (n0 : Nat) (v : Option Value) (h : Heap) (L : List Loc) : Prop := v = some (.ref w_MANDATORY) ∧ Fr n0 L ∧ h = h0
set_option maxRecDepth 65536 in
set_option maxHeartbeats 40000000 in
theorem rm_pick_2 (l : Launch) (Z : State) (a0 : Array Value) (hw : ∀ d ∈ tables_1, d.before a0 Z = true) (ws : List Jvm.Cond) (w_MANDATORY : Addr) (h0 : Heap) (n0 : Nat) (Z0 : n0 ≤ h0.size) (S_MANDATORY : Sta Z Z.heap "com/example/demarc/demarc/Propagation" "MANDATORY" "Lcom/example/demarc/demarc/Propagation;" (.ref w_MANDATORY)) (O0 : Old Z n0 h0) :
    MetFree l (⟨"com/example/demarc/demarc/PropagationStepPinLaw", "pick", "(I)Lcom/example/demarc/demarc/Propagation;"⟩ : MethodName) (head1 (Jvm.Cond.code (⟨"com/example/demarc/demarc/PropagationStepPinLaw", "pick", "(I)Lcom/example/demarc/demarc/Propagation;"⟩ : MethodName) method_3_code 1 (some (.object "com/example/demarc/demarc/Propagation")) :: ws) ({ frames := 0, cells := 0, slots := 0, locals := 0 } : Room)) (fun a U => a = #[(.int 2)] ∧ Z.Warmed39 U.vm ∧ U.heap = h0) (fun _ _ _ _ _ => True) (fun _ U o U' => ∃ v L, o = .returned v ∧ Q_pick_2 Z w_MANDATORY h0 n0 v U'.heap L ∧ FrameEnd U o U' L ({ frames := 0, cells := 0, slots := 0, locals := 0 } : Room).cells ({ frames := 0, cells := 0, slots := 0, locals := 0 } : Room).slots) := by
  refine MetFree.of_bodySF (plainFor_of_name pn_1) hisR ?_
  intro p e s m args below meth c s₁ Bd hml0 hP hK
  obtain ⟨rfl, hZ, hh⟩ := hP
  have hx := Bd.exec
  have hby := Bd.bytes
  have hml : c.maxLocals = 1 := hml0
  have hown : s.vm.findClass "com/example/demarc/demarc/PropagationStepPinLaw" = some m.cls := findClass_of_methodNamed Bd.named
  have hnm := (name_of_methodNamed Bd.named Bd.method).1
  have X0 : Stand p l e ({ frames := 0, cells := 0, slots := 0, locals := 0 } : Room) s m #[(.int 2)] below meth c s₁ [] 0 0 := Stand.of_body Bd
  have e0 : s₁.heap = h0 := by rw [← hh, Bd.state]; rfl
  have N0 := Fr.nil n0
  have pre0 : ∀ t, Steps p.tables e below (s₁.setTop (mkF m 0 #[.val (.int 2)] [])) t → Steps p.tables e below (s₁.setTop (entryFrame m #[(.int 2)] 1)) t := fun t k => castTop (ef_1_I m (2 : Int32)) k
  obtain ⟨T1, X1, e1, st1⟩ := getS2 X0 hx hZ hown (host := "") (Or.inl (hwi hw 42 rfl)) Via.refl e0 (S_MANDATORY.ext O0.2) (g := (mkF m 22 #[.val (.int 2)] [])) rfl (hb hby d1_22)
  obtain ⟨fs, hr, hrun, hended, hW, hsame⟩ := X1.leave (v := some (.ref w_MANDATORY)) (fun h => by rw [Bd.returns] at h; cases h)
  refine ⟨_, _, pre0 _ ?_, hrun, hended, _, _, rfl, ?_, ⟨_, rfl⟩, hW, hsame.mono (by decide) (by decide)⟩
  · show St p e below s₁ (mkF m 0 #[.val (.int 2)] []) _
    refine XS.iloadN X0.here hx rfl (hb hby d1_0) rfl ?_
    show St p e below s₁ (mkF m 1 #[.val (.int 2)] [(.int 2)]) _
    refine XS.ifYes X0.here hx rfl (pc0 := 1) (pc' := 8) rfl (hb hby d1_1) rfl ((if0 _ _).trans (feq (by decide : ¬ ((2 : Int32) = (0 : Int32)))).2) (by decide) (by decide) ?_
    show St p e below s₁ (mkF m 8 #[.val (.int 2)] []) _
    refine XS.iloadN X0.here hx rfl (hb hby d1_8) rfl ?_
    show St p e below s₁ (mkF m 9 #[.val (.int 2)] [(.int 2)]) _
    refine XS.iconst X0.here hx rfl (hb hby d1_9) ?_
    show St p e below s₁ (mkF m 10 #[.val (.int 2)] [(.int 1), (.int 2)]) _
    refine XS.icmpYes X0.here hx rfl (pc0 := 10) (pc' := 17) rfl (hb hby d1_10) rfl (feq (by decide : ¬ ((2 : Int32) = (1 : Int32)))).2 (by decide) (by decide) ?_
    show St p e below s₁ (mkF m 17 #[.val (.int 2)] []) _
    refine XS.iloadN X0.here hx rfl (hb hby d1_17) rfl ?_
    show St p e below s₁ (mkF m 18 #[.val (.int 2)] [(.int 2)]) _
    refine XS.iconst X0.here hx rfl (hb hby d1_18) ?_
    show St p e below s₁ (mkF m 19 #[.val (.int 2)] [(.int 2), (.int 2)]) _
    refine XS.icmpNo X0.here hx rfl (hb hby d1_19) rfl (teq (by decide : (2 : Int32) = (2 : Int32))).2 ?_
    show St p e below s₁ (mkF m 22 #[.val (.int 2)] []) _
    refine st1 _ ?_
    show St p e below T1 (mkF m 25 #[.val (.int 2)] [(.ref w_MANDATORY)]) _
    jvm_step X1.here [X1.here.top, hx, (hb hby d1_25), X1.method', Bd.returns, Value.isRef, FieldType.isReference]
    first | (intro acts; rw [hr _ acts rfl rfl rfl]) | rw [hr _ _ rfl rfl rfl]
    exact Steps.refl _
  · show Q_pick_2 Z w_MANDATORY h0 n0 _ T1.heap _
    rw [e1]
    exact ⟨rfl, N0, rfl⟩
theorem d1_26 : decode method_3_code 26 = .ok (.iload_n 0, 1) := by decide +kernel
theorem d1_27 : decode method_3_code 27 = .ok (.iconst 3, 1) := by decide +kernel
theorem d1_28 : decode method_3_code 28 = .ok (.if_icmp .ne 7, 3) := by decide +kernel
theorem d1_31 : decode method_3_code 31 = .ok (.getstatic 37, 3) := by decide +kernel
theorem d1_34 : decode method_3_code 34 = .ok (.areturn, 1) := by decide +kernel
def Q_pick_3 (Z : State) (w_SUPPORTS : Addr) (h0 : Heap) (n0 : Nat) (v : Option Value) (h : Heap) (L : List Loc) : Prop := v = some (.ref w_SUPPORTS) ∧ Fr n0 L ∧ h = h0
set_option maxRecDepth 65536 in
set_option maxHeartbeats 40000000 in
theorem rm_pick_3 (l : Launch) (Z : State) (a0 : Array Value) (hw : ∀ d ∈ tables_1, d.before a0 Z = true) (ws : List Jvm.Cond) (w_SUPPORTS : Addr) (h0 : Heap) (n0 : Nat) (Z0 : n0 ≤ h0.size) (S_SUPPORTS : Sta Z Z.heap "com/example/demarc/demarc/Propagation" "SUPPORTS" "Lcom/example/demarc/demarc/Propagation;" (.ref w_SUPPORTS)) (O0 : Old Z n0 h0) :
    MetFree l (⟨"com/example/demarc/demarc/PropagationStepPinLaw", "pick", "(I)Lcom/example/demarc/demarc/Propagation;"⟩ : MethodName) (head1 (Jvm.Cond.code (⟨"com/example/demarc/demarc/PropagationStepPinLaw", "pick", "(I)Lcom/example/demarc/demarc/Propagation;"⟩ : MethodName) method_3_code 1 (some (.object "com/example/demarc/demarc/Propagation")) :: ws) ({ frames := 0, cells := 0, slots := 0, locals := 0 } : Room)) (fun a U => a = #[(.int 3)] ∧ Z.Warmed39 U.vm ∧ U.heap = h0) (fun _ _ _ _ _ => True) (fun _ U o U' => ∃ v L, o = .returned v ∧ Q_pick_3 Z w_SUPPORTS h0 n0 v U'.heap L ∧ FrameEnd U o U' L ({ frames := 0, cells := 0, slots := 0, locals := 0 } : Room).cells ({ frames := 0, cells := 0, slots := 0, locals := 0 } : Room).slots) := by
  refine MetFree.of_bodySF (plainFor_of_name pn_1) hisR ?_
  intro p e s m args below meth c s₁ Bd hml0 hP hK
  obtain ⟨rfl, hZ, hh⟩ := hP
  have hx := Bd.exec
  have hby := Bd.bytes
  have hml : c.maxLocals = 1 := hml0
  have hown : s.vm.findClass "com/example/demarc/demarc/PropagationStepPinLaw" = some m.cls := findClass_of_methodNamed Bd.named
  have hnm := (name_of_methodNamed Bd.named Bd.method).1
  have X0 : Stand p l e ({ frames := 0, cells := 0, slots := 0, locals := 0 } : Room) s m #[(.int 3)] below meth c s₁ [] 0 0 := Stand.of_body Bd
  have e0 : s₁.heap = h0 := by rw [← hh, Bd.state]; rfl
  have N0 := Fr.nil n0
  have pre0 : ∀ t, Steps p.tables e below (s₁.setTop (mkF m 0 #[.val (.int 3)] [])) t → Steps p.tables e below (s₁.setTop (entryFrame m #[(.int 3)] 1)) t := fun t k => castTop (ef_1_I m (3 : Int32)) k
  obtain ⟨T1, X1, e1, st1⟩ := getS2 X0 hx hZ hown (host := "") (Or.inl (hwi hw 28 rfl)) Via.refl e0 (S_SUPPORTS.ext O0.2) (g := (mkF m 31 #[.val (.int 3)] [])) rfl (hb hby d1_31)
  obtain ⟨fs, hr, hrun, hended, hW, hsame⟩ := X1.leave (v := some (.ref w_SUPPORTS)) (fun h => by rw [Bd.returns] at h; cases h)
  refine ⟨_, _, pre0 _ ?_, hrun, hended, _, _, rfl, ?_, ⟨_, rfl⟩, hW, hsame.mono (by decide) (by decide)⟩
  · show St p e below s₁ (mkF m 0 #[.val (.int 3)] []) _
    refine XS.iloadN X0.here hx rfl (hb hby d1_0) rfl ?_
    show St p e below s₁ (mkF m 1 #[.val (.int 3)] [(.int 3)]) _
    refine XS.ifYes X0.here hx rfl (pc0 := 1) (pc' := 8) rfl (hb hby d1_1) rfl ((if0 _ _).trans (feq (by decide : ¬ ((3 : Int32) = (0 : Int32)))).2) (by decide) (by decide) ?_
    show St p e below s₁ (mkF m 8 #[.val (.int 3)] []) _
    refine XS.iloadN X0.here hx rfl (hb hby d1_8) rfl ?_
    show St p e below s₁ (mkF m 9 #[.val (.int 3)] [(.int 3)]) _
    refine XS.iconst X0.here hx rfl (hb hby d1_9) ?_
    show St p e below s₁ (mkF m 10 #[.val (.int 3)] [(.int 1), (.int 3)]) _
    refine XS.icmpYes X0.here hx rfl (pc0 := 10) (pc' := 17) rfl (hb hby d1_10) rfl (feq (by decide : ¬ ((3 : Int32) = (1 : Int32)))).2 (by decide) (by decide) ?_
    show St p e below s₁ (mkF m 17 #[.val (.int 3)] []) _
    refine XS.iloadN X0.here hx rfl (hb hby d1_17) rfl ?_
    show St p e below s₁ (mkF m 18 #[.val (.int 3)] [(.int 3)]) _
    refine XS.iconst X0.here hx rfl (hb hby d1_18) ?_
    show St p e below s₁ (mkF m 19 #[.val (.int 3)] [(.int 2), (.int 3)]) _
    refine XS.icmpYes X0.here hx rfl (pc0 := 19) (pc' := 26) rfl (hb hby d1_19) rfl (feq (by decide : ¬ ((3 : Int32) = (2 : Int32)))).2 (by decide) (by decide) ?_
    show St p e below s₁ (mkF m 26 #[.val (.int 3)] []) _
    refine XS.iloadN X0.here hx rfl (hb hby d1_26) rfl ?_
    show St p e below s₁ (mkF m 27 #[.val (.int 3)] [(.int 3)]) _
    refine XS.iconst X0.here hx rfl (hb hby d1_27) ?_
    show St p e below s₁ (mkF m 28 #[.val (.int 3)] [(.int 3), (.int 3)]) _
    refine XS.icmpNo X0.here hx rfl (hb hby d1_28) rfl (teq (by decide : (3 : Int32) = (3 : Int32))).2 ?_
    show St p e below s₁ (mkF m 31 #[.val (.int 3)] []) _
    refine st1 _ ?_
    show St p e below T1 (mkF m 34 #[.val (.int 3)] [(.ref w_SUPPORTS)]) _
    jvm_step X1.here [X1.here.top, hx, (hb hby d1_34), X1.method', Bd.returns, Value.isRef, FieldType.isReference]
    first | (intro acts; rw [hr _ acts rfl rfl rfl]) | rw [hr _ _ rfl rfl rfl]
    exact Steps.refl _
  · show Q_pick_3 Z w_SUPPORTS h0 n0 _ T1.heap _
    rw [e1]
    exact ⟨rfl, N0, rfl⟩
theorem d1_35 : decode method_3_code 35 = .ok (.iload_n 0, 1) := by decide +kernel
theorem d1_36 : decode method_3_code 36 = .ok (.iconst 4, 1) := by decide +kernel
theorem d1_37 : decode method_3_code 37 = .ok (.if_icmp .ne 7, 3) := by decide +kernel
theorem d1_40 : decode method_3_code 40 = .ok (.getstatic 40, 3) := by decide +kernel
theorem d1_43 : decode method_3_code 43 = .ok (.areturn, 1) := by decide +kernel
def Q_pick_4 (Z : State) (w_NOT_SUPPORTED : Addr) (h0 : Heap) (n0 : Nat) (v : Option Value) (h : Heap) (L : List Loc) : Prop := v = some (.ref w_NOT_SUPPORTED) ∧ Fr n0 L ∧ h = h0
set_option maxRecDepth 65536 in
set_option maxHeartbeats 40000000 in
theorem rm_pick_4 (l : Launch) (Z : State) (a0 : Array Value) (hw : ∀ d ∈ tables_1, d.before a0 Z = true) (ws : List Jvm.Cond) (w_NOT_SUPPORTED : Addr) (h0 : Heap) (n0 : Nat) (Z0 : n0 ≤ h0.size) (S_NOT_SUPPORTED : Sta Z Z.heap "com/example/demarc/demarc/Propagation" "NOT_SUPPORTED" "Lcom/example/demarc/demarc/Propagation;" (.ref w_NOT_SUPPORTED)) (O0 : Old Z n0 h0) :
    MetFree l (⟨"com/example/demarc/demarc/PropagationStepPinLaw", "pick", "(I)Lcom/example/demarc/demarc/Propagation;"⟩ : MethodName) (head1 (Jvm.Cond.code (⟨"com/example/demarc/demarc/PropagationStepPinLaw", "pick", "(I)Lcom/example/demarc/demarc/Propagation;"⟩ : MethodName) method_3_code 1 (some (.object "com/example/demarc/demarc/Propagation")) :: ws) ({ frames := 0, cells := 0, slots := 0, locals := 0 } : Room)) (fun a U => a = #[(.int 4)] ∧ Z.Warmed39 U.vm ∧ U.heap = h0) (fun _ _ _ _ _ => True) (fun _ U o U' => ∃ v L, o = .returned v ∧ Q_pick_4 Z w_NOT_SUPPORTED h0 n0 v U'.heap L ∧ FrameEnd U o U' L ({ frames := 0, cells := 0, slots := 0, locals := 0 } : Room).cells ({ frames := 0, cells := 0, slots := 0, locals := 0 } : Room).slots) := by
  refine MetFree.of_bodySF (plainFor_of_name pn_1) hisR ?_
  intro p e s m args below meth c s₁ Bd hml0 hP hK
  obtain ⟨rfl, hZ, hh⟩ := hP
  have hx := Bd.exec
  have hby := Bd.bytes
  have hml : c.maxLocals = 1 := hml0
  have hown : s.vm.findClass "com/example/demarc/demarc/PropagationStepPinLaw" = some m.cls := findClass_of_methodNamed Bd.named
  have hnm := (name_of_methodNamed Bd.named Bd.method).1
  have X0 : Stand p l e ({ frames := 0, cells := 0, slots := 0, locals := 0 } : Room) s m #[(.int 4)] below meth c s₁ [] 0 0 := Stand.of_body Bd
  have e0 : s₁.heap = h0 := by rw [← hh, Bd.state]; rfl
  have N0 := Fr.nil n0
  have pre0 : ∀ t, Steps p.tables e below (s₁.setTop (mkF m 0 #[.val (.int 4)] [])) t → Steps p.tables e below (s₁.setTop (entryFrame m #[(.int 4)] 1)) t := fun t k => castTop (ef_1_I m (4 : Int32)) k
  obtain ⟨T1, X1, e1, st1⟩ := getS2 X0 hx hZ hown (host := "") (Or.inl (hwi hw 40 rfl)) Via.refl e0 (S_NOT_SUPPORTED.ext O0.2) (g := (mkF m 40 #[.val (.int 4)] [])) rfl (hb hby d1_40)
  obtain ⟨fs, hr, hrun, hended, hW, hsame⟩ := X1.leave (v := some (.ref w_NOT_SUPPORTED)) (fun h => by rw [Bd.returns] at h; cases h)
  refine ⟨_, _, pre0 _ ?_, hrun, hended, _, _, rfl, ?_, ⟨_, rfl⟩, hW, hsame.mono (by decide) (by decide)⟩
  · show St p e below s₁ (mkF m 0 #[.val (.int 4)] []) _
    refine XS.iloadN X0.here hx rfl (hb hby d1_0) rfl ?_
    show St p e below s₁ (mkF m 1 #[.val (.int 4)] [(.int 4)]) _
    refine XS.ifYes X0.here hx rfl (pc0 := 1) (pc' := 8) rfl (hb hby d1_1) rfl ((if0 _ _).trans (feq (by decide : ¬ ((4 : Int32) = (0 : Int32)))).2) (by decide) (by decide) ?_
    show St p e below s₁ (mkF m 8 #[.val (.int 4)] []) _
    refine XS.iloadN X0.here hx rfl (hb hby d1_8) rfl ?_
    show St p e below s₁ (mkF m 9 #[.val (.int 4)] [(.int 4)]) _
    refine XS.iconst X0.here hx rfl (hb hby d1_9) ?_
    show St p e below s₁ (mkF m 10 #[.val (.int 4)] [(.int 1), (.int 4)]) _
    refine XS.icmpYes X0.here hx rfl (pc0 := 10) (pc' := 17) rfl (hb hby d1_10) rfl (feq (by decide : ¬ ((4 : Int32) = (1 : Int32)))).2 (by decide) (by decide) ?_
    show St p e below s₁ (mkF m 17 #[.val (.int 4)] []) _
    refine XS.iloadN X0.here hx rfl (hb hby d1_17) rfl ?_
    show St p e below s₁ (mkF m 18 #[.val (.int 4)] [(.int 4)]) _
    refine XS.iconst X0.here hx rfl (hb hby d1_18) ?_
    show St p e below s₁ (mkF m 19 #[.val (.int 4)] [(.int 2), (.int 4)]) _
    refine XS.icmpYes X0.here hx rfl (pc0 := 19) (pc' := 26) rfl (hb hby d1_19) rfl (feq (by decide : ¬ ((4 : Int32) = (2 : Int32)))).2 (by decide) (by decide) ?_
    show St p e below s₁ (mkF m 26 #[.val (.int 4)] []) _
    refine XS.iloadN X0.here hx rfl (hb hby d1_26) rfl ?_
    show St p e below s₁ (mkF m 27 #[.val (.int 4)] [(.int 4)]) _
    refine XS.iconst X0.here hx rfl (hb hby d1_27) ?_
    show St p e below s₁ (mkF m 28 #[.val (.int 4)] [(.int 3), (.int 4)]) _
    refine XS.icmpYes X0.here hx rfl (pc0 := 28) (pc' := 35) rfl (hb hby d1_28) rfl (feq (by decide : ¬ ((4 : Int32) = (3 : Int32)))).2 (by decide) (by decide) ?_
    show St p e below s₁ (mkF m 35 #[.val (.int 4)] []) _
    refine XS.iloadN X0.here hx rfl (hb hby d1_35) rfl ?_
    show St p e below s₁ (mkF m 36 #[.val (.int 4)] [(.int 4)]) _
    refine XS.iconst X0.here hx rfl (hb hby d1_36) ?_
    show St p e below s₁ (mkF m 37 #[.val (.int 4)] [(.int 4), (.int 4)]) _
    refine XS.icmpNo X0.here hx rfl (hb hby d1_37) rfl (teq (by decide : (4 : Int32) = (4 : Int32))).2 ?_
    show St p e below s₁ (mkF m 40 #[.val (.int 4)] []) _
    refine st1 _ ?_
    show St p e below T1 (mkF m 43 #[.val (.int 4)] [(.ref w_NOT_SUPPORTED)]) _
    jvm_step X1.here [X1.here.top, hx, (hb hby d1_43), X1.method', Bd.returns, Value.isRef, FieldType.isReference]
    first | (intro acts; rw [hr _ acts rfl rfl rfl]) | rw [hr _ _ rfl rfl rfl]
    exact Steps.refl _
  · show Q_pick_4 Z w_NOT_SUPPORTED h0 n0 _ T1.heap _
    rw [e1]
    exact ⟨rfl, N0, rfl⟩
theorem d1_44 : decode method_3_code 44 = .ok (.iload_n 0, 1) := by decide +kernel
theorem d1_45 : decode method_3_code 45 = .ok (.iconst 5, 1) := by decide +kernel
theorem d1_46 : decode method_3_code 46 = .ok (.if_icmp .ne 7, 3) := by decide +kernel
theorem d1_49 : decode method_3_code 49 = .ok (.getstatic 43, 3) := by decide +kernel
theorem d1_52 : decode method_3_code 52 = .ok (.areturn, 1) := by decide +kernel
def Q_pick_5 (Z : State) (w_NEVER : Addr) (h0 : Heap) (n0 : Nat) (v : Option Value) (h : Heap) (L : List Loc) : Prop := v = some (.ref w_NEVER) ∧ Fr n0 L ∧ h = h0
set_option maxRecDepth 65536 in
set_option maxHeartbeats 40000000 in
theorem rm_pick_5 (l : Launch) (Z : State) (a0 : Array Value) (hw : ∀ d ∈ tables_1, d.before a0 Z = true) (ws : List Jvm.Cond) (w_NEVER : Addr) (h0 : Heap) (n0 : Nat) (Z0 : n0 ≤ h0.size) (S_NEVER : Sta Z Z.heap "com/example/demarc/demarc/Propagation" "NEVER" "Lcom/example/demarc/demarc/Propagation;" (.ref w_NEVER)) (O0 : Old Z n0 h0) :
    MetFree l (⟨"com/example/demarc/demarc/PropagationStepPinLaw", "pick", "(I)Lcom/example/demarc/demarc/Propagation;"⟩ : MethodName) (head1 (Jvm.Cond.code (⟨"com/example/demarc/demarc/PropagationStepPinLaw", "pick", "(I)Lcom/example/demarc/demarc/Propagation;"⟩ : MethodName) method_3_code 1 (some (.object "com/example/demarc/demarc/Propagation")) :: ws) ({ frames := 0, cells := 0, slots := 0, locals := 0 } : Room)) (fun a U => a = #[(.int 5)] ∧ Z.Warmed39 U.vm ∧ U.heap = h0) (fun _ _ _ _ _ => True) (fun _ U o U' => ∃ v L, o = .returned v ∧ Q_pick_5 Z w_NEVER h0 n0 v U'.heap L ∧ FrameEnd U o U' L ({ frames := 0, cells := 0, slots := 0, locals := 0 } : Room).cells ({ frames := 0, cells := 0, slots := 0, locals := 0 } : Room).slots) := by
  refine MetFree.of_bodySF (plainFor_of_name pn_1) hisR ?_
  intro p e s m args below meth c s₁ Bd hml0 hP hK
  obtain ⟨rfl, hZ, hh⟩ := hP
  have hx := Bd.exec
  have hby := Bd.bytes
  have hml : c.maxLocals = 1 := hml0
  have hown : s.vm.findClass "com/example/demarc/demarc/PropagationStepPinLaw" = some m.cls := findClass_of_methodNamed Bd.named
  have hnm := (name_of_methodNamed Bd.named Bd.method).1
  have X0 : Stand p l e ({ frames := 0, cells := 0, slots := 0, locals := 0 } : Room) s m #[(.int 5)] below meth c s₁ [] 0 0 := Stand.of_body Bd
  have e0 : s₁.heap = h0 := by rw [← hh, Bd.state]; rfl
  have N0 := Fr.nil n0
  have pre0 : ∀ t, Steps p.tables e below (s₁.setTop (mkF m 0 #[.val (.int 5)] [])) t → Steps p.tables e below (s₁.setTop (entryFrame m #[(.int 5)] 1)) t := fun t k => castTop (ef_1_I m (5 : Int32)) k
  obtain ⟨T1, X1, e1, st1⟩ := getS2 X0 hx hZ hown (host := "") (Or.inl (hwi hw 32 rfl)) Via.refl e0 (S_NEVER.ext O0.2) (g := (mkF m 49 #[.val (.int 5)] [])) rfl (hb hby d1_49)
  obtain ⟨fs, hr, hrun, hended, hW, hsame⟩ := X1.leave (v := some (.ref w_NEVER)) (fun h => by rw [Bd.returns] at h; cases h)
  refine ⟨_, _, pre0 _ ?_, hrun, hended, _, _, rfl, ?_, ⟨_, rfl⟩, hW, hsame.mono (by decide) (by decide)⟩
  · show St p e below s₁ (mkF m 0 #[.val (.int 5)] []) _
    refine XS.iloadN X0.here hx rfl (hb hby d1_0) rfl ?_
    show St p e below s₁ (mkF m 1 #[.val (.int 5)] [(.int 5)]) _
    refine XS.ifYes X0.here hx rfl (pc0 := 1) (pc' := 8) rfl (hb hby d1_1) rfl ((if0 _ _).trans (feq (by decide : ¬ ((5 : Int32) = (0 : Int32)))).2) (by decide) (by decide) ?_
    show St p e below s₁ (mkF m 8 #[.val (.int 5)] []) _
    refine XS.iloadN X0.here hx rfl (hb hby d1_8) rfl ?_
    show St p e below s₁ (mkF m 9 #[.val (.int 5)] [(.int 5)]) _
    refine XS.iconst X0.here hx rfl (hb hby d1_9) ?_
    show St p e below s₁ (mkF m 10 #[.val (.int 5)] [(.int 1), (.int 5)]) _
    refine XS.icmpYes X0.here hx rfl (pc0 := 10) (pc' := 17) rfl (hb hby d1_10) rfl (feq (by decide : ¬ ((5 : Int32) = (1 : Int32)))).2 (by decide) (by decide) ?_
    show St p e below s₁ (mkF m 17 #[.val (.int 5)] []) _
    refine XS.iloadN X0.here hx rfl (hb hby d1_17) rfl ?_
    show St p e below s₁ (mkF m 18 #[.val (.int 5)] [(.int 5)]) _
    refine XS.iconst X0.here hx rfl (hb hby d1_18) ?_
    show St p e below s₁ (mkF m 19 #[.val (.int 5)] [(.int 2), (.int 5)]) _
    refine XS.icmpYes X0.here hx rfl (pc0 := 19) (pc' := 26) rfl (hb hby d1_19) rfl (feq (by decide : ¬ ((5 : Int32) = (2 : Int32)))).2 (by decide) (by decide) ?_
    show St p e below s₁ (mkF m 26 #[.val (.int 5)] []) _
    refine XS.iloadN X0.here hx rfl (hb hby d1_26) rfl ?_
    show St p e below s₁ (mkF m 27 #[.val (.int 5)] [(.int 5)]) _
    refine XS.iconst X0.here hx rfl (hb hby d1_27) ?_
    show St p e below s₁ (mkF m 28 #[.val (.int 5)] [(.int 3), (.int 5)]) _
    refine XS.icmpYes X0.here hx rfl (pc0 := 28) (pc' := 35) rfl (hb hby d1_28) rfl (feq (by decide : ¬ ((5 : Int32) = (3 : Int32)))).2 (by decide) (by decide) ?_
    show St p e below s₁ (mkF m 35 #[.val (.int 5)] []) _
    refine XS.iloadN X0.here hx rfl (hb hby d1_35) rfl ?_
    show St p e below s₁ (mkF m 36 #[.val (.int 5)] [(.int 5)]) _
    refine XS.iconst X0.here hx rfl (hb hby d1_36) ?_
    show St p e below s₁ (mkF m 37 #[.val (.int 5)] [(.int 4), (.int 5)]) _
    refine XS.icmpYes X0.here hx rfl (pc0 := 37) (pc' := 44) rfl (hb hby d1_37) rfl (feq (by decide : ¬ ((5 : Int32) = (4 : Int32)))).2 (by decide) (by decide) ?_
    show St p e below s₁ (mkF m 44 #[.val (.int 5)] []) _
    refine XS.iloadN X0.here hx rfl (hb hby d1_44) rfl ?_
    show St p e below s₁ (mkF m 45 #[.val (.int 5)] [(.int 5)]) _
    refine XS.iconst X0.here hx rfl (hb hby d1_45) ?_
    show St p e below s₁ (mkF m 46 #[.val (.int 5)] [(.int 5), (.int 5)]) _
    refine XS.icmpNo X0.here hx rfl (hb hby d1_46) rfl (teq (by decide : (5 : Int32) = (5 : Int32))).2 ?_
    show St p e below s₁ (mkF m 49 #[.val (.int 5)] []) _
    refine st1 _ ?_
    show St p e below T1 (mkF m 52 #[.val (.int 5)] [(.ref w_NEVER)]) _
    jvm_step X1.here [X1.here.top, hx, (hb hby d1_52), X1.method', Bd.returns, Value.isRef, FieldType.isReference]
    first | (intro acts; rw [hr _ acts rfl rfl rfl]) | rw [hr _ _ rfl rfl rfl]
    exact Steps.refl _
  · show Q_pick_5 Z w_NEVER h0 n0 _ T1.heap _
    rw [e1]
    exact ⟨rfl, N0, rfl⟩
theorem d1_53 : decode method_3_code 53 = .ok (.getstatic 46, 3) := by decide +kernel
theorem d1_56 : decode method_3_code 56 = .ok (.areturn, 1) := by decide +kernel
def Q_pick_6 (Z : State) (w_NESTED : Addr) (h0 : Heap) (n0 : Nat) (v : Option Value) (h : Heap) (L : List Loc) : Prop := v = some (.ref w_NESTED) ∧ Fr n0 L ∧ h = h0
set_option maxRecDepth 65536 in
set_option maxHeartbeats 40000000 in
theorem rm_pick_6 (l : Launch) (Z : State) (a0 : Array Value) (hw : ∀ d ∈ tables_1, d.before a0 Z = true) (ws : List Jvm.Cond) (w_NESTED : Addr) (h0 : Heap) (n0 : Nat) (Z0 : n0 ≤ h0.size) (S_NESTED : Sta Z Z.heap "com/example/demarc/demarc/Propagation" "NESTED" "Lcom/example/demarc/demarc/Propagation;" (.ref w_NESTED)) (O0 : Old Z n0 h0) :
    MetFree l (⟨"com/example/demarc/demarc/PropagationStepPinLaw", "pick", "(I)Lcom/example/demarc/demarc/Propagation;"⟩ : MethodName) (head1 (Jvm.Cond.code (⟨"com/example/demarc/demarc/PropagationStepPinLaw", "pick", "(I)Lcom/example/demarc/demarc/Propagation;"⟩ : MethodName) method_3_code 1 (some (.object "com/example/demarc/demarc/Propagation")) :: ws) ({ frames := 0, cells := 0, slots := 0, locals := 0 } : Room)) (fun a U => a = #[(.int 6)] ∧ Z.Warmed39 U.vm ∧ U.heap = h0) (fun _ _ _ _ _ => True) (fun _ U o U' => ∃ v L, o = .returned v ∧ Q_pick_6 Z w_NESTED h0 n0 v U'.heap L ∧ FrameEnd U o U' L ({ frames := 0, cells := 0, slots := 0, locals := 0 } : Room).cells ({ frames := 0, cells := 0, slots := 0, locals := 0 } : Room).slots) := by
  refine MetFree.of_bodySF (plainFor_of_name pn_1) hisR ?_
  intro p e s m args below meth c s₁ Bd hml0 hP hK
  obtain ⟨rfl, hZ, hh⟩ := hP
  have hx := Bd.exec
  have hby := Bd.bytes
  have hml : c.maxLocals = 1 := hml0
  have hown : s.vm.findClass "com/example/demarc/demarc/PropagationStepPinLaw" = some m.cls := findClass_of_methodNamed Bd.named
  have hnm := (name_of_methodNamed Bd.named Bd.method).1
  have X0 : Stand p l e ({ frames := 0, cells := 0, slots := 0, locals := 0 } : Room) s m #[(.int 6)] below meth c s₁ [] 0 0 := Stand.of_body Bd
  have e0 : s₁.heap = h0 := by rw [← hh, Bd.state]; rfl
  have N0 := Fr.nil n0
  have pre0 : ∀ t, Steps p.tables e below (s₁.setTop (mkF m 0 #[.val (.int 6)] [])) t → Steps p.tables e below (s₁.setTop (entryFrame m #[(.int 6)] 1)) t := fun t k => castTop (ef_1_I m (6 : Int32)) k
  obtain ⟨T1, X1, e1, st1⟩ := getS2 X0 hx hZ hown (host := "") (Or.inl (hwi hw 36 rfl)) Via.refl e0 (S_NESTED.ext O0.2) (g := (mkF m 53 #[.val (.int 6)] [])) rfl (hb hby d1_53)
  obtain ⟨fs, hr, hrun, hended, hW, hsame⟩ := X1.leave (v := some (.ref w_NESTED)) (fun h => by rw [Bd.returns] at h; cases h)
  refine ⟨_, _, pre0 _ ?_, hrun, hended, _, _, rfl, ?_, ⟨_, rfl⟩, hW, hsame.mono (by decide) (by decide)⟩
  · show St p e below s₁ (mkF m 0 #[.val (.int 6)] []) _
    refine XS.iloadN X0.here hx rfl (hb hby d1_0) rfl ?_
    show St p e below s₁ (mkF m 1 #[.val (.int 6)] [(.int 6)]) _
    refine XS.ifYes X0.here hx rfl (pc0 := 1) (pc' := 8) rfl (hb hby d1_1) rfl ((if0 _ _).trans (feq (by decide : ¬ ((6 : Int32) = (0 : Int32)))).2) (by decide) (by decide) ?_
    show St p e below s₁ (mkF m 8 #[.val (.int 6)] []) _
    refine XS.iloadN X0.here hx rfl (hb hby d1_8) rfl ?_
    show St p e below s₁ (mkF m 9 #[.val (.int 6)] [(.int 6)]) _
    refine XS.iconst X0.here hx rfl (hb hby d1_9) ?_
    show St p e below s₁ (mkF m 10 #[.val (.int 6)] [(.int 1), (.int 6)]) _
    refine XS.icmpYes X0.here hx rfl (pc0 := 10) (pc' := 17) rfl (hb hby d1_10) rfl (feq (by decide : ¬ ((6 : Int32) = (1 : Int32)))).2 (by decide) (by decide) ?_
    show St p e below s₁ (mkF m 17 #[.val (.int 6)] []) _
    refine XS.iloadN X0.here hx rfl (hb hby d1_17) rfl ?_
    show St p e below s₁ (mkF m 18 #[.val (.int 6)] [(.int 6)]) _
    refine XS.iconst X0.here hx rfl (hb hby d1_18) ?_
    show St p e below s₁ (mkF m 19 #[.val (.int 6)] [(.int 2), (.int 6)]) _
    refine XS.icmpYes X0.here hx rfl (pc0 := 19) (pc' := 26) rfl (hb hby d1_19) rfl (feq (by decide : ¬ ((6 : Int32) = (2 : Int32)))).2 (by decide) (by decide) ?_
    show St p e below s₁ (mkF m 26 #[.val (.int 6)] []) _
    refine XS.iloadN X0.here hx rfl (hb hby d1_26) rfl ?_
    show St p e below s₁ (mkF m 27 #[.val (.int 6)] [(.int 6)]) _
    refine XS.iconst X0.here hx rfl (hb hby d1_27) ?_
    show St p e below s₁ (mkF m 28 #[.val (.int 6)] [(.int 3), (.int 6)]) _
    refine XS.icmpYes X0.here hx rfl (pc0 := 28) (pc' := 35) rfl (hb hby d1_28) rfl (feq (by decide : ¬ ((6 : Int32) = (3 : Int32)))).2 (by decide) (by decide) ?_
    show St p e below s₁ (mkF m 35 #[.val (.int 6)] []) _
    refine XS.iloadN X0.here hx rfl (hb hby d1_35) rfl ?_
    show St p e below s₁ (mkF m 36 #[.val (.int 6)] [(.int 6)]) _
    refine XS.iconst X0.here hx rfl (hb hby d1_36) ?_
    show St p e below s₁ (mkF m 37 #[.val (.int 6)] [(.int 4), (.int 6)]) _
    refine XS.icmpYes X0.here hx rfl (pc0 := 37) (pc' := 44) rfl (hb hby d1_37) rfl (feq (by decide : ¬ ((6 : Int32) = (4 : Int32)))).2 (by decide) (by decide) ?_
    show St p e below s₁ (mkF m 44 #[.val (.int 6)] []) _
    refine XS.iloadN X0.here hx rfl (hb hby d1_44) rfl ?_
    show St p e below s₁ (mkF m 45 #[.val (.int 6)] [(.int 6)]) _
    refine XS.iconst X0.here hx rfl (hb hby d1_45) ?_
    show St p e below s₁ (mkF m 46 #[.val (.int 6)] [(.int 5), (.int 6)]) _
    refine XS.icmpYes X0.here hx rfl (pc0 := 46) (pc' := 53) rfl (hb hby d1_46) rfl (feq (by decide : ¬ ((6 : Int32) = (5 : Int32)))).2 (by decide) (by decide) ?_
    show St p e below s₁ (mkF m 53 #[.val (.int 6)] []) _
    refine st1 _ ?_
    show St p e below T1 (mkF m 56 #[.val (.int 6)] [(.ref w_NESTED)]) _
    jvm_step X1.here [X1.here.top, hx, (hb hby d1_56), X1.method', Bd.returns, Value.isRef, FieldType.isReference]
    first | (intro acts; rw [hr _ acts rfl rfl rfl]) | rw [hr _ _ rfl rfl rfl]
    exact Steps.refl _
  · show Q_pick_6 Z w_NESTED h0 n0 _ T1.heap _
    rw [e1]
    exact ⟨rfl, N0, rfl⟩
theorem d3_0 : decode method_4_code 0 = .ok (.iload_n 0, 1) := by decide +kernel
theorem d3_1 : decode method_4_code 1 = .ok (.ifCond .ne 7, 3) := by decide +kernel
theorem d3_4 : decode method_4_code 4 = .ok (.getstatic 49, 3) := by decide +kernel
theorem d3_7 : decode method_4_code 7 = .ok (.areturn, 1) := by decide +kernel
theorem pn_3 : plainName "com/example/demarc/demarc/PropagationStepPinLaw" = true := by first | (simp [plainName, overriddenIn]; done) | decide +kernel
theorem ef_3_I (m : MethodId) (x0 : Int32) : entryFrame m #[(.int x0)] 1 = mkF m 0 #[.val (.int x0)] [] := by first | (simp [entryFrame, mkF, argsToLocals, Value.category]; done) | rfl
def Q_ein_0 (Z : State) (w_JOIN : Addr) (h0 : Heap) (n0 : Nat) (v : Option Value) (h : Heap) (L : List Loc) : Prop := v = some (.ref w_JOIN) ∧ Fr n0 L ∧ h = h0
set_option maxRecDepth 65536 in
set_option maxHeartbeats 40000000 in
theorem rm_ein_0 (l : Launch) (Z : State) (a0 : Array Value) (hw : ∀ d ∈ tables_1, d.before a0 Z = true) (ws : List Jvm.Cond) (w_JOIN : Addr) (h0 : Heap) (n0 : Nat) (Z0 : n0 ≤ h0.size) (S_JOIN : Sta Z Z.heap "com/example/demarc/demarc/Propagation$Step" "JOIN" "Lcom/example/demarc/demarc/Propagation$Step;" (.ref w_JOIN)) (O0 : Old Z n0 h0) :
    MetFree l (⟨"com/example/demarc/demarc/PropagationStepPinLaw", "expectIn", "(I)Lcom/example/demarc/demarc/Propagation$Step;"⟩ : MethodName) (head1 (Jvm.Cond.code (⟨"com/example/demarc/demarc/PropagationStepPinLaw", "expectIn", "(I)Lcom/example/demarc/demarc/Propagation$Step;"⟩ : MethodName) method_4_code 1 (some (.object "com/example/demarc/demarc/Propagation$Step")) :: ws) ({ frames := 0, cells := 0, slots := 0, locals := 0 } : Room)) (fun a U => a = #[(.int 0)] ∧ Z.Warmed39 U.vm ∧ U.heap = h0) (fun _ _ _ _ _ => True) (fun _ U o U' => ∃ v L, o = .returned v ∧ Q_ein_0 Z w_JOIN h0 n0 v U'.heap L ∧ FrameEnd U o U' L ({ frames := 0, cells := 0, slots := 0, locals := 0 } : Room).cells ({ frames := 0, cells := 0, slots := 0, locals := 0 } : Room).slots) := by
  refine MetFree.of_bodySF (plainFor_of_name pn_3) hisR ?_
  intro p e s m args below meth c s₁ Bd hml0 hP hK
  obtain ⟨rfl, hZ, hh⟩ := hP
  have hx := Bd.exec
  have hby := Bd.bytes
  have hml : c.maxLocals = 1 := hml0
  have hown : s.vm.findClass "com/example/demarc/demarc/PropagationStepPinLaw" = some m.cls := findClass_of_methodNamed Bd.named
  have hnm := (name_of_methodNamed Bd.named Bd.method).1
  have X0 : Stand p l e ({ frames := 0, cells := 0, slots := 0, locals := 0 } : Room) s m #[(.int 0)] below meth c s₁ [] 0 0 := Stand.of_body Bd
  have e0 : s₁.heap = h0 := by rw [← hh, Bd.state]; rfl
  have N0 := Fr.nil n0
  have pre0 : ∀ t, Steps p.tables e below (s₁.setTop (mkF m 0 #[.val (.int 0)] [])) t → Steps p.tables e below (s₁.setTop (entryFrame m #[(.int 0)] 1)) t := fun t k => castTop (ef_3_I m (0 : Int32)) k
  obtain ⟨T1, X1, e1, st1⟩ := getS2 X0 hx hZ hown (host := "") (Or.inl (hwi hw 23 rfl)) Via.refl e0 (S_JOIN.ext O0.2) (g := (mkF m 4 #[.val (.int 0)] [])) rfl (hb hby d3_4)
  obtain ⟨fs, hr, hrun, hended, hW, hsame⟩ := X1.leave (v := some (.ref w_JOIN)) (fun h => by rw [Bd.returns] at h; cases h)
  refine ⟨_, _, pre0 _ ?_, hrun, hended, _, _, rfl, ?_, ⟨_, rfl⟩, hW, hsame.mono (by decide) (by decide)⟩
  · show St p e below s₁ (mkF m 0 #[.val (.int 0)] []) _
    refine XS.iloadN X0.here hx rfl (hb hby d3_0) rfl ?_
    show St p e below s₁ (mkF m 1 #[.val (.int 0)] [(.int 0)]) _
    refine XS.ifNo X0.here hx rfl (hb hby d3_1) rfl ((if0 _ _).trans (teq (by decide : (0 : Int32) = (0 : Int32))).2) ?_
    show St p e below s₁ (mkF m 4 #[.val (.int 0)] []) _
    refine st1 _ ?_
    show St p e below T1 (mkF m 7 #[.val (.int 0)] [(.ref w_JOIN)]) _
    jvm_step X1.here [X1.here.top, hx, (hb hby d3_7), X1.method', Bd.returns, Value.isRef, FieldType.isReference]
    first | (intro acts; rw [hr _ acts rfl rfl rfl]) | rw [hr _ _ rfl rfl rfl]
    exact Steps.refl _
  · show Q_ein_0 Z w_JOIN h0 n0 _ T1.heap _
    rw [e1]
    exact ⟨rfl, N0, rfl⟩
theorem d3_8 : decode method_4_code 8 = .ok (.iload_n 0, 1) := by decide +kernel
theorem d3_9 : decode method_4_code 9 = .ok (.iconst 1, 1) := by decide +kernel
theorem d3_10 : decode method_4_code 10 = .ok (.if_icmp .ne 7, 3) := by decide +kernel
theorem d3_13 : decode method_4_code 13 = .ok (.getstatic 55, 3) := by decide +kernel
theorem d3_16 : decode method_4_code 16 = .ok (.areturn, 1) := by decide +kernel
def Q_ein_1 (Z : State) (w_BEGIN : Addr) (h0 : Heap) (n0 : Nat) (v : Option Value) (h : Heap) (L : List Loc) : Prop := v = some (.ref w_BEGIN) ∧ Fr n0 L ∧ h = h0
set_option maxRecDepth 65536 in
set_option maxHeartbeats 40000000 in
theorem rm_ein_1 (l : Launch) (Z : State) (a0 : Array Value) (hw : ∀ d ∈ tables_1, d.before a0 Z = true) (ws : List Jvm.Cond) (w_BEGIN : Addr) (h0 : Heap) (n0 : Nat) (Z0 : n0 ≤ h0.size) (S_BEGIN : Sta Z Z.heap "com/example/demarc/demarc/Propagation$Step" "BEGIN" "Lcom/example/demarc/demarc/Propagation$Step;" (.ref w_BEGIN)) (O0 : Old Z n0 h0) :
    MetFree l (⟨"com/example/demarc/demarc/PropagationStepPinLaw", "expectIn", "(I)Lcom/example/demarc/demarc/Propagation$Step;"⟩ : MethodName) (head1 (Jvm.Cond.code (⟨"com/example/demarc/demarc/PropagationStepPinLaw", "expectIn", "(I)Lcom/example/demarc/demarc/Propagation$Step;"⟩ : MethodName) method_4_code 1 (some (.object "com/example/demarc/demarc/Propagation$Step")) :: ws) ({ frames := 0, cells := 0, slots := 0, locals := 0 } : Room)) (fun a U => a = #[(.int 1)] ∧ Z.Warmed39 U.vm ∧ U.heap = h0) (fun _ _ _ _ _ => True) (fun _ U o U' => ∃ v L, o = .returned v ∧ Q_ein_1 Z w_BEGIN h0 n0 v U'.heap L ∧ FrameEnd U o U' L ({ frames := 0, cells := 0, slots := 0, locals := 0 } : Room).cells ({ frames := 0, cells := 0, slots := 0, locals := 0 } : Room).slots) := by
  refine MetFree.of_bodySF (plainFor_of_name pn_3) hisR ?_
  intro p e s m args below meth c s₁ Bd hml0 hP hK
  obtain ⟨rfl, hZ, hh⟩ := hP
  have hx := Bd.exec
  have hby := Bd.bytes
  have hml : c.maxLocals = 1 := hml0
  have hown : s.vm.findClass "com/example/demarc/demarc/PropagationStepPinLaw" = some m.cls := findClass_of_methodNamed Bd.named
  have hnm := (name_of_methodNamed Bd.named Bd.method).1
  have X0 : Stand p l e ({ frames := 0, cells := 0, slots := 0, locals := 0 } : Room) s m #[(.int 1)] below meth c s₁ [] 0 0 := Stand.of_body Bd
  have e0 : s₁.heap = h0 := by rw [← hh, Bd.state]; rfl
  have N0 := Fr.nil n0
  have pre0 : ∀ t, Steps p.tables e below (s₁.setTop (mkF m 0 #[.val (.int 1)] [])) t → Steps p.tables e below (s₁.setTop (entryFrame m #[(.int 1)] 1)) t := fun t k => castTop (ef_3_I m (1 : Int32)) k
  obtain ⟨T1, X1, e1, st1⟩ := getS2 X0 hx hZ hown (host := "") (Or.inl (hwi hw 27 rfl)) Via.refl e0 (S_BEGIN.ext O0.2) (g := (mkF m 13 #[.val (.int 1)] [])) rfl (hb hby d3_13)
  obtain ⟨fs, hr, hrun, hended, hW, hsame⟩ := X1.leave (v := some (.ref w_BEGIN)) (fun h => by rw [Bd.returns] at h; cases h)
  refine ⟨_, _, pre0 _ ?_, hrun, hended, _, _, rfl, ?_, ⟨_, rfl⟩, hW, hsame.mono (by decide) (by decide)⟩
  · show St p e below s₁ (mkF m 0 #[.val (.int 1)] []) _
    refine XS.iloadN X0.here hx rfl (hb hby d3_0) rfl ?_
    show St p e below s₁ (mkF m 1 #[.val (.int 1)] [(.int 1)]) _
    refine XS.ifYes X0.here hx rfl (pc0 := 1) (pc' := 8) rfl (hb hby d3_1) rfl ((if0 _ _).trans (feq (by decide : ¬ ((1 : Int32) = (0 : Int32)))).2) (by decide) (by decide) ?_
    show St p e below s₁ (mkF m 8 #[.val (.int 1)] []) _
    refine XS.iloadN X0.here hx rfl (hb hby d3_8) rfl ?_
    show St p e below s₁ (mkF m 9 #[.val (.int 1)] [(.int 1)]) _
    refine XS.iconst X0.here hx rfl (hb hby d3_9) ?_
    show St p e below s₁ (mkF m 10 #[.val (.int 1)] [(.int 1), (.int 1)]) _
    refine XS.icmpNo X0.here hx rfl (hb hby d3_10) rfl (teq (by decide : (1 : Int32) = (1 : Int32))).2 ?_
    show St p e below s₁ (mkF m 13 #[.val (.int 1)] []) _
    refine st1 _ ?_
    show St p e below T1 (mkF m 16 #[.val (.int 1)] [(.ref w_BEGIN)]) _
    jvm_step X1.here [X1.here.top, hx, (hb hby d3_16), X1.method', Bd.returns, Value.isRef, FieldType.isReference]
    first | (intro acts; rw [hr _ acts rfl rfl rfl]) | rw [hr _ _ rfl rfl rfl]
    exact Steps.refl _
  · show Q_ein_1 Z w_BEGIN h0 n0 _ T1.heap _
    rw [e1]
    exact ⟨rfl, N0, rfl⟩
theorem d3_17 : decode method_4_code 17 = .ok (.iload_n 0, 1) := by decide +kernel
theorem d3_18 : decode method_4_code 18 = .ok (.iconst 2, 1) := by decide +kernel
theorem d3_19 : decode method_4_code 19 = .ok (.if_icmp .ne 7, 3) := by decide +kernel
theorem d3_22 : decode method_4_code 22 = .ok (.getstatic 49, 3) := by decide +kernel
theorem d3_25 : decode method_4_code 25 = .ok (.areturn, 1) := by decide +kernel
def Q_ein_2 (Z : State) (w_JOIN : Addr) (h0 : Heap) (n0 : Nat) (v : Option Value) (h : Heap) (L : List Loc) : Prop := v = some (.ref w_JOIN) ∧ Fr n0 L ∧ h = h0
set_option maxRecDepth 65536 in
set_option maxHeartbeats 40000000 in
theorem rm_ein_2 (l : Launch) (Z : State) (a0 : Array Value) (hw : ∀ d ∈ tables_1, d.before a0 Z = true) (ws : List Jvm.Cond) (w_JOIN : Addr) (h0 : Heap) (n0 : Nat) (Z0 : n0 ≤ h0.size) (S_JOIN : Sta Z Z.heap "com/example/demarc/demarc/Propagation$Step" "JOIN" "Lcom/example/demarc/demarc/Propagation$Step;" (.ref w_JOIN)) (O0 : Old Z n0 h0) :
    MetFree l (⟨"com/example/demarc/demarc/PropagationStepPinLaw", "expectIn", "(I)Lcom/example/demarc/demarc/Propagation$Step;"⟩ : MethodName) (head1 (Jvm.Cond.code (⟨"com/example/demarc/demarc/PropagationStepPinLaw", "expectIn", "(I)Lcom/example/demarc/demarc/Propagation$Step;"⟩ : MethodName) method_4_code 1 (some (.object "com/example/demarc/demarc/Propagation$Step")) :: ws) ({ frames := 0, cells := 0, slots := 0, locals := 0 } : Room)) (fun a U => a = #[(.int 2)] ∧ Z.Warmed39 U.vm ∧ U.heap = h0) (fun _ _ _ _ _ => True) (fun _ U o U' => ∃ v L, o = .returned v ∧ Q_ein_2 Z w_JOIN h0 n0 v U'.heap L ∧ FrameEnd U o U' L ({ frames := 0, cells := 0, slots := 0, locals := 0 } : Room).cells ({ frames := 0, cells := 0, slots := 0, locals := 0 } : Room).slots) := by
  refine MetFree.of_bodySF (plainFor_of_name pn_3) hisR ?_
  intro p e s m args below meth c s₁ Bd hml0 hP hK
  obtain ⟨rfl, hZ, hh⟩ := hP
  have hx := Bd.exec
  have hby := Bd.bytes
  have hml : c.maxLocals = 1 := hml0
  have hown : s.vm.findClass "com/example/demarc/demarc/PropagationStepPinLaw" = some m.cls := findClass_of_methodNamed Bd.named
  have hnm := (name_of_methodNamed Bd.named Bd.method).1
  have X0 : Stand p l e ({ frames := 0, cells := 0, slots := 0, locals := 0 } : Room) s m #[(.int 2)] below meth c s₁ [] 0 0 := Stand.of_body Bd
  have e0 : s₁.heap = h0 := by rw [← hh, Bd.state]; rfl
  have N0 := Fr.nil n0
  have pre0 : ∀ t, Steps p.tables e below (s₁.setTop (mkF m 0 #[.val (.int 2)] [])) t → Steps p.tables e below (s₁.setTop (entryFrame m #[(.int 2)] 1)) t := fun t k => castTop (ef_3_I m (2 : Int32)) k
  obtain ⟨T1, X1, e1, st1⟩ := getS2 X0 hx hZ hown (host := "") (Or.inl (hwi hw 23 rfl)) Via.refl e0 (S_JOIN.ext O0.2) (g := (mkF m 22 #[.val (.int 2)] [])) rfl (hb hby d3_22)
  obtain ⟨fs, hr, hrun, hended, hW, hsame⟩ := X1.leave (v := some (.ref w_JOIN)) (fun h => by rw [Bd.returns] at h; cases h)
  refine ⟨_, _, pre0 _ ?_, hrun, hended, _, _, rfl, ?_, ⟨_, rfl⟩, hW, hsame.mono (by decide) (by decide)⟩
  · show St p e below s₁ (mkF m 0 #[.val (.int 2)] []) _
    refine XS.iloadN X0.here hx rfl (hb hby d3_0) rfl ?_
    show St p e below s₁ (mkF m 1 #[.val (.int 2)] [(.int 2)]) _
    refine XS.ifYes X0.here hx rfl (pc0 := 1) (pc' := 8) rfl (hb hby d3_1) rfl ((if0 _ _).trans (feq (by decide : ¬ ((2 : Int32) = (0 : Int32)))).2) (by decide) (by decide) ?_
    show St p e below s₁ (mkF m 8 #[.val (.int 2)] []) _
    refine XS.iloadN X0.here hx rfl (hb hby d3_8) rfl ?_
    show St p e below s₁ (mkF m 9 #[.val (.int 2)] [(.int 2)]) _
    refine XS.iconst X0.here hx rfl (hb hby d3_9) ?_
    show St p e below s₁ (mkF m 10 #[.val (.int 2)] [(.int 1), (.int 2)]) _
    refine XS.icmpYes X0.here hx rfl (pc0 := 10) (pc' := 17) rfl (hb hby d3_10) rfl (feq (by decide : ¬ ((2 : Int32) = (1 : Int32)))).2 (by decide) (by decide) ?_
    show St p e below s₁ (mkF m 17 #[.val (.int 2)] []) _
    refine XS.iloadN X0.here hx rfl (hb hby d3_17) rfl ?_
    show St p e below s₁ (mkF m 18 #[.val (.int 2)] [(.int 2)]) _
    refine XS.iconst X0.here hx rfl (hb hby d3_18) ?_
    show St p e below s₁ (mkF m 19 #[.val (.int 2)] [(.int 2), (.int 2)]) _
    refine XS.icmpNo X0.here hx rfl (hb hby d3_19) rfl (teq (by decide : (2 : Int32) = (2 : Int32))).2 ?_
    show St p e below s₁ (mkF m 22 #[.val (.int 2)] []) _
    refine st1 _ ?_
    show St p e below T1 (mkF m 25 #[.val (.int 2)] [(.ref w_JOIN)]) _
    jvm_step X1.here [X1.here.top, hx, (hb hby d3_25), X1.method', Bd.returns, Value.isRef, FieldType.isReference]
    first | (intro acts; rw [hr _ acts rfl rfl rfl]) | rw [hr _ _ rfl rfl rfl]
    exact Steps.refl _
  · show Q_ein_2 Z w_JOIN h0 n0 _ T1.heap _
    rw [e1]
    exact ⟨rfl, N0, rfl⟩
theorem d3_26 : decode method_4_code 26 = .ok (.iload_n 0, 1) := by decide +kernel
theorem d3_27 : decode method_4_code 27 = .ok (.iconst 3, 1) := by decide +kernel
theorem d3_28 : decode method_4_code 28 = .ok (.if_icmp .ne 7, 3) := by decide +kernel
theorem d3_31 : decode method_4_code 31 = .ok (.getstatic 49, 3) := by decide +kernel
theorem d3_34 : decode method_4_code 34 = .ok (.areturn, 1) := by decide +kernel
def Q_ein_3 (Z : State) (w_JOIN : Addr) (h0 : Heap) (n0 : Nat) (v : Option Value) (h : Heap) (L : List Loc) : Prop := v = some (.ref w_JOIN) ∧ Fr n0 L ∧ h = h0
set_option maxRecDepth 65536 in
set_option maxHeartbeats 40000000 in
theorem rm_ein_3 (l : Launch) (Z : State) (a0 : Array Value) (hw : ∀ d ∈ tables_1, d.before a0 Z = true) (ws : List Jvm.Cond) (w_JOIN : Addr) (h0 : Heap) (n0 : Nat) (Z0 : n0 ≤ h0.size) (S_JOIN : Sta Z Z.heap "com/example/demarc/demarc/Propagation$Step" "JOIN" "Lcom/example/demarc/demarc/Propagation$Step;" (.ref w_JOIN)) (O0 : Old Z n0 h0) :
    MetFree l (⟨"com/example/demarc/demarc/PropagationStepPinLaw", "expectIn", "(I)Lcom/example/demarc/demarc/Propagation$Step;"⟩ : MethodName) (head1 (Jvm.Cond.code (⟨"com/example/demarc/demarc/PropagationStepPinLaw", "expectIn", "(I)Lcom/example/demarc/demarc/Propagation$Step;"⟩ : MethodName) method_4_code 1 (some (.object "com/example/demarc/demarc/Propagation$Step")) :: ws) ({ frames := 0, cells := 0, slots := 0, locals := 0 } : Room)) (fun a U => a = #[(.int 3)] ∧ Z.Warmed39 U.vm ∧ U.heap = h0) (fun _ _ _ _ _ => True) (fun _ U o U' => ∃ v L, o = .returned v ∧ Q_ein_3 Z w_JOIN h0 n0 v U'.heap L ∧ FrameEnd U o U' L ({ frames := 0, cells := 0, slots := 0, locals := 0 } : Room).cells ({ frames := 0, cells := 0, slots := 0, locals := 0 } : Room).slots) := by
  refine MetFree.of_bodySF (plainFor_of_name pn_3) hisR ?_
  intro p e s m args below meth c s₁ Bd hml0 hP hK
  obtain ⟨rfl, hZ, hh⟩ := hP
  have hx := Bd.exec
  have hby := Bd.bytes
  have hml : c.maxLocals = 1 := hml0
  have hown : s.vm.findClass "com/example/demarc/demarc/PropagationStepPinLaw" = some m.cls := findClass_of_methodNamed Bd.named
  have hnm := (name_of_methodNamed Bd.named Bd.method).1
  have X0 : Stand p l e ({ frames := 0, cells := 0, slots := 0, locals := 0 } : Room) s m #[(.int 3)] below meth c s₁ [] 0 0 := Stand.of_body Bd
  have e0 : s₁.heap = h0 := by rw [← hh, Bd.state]; rfl
  have N0 := Fr.nil n0
  have pre0 : ∀ t, Steps p.tables e below (s₁.setTop (mkF m 0 #[.val (.int 3)] [])) t → Steps p.tables e below (s₁.setTop (entryFrame m #[(.int 3)] 1)) t := fun t k => castTop (ef_3_I m (3 : Int32)) k
  obtain ⟨T1, X1, e1, st1⟩ := getS2 X0 hx hZ hown (host := "") (Or.inl (hwi hw 23 rfl)) Via.refl e0 (S_JOIN.ext O0.2) (g := (mkF m 31 #[.val (.int 3)] [])) rfl (hb hby d3_31)
  obtain ⟨fs, hr, hrun, hended, hW, hsame⟩ := X1.leave (v := some (.ref w_JOIN)) (fun h => by rw [Bd.returns] at h; cases h)
  refine ⟨_, _, pre0 _ ?_, hrun, hended, _, _, rfl, ?_, ⟨_, rfl⟩, hW, hsame.mono (by decide) (by decide)⟩
  · show St p e below s₁ (mkF m 0 #[.val (.int 3)] []) _
    refine XS.iloadN X0.here hx rfl (hb hby d3_0) rfl ?_
    show St p e below s₁ (mkF m 1 #[.val (.int 3)] [(.int 3)]) _
    refine XS.ifYes X0.here hx rfl (pc0 := 1) (pc' := 8) rfl (hb hby d3_1) rfl ((if0 _ _).trans (feq (by decide : ¬ ((3 : Int32) = (0 : Int32)))).2) (by decide) (by decide) ?_
    show St p e below s₁ (mkF m 8 #[.val (.int 3)] []) _
    refine XS.iloadN X0.here hx rfl (hb hby d3_8) rfl ?_
    show St p e below s₁ (mkF m 9 #[.val (.int 3)] [(.int 3)]) _
    refine XS.iconst X0.here hx rfl (hb hby d3_9) ?_
    show St p e below s₁ (mkF m 10 #[.val (.int 3)] [(.int 1), (.int 3)]) _
    refine XS.icmpYes X0.here hx rfl (pc0 := 10) (pc' := 17) rfl (hb hby d3_10) rfl (feq (by decide : ¬ ((3 : Int32) = (1 : Int32)))).2 (by decide) (by decide) ?_
    show St p e below s₁ (mkF m 17 #[.val (.int 3)] []) _
    refine XS.iloadN X0.here hx rfl (hb hby d3_17) rfl ?_
    show St p e below s₁ (mkF m 18 #[.val (.int 3)] [(.int 3)]) _
    refine XS.iconst X0.here hx rfl (hb hby d3_18) ?_
    show St p e below s₁ (mkF m 19 #[.val (.int 3)] [(.int 2), (.int 3)]) _
    refine XS.icmpYes X0.here hx rfl (pc0 := 19) (pc' := 26) rfl (hb hby d3_19) rfl (feq (by decide : ¬ ((3 : Int32) = (2 : Int32)))).2 (by decide) (by decide) ?_
    show St p e below s₁ (mkF m 26 #[.val (.int 3)] []) _
    refine XS.iloadN X0.here hx rfl (hb hby d3_26) rfl ?_
    show St p e below s₁ (mkF m 27 #[.val (.int 3)] [(.int 3)]) _
    refine XS.iconst X0.here hx rfl (hb hby d3_27) ?_
    show St p e below s₁ (mkF m 28 #[.val (.int 3)] [(.int 3), (.int 3)]) _
    refine XS.icmpNo X0.here hx rfl (hb hby d3_28) rfl (teq (by decide : (3 : Int32) = (3 : Int32))).2 ?_
    show St p e below s₁ (mkF m 31 #[.val (.int 3)] []) _
    refine st1 _ ?_
    show St p e below T1 (mkF m 34 #[.val (.int 3)] [(.ref w_JOIN)]) _
    jvm_step X1.here [X1.here.top, hx, (hb hby d3_34), X1.method', Bd.returns, Value.isRef, FieldType.isReference]
    first | (intro acts; rw [hr _ acts rfl rfl rfl]) | rw [hr _ _ rfl rfl rfl]
    exact Steps.refl _
  · show Q_ein_3 Z w_JOIN h0 n0 _ T1.heap _
    rw [e1]
    exact ⟨rfl, N0, rfl⟩
theorem d3_35 : decode method_4_code 35 = .ok (.iload_n 0, 1) := by decide +kernel
theorem d3_36 : decode method_4_code 36 = .ok (.iconst 4, 1) := by decide +kernel
theorem d3_37 : decode method_4_code 37 = .ok (.if_icmp .ne 7, 3) := by decide +kernel
theorem d3_40 : decode method_4_code 40 = .ok (.getstatic 58, 3) := by decide +kernel
theorem d3_43 : decode method_4_code 43 = .ok (.areturn, 1) := by decide +kernel
def Q_ein_4 (Z : State) (w_WITHOUT : Addr) (h0 : Heap) (n0 : Nat) (v : Option Value) (h : Heap) (L : List Loc) : Prop := v = some (.ref w_WITHOUT) ∧ Fr n0 L ∧ h = h0
set_option maxRecDepth 65536 in
set_option maxHeartbeats 40000000 in
theorem rm_ein_4 (l : Launch) (Z : State) (a0 : Array Value) (hw : ∀ d ∈ tables_1, d.before a0 Z = true) (ws : List Jvm.Cond) (w_WITHOUT : Addr) (h0 : Heap) (n0 : Nat) (Z0 : n0 ≤ h0.size) (S_WITHOUT : Sta Z Z.heap "com/example/demarc/demarc/Propagation$Step" "WITHOUT" "Lcom/example/demarc/demarc/Propagation$Step;" (.ref w_WITHOUT)) (O0 : Old Z n0 h0) :
    MetFree l (⟨"com/example/demarc/demarc/PropagationStepPinLaw", "expectIn", "(I)Lcom/example/demarc/demarc/Propagation$Step;"⟩ : MethodName) (head1 (Jvm.Cond.code (⟨"com/example/demarc/demarc/PropagationStepPinLaw", "expectIn", "(I)Lcom/example/demarc/demarc/Propagation$Step;"⟩ : MethodName) method_4_code 1 (some (.object "com/example/demarc/demarc/Propagation$Step")) :: ws) ({ frames := 0, cells := 0, slots := 0, locals := 0 } : Room)) (fun a U => a = #[(.int 4)] ∧ Z.Warmed39 U.vm ∧ U.heap = h0) (fun _ _ _ _ _ => True) (fun _ U o U' => ∃ v L, o = .returned v ∧ Q_ein_4 Z w_WITHOUT h0 n0 v U'.heap L ∧ FrameEnd U o U' L ({ frames := 0, cells := 0, slots := 0, locals := 0 } : Room).cells ({ frames := 0, cells := 0, slots := 0, locals := 0 } : Room).slots) := by
  refine MetFree.of_bodySF (plainFor_of_name pn_3) hisR ?_
  intro p e s m args below meth c s₁ Bd hml0 hP hK
  obtain ⟨rfl, hZ, hh⟩ := hP
  have hx := Bd.exec
  have hby := Bd.bytes
  have hml : c.maxLocals = 1 := hml0
  have hown : s.vm.findClass "com/example/demarc/demarc/PropagationStepPinLaw" = some m.cls := findClass_of_methodNamed Bd.named
  have hnm := (name_of_methodNamed Bd.named Bd.method).1
  have X0 : Stand p l e ({ frames := 0, cells := 0, slots := 0, locals := 0 } : Room) s m #[(.int 4)] below meth c s₁ [] 0 0 := Stand.of_body Bd
  have e0 : s₁.heap = h0 := by rw [← hh, Bd.state]; rfl
  have N0 := Fr.nil n0
  have pre0 : ∀ t, Steps p.tables e below (s₁.setTop (mkF m 0 #[.val (.int 4)] [])) t → Steps p.tables e below (s₁.setTop (entryFrame m #[(.int 4)] 1)) t := fun t k => castTop (ef_3_I m (4 : Int32)) k
  obtain ⟨T1, X1, e1, st1⟩ := getS2 X0 hx hZ hown (host := "") (Or.inl (hwi hw 31 rfl)) Via.refl e0 (S_WITHOUT.ext O0.2) (g := (mkF m 40 #[.val (.int 4)] [])) rfl (hb hby d3_40)
  obtain ⟨fs, hr, hrun, hended, hW, hsame⟩ := X1.leave (v := some (.ref w_WITHOUT)) (fun h => by rw [Bd.returns] at h; cases h)
  refine ⟨_, _, pre0 _ ?_, hrun, hended, _, _, rfl, ?_, ⟨_, rfl⟩, hW, hsame.mono (by decide) (by decide)⟩
  · show St p e below s₁ (mkF m 0 #[.val (.int 4)] []) _
    refine XS.iloadN X0.here hx rfl (hb hby d3_0) rfl ?_
    show St p e below s₁ (mkF m 1 #[.val (.int 4)] [(.int 4)]) _
    refine XS.ifYes X0.here hx rfl (pc0 := 1) (pc' := 8) rfl (hb hby d3_1) rfl ((if0 _ _).trans (feq (by decide : ¬ ((4 : Int32) = (0 : Int32)))).2) (by decide) (by decide) ?_
    show St p e below s₁ (mkF m 8 #[.val (.int 4)] []) _
    refine XS.iloadN X0.here hx rfl (hb hby d3_8) rfl ?_
    show St p e below s₁ (mkF m 9 #[.val (.int 4)] [(.int 4)]) _
    refine XS.iconst X0.here hx rfl (hb hby d3_9) ?_
    show St p e below s₁ (mkF m 10 #[.val (.int 4)] [(.int 1), (.int 4)]) _
    refine XS.icmpYes X0.here hx rfl (pc0 := 10) (pc' := 17) rfl (hb hby d3_10) rfl (feq (by decide : ¬ ((4 : Int32) = (1 : Int32)))).2 (by decide) (by decide) ?_
    show St p e below s₁ (mkF m 17 #[.val (.int 4)] []) _
    refine XS.iloadN X0.here hx rfl (hb hby d3_17) rfl ?_
    show St p e below s₁ (mkF m 18 #[.val (.int 4)] [(.int 4)]) _
    refine XS.iconst X0.here hx rfl (hb hby d3_18) ?_
    show St p e below s₁ (mkF m 19 #[.val (.int 4)] [(.int 2), (.int 4)]) _
    refine XS.icmpYes X0.here hx rfl (pc0 := 19) (pc' := 26) rfl (hb hby d3_19) rfl (feq (by decide : ¬ ((4 : Int32) = (2 : Int32)))).2 (by decide) (by decide) ?_
    show St p e below s₁ (mkF m 26 #[.val (.int 4)] []) _
    refine XS.iloadN X0.here hx rfl (hb hby d3_26) rfl ?_
    show St p e below s₁ (mkF m 27 #[.val (.int 4)] [(.int 4)]) _
    refine XS.iconst X0.here hx rfl (hb hby d3_27) ?_
    show St p e below s₁ (mkF m 28 #[.val (.int 4)] [(.int 3), (.int 4)]) _
    refine XS.icmpYes X0.here hx rfl (pc0 := 28) (pc' := 35) rfl (hb hby d3_28) rfl (feq (by decide : ¬ ((4 : Int32) = (3 : Int32)))).2 (by decide) (by decide) ?_
    show St p e below s₁ (mkF m 35 #[.val (.int 4)] []) _
    refine XS.iloadN X0.here hx rfl (hb hby d3_35) rfl ?_
    show St p e below s₁ (mkF m 36 #[.val (.int 4)] [(.int 4)]) _
    refine XS.iconst X0.here hx rfl (hb hby d3_36) ?_
    show St p e below s₁ (mkF m 37 #[.val (.int 4)] [(.int 4), (.int 4)]) _
    refine XS.icmpNo X0.here hx rfl (hb hby d3_37) rfl (teq (by decide : (4 : Int32) = (4 : Int32))).2 ?_
    show St p e below s₁ (mkF m 40 #[.val (.int 4)] []) _
    refine st1 _ ?_
    show St p e below T1 (mkF m 43 #[.val (.int 4)] [(.ref w_WITHOUT)]) _
    jvm_step X1.here [X1.here.top, hx, (hb hby d3_43), X1.method', Bd.returns, Value.isRef, FieldType.isReference]
    first | (intro acts; rw [hr _ acts rfl rfl rfl]) | rw [hr _ _ rfl rfl rfl]
    exact Steps.refl _
  · show Q_ein_4 Z w_WITHOUT h0 n0 _ T1.heap _
    rw [e1]
    exact ⟨rfl, N0, rfl⟩
theorem d3_44 : decode method_4_code 44 = .ok (.iload_n 0, 1) := by decide +kernel
theorem d3_45 : decode method_4_code 45 = .ok (.iconst 5, 1) := by decide +kernel
theorem d3_46 : decode method_4_code 46 = .ok (.if_icmp .ne 7, 3) := by decide +kernel
theorem d3_49 : decode method_4_code 49 = .ok (.getstatic 61, 3) := by decide +kernel
theorem d3_52 : decode method_4_code 52 = .ok (.areturn, 1) := by decide +kernel
def Q_ein_5 (Z : State) (w_REFUSE : Addr) (h0 : Heap) (n0 : Nat) (v : Option Value) (h : Heap) (L : List Loc) : Prop := v = some (.ref w_REFUSE) ∧ Fr n0 L ∧ h = h0
set_option maxRecDepth 65536 in
set_option maxHeartbeats 40000000 in
theorem rm_ein_5 (l : Launch) (Z : State) (a0 : Array Value) (hw : ∀ d ∈ tables_1, d.before a0 Z = true) (ws : List Jvm.Cond) (w_REFUSE : Addr) (h0 : Heap) (n0 : Nat) (Z0 : n0 ≤ h0.size) (S_REFUSE : Sta Z Z.heap "com/example/demarc/demarc/Propagation$Step" "REFUSE" "Lcom/example/demarc/demarc/Propagation$Step;" (.ref w_REFUSE)) (O0 : Old Z n0 h0) :
    MetFree l (⟨"com/example/demarc/demarc/PropagationStepPinLaw", "expectIn", "(I)Lcom/example/demarc/demarc/Propagation$Step;"⟩ : MethodName) (head1 (Jvm.Cond.code (⟨"com/example/demarc/demarc/PropagationStepPinLaw", "expectIn", "(I)Lcom/example/demarc/demarc/Propagation$Step;"⟩ : MethodName) method_4_code 1 (some (.object "com/example/demarc/demarc/Propagation$Step")) :: ws) ({ frames := 0, cells := 0, slots := 0, locals := 0 } : Room)) (fun a U => a = #[(.int 5)] ∧ Z.Warmed39 U.vm ∧ U.heap = h0) (fun _ _ _ _ _ => True) (fun _ U o U' => ∃ v L, o = .returned v ∧ Q_ein_5 Z w_REFUSE h0 n0 v U'.heap L ∧ FrameEnd U o U' L ({ frames := 0, cells := 0, slots := 0, locals := 0 } : Room).cells ({ frames := 0, cells := 0, slots := 0, locals := 0 } : Room).slots) := by
  refine MetFree.of_bodySF (plainFor_of_name pn_3) hisR ?_
  intro p e s m args below meth c s₁ Bd hml0 hP hK
  obtain ⟨rfl, hZ, hh⟩ := hP
  have hx := Bd.exec
  have hby := Bd.bytes
  have hml : c.maxLocals = 1 := hml0
  have hown : s.vm.findClass "com/example/demarc/demarc/PropagationStepPinLaw" = some m.cls := findClass_of_methodNamed Bd.named
  have hnm := (name_of_methodNamed Bd.named Bd.method).1
  have X0 : Stand p l e ({ frames := 0, cells := 0, slots := 0, locals := 0 } : Room) s m #[(.int 5)] below meth c s₁ [] 0 0 := Stand.of_body Bd
  have e0 : s₁.heap = h0 := by rw [← hh, Bd.state]; rfl
  have N0 := Fr.nil n0
  have pre0 : ∀ t, Steps p.tables e below (s₁.setTop (mkF m 0 #[.val (.int 5)] [])) t → Steps p.tables e below (s₁.setTop (entryFrame m #[(.int 5)] 1)) t := fun t k => castTop (ef_3_I m (5 : Int32)) k
  obtain ⟨T1, X1, e1, st1⟩ := getS2 X0 hx hZ hown (host := "") (Or.inl (hwi hw 35 rfl)) Via.refl e0 (S_REFUSE.ext O0.2) (g := (mkF m 49 #[.val (.int 5)] [])) rfl (hb hby d3_49)
  obtain ⟨fs, hr, hrun, hended, hW, hsame⟩ := X1.leave (v := some (.ref w_REFUSE)) (fun h => by rw [Bd.returns] at h; cases h)
  refine ⟨_, _, pre0 _ ?_, hrun, hended, _, _, rfl, ?_, ⟨_, rfl⟩, hW, hsame.mono (by decide) (by decide)⟩
  · show St p e below s₁ (mkF m 0 #[.val (.int 5)] []) _
    refine XS.iloadN X0.here hx rfl (hb hby d3_0) rfl ?_
    show St p e below s₁ (mkF m 1 #[.val (.int 5)] [(.int 5)]) _
    refine XS.ifYes X0.here hx rfl (pc0 := 1) (pc' := 8) rfl (hb hby d3_1) rfl ((if0 _ _).trans (feq (by decide : ¬ ((5 : Int32) = (0 : Int32)))).2) (by decide) (by decide) ?_
    show St p e below s₁ (mkF m 8 #[.val (.int 5)] []) _
    refine XS.iloadN X0.here hx rfl (hb hby d3_8) rfl ?_
    show St p e below s₁ (mkF m 9 #[.val (.int 5)] [(.int 5)]) _
    refine XS.iconst X0.here hx rfl (hb hby d3_9) ?_
    show St p e below s₁ (mkF m 10 #[.val (.int 5)] [(.int 1), (.int 5)]) _
    refine XS.icmpYes X0.here hx rfl (pc0 := 10) (pc' := 17) rfl (hb hby d3_10) rfl (feq (by decide : ¬ ((5 : Int32) = (1 : Int32)))).2 (by decide) (by decide) ?_
    show St p e below s₁ (mkF m 17 #[.val (.int 5)] []) _
    refine XS.iloadN X0.here hx rfl (hb hby d3_17) rfl ?_
    show St p e below s₁ (mkF m 18 #[.val (.int 5)] [(.int 5)]) _
    refine XS.iconst X0.here hx rfl (hb hby d3_18) ?_
    show St p e below s₁ (mkF m 19 #[.val (.int 5)] [(.int 2), (.int 5)]) _
    refine XS.icmpYes X0.here hx rfl (pc0 := 19) (pc' := 26) rfl (hb hby d3_19) rfl (feq (by decide : ¬ ((5 : Int32) = (2 : Int32)))).2 (by decide) (by decide) ?_
    show St p e below s₁ (mkF m 26 #[.val (.int 5)] []) _
    refine XS.iloadN X0.here hx rfl (hb hby d3_26) rfl ?_
    show St p e below s₁ (mkF m 27 #[.val (.int 5)] [(.int 5)]) _
    refine XS.iconst X0.here hx rfl (hb hby d3_27) ?_
    show St p e below s₁ (mkF m 28 #[.val (.int 5)] [(.int 3), (.int 5)]) _
    refine XS.icmpYes X0.here hx rfl (pc0 := 28) (pc' := 35) rfl (hb hby d3_28) rfl (feq (by decide : ¬ ((5 : Int32) = (3 : Int32)))).2 (by decide) (by decide) ?_
    show St p e below s₁ (mkF m 35 #[.val (.int 5)] []) _
    refine XS.iloadN X0.here hx rfl (hb hby d3_35) rfl ?_
    show St p e below s₁ (mkF m 36 #[.val (.int 5)] [(.int 5)]) _
    refine XS.iconst X0.here hx rfl (hb hby d3_36) ?_
    show St p e below s₁ (mkF m 37 #[.val (.int 5)] [(.int 4), (.int 5)]) _
    refine XS.icmpYes X0.here hx rfl (pc0 := 37) (pc' := 44) rfl (hb hby d3_37) rfl (feq (by decide : ¬ ((5 : Int32) = (4 : Int32)))).2 (by decide) (by decide) ?_
    show St p e below s₁ (mkF m 44 #[.val (.int 5)] []) _
    refine XS.iloadN X0.here hx rfl (hb hby d3_44) rfl ?_
    show St p e below s₁ (mkF m 45 #[.val (.int 5)] [(.int 5)]) _
    refine XS.iconst X0.here hx rfl (hb hby d3_45) ?_
    show St p e below s₁ (mkF m 46 #[.val (.int 5)] [(.int 5), (.int 5)]) _
    refine XS.icmpNo X0.here hx rfl (hb hby d3_46) rfl (teq (by decide : (5 : Int32) = (5 : Int32))).2 ?_
    show St p e below s₁ (mkF m 49 #[.val (.int 5)] []) _
    refine st1 _ ?_
    show St p e below T1 (mkF m 52 #[.val (.int 5)] [(.ref w_REFUSE)]) _
    jvm_step X1.here [X1.here.top, hx, (hb hby d3_52), X1.method', Bd.returns, Value.isRef, FieldType.isReference]
    first | (intro acts; rw [hr _ acts rfl rfl rfl]) | rw [hr _ _ rfl rfl rfl]
    exact Steps.refl _
  · show Q_ein_5 Z w_REFUSE h0 n0 _ T1.heap _
    rw [e1]
    exact ⟨rfl, N0, rfl⟩
theorem d3_53 : decode method_4_code 53 = .ok (.getstatic 64, 3) := by decide +kernel
theorem d3_56 : decode method_4_code 56 = .ok (.areturn, 1) := by decide +kernel
def Q_ein_6 (Z : State) (w_NEST : Addr) (h0 : Heap) (n0 : Nat) (v : Option Value) (h : Heap) (L : List Loc) : Prop := v = some (.ref w_NEST) ∧ Fr n0 L ∧ h = h0
set_option maxRecDepth 65536 in
set_option maxHeartbeats 40000000 in
theorem rm_ein_6 (l : Launch) (Z : State) (a0 : Array Value) (hw : ∀ d ∈ tables_1, d.before a0 Z = true) (ws : List Jvm.Cond) (w_NEST : Addr) (h0 : Heap) (n0 : Nat) (Z0 : n0 ≤ h0.size) (S_NEST : Sta Z Z.heap "com/example/demarc/demarc/Propagation$Step" "NEST" "Lcom/example/demarc/demarc/Propagation$Step;" (.ref w_NEST)) (O0 : Old Z n0 h0) :
    MetFree l (⟨"com/example/demarc/demarc/PropagationStepPinLaw", "expectIn", "(I)Lcom/example/demarc/demarc/Propagation$Step;"⟩ : MethodName) (head1 (Jvm.Cond.code (⟨"com/example/demarc/demarc/PropagationStepPinLaw", "expectIn", "(I)Lcom/example/demarc/demarc/Propagation$Step;"⟩ : MethodName) method_4_code 1 (some (.object "com/example/demarc/demarc/Propagation$Step")) :: ws) ({ frames := 0, cells := 0, slots := 0, locals := 0 } : Room)) (fun a U => a = #[(.int 6)] ∧ Z.Warmed39 U.vm ∧ U.heap = h0) (fun _ _ _ _ _ => True) (fun _ U o U' => ∃ v L, o = .returned v ∧ Q_ein_6 Z w_NEST h0 n0 v U'.heap L ∧ FrameEnd U o U' L ({ frames := 0, cells := 0, slots := 0, locals := 0 } : Room).cells ({ frames := 0, cells := 0, slots := 0, locals := 0 } : Room).slots) := by
  refine MetFree.of_bodySF (plainFor_of_name pn_3) hisR ?_
  intro p e s m args below meth c s₁ Bd hml0 hP hK
  obtain ⟨rfl, hZ, hh⟩ := hP
  have hx := Bd.exec
  have hby := Bd.bytes
  have hml : c.maxLocals = 1 := hml0
  have hown : s.vm.findClass "com/example/demarc/demarc/PropagationStepPinLaw" = some m.cls := findClass_of_methodNamed Bd.named
  have hnm := (name_of_methodNamed Bd.named Bd.method).1
  have X0 : Stand p l e ({ frames := 0, cells := 0, slots := 0, locals := 0 } : Room) s m #[(.int 6)] below meth c s₁ [] 0 0 := Stand.of_body Bd
  have e0 : s₁.heap = h0 := by rw [← hh, Bd.state]; rfl
  have N0 := Fr.nil n0
  have pre0 : ∀ t, Steps p.tables e below (s₁.setTop (mkF m 0 #[.val (.int 6)] [])) t → Steps p.tables e below (s₁.setTop (entryFrame m #[(.int 6)] 1)) t := fun t k => castTop (ef_3_I m (6 : Int32)) k
  obtain ⟨T1, X1, e1, st1⟩ := getS2 X0 hx hZ hown (host := "") (Or.inl (hwi hw 39 rfl)) Via.refl e0 (S_NEST.ext O0.2) (g := (mkF m 53 #[.val (.int 6)] [])) rfl (hb hby d3_53)
  obtain ⟨fs, hr, hrun, hended, hW, hsame⟩ := X1.leave (v := some (.ref w_NEST)) (fun h => by rw [Bd.returns] at h; cases h)
  refine ⟨_, _, pre0 _ ?_, hrun, hended, _, _, rfl, ?_, ⟨_, rfl⟩, hW, hsame.mono (by decide) (by decide)⟩
  · show St p e below s₁ (mkF m 0 #[.val (.int 6)] []) _
    refine XS.iloadN X0.here hx rfl (hb hby d3_0) rfl ?_
    show St p e below s₁ (mkF m 1 #[.val (.int 6)] [(.int 6)]) _
    refine XS.ifYes X0.here hx rfl (pc0 := 1) (pc' := 8) rfl (hb hby d3_1) rfl ((if0 _ _).trans (feq (by decide : ¬ ((6 : Int32) = (0 : Int32)))).2) (by decide) (by decide) ?_
    show St p e below s₁ (mkF m 8 #[.val (.int 6)] []) _
    refine XS.iloadN X0.here hx rfl (hb hby d3_8) rfl ?_
    show St p e below s₁ (mkF m 9 #[.val (.int 6)] [(.int 6)]) _
    refine XS.iconst X0.here hx rfl (hb hby d3_9) ?_
    show St p e below s₁ (mkF m 10 #[.val (.int 6)] [(.int 1), (.int 6)]) _
    refine XS.icmpYes X0.here hx rfl (pc0 := 10) (pc' := 17) rfl (hb hby d3_10) rfl (feq (by decide : ¬ ((6 : Int32) = (1 : Int32)))).2 (by decide) (by decide) ?_
    show St p e below s₁ (mkF m 17 #[.val (.int 6)] []) _
    refine XS.iloadN X0.here hx rfl (hb hby d3_17) rfl ?_
    show St p e below s₁ (mkF m 18 #[.val (.int 6)] [(.int 6)]) _
    refine XS.iconst X0.here hx rfl (hb hby d3_18) ?_
    show St p e below s₁ (mkF m 19 #[.val (.int 6)] [(.int 2), (.int 6)]) _
    refine XS.icmpYes X0.here hx rfl (pc0 := 19) (pc' := 26) rfl (hb hby d3_19) rfl (feq (by decide : ¬ ((6 : Int32) = (2 : Int32)))).2 (by decide) (by decide) ?_
    show St p e below s₁ (mkF m 26 #[.val (.int 6)] []) _
    refine XS.iloadN X0.here hx rfl (hb hby d3_26) rfl ?_
    show St p e below s₁ (mkF m 27 #[.val (.int 6)] [(.int 6)]) _
    refine XS.iconst X0.here hx rfl (hb hby d3_27) ?_
    show St p e below s₁ (mkF m 28 #[.val (.int 6)] [(.int 3), (.int 6)]) _
    refine XS.icmpYes X0.here hx rfl (pc0 := 28) (pc' := 35) rfl (hb hby d3_28) rfl (feq (by decide : ¬ ((6 : Int32) = (3 : Int32)))).2 (by decide) (by decide) ?_
    show St p e below s₁ (mkF m 35 #[.val (.int 6)] []) _
    refine XS.iloadN X0.here hx rfl (hb hby d3_35) rfl ?_
    show St p e below s₁ (mkF m 36 #[.val (.int 6)] [(.int 6)]) _
    refine XS.iconst X0.here hx rfl (hb hby d3_36) ?_
    show St p e below s₁ (mkF m 37 #[.val (.int 6)] [(.int 4), (.int 6)]) _
    refine XS.icmpYes X0.here hx rfl (pc0 := 37) (pc' := 44) rfl (hb hby d3_37) rfl (feq (by decide : ¬ ((6 : Int32) = (4 : Int32)))).2 (by decide) (by decide) ?_
    show St p e below s₁ (mkF m 44 #[.val (.int 6)] []) _
    refine XS.iloadN X0.here hx rfl (hb hby d3_44) rfl ?_
    show St p e below s₁ (mkF m 45 #[.val (.int 6)] [(.int 6)]) _
    refine XS.iconst X0.here hx rfl (hb hby d3_45) ?_
    show St p e below s₁ (mkF m 46 #[.val (.int 6)] [(.int 5), (.int 6)]) _
    refine XS.icmpYes X0.here hx rfl (pc0 := 46) (pc' := 53) rfl (hb hby d3_46) rfl (feq (by decide : ¬ ((6 : Int32) = (5 : Int32)))).2 (by decide) (by decide) ?_
    show St p e below s₁ (mkF m 53 #[.val (.int 6)] []) _
    refine st1 _ ?_
    show St p e below T1 (mkF m 56 #[.val (.int 6)] [(.ref w_NEST)]) _
    jvm_step X1.here [X1.here.top, hx, (hb hby d3_56), X1.method', Bd.returns, Value.isRef, FieldType.isReference]
    first | (intro acts; rw [hr _ acts rfl rfl rfl]) | rw [hr _ _ rfl rfl rfl]
    exact Steps.refl _
  · show Q_ein_6 Z w_NEST h0 n0 _ T1.heap _
    rw [e1]
    exact ⟨rfl, N0, rfl⟩
theorem d4_0 : decode method_5_code 0 = .ok (.iload_n 0, 1) := by decide +kernel
theorem d4_1 : decode method_5_code 1 = .ok (.ifCond .ne 7, 3) := by decide +kernel
theorem d4_4 : decode method_5_code 4 = .ok (.getstatic 55, 3) := by decide +kernel
theorem d4_7 : decode method_5_code 7 = .ok (.areturn, 1) := by decide +kernel
theorem pn_4 : plainName "com/example/demarc/demarc/PropagationStepPinLaw" = true := by first | (simp [plainName, overriddenIn]; done) | decide +kernel
theorem ef_4_I (m : MethodId) (x0 : Int32) : entryFrame m #[(.int x0)] 1 = mkF m 0 #[.val (.int x0)] [] := by first | (simp [entryFrame, mkF, argsToLocals, Value.category]; done) | rfl
def Q_eout_0 (Z : State) (w_BEGIN : Addr) (h0 : Heap) (n0 : Nat) (v : Option Value) (h : Heap) (L : List Loc) : Prop := v = some (.ref w_BEGIN) ∧ Fr n0 L ∧ h = h0
set_option maxRecDepth 65536 in
set_option maxHeartbeats 40000000 in
theorem rm_eout_0 (l : Launch) (Z : State) (a0 : Array Value) (hw : ∀ d ∈ tables_1, d.before a0 Z = true) (ws : List Jvm.Cond) (w_BEGIN : Addr) (h0 : Heap) (n0 : Nat) (Z0 : n0 ≤ h0.size) (S_BEGIN : Sta Z Z.heap "com/example/demarc/demarc/Propagation$Step" "BEGIN" "Lcom/example/demarc/demarc/Propagation$Step;" (.ref w_BEGIN)) (O0 : Old Z n0 h0) :
    MetFree l (⟨"com/example/demarc/demarc/PropagationStepPinLaw", "expectOut", "(I)Lcom/example/demarc/demarc/Propagation$Step;"⟩ : MethodName) (head1 (Jvm.Cond.code (⟨"com/example/demarc/demarc/PropagationStepPinLaw", "expectOut", "(I)Lcom/example/demarc/demarc/Propagation$Step;"⟩ : MethodName) method_5_code 1 (some (.object "com/example/demarc/demarc/Propagation$Step")) :: ws) ({ frames := 0, cells := 0, slots := 0, locals := 0 } : Room)) (fun a U => a = #[(.int 0)] ∧ Z.Warmed39 U.vm ∧ U.heap = h0) (fun _ _ _ _ _ => True) (fun _ U o U' => ∃ v L, o = .returned v ∧ Q_eout_0 Z w_BEGIN h0 n0 v U'.heap L ∧ FrameEnd U o U' L ({ frames := 0, cells := 0, slots := 0, locals := 0 } : Room).cells ({ frames := 0, cells := 0, slots := 0, locals := 0 } : Room).slots) := by
  refine MetFree.of_bodySF (plainFor_of_name pn_4) hisR ?_
  intro p e s m args below meth c s₁ Bd hml0 hP hK
  obtain ⟨rfl, hZ, hh⟩ := hP
  have hx := Bd.exec
  have hby := Bd.bytes
  have hml : c.maxLocals = 1 := hml0
  have hown : s.vm.findClass "com/example/demarc/demarc/PropagationStepPinLaw" = some m.cls := findClass_of_methodNamed Bd.named
  have hnm := (name_of_methodNamed Bd.named Bd.method).1
  have X0 : Stand p l e ({ frames := 0, cells := 0, slots := 0, locals := 0 } : Room) s m #[(.int 0)] below meth c s₁ [] 0 0 := Stand.of_body Bd
  have e0 : s₁.heap = h0 := by rw [← hh, Bd.state]; rfl
  have N0 := Fr.nil n0
  have pre0 : ∀ t, Steps p.tables e below (s₁.setTop (mkF m 0 #[.val (.int 0)] [])) t → Steps p.tables e below (s₁.setTop (entryFrame m #[(.int 0)] 1)) t := fun t k => castTop (ef_4_I m (0 : Int32)) k
  obtain ⟨T1, X1, e1, st1⟩ := getS2 X0 hx hZ hown (host := "") (Or.inl (hwi hw 27 rfl)) Via.refl e0 (S_BEGIN.ext O0.2) (g := (mkF m 4 #[.val (.int 0)] [])) rfl (hb hby d4_4)
  obtain ⟨fs, hr, hrun, hended, hW, hsame⟩ := X1.leave (v := some (.ref w_BEGIN)) (fun h => by rw [Bd.returns] at h; cases h)
  refine ⟨_, _, pre0 _ ?_, hrun, hended, _, _, rfl, ?_, ⟨_, rfl⟩, hW, hsame.mono (by decide) (by decide)⟩
  · show St p e below s₁ (mkF m 0 #[.val (.int 0)] []) _
    refine XS.iloadN X0.here hx rfl (hb hby d4_0) rfl ?_
    show St p e below s₁ (mkF m 1 #[.val (.int 0)] [(.int 0)]) _
    refine XS.ifNo X0.here hx rfl (hb hby d4_1) rfl ((if0 _ _).trans (teq (by decide : (0 : Int32) = (0 : Int32))).2) ?_
    show St p e below s₁ (mkF m 4 #[.val (.int 0)] []) _
    refine st1 _ ?_
    show St p e below T1 (mkF m 7 #[.val (.int 0)] [(.ref w_BEGIN)]) _
    jvm_step X1.here [X1.here.top, hx, (hb hby d4_7), X1.method', Bd.returns, Value.isRef, FieldType.isReference]
    first | (intro acts; rw [hr _ acts rfl rfl rfl]) | rw [hr _ _ rfl rfl rfl]
    exact Steps.refl _
  · show Q_eout_0 Z w_BEGIN h0 n0 _ T1.heap _
    rw [e1]
    exact ⟨rfl, N0, rfl⟩
theorem d4_8 : decode method_5_code 8 = .ok (.iload_n 0, 1) := by decide +kernel
theorem d4_9 : decode method_5_code 9 = .ok (.iconst 1, 1) := by decide +kernel
theorem d4_10 : decode method_5_code 10 = .ok (.if_icmp .ne 7, 3) := by decide +kernel
theorem d4_13 : decode method_5_code 13 = .ok (.getstatic 55, 3) := by decide +kernel
theorem d4_16 : decode method_5_code 16 = .ok (.areturn, 1) := by decide +kernel
def Q_eout_1 (Z : State) (w_BEGIN : Addr) (h0 : Heap) (n0 : Nat) (v : Option Value) (h : Heap) (L : List Loc) : Prop := v = some (.ref w_BEGIN) ∧ Fr n0 L ∧ h = h0
set_option maxRecDepth 65536 in
set_option maxHeartbeats 40000000 in
theorem rm_eout_1 (l : Launch) (Z : State) (a0 : Array Value) (hw : ∀ d ∈ tables_1, d.before a0 Z = true) (ws : List Jvm.Cond) (w_BEGIN : Addr) (h0 : Heap) (n0 : Nat) (Z0 : n0 ≤ h0.size) (S_BEGIN : Sta Z Z.heap "com/example/demarc/demarc/Propagation$Step" "BEGIN" "Lcom/example/demarc/demarc/Propagation$Step;" (.ref w_BEGIN)) (O0 : Old Z n0 h0) :
    MetFree l (⟨"com/example/demarc/demarc/PropagationStepPinLaw", "expectOut", "(I)Lcom/example/demarc/demarc/Propagation$Step;"⟩ : MethodName) (head1 (Jvm.Cond.code (⟨"com/example/demarc/demarc/PropagationStepPinLaw", "expectOut", "(I)Lcom/example/demarc/demarc/Propagation$Step;"⟩ : MethodName) method_5_code 1 (some (.object "com/example/demarc/demarc/Propagation$Step")) :: ws) ({ frames := 0, cells := 0, slots := 0, locals := 0 } : Room)) (fun a U => a = #[(.int 1)] ∧ Z.Warmed39 U.vm ∧ U.heap = h0) (fun _ _ _ _ _ => True) (fun _ U o U' => ∃ v L, o = .returned v ∧ Q_eout_1 Z w_BEGIN h0 n0 v U'.heap L ∧ FrameEnd U o U' L ({ frames := 0, cells := 0, slots := 0, locals := 0 } : Room).cells ({ frames := 0, cells := 0, slots := 0, locals := 0 } : Room).slots) := by
  refine MetFree.of_bodySF (plainFor_of_name pn_4) hisR ?_
  intro p e s m args below meth c s₁ Bd hml0 hP hK
  obtain ⟨rfl, hZ, hh⟩ := hP
  have hx := Bd.exec
  have hby := Bd.bytes
  have hml : c.maxLocals = 1 := hml0
  have hown : s.vm.findClass "com/example/demarc/demarc/PropagationStepPinLaw" = some m.cls := findClass_of_methodNamed Bd.named
  have hnm := (name_of_methodNamed Bd.named Bd.method).1
  have X0 : Stand p l e ({ frames := 0, cells := 0, slots := 0, locals := 0 } : Room) s m #[(.int 1)] below meth c s₁ [] 0 0 := Stand.of_body Bd
  have e0 : s₁.heap = h0 := by rw [← hh, Bd.state]; rfl
  have N0 := Fr.nil n0
  have pre0 : ∀ t, Steps p.tables e below (s₁.setTop (mkF m 0 #[.val (.int 1)] [])) t → Steps p.tables e below (s₁.setTop (entryFrame m #[(.int 1)] 1)) t := fun t k => castTop (ef_4_I m (1 : Int32)) k
  obtain ⟨T1, X1, e1, st1⟩ := getS2 X0 hx hZ hown (host := "") (Or.inl (hwi hw 27 rfl)) Via.refl e0 (S_BEGIN.ext O0.2) (g := (mkF m 13 #[.val (.int 1)] [])) rfl (hb hby d4_13)
  obtain ⟨fs, hr, hrun, hended, hW, hsame⟩ := X1.leave (v := some (.ref w_BEGIN)) (fun h => by rw [Bd.returns] at h; cases h)
  refine ⟨_, _, pre0 _ ?_, hrun, hended, _, _, rfl, ?_, ⟨_, rfl⟩, hW, hsame.mono (by decide) (by decide)⟩
  · show St p e below s₁ (mkF m 0 #[.val (.int 1)] []) _
    refine XS.iloadN X0.here hx rfl (hb hby d4_0) rfl ?_
    show St p e below s₁ (mkF m 1 #[.val (.int 1)] [(.int 1)]) _
    refine XS.ifYes X0.here hx rfl (pc0 := 1) (pc' := 8) rfl (hb hby d4_1) rfl ((if0 _ _).trans (feq (by decide : ¬ ((1 : Int32) = (0 : Int32)))).2) (by decide) (by decide) ?_
    show St p e below s₁ (mkF m 8 #[.val (.int 1)] []) _
    refine XS.iloadN X0.here hx rfl (hb hby d4_8) rfl ?_
    show St p e below s₁ (mkF m 9 #[.val (.int 1)] [(.int 1)]) _
    refine XS.iconst X0.here hx rfl (hb hby d4_9) ?_
    show St p e below s₁ (mkF m 10 #[.val (.int 1)] [(.int 1), (.int 1)]) _
    refine XS.icmpNo X0.here hx rfl (hb hby d4_10) rfl (teq (by decide : (1 : Int32) = (1 : Int32))).2 ?_
    show St p e below s₁ (mkF m 13 #[.val (.int 1)] []) _
    refine st1 _ ?_
    show St p e below T1 (mkF m 16 #[.val (.int 1)] [(.ref w_BEGIN)]) _
    jvm_step X1.here [X1.here.top, hx, (hb hby d4_16), X1.method', Bd.returns, Value.isRef, FieldType.isReference]
    first | (intro acts; rw [hr _ acts rfl rfl rfl]) | rw [hr _ _ rfl rfl rfl]
    exact Steps.refl _
  · show Q_eout_1 Z w_BEGIN h0 n0 _ T1.heap _
    rw [e1]
    exact ⟨rfl, N0, rfl⟩
theorem d4_17 : decode method_5_code 17 = .ok (.iload_n 0, 1) := by decide +kernel
theorem d4_18 : decode method_5_code 18 = .ok (.iconst 2, 1) := by decide +kernel
theorem d4_19 : decode method_5_code 19 = .ok (.if_icmp .ne 7, 3) := by decide +kernel
theorem d4_22 : decode method_5_code 22 = .ok (.getstatic 61, 3) := by decide +kernel
theorem d4_25 : decode method_5_code 25 = .ok (.areturn, 1) := by decide +kernel
def Q_eout_2 (Z : State) (w_REFUSE : Addr) (h0 : Heap) (n0 : Nat) (v : Option Value) (h : Heap) (L : List Loc) : Prop := v = some (.ref w_REFUSE) ∧ Fr n0 L ∧ h = h0
set_option maxRecDepth 65536 in
set_option maxHeartbeats 40000000 in
theorem rm_eout_2 (l : Launch) (Z : State) (a0 : Array Value) (hw : ∀ d ∈ tables_1, d.before a0 Z = true) (ws : List Jvm.Cond) (w_REFUSE : Addr) (h0 : Heap) (n0 : Nat) (Z0 : n0 ≤ h0.size) (S_REFUSE : Sta Z Z.heap "com/example/demarc/demarc/Propagation$Step" "REFUSE" "Lcom/example/demarc/demarc/Propagation$Step;" (.ref w_REFUSE)) (O0 : Old Z n0 h0) :
    MetFree l (⟨"com/example/demarc/demarc/PropagationStepPinLaw", "expectOut", "(I)Lcom/example/demarc/demarc/Propagation$Step;"⟩ : MethodName) (head1 (Jvm.Cond.code (⟨"com/example/demarc/demarc/PropagationStepPinLaw", "expectOut", "(I)Lcom/example/demarc/demarc/Propagation$Step;"⟩ : MethodName) method_5_code 1 (some (.object "com/example/demarc/demarc/Propagation$Step")) :: ws) ({ frames := 0, cells := 0, slots := 0, locals := 0 } : Room)) (fun a U => a = #[(.int 2)] ∧ Z.Warmed39 U.vm ∧ U.heap = h0) (fun _ _ _ _ _ => True) (fun _ U o U' => ∃ v L, o = .returned v ∧ Q_eout_2 Z w_REFUSE h0 n0 v U'.heap L ∧ FrameEnd U o U' L ({ frames := 0, cells := 0, slots := 0, locals := 0 } : Room).cells ({ frames := 0, cells := 0, slots := 0, locals := 0 } : Room).slots) := by
  refine MetFree.of_bodySF (plainFor_of_name pn_4) hisR ?_
  intro p e s m args below meth c s₁ Bd hml0 hP hK
  obtain ⟨rfl, hZ, hh⟩ := hP
  have hx := Bd.exec
  have hby := Bd.bytes
  have hml : c.maxLocals = 1 := hml0
  have hown : s.vm.findClass "com/example/demarc/demarc/PropagationStepPinLaw" = some m.cls := findClass_of_methodNamed Bd.named
  have hnm := (name_of_methodNamed Bd.named Bd.method).1
  have X0 : Stand p l e ({ frames := 0, cells := 0, slots := 0, locals := 0 } : Room) s m #[(.int 2)] below meth c s₁ [] 0 0 := Stand.of_body Bd
  have e0 : s₁.heap = h0 := by rw [← hh, Bd.state]; rfl
  have N0 := Fr.nil n0
  have pre0 : ∀ t, Steps p.tables e below (s₁.setTop (mkF m 0 #[.val (.int 2)] [])) t → Steps p.tables e below (s₁.setTop (entryFrame m #[(.int 2)] 1)) t := fun t k => castTop (ef_4_I m (2 : Int32)) k
  obtain ⟨T1, X1, e1, st1⟩ := getS2 X0 hx hZ hown (host := "") (Or.inl (hwi hw 35 rfl)) Via.refl e0 (S_REFUSE.ext O0.2) (g := (mkF m 22 #[.val (.int 2)] [])) rfl (hb hby d4_22)
  obtain ⟨fs, hr, hrun, hended, hW, hsame⟩ := X1.leave (v := some (.ref w_REFUSE)) (fun h => by rw [Bd.returns] at h; cases h)
  refine ⟨_, _, pre0 _ ?_, hrun, hended, _, _, rfl, ?_, ⟨_, rfl⟩, hW, hsame.mono (by decide) (by decide)⟩
  · show St p e below s₁ (mkF m 0 #[.val (.int 2)] []) _
    refine XS.iloadN X0.here hx rfl (hb hby d4_0) rfl ?_
    show St p e below s₁ (mkF m 1 #[.val (.int 2)] [(.int 2)]) _
    refine XS.ifYes X0.here hx rfl (pc0 := 1) (pc' := 8) rfl (hb hby d4_1) rfl ((if0 _ _).trans (feq (by decide : ¬ ((2 : Int32) = (0 : Int32)))).2) (by decide) (by decide) ?_
    show St p e below s₁ (mkF m 8 #[.val (.int 2)] []) _
    refine XS.iloadN X0.here hx rfl (hb hby d4_8) rfl ?_
    show St p e below s₁ (mkF m 9 #[.val (.int 2)] [(.int 2)]) _
    refine XS.iconst X0.here hx rfl (hb hby d4_9) ?_
    show St p e below s₁ (mkF m 10 #[.val (.int 2)] [(.int 1), (.int 2)]) _
    refine XS.icmpYes X0.here hx rfl (pc0 := 10) (pc' := 17) rfl (hb hby d4_10) rfl (feq (by decide : ¬ ((2 : Int32) = (1 : Int32)))).2 (by decide) (by decide) ?_
    show St p e below s₁ (mkF m 17 #[.val (.int 2)] []) _
    refine XS.iloadN X0.here hx rfl (hb hby d4_17) rfl ?_
    show St p e below s₁ (mkF m 18 #[.val (.int 2)] [(.int 2)]) _
    refine XS.iconst X0.here hx rfl (hb hby d4_18) ?_
    show St p e below s₁ (mkF m 19 #[.val (.int 2)] [(.int 2), (.int 2)]) _
    refine XS.icmpNo X0.here hx rfl (hb hby d4_19) rfl (teq (by decide : (2 : Int32) = (2 : Int32))).2 ?_
    show St p e below s₁ (mkF m 22 #[.val (.int 2)] []) _
    refine st1 _ ?_
    show St p e below T1 (mkF m 25 #[.val (.int 2)] [(.ref w_REFUSE)]) _
    jvm_step X1.here [X1.here.top, hx, (hb hby d4_25), X1.method', Bd.returns, Value.isRef, FieldType.isReference]
    first | (intro acts; rw [hr _ acts rfl rfl rfl]) | rw [hr _ _ rfl rfl rfl]
    exact Steps.refl _
  · show Q_eout_2 Z w_REFUSE h0 n0 _ T1.heap _
    rw [e1]
    exact ⟨rfl, N0, rfl⟩
theorem d4_26 : decode method_5_code 26 = .ok (.iload_n 0, 1) := by decide +kernel
theorem d4_27 : decode method_5_code 27 = .ok (.iconst 3, 1) := by decide +kernel
theorem d4_28 : decode method_5_code 28 = .ok (.if_icmp .ne 7, 3) := by decide +kernel
theorem d4_31 : decode method_5_code 31 = .ok (.getstatic 58, 3) := by decide +kernel
theorem d4_34 : decode method_5_code 34 = .ok (.areturn, 1) := by decide +kernel
def Q_eout_3 (Z : State) (w_WITHOUT : Addr) (h0 : Heap) (n0 : Nat) (v : Option Value) (h : Heap) (L : List Loc) : Prop := v = some (.ref w_WITHOUT) ∧ Fr n0 L ∧ h = h0
set_option maxRecDepth 65536 in
set_option maxHeartbeats 40000000 in
theorem rm_eout_3 (l : Launch) (Z : State) (a0 : Array Value) (hw : ∀ d ∈ tables_1, d.before a0 Z = true) (ws : List Jvm.Cond) (w_WITHOUT : Addr) (h0 : Heap) (n0 : Nat) (Z0 : n0 ≤ h0.size) (S_WITHOUT : Sta Z Z.heap "com/example/demarc/demarc/Propagation$Step" "WITHOUT" "Lcom/example/demarc/demarc/Propagation$Step;" (.ref w_WITHOUT)) (O0 : Old Z n0 h0) :
    MetFree l (⟨"com/example/demarc/demarc/PropagationStepPinLaw", "expectOut", "(I)Lcom/example/demarc/demarc/Propagation$Step;"⟩ : MethodName) (head1 (Jvm.Cond.code (⟨"com/example/demarc/demarc/PropagationStepPinLaw", "expectOut", "(I)Lcom/example/demarc/demarc/Propagation$Step;"⟩ : MethodName) method_5_code 1 (some (.object "com/example/demarc/demarc/Propagation$Step")) :: ws) ({ frames := 0, cells := 0, slots := 0, locals := 0 } : Room)) (fun a U => a = #[(.int 3)] ∧ Z.Warmed39 U.vm ∧ U.heap = h0) (fun _ _ _ _ _ => True) (fun _ U o U' => ∃ v L, o = .returned v ∧ Q_eout_3 Z w_WITHOUT h0 n0 v U'.heap L ∧ FrameEnd U o U' L ({ frames := 0, cells := 0, slots := 0, locals := 0 } : Room).cells ({ frames := 0, cells := 0, slots := 0, locals := 0 } : Room).slots) := by
  refine MetFree.of_bodySF (plainFor_of_name pn_4) hisR ?_
  intro p e s m args below meth c s₁ Bd hml0 hP hK
  obtain ⟨rfl, hZ, hh⟩ := hP
  have hx := Bd.exec
  have hby := Bd.bytes
  have hml : c.maxLocals = 1 := hml0
  have hown : s.vm.findClass "com/example/demarc/demarc/PropagationStepPinLaw" = some m.cls := findClass_of_methodNamed Bd.named
  have hnm := (name_of_methodNamed Bd.named Bd.method).1
  have X0 : Stand p l e ({ frames := 0, cells := 0, slots := 0, locals := 0 } : Room) s m #[(.int 3)] below meth c s₁ [] 0 0 := Stand.of_body Bd
  have e0 : s₁.heap = h0 := by rw [← hh, Bd.state]; rfl
  have N0 := Fr.nil n0
  have pre0 : ∀ t, Steps p.tables e below (s₁.setTop (mkF m 0 #[.val (.int 3)] [])) t → Steps p.tables e below (s₁.setTop (entryFrame m #[(.int 3)] 1)) t := fun t k => castTop (ef_4_I m (3 : Int32)) k
  obtain ⟨T1, X1, e1, st1⟩ := getS2 X0 hx hZ hown (host := "") (Or.inl (hwi hw 31 rfl)) Via.refl e0 (S_WITHOUT.ext O0.2) (g := (mkF m 31 #[.val (.int 3)] [])) rfl (hb hby d4_31)
  obtain ⟨fs, hr, hrun, hended, hW, hsame⟩ := X1.leave (v := some (.ref w_WITHOUT)) (fun h => by rw [Bd.returns] at h; cases h)
  refine ⟨_, _, pre0 _ ?_, hrun, hended, _, _, rfl, ?_, ⟨_, rfl⟩, hW, hsame.mono (by decide) (by decide)⟩
  · show St p e below s₁ (mkF m 0 #[.val (.int 3)] []) _
    refine XS.iloadN X0.here hx rfl (hb hby d4_0) rfl ?_
    show St p e below s₁ (mkF m 1 #[.val (.int 3)] [(.int 3)]) _
    refine XS.ifYes X0.here hx rfl (pc0 := 1) (pc' := 8) rfl (hb hby d4_1) rfl ((if0 _ _).trans (feq (by decide : ¬ ((3 : Int32) = (0 : Int32)))).2) (by decide) (by decide) ?_
    show St p e below s₁ (mkF m 8 #[.val (.int 3)] []) _
    refine XS.iloadN X0.here hx rfl (hb hby d4_8) rfl ?_
    show St p e below s₁ (mkF m 9 #[.val (.int 3)] [(.int 3)]) _
    refine XS.iconst X0.here hx rfl (hb hby d4_9) ?_
    show St p e below s₁ (mkF m 10 #[.val (.int 3)] [(.int 1), (.int 3)]) _
    refine XS.icmpYes X0.here hx rfl (pc0 := 10) (pc' := 17) rfl (hb hby d4_10) rfl (feq (by decide : ¬ ((3 : Int32) = (1 : Int32)))).2 (by decide) (by decide) ?_
    show St p e below s₁ (mkF m 17 #[.val (.int 3)] []) _
    refine XS.iloadN X0.here hx rfl (hb hby d4_17) rfl ?_
    show St p e below s₁ (mkF m 18 #[.val (.int 3)] [(.int 3)]) _
    refine XS.iconst X0.here hx rfl (hb hby d4_18) ?_
    show St p e below s₁ (mkF m 19 #[.val (.int 3)] [(.int 2), (.int 3)]) _
    refine XS.icmpYes X0.here hx rfl (pc0 := 19) (pc' := 26) rfl (hb hby d4_19) rfl (feq (by decide : ¬ ((3 : Int32) = (2 : Int32)))).2 (by decide) (by decide) ?_
    show St p e below s₁ (mkF m 26 #[.val (.int 3)] []) _
    refine XS.iloadN X0.here hx rfl (hb hby d4_26) rfl ?_
    show St p e below s₁ (mkF m 27 #[.val (.int 3)] [(.int 3)]) _
    refine XS.iconst X0.here hx rfl (hb hby d4_27) ?_
    show St p e below s₁ (mkF m 28 #[.val (.int 3)] [(.int 3), (.int 3)]) _
    refine XS.icmpNo X0.here hx rfl (hb hby d4_28) rfl (teq (by decide : (3 : Int32) = (3 : Int32))).2 ?_
    show St p e below s₁ (mkF m 31 #[.val (.int 3)] []) _
    refine st1 _ ?_
    show St p e below T1 (mkF m 34 #[.val (.int 3)] [(.ref w_WITHOUT)]) _
    jvm_step X1.here [X1.here.top, hx, (hb hby d4_34), X1.method', Bd.returns, Value.isRef, FieldType.isReference]
    first | (intro acts; rw [hr _ acts rfl rfl rfl]) | rw [hr _ _ rfl rfl rfl]
    exact Steps.refl _
  · show Q_eout_3 Z w_WITHOUT h0 n0 _ T1.heap _
    rw [e1]
    exact ⟨rfl, N0, rfl⟩
theorem d4_35 : decode method_5_code 35 = .ok (.iload_n 0, 1) := by decide +kernel
theorem d4_36 : decode method_5_code 36 = .ok (.iconst 4, 1) := by decide +kernel
theorem d4_37 : decode method_5_code 37 = .ok (.if_icmp .ne 7, 3) := by decide +kernel
theorem d4_40 : decode method_5_code 40 = .ok (.getstatic 58, 3) := by decide +kernel
theorem d4_43 : decode method_5_code 43 = .ok (.areturn, 1) := by decide +kernel
def Q_eout_4 (Z : State) (w_WITHOUT : Addr) (h0 : Heap) (n0 : Nat) (v : Option Value) (h : Heap) (L : List Loc) : Prop := v = some (.ref w_WITHOUT) ∧ Fr n0 L ∧ h = h0
set_option maxRecDepth 65536 in
set_option maxHeartbeats 40000000 in
theorem rm_eout_4 (l : Launch) (Z : State) (a0 : Array Value) (hw : ∀ d ∈ tables_1, d.before a0 Z = true) (ws : List Jvm.Cond) (w_WITHOUT : Addr) (h0 : Heap) (n0 : Nat) (Z0 : n0 ≤ h0.size) (S_WITHOUT : Sta Z Z.heap "com/example/demarc/demarc/Propagation$Step" "WITHOUT" "Lcom/example/demarc/demarc/Propagation$Step;" (.ref w_WITHOUT)) (O0 : Old Z n0 h0) :
    MetFree l (⟨"com/example/demarc/demarc/PropagationStepPinLaw", "expectOut", "(I)Lcom/example/demarc/demarc/Propagation$Step;"⟩ : MethodName) (head1 (Jvm.Cond.code (⟨"com/example/demarc/demarc/PropagationStepPinLaw", "expectOut", "(I)Lcom/example/demarc/demarc/Propagation$Step;"⟩ : MethodName) method_5_code 1 (some (.object "com/example/demarc/demarc/Propagation$Step")) :: ws) ({ frames := 0, cells := 0, slots := 0, locals := 0 } : Room)) (fun a U => a = #[(.int 4)] ∧ Z.Warmed39 U.vm ∧ U.heap = h0) (fun _ _ _ _ _ => True) (fun _ U o U' => ∃ v L, o = .returned v ∧ Q_eout_4 Z w_WITHOUT h0 n0 v U'.heap L ∧ FrameEnd U o U' L ({ frames := 0, cells := 0, slots := 0, locals := 0 } : Room).cells ({ frames := 0, cells := 0, slots := 0, locals := 0 } : Room).slots) := by
  refine MetFree.of_bodySF (plainFor_of_name pn_4) hisR ?_
  intro p e s m args below meth c s₁ Bd hml0 hP hK
  obtain ⟨rfl, hZ, hh⟩ := hP
  have hx := Bd.exec
  have hby := Bd.bytes
  have hml : c.maxLocals = 1 := hml0
  have hown : s.vm.findClass "com/example/demarc/demarc/PropagationStepPinLaw" = some m.cls := findClass_of_methodNamed Bd.named
  have hnm := (name_of_methodNamed Bd.named Bd.method).1
  have X0 : Stand p l e ({ frames := 0, cells := 0, slots := 0, locals := 0 } : Room) s m #[(.int 4)] below meth c s₁ [] 0 0 := Stand.of_body Bd
  have e0 : s₁.heap = h0 := by rw [← hh, Bd.state]; rfl
  have N0 := Fr.nil n0
  have pre0 : ∀ t, Steps p.tables e below (s₁.setTop (mkF m 0 #[.val (.int 4)] [])) t → Steps p.tables e below (s₁.setTop (entryFrame m #[(.int 4)] 1)) t := fun t k => castTop (ef_4_I m (4 : Int32)) k
  obtain ⟨T1, X1, e1, st1⟩ := getS2 X0 hx hZ hown (host := "") (Or.inl (hwi hw 31 rfl)) Via.refl e0 (S_WITHOUT.ext O0.2) (g := (mkF m 40 #[.val (.int 4)] [])) rfl (hb hby d4_40)
  obtain ⟨fs, hr, hrun, hended, hW, hsame⟩ := X1.leave (v := some (.ref w_WITHOUT)) (fun h => by rw [Bd.returns] at h; cases h)
  refine ⟨_, _, pre0 _ ?_, hrun, hended, _, _, rfl, ?_, ⟨_, rfl⟩, hW, hsame.mono (by decide) (by decide)⟩
  · show St p e below s₁ (mkF m 0 #[.val (.int 4)] []) _
    refine XS.iloadN X0.here hx rfl (hb hby d4_0) rfl ?_
    show St p e below s₁ (mkF m 1 #[.val (.int 4)] [(.int 4)]) _
    refine XS.ifYes X0.here hx rfl (pc0 := 1) (pc' := 8) rfl (hb hby d4_1) rfl ((if0 _ _).trans (feq (by decide : ¬ ((4 : Int32) = (0 : Int32)))).2) (by decide) (by decide) ?_
    show St p e below s₁ (mkF m 8 #[.val (.int 4)] []) _
    refine XS.iloadN X0.here hx rfl (hb hby d4_8) rfl ?_
    show St p e below s₁ (mkF m 9 #[.val (.int 4)] [(.int 4)]) _
    refine XS.iconst X0.here hx rfl (hb hby d4_9) ?_
    show St p e below s₁ (mkF m 10 #[.val (.int 4)] [(.int 1), (.int 4)]) _
    refine XS.icmpYes X0.here hx rfl (pc0 := 10) (pc' := 17) rfl (hb hby d4_10) rfl (feq (by decide : ¬ ((4 : Int32) = (1 : Int32)))).2 (by decide) (by decide) ?_
    show St p e below s₁ (mkF m 17 #[.val (.int 4)] []) _
    refine XS.iloadN X0.here hx rfl (hb hby d4_17) rfl ?_
    show St p e below s₁ (mkF m 18 #[.val (.int 4)] [(.int 4)]) _
    refine XS.iconst X0.here hx rfl (hb hby d4_18) ?_
    show St p e below s₁ (mkF m 19 #[.val (.int 4)] [(.int 2), (.int 4)]) _
    refine XS.icmpYes X0.here hx rfl (pc0 := 19) (pc' := 26) rfl (hb hby d4_19) rfl (feq (by decide : ¬ ((4 : Int32) = (2 : Int32)))).2 (by decide) (by decide) ?_
    show St p e below s₁ (mkF m 26 #[.val (.int 4)] []) _
    refine XS.iloadN X0.here hx rfl (hb hby d4_26) rfl ?_
    show St p e below s₁ (mkF m 27 #[.val (.int 4)] [(.int 4)]) _
    refine XS.iconst X0.here hx rfl (hb hby d4_27) ?_
    show St p e below s₁ (mkF m 28 #[.val (.int 4)] [(.int 3), (.int 4)]) _
    refine XS.icmpYes X0.here hx rfl (pc0 := 28) (pc' := 35) rfl (hb hby d4_28) rfl (feq (by decide : ¬ ((4 : Int32) = (3 : Int32)))).2 (by decide) (by decide) ?_
    show St p e below s₁ (mkF m 35 #[.val (.int 4)] []) _
    refine XS.iloadN X0.here hx rfl (hb hby d4_35) rfl ?_
    show St p e below s₁ (mkF m 36 #[.val (.int 4)] [(.int 4)]) _
    refine XS.iconst X0.here hx rfl (hb hby d4_36) ?_
    show St p e below s₁ (mkF m 37 #[.val (.int 4)] [(.int 4), (.int 4)]) _
    refine XS.icmpNo X0.here hx rfl (hb hby d4_37) rfl (teq (by decide : (4 : Int32) = (4 : Int32))).2 ?_
    show St p e below s₁ (mkF m 40 #[.val (.int 4)] []) _
    refine st1 _ ?_
    show St p e below T1 (mkF m 43 #[.val (.int 4)] [(.ref w_WITHOUT)]) _
    jvm_step X1.here [X1.here.top, hx, (hb hby d4_43), X1.method', Bd.returns, Value.isRef, FieldType.isReference]
    first | (intro acts; rw [hr _ acts rfl rfl rfl]) | rw [hr _ _ rfl rfl rfl]
    exact Steps.refl _
  · show Q_eout_4 Z w_WITHOUT h0 n0 _ T1.heap _
    rw [e1]
    exact ⟨rfl, N0, rfl⟩
theorem d4_44 : decode method_5_code 44 = .ok (.iload_n 0, 1) := by decide +kernel
theorem d4_45 : decode method_5_code 45 = .ok (.iconst 5, 1) := by decide +kernel
theorem d4_46 : decode method_5_code 46 = .ok (.if_icmp .ne 7, 3) := by decide +kernel
theorem d4_49 : decode method_5_code 49 = .ok (.getstatic 58, 3) := by decide +kernel
theorem d4_52 : decode method_5_code 52 = .ok (.areturn, 1) := by decide +kernel
def Q_eout_5 (Z : State) (w_WITHOUT : Addr) (h0 : Heap) (n0 : Nat) (v : Option Value) (h : Heap) (L : List Loc) : Prop := v = some (.ref w_WITHOUT) ∧ Fr n0 L ∧ h = h0
set_option maxRecDepth 65536 in
set_option maxHeartbeats 40000000 in
theorem rm_eout_5 (l : Launch) (Z : State) (a0 : Array Value) (hw : ∀ d ∈ tables_1, d.before a0 Z = true) (ws : List Jvm.Cond) (w_WITHOUT : Addr) (h0 : Heap) (n0 : Nat) (Z0 : n0 ≤ h0.size) (S_WITHOUT : Sta Z Z.heap "com/example/demarc/demarc/Propagation$Step" "WITHOUT" "Lcom/example/demarc/demarc/Propagation$Step;" (.ref w_WITHOUT)) (O0 : Old Z n0 h0) :
    MetFree l (⟨"com/example/demarc/demarc/PropagationStepPinLaw", "expectOut", "(I)Lcom/example/demarc/demarc/Propagation$Step;"⟩ : MethodName) (head1 (Jvm.Cond.code (⟨"com/example/demarc/demarc/PropagationStepPinLaw", "expectOut", "(I)Lcom/example/demarc/demarc/Propagation$Step;"⟩ : MethodName) method_5_code 1 (some (.object "com/example/demarc/demarc/Propagation$Step")) :: ws) ({ frames := 0, cells := 0, slots := 0, locals := 0 } : Room)) (fun a U => a = #[(.int 5)] ∧ Z.Warmed39 U.vm ∧ U.heap = h0) (fun _ _ _ _ _ => True) (fun _ U o U' => ∃ v L, o = .returned v ∧ Q_eout_5 Z w_WITHOUT h0 n0 v U'.heap L ∧ FrameEnd U o U' L ({ frames := 0, cells := 0, slots := 0, locals := 0 } : Room).cells ({ frames := 0, cells := 0, slots := 0, locals := 0 } : Room).slots) := by
  refine MetFree.of_bodySF (plainFor_of_name pn_4) hisR ?_
  intro p e s m args below meth c s₁ Bd hml0 hP hK
  obtain ⟨rfl, hZ, hh⟩ := hP
  have hx := Bd.exec
  have hby := Bd.bytes
  have hml : c.maxLocals = 1 := hml0
  have hown : s.vm.findClass "com/example/demarc/demarc/PropagationStepPinLaw" = some m.cls := findClass_of_methodNamed Bd.named
  have hnm := (name_of_methodNamed Bd.named Bd.method).1
  have X0 : Stand p l e ({ frames := 0, cells := 0, slots := 0, locals := 0 } : Room) s m #[(.int 5)] below meth c s₁ [] 0 0 := Stand.of_body Bd
  have e0 : s₁.heap = h0 := by rw [← hh, Bd.state]; rfl
  have N0 := Fr.nil n0
  have pre0 : ∀ t, Steps p.tables e below (s₁.setTop (mkF m 0 #[.val (.int 5)] [])) t → Steps p.tables e below (s₁.setTop (entryFrame m #[(.int 5)] 1)) t := fun t k => castTop (ef_4_I m (5 : Int32)) k
  obtain ⟨T1, X1, e1, st1⟩ := getS2 X0 hx hZ hown (host := "") (Or.inl (hwi hw 31 rfl)) Via.refl e0 (S_WITHOUT.ext O0.2) (g := (mkF m 49 #[.val (.int 5)] [])) rfl (hb hby d4_49)
  obtain ⟨fs, hr, hrun, hended, hW, hsame⟩ := X1.leave (v := some (.ref w_WITHOUT)) (fun h => by rw [Bd.returns] at h; cases h)
  refine ⟨_, _, pre0 _ ?_, hrun, hended, _, _, rfl, ?_, ⟨_, rfl⟩, hW, hsame.mono (by decide) (by decide)⟩
  · show St p e below s₁ (mkF m 0 #[.val (.int 5)] []) _
    refine XS.iloadN X0.here hx rfl (hb hby d4_0) rfl ?_
    show St p e below s₁ (mkF m 1 #[.val (.int 5)] [(.int 5)]) _
    refine XS.ifYes X0.here hx rfl (pc0 := 1) (pc' := 8) rfl (hb hby d4_1) rfl ((if0 _ _).trans (feq (by decide : ¬ ((5 : Int32) = (0 : Int32)))).2) (by decide) (by decide) ?_
    show St p e below s₁ (mkF m 8 #[.val (.int 5)] []) _
    refine XS.iloadN X0.here hx rfl (hb hby d4_8) rfl ?_
    show St p e below s₁ (mkF m 9 #[.val (.int 5)] [(.int 5)]) _
    refine XS.iconst X0.here hx rfl (hb hby d4_9) ?_
    show St p e below s₁ (mkF m 10 #[.val (.int 5)] [(.int 1), (.int 5)]) _
    refine XS.icmpYes X0.here hx rfl (pc0 := 10) (pc' := 17) rfl (hb hby d4_10) rfl (feq (by decide : ¬ ((5 : Int32) = (1 : Int32)))).2 (by decide) (by decide) ?_
    show St p e below s₁ (mkF m 17 #[.val (.int 5)] []) _
    refine XS.iloadN X0.here hx rfl (hb hby d4_17) rfl ?_
    show St p e below s₁ (mkF m 18 #[.val (.int 5)] [(.int 5)]) _
    refine XS.iconst X0.here hx rfl (hb hby d4_18) ?_
    show St p e below s₁ (mkF m 19 #[.val (.int 5)] [(.int 2), (.int 5)]) _
    refine XS.icmpYes X0.here hx rfl (pc0 := 19) (pc' := 26) rfl (hb hby d4_19) rfl (feq (by decide : ¬ ((5 : Int32) = (2 : Int32)))).2 (by decide) (by decide) ?_
    show St p e below s₁ (mkF m 26 #[.val (.int 5)] []) _
    refine XS.iloadN X0.here hx rfl (hb hby d4_26) rfl ?_
    show St p e below s₁ (mkF m 27 #[.val (.int 5)] [(.int 5)]) _
    refine XS.iconst X0.here hx rfl (hb hby d4_27) ?_
    show St p e below s₁ (mkF m 28 #[.val (.int 5)] [(.int 3), (.int 5)]) _
    refine XS.icmpYes X0.here hx rfl (pc0 := 28) (pc' := 35) rfl (hb hby d4_28) rfl (feq (by decide : ¬ ((5 : Int32) = (3 : Int32)))).2 (by decide) (by decide) ?_
    show St p e below s₁ (mkF m 35 #[.val (.int 5)] []) _
    refine XS.iloadN X0.here hx rfl (hb hby d4_35) rfl ?_
    show St p e below s₁ (mkF m 36 #[.val (.int 5)] [(.int 5)]) _
    refine XS.iconst X0.here hx rfl (hb hby d4_36) ?_
    show St p e below s₁ (mkF m 37 #[.val (.int 5)] [(.int 4), (.int 5)]) _
    refine XS.icmpYes X0.here hx rfl (pc0 := 37) (pc' := 44) rfl (hb hby d4_37) rfl (feq (by decide : ¬ ((5 : Int32) = (4 : Int32)))).2 (by decide) (by decide) ?_
    show St p e below s₁ (mkF m 44 #[.val (.int 5)] []) _
    refine XS.iloadN X0.here hx rfl (hb hby d4_44) rfl ?_
    show St p e below s₁ (mkF m 45 #[.val (.int 5)] [(.int 5)]) _
    refine XS.iconst X0.here hx rfl (hb hby d4_45) ?_
    show St p e below s₁ (mkF m 46 #[.val (.int 5)] [(.int 5), (.int 5)]) _
    refine XS.icmpNo X0.here hx rfl (hb hby d4_46) rfl (teq (by decide : (5 : Int32) = (5 : Int32))).2 ?_
    show St p e below s₁ (mkF m 49 #[.val (.int 5)] []) _
    refine st1 _ ?_
    show St p e below T1 (mkF m 52 #[.val (.int 5)] [(.ref w_WITHOUT)]) _
    jvm_step X1.here [X1.here.top, hx, (hb hby d4_52), X1.method', Bd.returns, Value.isRef, FieldType.isReference]
    first | (intro acts; rw [hr _ acts rfl rfl rfl]) | rw [hr _ _ rfl rfl rfl]
    exact Steps.refl _
  · show Q_eout_5 Z w_WITHOUT h0 n0 _ T1.heap _
    rw [e1]
    exact ⟨rfl, N0, rfl⟩
theorem d4_53 : decode method_5_code 53 = .ok (.getstatic 55, 3) := by decide +kernel
theorem d4_56 : decode method_5_code 56 = .ok (.areturn, 1) := by decide +kernel
def Q_eout_6 (Z : State) (w_BEGIN : Addr) (h0 : Heap) (n0 : Nat) (v : Option Value) (h : Heap) (L : List Loc) : Prop := v = some (.ref w_BEGIN) ∧ Fr n0 L ∧ h = h0
set_option maxRecDepth 65536 in
set_option maxHeartbeats 40000000 in
theorem rm_eout_6 (l : Launch) (Z : State) (a0 : Array Value) (hw : ∀ d ∈ tables_1, d.before a0 Z = true) (ws : List Jvm.Cond) (w_BEGIN : Addr) (h0 : Heap) (n0 : Nat) (Z0 : n0 ≤ h0.size) (S_BEGIN : Sta Z Z.heap "com/example/demarc/demarc/Propagation$Step" "BEGIN" "Lcom/example/demarc/demarc/Propagation$Step;" (.ref w_BEGIN)) (O0 : Old Z n0 h0) :
    MetFree l (⟨"com/example/demarc/demarc/PropagationStepPinLaw", "expectOut", "(I)Lcom/example/demarc/demarc/Propagation$Step;"⟩ : MethodName) (head1 (Jvm.Cond.code (⟨"com/example/demarc/demarc/PropagationStepPinLaw", "expectOut", "(I)Lcom/example/demarc/demarc/Propagation$Step;"⟩ : MethodName) method_5_code 1 (some (.object "com/example/demarc/demarc/Propagation$Step")) :: ws) ({ frames := 0, cells := 0, slots := 0, locals := 0 } : Room)) (fun a U => a = #[(.int 6)] ∧ Z.Warmed39 U.vm ∧ U.heap = h0) (fun _ _ _ _ _ => True) (fun _ U o U' => ∃ v L, o = .returned v ∧ Q_eout_6 Z w_BEGIN h0 n0 v U'.heap L ∧ FrameEnd U o U' L ({ frames := 0, cells := 0, slots := 0, locals := 0 } : Room).cells ({ frames := 0, cells := 0, slots := 0, locals := 0 } : Room).slots) := by
  refine MetFree.of_bodySF (plainFor_of_name pn_4) hisR ?_
  intro p e s m args below meth c s₁ Bd hml0 hP hK
  obtain ⟨rfl, hZ, hh⟩ := hP
  have hx := Bd.exec
  have hby := Bd.bytes
  have hml : c.maxLocals = 1 := hml0
  have hown : s.vm.findClass "com/example/demarc/demarc/PropagationStepPinLaw" = some m.cls := findClass_of_methodNamed Bd.named
  have hnm := (name_of_methodNamed Bd.named Bd.method).1
  have X0 : Stand p l e ({ frames := 0, cells := 0, slots := 0, locals := 0 } : Room) s m #[(.int 6)] below meth c s₁ [] 0 0 := Stand.of_body Bd
  have e0 : s₁.heap = h0 := by rw [← hh, Bd.state]; rfl
  have N0 := Fr.nil n0
  have pre0 : ∀ t, Steps p.tables e below (s₁.setTop (mkF m 0 #[.val (.int 6)] [])) t → Steps p.tables e below (s₁.setTop (entryFrame m #[(.int 6)] 1)) t := fun t k => castTop (ef_4_I m (6 : Int32)) k
  obtain ⟨T1, X1, e1, st1⟩ := getS2 X0 hx hZ hown (host := "") (Or.inl (hwi hw 27 rfl)) Via.refl e0 (S_BEGIN.ext O0.2) (g := (mkF m 53 #[.val (.int 6)] [])) rfl (hb hby d4_53)
  obtain ⟨fs, hr, hrun, hended, hW, hsame⟩ := X1.leave (v := some (.ref w_BEGIN)) (fun h => by rw [Bd.returns] at h; cases h)
  refine ⟨_, _, pre0 _ ?_, hrun, hended, _, _, rfl, ?_, ⟨_, rfl⟩, hW, hsame.mono (by decide) (by decide)⟩
  · show St p e below s₁ (mkF m 0 #[.val (.int 6)] []) _
    refine XS.iloadN X0.here hx rfl (hb hby d4_0) rfl ?_
    show St p e below s₁ (mkF m 1 #[.val (.int 6)] [(.int 6)]) _
    refine XS.ifYes X0.here hx rfl (pc0 := 1) (pc' := 8) rfl (hb hby d4_1) rfl ((if0 _ _).trans (feq (by decide : ¬ ((6 : Int32) = (0 : Int32)))).2) (by decide) (by decide) ?_
    show St p e below s₁ (mkF m 8 #[.val (.int 6)] []) _
    refine XS.iloadN X0.here hx rfl (hb hby d4_8) rfl ?_
    show St p e below s₁ (mkF m 9 #[.val (.int 6)] [(.int 6)]) _
    refine XS.iconst X0.here hx rfl (hb hby d4_9) ?_
    show St p e below s₁ (mkF m 10 #[.val (.int 6)] [(.int 1), (.int 6)]) _
    refine XS.icmpYes X0.here hx rfl (pc0 := 10) (pc' := 17) rfl (hb hby d4_10) rfl (feq (by decide : ¬ ((6 : Int32) = (1 : Int32)))).2 (by decide) (by decide) ?_
    show St p e below s₁ (mkF m 17 #[.val (.int 6)] []) _
    refine XS.iloadN X0.here hx rfl (hb hby d4_17) rfl ?_
    show St p e below s₁ (mkF m 18 #[.val (.int 6)] [(.int 6)]) _
    refine XS.iconst X0.here hx rfl (hb hby d4_18) ?_
    show St p e below s₁ (mkF m 19 #[.val (.int 6)] [(.int 2), (.int 6)]) _
    refine XS.icmpYes X0.here hx rfl (pc0 := 19) (pc' := 26) rfl (hb hby d4_19) rfl (feq (by decide : ¬ ((6 : Int32) = (2 : Int32)))).2 (by decide) (by decide) ?_
    show St p e below s₁ (mkF m 26 #[.val (.int 6)] []) _
    refine XS.iloadN X0.here hx rfl (hb hby d4_26) rfl ?_
    show St p e below s₁ (mkF m 27 #[.val (.int 6)] [(.int 6)]) _
    refine XS.iconst X0.here hx rfl (hb hby d4_27) ?_
    show St p e below s₁ (mkF m 28 #[.val (.int 6)] [(.int 3), (.int 6)]) _
    refine XS.icmpYes X0.here hx rfl (pc0 := 28) (pc' := 35) rfl (hb hby d4_28) rfl (feq (by decide : ¬ ((6 : Int32) = (3 : Int32)))).2 (by decide) (by decide) ?_
    show St p e below s₁ (mkF m 35 #[.val (.int 6)] []) _
    refine XS.iloadN X0.here hx rfl (hb hby d4_35) rfl ?_
    show St p e below s₁ (mkF m 36 #[.val (.int 6)] [(.int 6)]) _
    refine XS.iconst X0.here hx rfl (hb hby d4_36) ?_
    show St p e below s₁ (mkF m 37 #[.val (.int 6)] [(.int 4), (.int 6)]) _
    refine XS.icmpYes X0.here hx rfl (pc0 := 37) (pc' := 44) rfl (hb hby d4_37) rfl (feq (by decide : ¬ ((6 : Int32) = (4 : Int32)))).2 (by decide) (by decide) ?_
    show St p e below s₁ (mkF m 44 #[.val (.int 6)] []) _
    refine XS.iloadN X0.here hx rfl (hb hby d4_44) rfl ?_
    show St p e below s₁ (mkF m 45 #[.val (.int 6)] [(.int 6)]) _
    refine XS.iconst X0.here hx rfl (hb hby d4_45) ?_
    show St p e below s₁ (mkF m 46 #[.val (.int 6)] [(.int 5), (.int 6)]) _
    refine XS.icmpYes X0.here hx rfl (pc0 := 46) (pc' := 53) rfl (hb hby d4_46) rfl (feq (by decide : ¬ ((6 : Int32) = (5 : Int32)))).2 (by decide) (by decide) ?_
    show St p e below s₁ (mkF m 53 #[.val (.int 6)] []) _
    refine st1 _ ?_
    show St p e below T1 (mkF m 56 #[.val (.int 6)] [(.ref w_BEGIN)]) _
    jvm_step X1.here [X1.here.top, hx, (hb hby d4_56), X1.method', Bd.returns, Value.isRef, FieldType.isReference]
    first | (intro acts; rw [hr _ acts rfl rfl rfl]) | rw [hr _ _ rfl rfl rfl]
    exact Steps.refl _
  · show Q_eout_6 Z w_BEGIN h0 n0 _ T1.heap _
    rw [e1]
    exact ⟨rfl, N0, rfl⟩
theorem d2_0 : decode prog_20_method_4_code 0 = .ok (.iload_n 1, 1) := by decide +kernel
theorem d2_1 : decode prog_20_method_4_code 1 = .ok (.ifCond .eq 10, 3) := by decide +kernel
theorem d2_4 : decode prog_20_method_4_code 4 = .ok (.aload_n 0, 1) := by decide +kernel
theorem d2_5 : decode prog_20_method_4_code 5 = .ok (.getfield 44, 3) := by decide +kernel
theorem d2_8 : decode prog_20_method_4_code 8 = .ok (.goto 7, 3) := by decide +kernel
theorem d2_15 : decode prog_20_method_4_code 15 = .ok (.areturn, 1) := by decide +kernel
theorem pn_2 : plainName "com/example/demarc/demarc/Propagation" = true := by first | (simp [plainName, overriddenIn]; done) | decide +kernel
theorem ef_2_RI (m : MethodId) (x0 : Addr) (x1 : Int32) : entryFrame m #[(.ref x0), (.int x1)] 2 = mkF m 0 #[.val (.ref x0), .val (.int x1)] [] := by first | (simp [entryFrame, mkF, argsToLocals, Value.category]; done) | rfl
def Q_step_1 (Z : State) (a1 : Addr) (v_a1__inTransaction : Addr) (h0 : Heap) (n0 : Nat) (v : Option Value) (h : Heap) (L : List Loc) : Prop := v = some (.ref v_a1__inTransaction) ∧ Fr n0 L ∧ h = h0
set_option maxRecDepth 65536 in
set_option maxHeartbeats 40000000 in
theorem rm_step_1 (l : Launch) (Z : State) (a0 : Array Value) (hw : ∀ d ∈ tables_1, d.before a0 Z = true) (ws : List Jvm.Cond) (a1 : Addr) (v_a1__inTransaction : Addr) (h0 : Heap) (n0 : Nat) (Z0 : n0 ≤ h0.size) (F_a1__inTransaction : Fld Z h0 a1 "com/example/demarc/demarc/Propagation" "_inTransaction" "Lcom/example/demarc/demarc/Propagation$Step;" (.ref v_a1__inTransaction)) :
    MetFree l (⟨"com/example/demarc/demarc/Propagation", "step", "(Z)Lcom/example/demarc/demarc/Propagation$Step;"⟩ : MethodName) (head1 (Jvm.Cond.code (⟨"com/example/demarc/demarc/Propagation", "step", "(Z)Lcom/example/demarc/demarc/Propagation$Step;"⟩ : MethodName) prog_20_method_4_code 2 (some (.object "com/example/demarc/demarc/Propagation$Step")) :: ws) ({ frames := 0, cells := 0, slots := 0, locals := 0 } : Room)) (fun a U => a = #[(.ref a1), (.int 1)] ∧ Z.Warmed39 U.vm ∧ U.heap = h0) (fun _ _ _ _ _ => True) (fun _ U o U' => ∃ v L, o = .returned v ∧ Q_step_1 Z a1 v_a1__inTransaction h0 n0 v U'.heap L ∧ FrameEnd U o U' L ({ frames := 0, cells := 0, slots := 0, locals := 0 } : Room).cells ({ frames := 0, cells := 0, slots := 0, locals := 0 } : Room).slots) := by
  refine MetFree.of_bodySF (plainFor_of_name pn_2) hisR ?_
  intro p e s m args below meth c s₁ Bd hml0 hP hK
  obtain ⟨rfl, hZ, hh⟩ := hP
  have hx := Bd.exec
  have hby := Bd.bytes
  have hml : c.maxLocals = 2 := hml0
  have hown : s.vm.findClass "com/example/demarc/demarc/Propagation" = some m.cls := findClass_of_methodNamed Bd.named
  have hnm := (name_of_methodNamed Bd.named Bd.method).1
  have X0 : Stand p l e ({ frames := 0, cells := 0, slots := 0, locals := 0 } : Room) s m #[(.ref a1), (.int 1)] below meth c s₁ [] 0 0 := Stand.of_body Bd
  have e0 : s₁.heap = h0 := by rw [← hh, Bd.state]; rfl
  have N0 := Fr.nil n0
  have pre0 : ∀ t, Steps p.tables e below (s₁.setTop (mkF m 0 #[.val (.ref a1), .val (.int 1)] [])) t → Steps p.tables e below (s₁.setTop (entryFrame m #[(.ref a1), (.int 1)] 2)) t := fun t k => castTop (ef_2_RI m a1 (1 : Int32)) k
  obtain ⟨T1, X1, e1, st1⟩ := getF X0 hx hZ hown (host := "") (Or.inl (hwi hw 13 rfl)) Via.refl e0 F_a1__inTransaction (g := (mkF m 5 #[.val (.ref a1), .val (.int 1)] [(.ref a1)])) rfl rfl (hb hby d2_5)
  obtain ⟨fs, hr, hrun, hended, hW, hsame⟩ := X1.leave (v := some (.ref v_a1__inTransaction)) (fun h => by rw [Bd.returns] at h; cases h)
  refine ⟨_, _, pre0 _ ?_, hrun, hended, _, _, rfl, ?_, ⟨_, rfl⟩, hW, hsame.mono (by decide) (by decide)⟩
  · show St p e below s₁ (mkF m 0 #[.val (.ref a1), .val (.int 1)] []) _
    refine XS.iloadN X0.here hx rfl (hb hby d2_0) rfl ?_
    show St p e below s₁ (mkF m 1 #[.val (.ref a1), .val (.int 1)] [(.int 1)]) _
    refine XS.ifNo X0.here hx rfl (hb hby d2_1) rfl ((if0 _ _).trans (feq (by decide : ¬ ((1 : Int32) = (0 : Int32)))).1) ?_
    show St p e below s₁ (mkF m 4 #[.val (.ref a1), .val (.int 1)] []) _
    refine XS.aloadN X0.here hx rfl (hb hby d2_4) rfl rfl ?_
    show St p e below s₁ (mkF m 5 #[.val (.ref a1), .val (.int 1)] [(.ref a1)]) _
    refine st1 _ ?_
    show St p e below T1 (mkF m 8 #[.val (.ref a1), .val (.int 1)] [(.ref v_a1__inTransaction)]) _
    refine XS.goto X1.here hx rfl (pc0 := 8) (pc' := 15) rfl (hb hby d2_8) (by decide) (by decide) ?_
    show St p e below T1 (mkF m 15 #[.val (.ref a1), .val (.int 1)] [(.ref v_a1__inTransaction)]) _
    jvm_step X1.here [X1.here.top, hx, (hb hby d2_15), X1.method', Bd.returns, Value.isRef, FieldType.isReference]
    first | (intro acts; rw [hr _ acts rfl rfl rfl]) | rw [hr _ _ rfl rfl rfl]
    exact Steps.refl _
  · show Q_step_1 Z a1 v_a1__inTransaction h0 n0 _ T1.heap _
    rw [e1]
    exact ⟨rfl, N0, rfl⟩
theorem d2_11 : decode prog_20_method_4_code 11 = .ok (.aload_n 0, 1) := by decide +kernel
theorem d2_12 : decode prog_20_method_4_code 12 = .ok (.getfield 48, 3) := by decide +kernel
def Q_step_0 (Z : State) (a1 : Addr) (v_a1__outside : Addr) (h0 : Heap) (n0 : Nat) (v : Option Value) (h : Heap) (L : List Loc) : Prop := v = some (.ref v_a1__outside) ∧ Fr n0 L ∧ h = h0
set_option maxRecDepth 65536 in
set_option maxHeartbeats 40000000 in
theorem rm_step_0 (l : Launch) (Z : State) (a0 : Array Value) (hw : ∀ d ∈ tables_1, d.before a0 Z = true) (ws : List Jvm.Cond) (a1 : Addr) (v_a1__outside : Addr) (h0 : Heap) (n0 : Nat) (Z0 : n0 ≤ h0.size) (F_a1__outside : Fld Z h0 a1 "com/example/demarc/demarc/Propagation" "_outside" "Lcom/example/demarc/demarc/Propagation$Step;" (.ref v_a1__outside)) :
    MetFree l (⟨"com/example/demarc/demarc/Propagation", "step", "(Z)Lcom/example/demarc/demarc/Propagation$Step;"⟩ : MethodName) (head1 (Jvm.Cond.code (⟨"com/example/demarc/demarc/Propagation", "step", "(Z)Lcom/example/demarc/demarc/Propagation$Step;"⟩ : MethodName) prog_20_method_4_code 2 (some (.object "com/example/demarc/demarc/Propagation$Step")) :: ws) ({ frames := 0, cells := 0, slots := 0, locals := 0 } : Room)) (fun a U => a = #[(.ref a1), (.int 0)] ∧ Z.Warmed39 U.vm ∧ U.heap = h0) (fun _ _ _ _ _ => True) (fun _ U o U' => ∃ v L, o = .returned v ∧ Q_step_0 Z a1 v_a1__outside h0 n0 v U'.heap L ∧ FrameEnd U o U' L ({ frames := 0, cells := 0, slots := 0, locals := 0 } : Room).cells ({ frames := 0, cells := 0, slots := 0, locals := 0 } : Room).slots) := by
  refine MetFree.of_bodySF (plainFor_of_name pn_2) hisR ?_
  intro p e s m args below meth c s₁ Bd hml0 hP hK
  obtain ⟨rfl, hZ, hh⟩ := hP
  have hx := Bd.exec
  have hby := Bd.bytes
  have hml : c.maxLocals = 2 := hml0
  have hown : s.vm.findClass "com/example/demarc/demarc/Propagation" = some m.cls := findClass_of_methodNamed Bd.named
  have hnm := (name_of_methodNamed Bd.named Bd.method).1
  have X0 : Stand p l e ({ frames := 0, cells := 0, slots := 0, locals := 0 } : Room) s m #[(.ref a1), (.int 0)] below meth c s₁ [] 0 0 := Stand.of_body Bd
  have e0 : s₁.heap = h0 := by rw [← hh, Bd.state]; rfl
  have N0 := Fr.nil n0
  have pre0 : ∀ t, Steps p.tables e below (s₁.setTop (mkF m 0 #[.val (.ref a1), .val (.int 0)] [])) t → Steps p.tables e below (s₁.setTop (entryFrame m #[(.ref a1), (.int 0)] 2)) t := fun t k => castTop (ef_2_RI m a1 (0 : Int32)) k
  obtain ⟨T1, X1, e1, st1⟩ := getF X0 hx hZ hown (host := "") (Or.inl (hwi hw 17 rfl)) Via.refl e0 F_a1__outside (g := (mkF m 12 #[.val (.ref a1), .val (.int 0)] [(.ref a1)])) rfl rfl (hb hby d2_12)
  obtain ⟨fs, hr, hrun, hended, hW, hsame⟩ := X1.leave (v := some (.ref v_a1__outside)) (fun h => by rw [Bd.returns] at h; cases h)
  refine ⟨_, _, pre0 _ ?_, hrun, hended, _, _, rfl, ?_, ⟨_, rfl⟩, hW, hsame.mono (by decide) (by decide)⟩
  · show St p e below s₁ (mkF m 0 #[.val (.ref a1), .val (.int 0)] []) _
    refine XS.iloadN X0.here hx rfl (hb hby d2_0) rfl ?_
    show St p e below s₁ (mkF m 1 #[.val (.ref a1), .val (.int 0)] [(.int 0)]) _
    refine XS.ifYes X0.here hx rfl (pc0 := 1) (pc' := 11) rfl (hb hby d2_1) rfl ((if0 _ _).trans (teq (by decide : (0 : Int32) = (0 : Int32))).1) (by decide) (by decide) ?_
    show St p e below s₁ (mkF m 11 #[.val (.ref a1), .val (.int 0)] []) _
    refine XS.aloadN X0.here hx rfl (hb hby d2_11) rfl rfl ?_
    show St p e below s₁ (mkF m 12 #[.val (.ref a1), .val (.int 0)] [(.ref a1)]) _
    refine st1 _ ?_
    show St p e below T1 (mkF m 15 #[.val (.ref a1), .val (.int 0)] [(.ref v_a1__outside)]) _
    jvm_step X1.here [X1.here.top, hx, (hb hby d2_15), X1.method', Bd.returns, Value.isRef, FieldType.isReference]
    first | (intro acts; rw [hr _ acts rfl rfl rfl]) | rw [hr _ _ rfl rfl rfl]
    exact Steps.refl _
  · show Q_step_0 Z a1 v_a1__outside h0 n0 _ T1.heap _
    rw [e1]
    exact ⟨rfl, N0, rfl⟩
theorem pd_I_Lcom_example_demarc_demarc_Propagation_940 : parseMethodDescriptor "(I)Lcom/example/demarc/demarc/Propagation;" = some ⟨[.int], some (.object "com/example/demarc/demarc/Propagation")⟩ := by decide +kernel
theorem pd_Z_Lcom_example_demarc_demarc_Propagation_Step_405 : parseMethodDescriptor "(Z)Lcom/example/demarc/demarc/Propagation$Step;" = some ⟨[.boolean], some (.object "com/example/demarc/demarc/Propagation$Step")⟩ := by decide +kernel
theorem pd_I_Lcom_example_demarc_demarc_Propagation_Step_388 : parseMethodDescriptor "(I)Lcom/example/demarc/demarc/Propagation$Step;" = some ⟨[.int], some (.object "com/example/demarc/demarc/Propagation$Step")⟩ := by decide +kernel
theorem pn_0 : plainName "com/example/demarc/demarc/PropagationStepPinLaw" = true := by first | (simp [plainName, overriddenIn]; done) | decide +kernel
theorem ef_0_I (m : MethodId) (x0 : Int32) : entryFrame m #[(.int x0)] maxLocals = mkF m 0 #[.val (.int x0), .unset, .unset, .unset, .unset] [] := by first | (simp [entryFrame, mkF, argsToLocals, Value.category, maxLocals]; done) | rfl
def Q_law (n0 : Nat) (v : Option Value) (L : List Loc) : Prop := v = some (.int 1) ∧ Fr n0 L
set_option maxRecDepth 65536 in
set_option maxHeartbeats 40000000 in
theorem rm_law_0 (l : Launch) (Z : State) (a0 : Array Value) (hw : ∀ d ∈ tables_1, d.before a0 Z = true) (ws : List Jvm.Cond) (p1 : Int32) (w_REQUIRED : Addr) (w_JOIN : Addr) (w_BEGIN : Addr) (h0 : Heap) (n0 : Nat) (Z0 : n0 ≤ h0.size) (S_REQUIRED : Sta Z Z.heap "com/example/demarc/demarc/Propagation" "REQUIRED" "Lcom/example/demarc/demarc/Propagation;" (.ref w_REQUIRED)) (O0 : Old Z n0 h0) (E_w_REQUIRED : Exa Z Z.heap w_REQUIRED "com/example/demarc/demarc/Propagation") (S_JOIN : Sta Z Z.heap "com/example/demarc/demarc/Propagation$Step" "JOIN" "Lcom/example/demarc/demarc/Propagation$Step;" (.ref w_JOIN)) (S_BEGIN : Sta Z Z.heap "com/example/demarc/demarc/Propagation$Step" "BEGIN" "Lcom/example/demarc/demarc/Propagation$Step;" (.ref w_BEGIN)) (F_w_REQUIRED__inTransaction : Fld Z Z.heap w_REQUIRED "com/example/demarc/demarc/Propagation" "_inTransaction" "Lcom/example/demarc/demarc/Propagation$Step;" (.ref w_JOIN)) (F_w_REQUIRED__outside : Fld Z Z.heap w_REQUIRED "com/example/demarc/demarc/Propagation" "_outside" "Lcom/example/demarc/demarc/Propagation$Step;" (.ref w_BEGIN)) (hk : ((p1 &&& (2147483647 : Int32)) % (7 : Int32)) = (0 : Int32)) :
    MetFree l x (head1 (Jvm.Cond.code x code maxLocals ret :: ws) room_1) (fun a U => a = #[(.int p1)] ∧ Z.Warmed39 U.vm ∧ U.heap = h0) (fun _ _ _ _ _ => True) (fun _ U o U' => ∃ v L, o = .returned v ∧ Q_law n0 v L ∧ FrameEnd U o U' L room_1.cells room_1.slots) := by
  refine MetFree.of_bodySF (plainFor_of_name pn_0) hisR ?_
  intro p e s m args below meth c s₁ Bd hml0 hP hK
  obtain ⟨rfl, hZ, hh⟩ := hP
  have hx := Bd.exec
  have hby := Bd.bytes
  have hml : c.maxLocals = 5 := hml0
  have hown : s.vm.findClass "com/example/demarc/demarc/PropagationStepPinLaw" = some m.cls := findClass_of_methodNamed Bd.named
  have hnm := (name_of_methodNamed Bd.named Bd.method).1
  have X0 : Stand p l e room_1 s m #[(.int p1)] below meth c s₁ [] 0 0 := Stand.of_body Bd
  have e0 : s₁.heap = h0 := by rw [← hh, Bd.state]; rfl
  have N0 := Fr.nil n0
  have pre0 : ∀ t, Steps p.tables e below (s₁.setTop (mkF m 0 #[.val (.int p1), .unset, .unset, .unset, .unset] [])) t → Steps p.tables e below (s₁.setTop (entryFrame m #[(.int p1)] maxLocals)) t := fun t k => castTop (ef_0_I m p1) k
  obtain ⟨_, _, ⟨T1, L1, k1, n1⟩, -, X1, ⟨Lc1, hQ1, l1, y1, z1⟩, st1⟩ := Jvm.LawKit.callS X0 hx (y := (⟨"com/example/demarc/demarc/PropagationStepPinLaw", "pick", "(I)Lcom/example/demarc/demarc/Propagation;"⟩ : MethodName)) hown (mvT hZ (hwi hw 1 rfl)) (mvT hZ (hwi hw 2 rfl)) (mvT hZ (hwi hw 3 rfl)) (mvT hZ (hwi hw 4 rfl)) (by decide) (backOf (W := 0) (rm_pick_0 l Z a0 hw [] w_REQUIRED h0 n0 Z0 S_REQUIRED O0) hZ (hwi hw 4 rfl) (hwi hw 3 rfl) (by decide) (by decide)) (g := (mkF m 9 #[.val (.int p1), .val (.int 0), .unset, .unset, .unset] [(.int 0)])) rfl (by rw [hml]; rfl) (argsL := [(.int 0)]) (rest := []) (lenOf pd_I_Lcom_example_demarc_demarc_Propagation_940 rfl) rfl (by show 2 * 0 + _ ≤ _; exact Nat.le_of_eq rfl) (hb hby at_9) (fun _ _ => ⟨rfl, e0, (by decide : 0 + 0 ≤ _), (by decide : 0 + 0 ≤ _)⟩)
  dsimp only [Pt.U, Pt.locs, Pt.cells, Pt.slots] at X1 l1 y1 z1 st1 hQ1
  subst l1 y1 z1
  obtain ⟨rfl, N1q, e1⟩ := hQ1
  have N1 := Fr.app N0 N1q
  obtain ⟨cq2, kq2, q2a, q2b, q2c⟩ := isOf hZ e1 (E_w_REQUIRED.ext O0.2)
  obtain ⟨_, _, ⟨T2, L2, k2, n2⟩, -, X2, ⟨Lc2, hQ2, l2, y2, z2⟩, st2⟩ := X1.virtualBack hx (y := (⟨"com/example/demarc/demarc/Propagation", "step", "(Z)Lcom/example/demarc/demarc/Propagation$Step;"⟩ : MethodName)) (z := (⟨"com/example/demarc/demarc/Propagation", "step", "(Z)Lcom/example/demarc/demarc/Propagation$Step;"⟩ : MethodName)) hown (mvT hZ (hwi hw 8 rfl)) (mvT hZ (hwi hw 9 rfl)) (notFace_of_selects (args := #[]) (mvT hZ (hwi hw 11 rfl))) (mvT hZ (hwi hw 11 rfl)) (mvT hZ (hwi hw 10 rfl)) (by decide) (backOf (W := 0) (rm_step_1 l Z a0 hw [] w_REQUIRED w_JOIN h0 n0 Z0 (F_w_REQUIRED__inTransaction.ext O0.2)) hZ (hwi hw 12 rfl) (hwi hw 6 rfl) (by decide) (by decide)) q2a q2c (g := (mkF m 15 #[.val (.int p1), .val (.int 0), .val (.ref w_REQUIRED), .unset, .unset] [(.int 1), (.ref w_REQUIRED)])) rfl (by rw [hml]; rfl) (Steps.refl _) (argsL := [(.int 1)]) (rest := []) (lenOf pd_Z_Lcom_example_demarc_demarc_Propagation_Step_405 rfl) rfl (by show 2 * 0 + _ ≤ _; exact Nat.le_of_eq rfl) (hb hby at_15) (fun _ _ => ⟨rfl, e1, (by decide : 0 + 0 ≤ _), (by decide : 0 + 0 ≤ _)⟩)
  dsimp only [Pt.U, Pt.locs, Pt.cells, Pt.slots] at X2 l2 y2 z2 st2 hQ2
  subst l2 y2 z2
  obtain ⟨rfl, N2q, e2⟩ := hQ2
  have N2 := Fr.app N1 N2q
  obtain ⟨cq3, kq3, q3a, q3b, q3c⟩ := isOf hZ e2 (E_w_REQUIRED.ext O0.2)
  obtain ⟨_, _, ⟨T3, L3, k3, n3⟩, -, X3, ⟨Lc3, hQ3, l3, y3, z3⟩, st3⟩ := X2.virtualBack hx (y := (⟨"com/example/demarc/demarc/Propagation", "step", "(Z)Lcom/example/demarc/demarc/Propagation$Step;"⟩ : MethodName)) (z := (⟨"com/example/demarc/demarc/Propagation", "step", "(Z)Lcom/example/demarc/demarc/Propagation$Step;"⟩ : MethodName)) hown (mvT hZ (hwi hw 8 rfl)) (mvT hZ (hwi hw 9 rfl)) (notFace_of_selects (args := #[]) (mvT hZ (hwi hw 11 rfl))) (mvT hZ (hwi hw 11 rfl)) (mvT hZ (hwi hw 10 rfl)) (by decide) (backOf (W := 0) (rm_step_0 l Z a0 hw [] w_REQUIRED w_BEGIN h0 n0 Z0 (F_w_REQUIRED__outside.ext O0.2)) hZ (hwi hw 12 rfl) (hwi hw 6 rfl) (by decide) (by decide)) q3a q3c (g := (mkF m 21 #[.val (.int p1), .val (.int 0), .val (.ref w_REQUIRED), .val (.ref w_JOIN), .unset] [(.int 0), (.ref w_REQUIRED)])) rfl (by rw [hml]; rfl) (Steps.refl _) (argsL := [(.int 0)]) (rest := []) (lenOf pd_Z_Lcom_example_demarc_demarc_Propagation_Step_405 rfl) rfl (by show 2 * 0 + _ ≤ _; exact Nat.le_of_eq rfl) (hb hby at_21) (fun _ _ => ⟨rfl, e2, (by decide : 0 + 0 ≤ _), (by decide : 0 + 0 ≤ _)⟩)
  dsimp only [Pt.U, Pt.locs, Pt.cells, Pt.slots] at X3 l3 y3 z3 st3 hQ3
  subst l3 y3 z3
  obtain ⟨rfl, N3q, e3⟩ := hQ3
  have N3 := Fr.app N2 N3q
  obtain ⟨_, _, ⟨T4, L4, k4, n4⟩, -, X4, ⟨Lc4, hQ4, l4, y4, z4⟩, st4⟩ := Jvm.LawKit.callS X3 hx (y := (⟨"com/example/demarc/demarc/PropagationStepPinLaw", "expectIn", "(I)Lcom/example/demarc/demarc/Propagation$Step;"⟩ : MethodName)) hown (mvT hZ (hwi hw 20 rfl)) (mvT hZ (hwi hw 21 rfl)) (mvT hZ (hwi hw 3 rfl)) (mvT hZ (hwi hw 22 rfl)) (by decide) (backOf (W := 1) (rm_ein_0 l Z a0 hw [] w_JOIN h0 n0 Z0 S_JOIN O0) hZ (hwi hw 22 rfl) (hwi hw 3 rfl) (by decide) (by decide)) (g := (mkF m 28 #[.val (.int p1), .val (.int 0), .val (.ref w_REQUIRED), .val (.ref w_JOIN), .val (.ref w_BEGIN)] [(.int 0), (.ref w_JOIN)])) rfl (by rw [hml]; rfl) (argsL := [(.int 0)]) (rest := [(.ref w_JOIN)]) (lenOf pd_I_Lcom_example_demarc_demarc_Propagation_Step_388 rfl) rfl (by show 2 * 0 + _ ≤ _; exact Nat.le_of_eq rfl) (hb hby at_28) (fun _ _ => ⟨rfl, e3, (by decide : 0 + 0 ≤ _), (by decide : 0 + 0 ≤ _)⟩)
  dsimp only [Pt.U, Pt.locs, Pt.cells, Pt.slots] at X4 l4 y4 z4 st4 hQ4
  subst l4 y4 z4
  obtain ⟨rfl, N4q, e4⟩ := hQ4
  have N4 := Fr.app N3 N4q
  obtain ⟨_, _, ⟨T5, L5, k5, n5⟩, -, X5, ⟨Lc5, hQ5, l5, y5, z5⟩, st5⟩ := Jvm.LawKit.callS X4 hx (y := (⟨"com/example/demarc/demarc/PropagationStepPinLaw", "expectOut", "(I)Lcom/example/demarc/demarc/Propagation$Step;"⟩ : MethodName)) hown (mvT hZ (hwi hw 24 rfl)) (mvT hZ (hwi hw 25 rfl)) (mvT hZ (hwi hw 3 rfl)) (mvT hZ (hwi hw 26 rfl)) (by decide) (backOf (W := 1) (rm_eout_0 l Z a0 hw [] w_BEGIN h0 n0 Z0 S_BEGIN O0) hZ (hwi hw 26 rfl) (hwi hw 3 rfl) (by decide) (by decide)) (g := (mkF m 37 #[.val (.int p1), .val (.int 0), .val (.ref w_REQUIRED), .val (.ref w_JOIN), .val (.ref w_BEGIN)] [(.int 0), (.ref w_BEGIN)])) rfl (by rw [hml]; rfl) (argsL := [(.int 0)]) (rest := [(.ref w_BEGIN)]) (lenOf pd_I_Lcom_example_demarc_demarc_Propagation_Step_388 rfl) rfl (by show 2 * 0 + _ ≤ _; exact Nat.le_of_eq rfl) (hb hby at_37) (fun _ _ => ⟨rfl, e4, (by decide : 0 + 0 ≤ _), (by decide : 0 + 0 ≤ _)⟩)
  dsimp only [Pt.U, Pt.locs, Pt.cells, Pt.slots] at X5 l5 y5 z5 st5 hQ5
  subst l5 y5 z5
  obtain ⟨rfl, N5q, e5⟩ := hQ5
  have N5 := Fr.app N4 N5q
  obtain ⟨fs, hr, hrun, hended, hW, hsame⟩ := X5.leave (v := some (.int 1)) (fun h => by rw [Bd.returns] at h; cases h)
  refine ⟨_, _, pre0 _ ?_, hrun, hended, _, _, rfl, ?_, ⟨_, rfl⟩, hW, hsame.mono (by decide) (by decide)⟩
  · show St p e below s₁ (mkF m 0 #[.val (.int p1), .unset, .unset, .unset, .unset] []) _
    refine XS.iloadN X0.here hx rfl (hb hby at_0) rfl ?_
    show St p e below s₁ (mkF m 1 #[.val (.int p1), .unset, .unset, .unset, .unset] [(.int p1)]) _
    refine X0.ldcInt hx hown (mvT hZ (hwi hw 0 rfl)) (g := (mkF m 1 #[.val (.int p1), .unset, .unset, .unset, .unset] [(.int p1)])) rfl (hb hby at_1) _ ?_
    show St p e below s₁ (mkF m 3 #[.val (.int p1), .unset, .unset, .unset, .unset] [(.int 2147483647), (.int p1)]) _
    refine XS.iand X0.here hx rfl (hb hby at_3) rfl ?_
    show St p e below s₁ (mkF m 4 #[.val (.int p1), .unset, .unset, .unset, .unset] [(.int (p1 &&& (2147483647 : Int32)))]) _
    refine XS.bipush X0.here hx rfl (hb hby at_4) ?_
    show St p e below s₁ (mkF m 6 #[.val (.int p1), .unset, .unset, .unset, .unset] [(.int 7), (.int (p1 &&& (2147483647 : Int32)))]) _
    refine iremM X0 hx rfl (hb hby at_6) rfl (by decide) ?_
    show St p e below s₁ (mkF m 7 #[.val (.int p1), .unset, .unset, .unset, .unset] [(.int ((p1 &&& (2147483647 : Int32)) % (7 : Int32)))]) _
    rw [hk]
    show St p e below s₁ (mkF m 7 #[.val (.int p1), .unset, .unset, .unset, .unset] [(.int 0)]) _
    refine XS.istoreN X0.here hx rfl (hb hby at_7) rfl (l' := #[.val (.int p1), .val (.int 0), .unset, .unset, .unset]) rfl ?_
    show St p e below s₁ (mkF m 8 #[.val (.int p1), .val (.int 0), .unset, .unset, .unset] []) _
    refine XS.iloadN X0.here hx rfl (hb hby at_8) rfl ?_
    show St p e below s₁ (mkF m 9 #[.val (.int p1), .val (.int 0), .unset, .unset, .unset] [(.int 0)]) _
    refine st1 _ ?_
    show St p e below T1 (mkF m 12 #[.val (.int p1), .val (.int 0), .unset, .unset, .unset] [(.ref w_REQUIRED)]) _
    refine XS.astoreN X1.here hx rfl (hb hby at_12) rfl rfl (l' := #[.val (.int p1), .val (.int 0), .val (.ref w_REQUIRED), .unset, .unset]) rfl ?_
    show St p e below T1 (mkF m 13 #[.val (.int p1), .val (.int 0), .val (.ref w_REQUIRED), .unset, .unset] []) _
    refine XS.aloadN X1.here hx rfl (hb hby at_13) rfl rfl ?_
    show St p e below T1 (mkF m 14 #[.val (.int p1), .val (.int 0), .val (.ref w_REQUIRED), .unset, .unset] [(.ref w_REQUIRED)]) _
    refine XS.iconst X1.here hx rfl (hb hby at_14) ?_
    show St p e below T1 (mkF m 15 #[.val (.int p1), .val (.int 0), .val (.ref w_REQUIRED), .unset, .unset] [(.int 1), (.ref w_REQUIRED)]) _
    refine st2.trans ?_
    show St p e below T2 (mkF m 18 #[.val (.int p1), .val (.int 0), .val (.ref w_REQUIRED), .unset, .unset] [(.ref w_JOIN)]) _
    refine XS.astoreN X2.here hx rfl (hb hby at_18) rfl rfl (l' := #[.val (.int p1), .val (.int 0), .val (.ref w_REQUIRED), .val (.ref w_JOIN), .unset]) rfl ?_
    show St p e below T2 (mkF m 19 #[.val (.int p1), .val (.int 0), .val (.ref w_REQUIRED), .val (.ref w_JOIN), .unset] []) _
    refine XS.aloadN X2.here hx rfl (hb hby at_19) rfl rfl ?_
    show St p e below T2 (mkF m 20 #[.val (.int p1), .val (.int 0), .val (.ref w_REQUIRED), .val (.ref w_JOIN), .unset] [(.ref w_REQUIRED)]) _
    refine XS.iconst X2.here hx rfl (hb hby at_20) ?_
    show St p e below T2 (mkF m 21 #[.val (.int p1), .val (.int 0), .val (.ref w_REQUIRED), .val (.ref w_JOIN), .unset] [(.int 0), (.ref w_REQUIRED)]) _
    refine st3.trans ?_
    show St p e below T3 (mkF m 24 #[.val (.int p1), .val (.int 0), .val (.ref w_REQUIRED), .val (.ref w_JOIN), .unset] [(.ref w_BEGIN)]) _
    refine XS.astore X3.here hx rfl (hb hby at_24) rfl rfl (l' := #[.val (.int p1), .val (.int 0), .val (.ref w_REQUIRED), .val (.ref w_JOIN), .val (.ref w_BEGIN)]) rfl ?_
    show St p e below T3 (mkF m 26 #[.val (.int p1), .val (.int 0), .val (.ref w_REQUIRED), .val (.ref w_JOIN), .val (.ref w_BEGIN)] []) _
    refine XS.aloadN X3.here hx rfl (hb hby at_26) rfl rfl ?_
    show St p e below T3 (mkF m 27 #[.val (.int p1), .val (.int 0), .val (.ref w_REQUIRED), .val (.ref w_JOIN), .val (.ref w_BEGIN)] [(.ref w_JOIN)]) _
    refine XS.iloadN X3.here hx rfl (hb hby at_27) rfl ?_
    show St p e below T3 (mkF m 28 #[.val (.int p1), .val (.int 0), .val (.ref w_REQUIRED), .val (.ref w_JOIN), .val (.ref w_BEGIN)] [(.int 0), (.ref w_JOIN)]) _
    refine st4 _ ?_
    show St p e below T4 (mkF m 31 #[.val (.int p1), .val (.int 0), .val (.ref w_REQUIRED), .val (.ref w_JOIN), .val (.ref w_BEGIN)] [(.ref w_JOIN), (.ref w_JOIN)]) _
    refine Jvm.RoadKit.acmp (g := (mkF m 31 #[.val (.int p1), .val (.int 0), .val (.ref w_REQUIRED), .val (.ref w_JOIN), .val (.ref w_BEGIN)] [(.ref w_JOIN), (.ref w_JOIN)])) X4 hx rfl rfl rfl (pc0 := 31) (pc' := 34) (same := true) rfl (hb hby at_31) rfl (decide_eq_true rfl) (by decide) (by decide) ?_
    show St p e below T4 (mkF m 34 #[.val (.int p1), .val (.int 0), .val (.ref w_REQUIRED), .val (.ref w_JOIN), .val (.ref w_BEGIN)] []) _
    refine XS.aload X4.here hx rfl (hb hby at_34) rfl rfl ?_
    show St p e below T4 (mkF m 36 #[.val (.int p1), .val (.int 0), .val (.ref w_REQUIRED), .val (.ref w_JOIN), .val (.ref w_BEGIN)] [(.ref w_BEGIN)]) _
    refine XS.iloadN X4.here hx rfl (hb hby at_36) rfl ?_
    show St p e below T4 (mkF m 37 #[.val (.int p1), .val (.int 0), .val (.ref w_REQUIRED), .val (.ref w_JOIN), .val (.ref w_BEGIN)] [(.int 0), (.ref w_BEGIN)]) _
    refine st5 _ ?_
    show St p e below T5 (mkF m 40 #[.val (.int p1), .val (.int 0), .val (.ref w_REQUIRED), .val (.ref w_JOIN), .val (.ref w_BEGIN)] [(.ref w_BEGIN), (.ref w_BEGIN)]) _
    refine Jvm.RoadKit.acmp (g := (mkF m 40 #[.val (.int p1), .val (.int 0), .val (.ref w_REQUIRED), .val (.ref w_JOIN), .val (.ref w_BEGIN)] [(.ref w_BEGIN), (.ref w_BEGIN)])) X5 hx rfl rfl rfl (pc0 := 40) (pc' := 43) (same := true) rfl (hb hby at_40) rfl (decide_eq_true rfl) (by decide) (by decide) ?_
    show St p e below T5 (mkF m 43 #[.val (.int p1), .val (.int 0), .val (.ref w_REQUIRED), .val (.ref w_JOIN), .val (.ref w_BEGIN)] []) _
    refine XS.iconst X5.here hx rfl (hb hby at_43) ?_
    show St p e below T5 (mkF m 44 #[.val (.int p1), .val (.int 0), .val (.ref w_REQUIRED), .val (.ref w_JOIN), .val (.ref w_BEGIN)] [(.int 1)]) _
    refine XS.goto X5.here hx rfl (pc0 := 44) (pc' := 48) rfl (hb hby at_44) (by decide) (by decide) ?_
    show St p e below T5 (mkF m 48 #[.val (.int p1), .val (.int 0), .val (.ref w_REQUIRED), .val (.ref w_JOIN), .val (.ref w_BEGIN)] [(.int 1)]) _
    exact retN X5 hx (t := .boolean) Bd.returns (by simp) (hb hby at_48) hr
  · exact ⟨rfl, N5⟩
set_option maxRecDepth 65536 in
set_option maxHeartbeats 40000000 in
theorem rm_law_1 (l : Launch) (Z : State) (a0 : Array Value) (hw : ∀ d ∈ tables_1, d.before a0 Z = true) (ws : List Jvm.Cond) (p1 : Int32) (w_REQUIRES_NEW : Addr) (w_BEGIN : Addr) (h0 : Heap) (n0 : Nat) (Z0 : n0 ≤ h0.size) (S_REQUIRES_NEW : Sta Z Z.heap "com/example/demarc/demarc/Propagation" "REQUIRES_NEW" "Lcom/example/demarc/demarc/Propagation;" (.ref w_REQUIRES_NEW)) (O0 : Old Z n0 h0) (E_w_REQUIRES_NEW : Exa Z Z.heap w_REQUIRES_NEW "com/example/demarc/demarc/Propagation") (S_BEGIN : Sta Z Z.heap "com/example/demarc/demarc/Propagation$Step" "BEGIN" "Lcom/example/demarc/demarc/Propagation$Step;" (.ref w_BEGIN)) (F_w_REQUIRES_NEW__inTransaction : Fld Z Z.heap w_REQUIRES_NEW "com/example/demarc/demarc/Propagation" "_inTransaction" "Lcom/example/demarc/demarc/Propagation$Step;" (.ref w_BEGIN)) (F_w_REQUIRES_NEW__outside : Fld Z Z.heap w_REQUIRES_NEW "com/example/demarc/demarc/Propagation" "_outside" "Lcom/example/demarc/demarc/Propagation$Step;" (.ref w_BEGIN)) (hk : ((p1 &&& (2147483647 : Int32)) % (7 : Int32)) = (1 : Int32)) :
    MetFree l x (head1 (Jvm.Cond.code x code maxLocals ret :: ws) room_1) (fun a U => a = #[(.int p1)] ∧ Z.Warmed39 U.vm ∧ U.heap = h0) (fun _ _ _ _ _ => True) (fun _ U o U' => ∃ v L, o = .returned v ∧ Q_law n0 v L ∧ FrameEnd U o U' L room_1.cells room_1.slots) := by
  refine MetFree.of_bodySF (plainFor_of_name pn_0) hisR ?_
  intro p e s m args below meth c s₁ Bd hml0 hP hK
  obtain ⟨rfl, hZ, hh⟩ := hP
  have hx := Bd.exec
  have hby := Bd.bytes
  have hml : c.maxLocals = 5 := hml0
  have hown : s.vm.findClass "com/example/demarc/demarc/PropagationStepPinLaw" = some m.cls := findClass_of_methodNamed Bd.named
  have hnm := (name_of_methodNamed Bd.named Bd.method).1
  have X0 : Stand p l e room_1 s m #[(.int p1)] below meth c s₁ [] 0 0 := Stand.of_body Bd
  have e0 : s₁.heap = h0 := by rw [← hh, Bd.state]; rfl
  have N0 := Fr.nil n0
  have pre0 : ∀ t, Steps p.tables e below (s₁.setTop (mkF m 0 #[.val (.int p1), .unset, .unset, .unset, .unset] [])) t → Steps p.tables e below (s₁.setTop (entryFrame m #[(.int p1)] maxLocals)) t := fun t k => castTop (ef_0_I m p1) k
  obtain ⟨_, _, ⟨T1, L1, k1, n1⟩, -, X1, ⟨Lc1, hQ1, l1, y1, z1⟩, st1⟩ := Jvm.LawKit.callS X0 hx (y := (⟨"com/example/demarc/demarc/PropagationStepPinLaw", "pick", "(I)Lcom/example/demarc/demarc/Propagation;"⟩ : MethodName)) hown (mvT hZ (hwi hw 1 rfl)) (mvT hZ (hwi hw 2 rfl)) (mvT hZ (hwi hw 3 rfl)) (mvT hZ (hwi hw 4 rfl)) (by decide) (backOf (W := 0) (rm_pick_1 l Z a0 hw [] w_REQUIRES_NEW h0 n0 Z0 S_REQUIRES_NEW O0) hZ (hwi hw 4 rfl) (hwi hw 3 rfl) (by decide) (by decide)) (g := (mkF m 9 #[.val (.int p1), .val (.int 1), .unset, .unset, .unset] [(.int 1)])) rfl (by rw [hml]; rfl) (argsL := [(.int 1)]) (rest := []) (lenOf pd_I_Lcom_example_demarc_demarc_Propagation_940 rfl) rfl (by show 2 * 0 + _ ≤ _; exact Nat.le_of_eq rfl) (hb hby at_9) (fun _ _ => ⟨rfl, e0, (by decide : 0 + 0 ≤ _), (by decide : 0 + 0 ≤ _)⟩)
  dsimp only [Pt.U, Pt.locs, Pt.cells, Pt.slots] at X1 l1 y1 z1 st1 hQ1
  subst l1 y1 z1
  obtain ⟨rfl, N1q, e1⟩ := hQ1
  have N1 := Fr.app N0 N1q
  obtain ⟨cq2, kq2, q2a, q2b, q2c⟩ := isOf hZ e1 (E_w_REQUIRES_NEW.ext O0.2)
  obtain ⟨_, _, ⟨T2, L2, k2, n2⟩, -, X2, ⟨Lc2, hQ2, l2, y2, z2⟩, st2⟩ := X1.virtualBack hx (y := (⟨"com/example/demarc/demarc/Propagation", "step", "(Z)Lcom/example/demarc/demarc/Propagation$Step;"⟩ : MethodName)) (z := (⟨"com/example/demarc/demarc/Propagation", "step", "(Z)Lcom/example/demarc/demarc/Propagation$Step;"⟩ : MethodName)) hown (mvT hZ (hwi hw 8 rfl)) (mvT hZ (hwi hw 9 rfl)) (notFace_of_selects (args := #[]) (mvT hZ (hwi hw 11 rfl))) (mvT hZ (hwi hw 11 rfl)) (mvT hZ (hwi hw 10 rfl)) (by decide) (backOf (W := 0) (rm_step_1 l Z a0 hw [] w_REQUIRES_NEW w_BEGIN h0 n0 Z0 (F_w_REQUIRES_NEW__inTransaction.ext O0.2)) hZ (hwi hw 12 rfl) (hwi hw 6 rfl) (by decide) (by decide)) q2a q2c (g := (mkF m 15 #[.val (.int p1), .val (.int 1), .val (.ref w_REQUIRES_NEW), .unset, .unset] [(.int 1), (.ref w_REQUIRES_NEW)])) rfl (by rw [hml]; rfl) (Steps.refl _) (argsL := [(.int 1)]) (rest := []) (lenOf pd_Z_Lcom_example_demarc_demarc_Propagation_Step_405 rfl) rfl (by show 2 * 0 + _ ≤ _; exact Nat.le_of_eq rfl) (hb hby at_15) (fun _ _ => ⟨rfl, e1, (by decide : 0 + 0 ≤ _), (by decide : 0 + 0 ≤ _)⟩)
  dsimp only [Pt.U, Pt.locs, Pt.cells, Pt.slots] at X2 l2 y2 z2 st2 hQ2
  subst l2 y2 z2
  obtain ⟨rfl, N2q, e2⟩ := hQ2
  have N2 := Fr.app N1 N2q
  obtain ⟨cq3, kq3, q3a, q3b, q3c⟩ := isOf hZ e2 (E_w_REQUIRES_NEW.ext O0.2)
  obtain ⟨_, _, ⟨T3, L3, k3, n3⟩, -, X3, ⟨Lc3, hQ3, l3, y3, z3⟩, st3⟩ := X2.virtualBack hx (y := (⟨"com/example/demarc/demarc/Propagation", "step", "(Z)Lcom/example/demarc/demarc/Propagation$Step;"⟩ : MethodName)) (z := (⟨"com/example/demarc/demarc/Propagation", "step", "(Z)Lcom/example/demarc/demarc/Propagation$Step;"⟩ : MethodName)) hown (mvT hZ (hwi hw 8 rfl)) (mvT hZ (hwi hw 9 rfl)) (notFace_of_selects (args := #[]) (mvT hZ (hwi hw 11 rfl))) (mvT hZ (hwi hw 11 rfl)) (mvT hZ (hwi hw 10 rfl)) (by decide) (backOf (W := 0) (rm_step_0 l Z a0 hw [] w_REQUIRES_NEW w_BEGIN h0 n0 Z0 (F_w_REQUIRES_NEW__outside.ext O0.2)) hZ (hwi hw 12 rfl) (hwi hw 6 rfl) (by decide) (by decide)) q3a q3c (g := (mkF m 21 #[.val (.int p1), .val (.int 1), .val (.ref w_REQUIRES_NEW), .val (.ref w_BEGIN), .unset] [(.int 0), (.ref w_REQUIRES_NEW)])) rfl (by rw [hml]; rfl) (Steps.refl _) (argsL := [(.int 0)]) (rest := []) (lenOf pd_Z_Lcom_example_demarc_demarc_Propagation_Step_405 rfl) rfl (by show 2 * 0 + _ ≤ _; exact Nat.le_of_eq rfl) (hb hby at_21) (fun _ _ => ⟨rfl, e2, (by decide : 0 + 0 ≤ _), (by decide : 0 + 0 ≤ _)⟩)
  dsimp only [Pt.U, Pt.locs, Pt.cells, Pt.slots] at X3 l3 y3 z3 st3 hQ3
  subst l3 y3 z3
  obtain ⟨rfl, N3q, e3⟩ := hQ3
  have N3 := Fr.app N2 N3q
  obtain ⟨_, _, ⟨T4, L4, k4, n4⟩, -, X4, ⟨Lc4, hQ4, l4, y4, z4⟩, st4⟩ := Jvm.LawKit.callS X3 hx (y := (⟨"com/example/demarc/demarc/PropagationStepPinLaw", "expectIn", "(I)Lcom/example/demarc/demarc/Propagation$Step;"⟩ : MethodName)) hown (mvT hZ (hwi hw 20 rfl)) (mvT hZ (hwi hw 21 rfl)) (mvT hZ (hwi hw 3 rfl)) (mvT hZ (hwi hw 22 rfl)) (by decide) (backOf (W := 1) (rm_ein_1 l Z a0 hw [] w_BEGIN h0 n0 Z0 S_BEGIN O0) hZ (hwi hw 22 rfl) (hwi hw 3 rfl) (by decide) (by decide)) (g := (mkF m 28 #[.val (.int p1), .val (.int 1), .val (.ref w_REQUIRES_NEW), .val (.ref w_BEGIN), .val (.ref w_BEGIN)] [(.int 1), (.ref w_BEGIN)])) rfl (by rw [hml]; rfl) (argsL := [(.int 1)]) (rest := [(.ref w_BEGIN)]) (lenOf pd_I_Lcom_example_demarc_demarc_Propagation_Step_388 rfl) rfl (by show 2 * 0 + _ ≤ _; exact Nat.le_of_eq rfl) (hb hby at_28) (fun _ _ => ⟨rfl, e3, (by decide : 0 + 0 ≤ _), (by decide : 0 + 0 ≤ _)⟩)
  dsimp only [Pt.U, Pt.locs, Pt.cells, Pt.slots] at X4 l4 y4 z4 st4 hQ4
  subst l4 y4 z4
  obtain ⟨rfl, N4q, e4⟩ := hQ4
  have N4 := Fr.app N3 N4q
  obtain ⟨_, _, ⟨T5, L5, k5, n5⟩, -, X5, ⟨Lc5, hQ5, l5, y5, z5⟩, st5⟩ := Jvm.LawKit.callS X4 hx (y := (⟨"com/example/demarc/demarc/PropagationStepPinLaw", "expectOut", "(I)Lcom/example/demarc/demarc/Propagation$Step;"⟩ : MethodName)) hown (mvT hZ (hwi hw 24 rfl)) (mvT hZ (hwi hw 25 rfl)) (mvT hZ (hwi hw 3 rfl)) (mvT hZ (hwi hw 26 rfl)) (by decide) (backOf (W := 1) (rm_eout_1 l Z a0 hw [] w_BEGIN h0 n0 Z0 S_BEGIN O0) hZ (hwi hw 26 rfl) (hwi hw 3 rfl) (by decide) (by decide)) (g := (mkF m 37 #[.val (.int p1), .val (.int 1), .val (.ref w_REQUIRES_NEW), .val (.ref w_BEGIN), .val (.ref w_BEGIN)] [(.int 1), (.ref w_BEGIN)])) rfl (by rw [hml]; rfl) (argsL := [(.int 1)]) (rest := [(.ref w_BEGIN)]) (lenOf pd_I_Lcom_example_demarc_demarc_Propagation_Step_388 rfl) rfl (by show 2 * 0 + _ ≤ _; exact Nat.le_of_eq rfl) (hb hby at_37) (fun _ _ => ⟨rfl, e4, (by decide : 0 + 0 ≤ _), (by decide : 0 + 0 ≤ _)⟩)
  dsimp only [Pt.U, Pt.locs, Pt.cells, Pt.slots] at X5 l5 y5 z5 st5 hQ5
  subst l5 y5 z5
  obtain ⟨rfl, N5q, e5⟩ := hQ5
  have N5 := Fr.app N4 N5q
  obtain ⟨fs, hr, hrun, hended, hW, hsame⟩ := X5.leave (v := some (.int 1)) (fun h => by rw [Bd.returns] at h; cases h)
  refine ⟨_, _, pre0 _ ?_, hrun, hended, _, _, rfl, ?_, ⟨_, rfl⟩, hW, hsame.mono (by decide) (by decide)⟩
  · show St p e below s₁ (mkF m 0 #[.val (.int p1), .unset, .unset, .unset, .unset] []) _
    refine XS.iloadN X0.here hx rfl (hb hby at_0) rfl ?_
    show St p e below s₁ (mkF m 1 #[.val (.int p1), .unset, .unset, .unset, .unset] [(.int p1)]) _
    refine X0.ldcInt hx hown (mvT hZ (hwi hw 0 rfl)) (g := (mkF m 1 #[.val (.int p1), .unset, .unset, .unset, .unset] [(.int p1)])) rfl (hb hby at_1) _ ?_
    show St p e below s₁ (mkF m 3 #[.val (.int p1), .unset, .unset, .unset, .unset] [(.int 2147483647), (.int p1)]) _
    refine XS.iand X0.here hx rfl (hb hby at_3) rfl ?_
    show St p e below s₁ (mkF m 4 #[.val (.int p1), .unset, .unset, .unset, .unset] [(.int (p1 &&& (2147483647 : Int32)))]) _
    refine XS.bipush X0.here hx rfl (hb hby at_4) ?_
    show St p e below s₁ (mkF m 6 #[.val (.int p1), .unset, .unset, .unset, .unset] [(.int 7), (.int (p1 &&& (2147483647 : Int32)))]) _
    refine iremM X0 hx rfl (hb hby at_6) rfl (by decide) ?_
    show St p e below s₁ (mkF m 7 #[.val (.int p1), .unset, .unset, .unset, .unset] [(.int ((p1 &&& (2147483647 : Int32)) % (7 : Int32)))]) _
    rw [hk]
    show St p e below s₁ (mkF m 7 #[.val (.int p1), .unset, .unset, .unset, .unset] [(.int 1)]) _
    refine XS.istoreN X0.here hx rfl (hb hby at_7) rfl (l' := #[.val (.int p1), .val (.int 1), .unset, .unset, .unset]) rfl ?_
    show St p e below s₁ (mkF m 8 #[.val (.int p1), .val (.int 1), .unset, .unset, .unset] []) _
    refine XS.iloadN X0.here hx rfl (hb hby at_8) rfl ?_
    show St p e below s₁ (mkF m 9 #[.val (.int p1), .val (.int 1), .unset, .unset, .unset] [(.int 1)]) _
    refine st1 _ ?_
    show St p e below T1 (mkF m 12 #[.val (.int p1), .val (.int 1), .unset, .unset, .unset] [(.ref w_REQUIRES_NEW)]) _
    refine XS.astoreN X1.here hx rfl (hb hby at_12) rfl rfl (l' := #[.val (.int p1), .val (.int 1), .val (.ref w_REQUIRES_NEW), .unset, .unset]) rfl ?_
    show St p e below T1 (mkF m 13 #[.val (.int p1), .val (.int 1), .val (.ref w_REQUIRES_NEW), .unset, .unset] []) _
    refine XS.aloadN X1.here hx rfl (hb hby at_13) rfl rfl ?_
    show St p e below T1 (mkF m 14 #[.val (.int p1), .val (.int 1), .val (.ref w_REQUIRES_NEW), .unset, .unset] [(.ref w_REQUIRES_NEW)]) _
    refine XS.iconst X1.here hx rfl (hb hby at_14) ?_
    show St p e below T1 (mkF m 15 #[.val (.int p1), .val (.int 1), .val (.ref w_REQUIRES_NEW), .unset, .unset] [(.int 1), (.ref w_REQUIRES_NEW)]) _
    refine st2.trans ?_
    show St p e below T2 (mkF m 18 #[.val (.int p1), .val (.int 1), .val (.ref w_REQUIRES_NEW), .unset, .unset] [(.ref w_BEGIN)]) _
    refine XS.astoreN X2.here hx rfl (hb hby at_18) rfl rfl (l' := #[.val (.int p1), .val (.int 1), .val (.ref w_REQUIRES_NEW), .val (.ref w_BEGIN), .unset]) rfl ?_
    show St p e below T2 (mkF m 19 #[.val (.int p1), .val (.int 1), .val (.ref w_REQUIRES_NEW), .val (.ref w_BEGIN), .unset] []) _
    refine XS.aloadN X2.here hx rfl (hb hby at_19) rfl rfl ?_
    show St p e below T2 (mkF m 20 #[.val (.int p1), .val (.int 1), .val (.ref w_REQUIRES_NEW), .val (.ref w_BEGIN), .unset] [(.ref w_REQUIRES_NEW)]) _
    refine XS.iconst X2.here hx rfl (hb hby at_20) ?_
    show St p e below T2 (mkF m 21 #[.val (.int p1), .val (.int 1), .val (.ref w_REQUIRES_NEW), .val (.ref w_BEGIN), .unset] [(.int 0), (.ref w_REQUIRES_NEW)]) _
    refine st3.trans ?_
    show St p e below T3 (mkF m 24 #[.val (.int p1), .val (.int 1), .val (.ref w_REQUIRES_NEW), .val (.ref w_BEGIN), .unset] [(.ref w_BEGIN)]) _
    refine XS.astore X3.here hx rfl (hb hby at_24) rfl rfl (l' := #[.val (.int p1), .val (.int 1), .val (.ref w_REQUIRES_NEW), .val (.ref w_BEGIN), .val (.ref w_BEGIN)]) rfl ?_
    show St p e below T3 (mkF m 26 #[.val (.int p1), .val (.int 1), .val (.ref w_REQUIRES_NEW), .val (.ref w_BEGIN), .val (.ref w_BEGIN)] []) _
    refine XS.aloadN X3.here hx rfl (hb hby at_26) rfl rfl ?_
    show St p e below T3 (mkF m 27 #[.val (.int p1), .val (.int 1), .val (.ref w_REQUIRES_NEW), .val (.ref w_BEGIN), .val (.ref w_BEGIN)] [(.ref w_BEGIN)]) _
    refine XS.iloadN X3.here hx rfl (hb hby at_27) rfl ?_
    show St p e below T3 (mkF m 28 #[.val (.int p1), .val (.int 1), .val (.ref w_REQUIRES_NEW), .val (.ref w_BEGIN), .val (.ref w_BEGIN)] [(.int 1), (.ref w_BEGIN)]) _
    refine st4 _ ?_
    show St p e below T4 (mkF m 31 #[.val (.int p1), .val (.int 1), .val (.ref w_REQUIRES_NEW), .val (.ref w_BEGIN), .val (.ref w_BEGIN)] [(.ref w_BEGIN), (.ref w_BEGIN)]) _
    refine Jvm.RoadKit.acmp (g := (mkF m 31 #[.val (.int p1), .val (.int 1), .val (.ref w_REQUIRES_NEW), .val (.ref w_BEGIN), .val (.ref w_BEGIN)] [(.ref w_BEGIN), (.ref w_BEGIN)])) X4 hx rfl rfl rfl (pc0 := 31) (pc' := 34) (same := true) rfl (hb hby at_31) rfl (decide_eq_true rfl) (by decide) (by decide) ?_
    show St p e below T4 (mkF m 34 #[.val (.int p1), .val (.int 1), .val (.ref w_REQUIRES_NEW), .val (.ref w_BEGIN), .val (.ref w_BEGIN)] []) _
    refine XS.aload X4.here hx rfl (hb hby at_34) rfl rfl ?_
    show St p e below T4 (mkF m 36 #[.val (.int p1), .val (.int 1), .val (.ref w_REQUIRES_NEW), .val (.ref w_BEGIN), .val (.ref w_BEGIN)] [(.ref w_BEGIN)]) _
    refine XS.iloadN X4.here hx rfl (hb hby at_36) rfl ?_
    show St p e below T4 (mkF m 37 #[.val (.int p1), .val (.int 1), .val (.ref w_REQUIRES_NEW), .val (.ref w_BEGIN), .val (.ref w_BEGIN)] [(.int 1), (.ref w_BEGIN)]) _
    refine st5 _ ?_
    show St p e below T5 (mkF m 40 #[.val (.int p1), .val (.int 1), .val (.ref w_REQUIRES_NEW), .val (.ref w_BEGIN), .val (.ref w_BEGIN)] [(.ref w_BEGIN), (.ref w_BEGIN)]) _
    refine Jvm.RoadKit.acmp (g := (mkF m 40 #[.val (.int p1), .val (.int 1), .val (.ref w_REQUIRES_NEW), .val (.ref w_BEGIN), .val (.ref w_BEGIN)] [(.ref w_BEGIN), (.ref w_BEGIN)])) X5 hx rfl rfl rfl (pc0 := 40) (pc' := 43) (same := true) rfl (hb hby at_40) rfl (decide_eq_true rfl) (by decide) (by decide) ?_
    show St p e below T5 (mkF m 43 #[.val (.int p1), .val (.int 1), .val (.ref w_REQUIRES_NEW), .val (.ref w_BEGIN), .val (.ref w_BEGIN)] []) _
    refine XS.iconst X5.here hx rfl (hb hby at_43) ?_
    show St p e below T5 (mkF m 44 #[.val (.int p1), .val (.int 1), .val (.ref w_REQUIRES_NEW), .val (.ref w_BEGIN), .val (.ref w_BEGIN)] [(.int 1)]) _
    refine XS.goto X5.here hx rfl (pc0 := 44) (pc' := 48) rfl (hb hby at_44) (by decide) (by decide) ?_
    show St p e below T5 (mkF m 48 #[.val (.int p1), .val (.int 1), .val (.ref w_REQUIRES_NEW), .val (.ref w_BEGIN), .val (.ref w_BEGIN)] [(.int 1)]) _
    exact retN X5 hx (t := .boolean) Bd.returns (by simp) (hb hby at_48) hr
  · exact ⟨rfl, N5⟩
set_option maxRecDepth 65536 in
set_option maxHeartbeats 40000000 in
theorem rm_law_2 (l : Launch) (Z : State) (a0 : Array Value) (hw : ∀ d ∈ tables_1, d.before a0 Z = true) (ws : List Jvm.Cond) (p1 : Int32) (w_MANDATORY : Addr) (w_JOIN : Addr) (w_REFUSE : Addr) (h0 : Heap) (n0 : Nat) (Z0 : n0 ≤ h0.size) (S_MANDATORY : Sta Z Z.heap "com/example/demarc/demarc/Propagation" "MANDATORY" "Lcom/example/demarc/demarc/Propagation;" (.ref w_MANDATORY)) (O0 : Old Z n0 h0) (E_w_MANDATORY : Exa Z Z.heap w_MANDATORY "com/example/demarc/demarc/Propagation") (S_JOIN : Sta Z Z.heap "com/example/demarc/demarc/Propagation$Step" "JOIN" "Lcom/example/demarc/demarc/Propagation$Step;" (.ref w_JOIN)) (S_REFUSE : Sta Z Z.heap "com/example/demarc/demarc/Propagation$Step" "REFUSE" "Lcom/example/demarc/demarc/Propagation$Step;" (.ref w_REFUSE)) (F_w_MANDATORY__inTransaction : Fld Z Z.heap w_MANDATORY "com/example/demarc/demarc/Propagation" "_inTransaction" "Lcom/example/demarc/demarc/Propagation$Step;" (.ref w_JOIN)) (F_w_MANDATORY__outside : Fld Z Z.heap w_MANDATORY "com/example/demarc/demarc/Propagation" "_outside" "Lcom/example/demarc/demarc/Propagation$Step;" (.ref w_REFUSE)) (hk : ((p1 &&& (2147483647 : Int32)) % (7 : Int32)) = (2 : Int32)) :
    MetFree l x (head1 (Jvm.Cond.code x code maxLocals ret :: ws) room_1) (fun a U => a = #[(.int p1)] ∧ Z.Warmed39 U.vm ∧ U.heap = h0) (fun _ _ _ _ _ => True) (fun _ U o U' => ∃ v L, o = .returned v ∧ Q_law n0 v L ∧ FrameEnd U o U' L room_1.cells room_1.slots) := by
  refine MetFree.of_bodySF (plainFor_of_name pn_0) hisR ?_
  intro p e s m args below meth c s₁ Bd hml0 hP hK
  obtain ⟨rfl, hZ, hh⟩ := hP
  have hx := Bd.exec
  have hby := Bd.bytes
  have hml : c.maxLocals = 5 := hml0
  have hown : s.vm.findClass "com/example/demarc/demarc/PropagationStepPinLaw" = some m.cls := findClass_of_methodNamed Bd.named
  have hnm := (name_of_methodNamed Bd.named Bd.method).1
  have X0 : Stand p l e room_1 s m #[(.int p1)] below meth c s₁ [] 0 0 := Stand.of_body Bd
  have e0 : s₁.heap = h0 := by rw [← hh, Bd.state]; rfl
  have N0 := Fr.nil n0
  have pre0 : ∀ t, Steps p.tables e below (s₁.setTop (mkF m 0 #[.val (.int p1), .unset, .unset, .unset, .unset] [])) t → Steps p.tables e below (s₁.setTop (entryFrame m #[(.int p1)] maxLocals)) t := fun t k => castTop (ef_0_I m p1) k
  obtain ⟨_, _, ⟨T1, L1, k1, n1⟩, -, X1, ⟨Lc1, hQ1, l1, y1, z1⟩, st1⟩ := Jvm.LawKit.callS X0 hx (y := (⟨"com/example/demarc/demarc/PropagationStepPinLaw", "pick", "(I)Lcom/example/demarc/demarc/Propagation;"⟩ : MethodName)) hown (mvT hZ (hwi hw 1 rfl)) (mvT hZ (hwi hw 2 rfl)) (mvT hZ (hwi hw 3 rfl)) (mvT hZ (hwi hw 4 rfl)) (by decide) (backOf (W := 0) (rm_pick_2 l Z a0 hw [] w_MANDATORY h0 n0 Z0 S_MANDATORY O0) hZ (hwi hw 4 rfl) (hwi hw 3 rfl) (by decide) (by decide)) (g := (mkF m 9 #[.val (.int p1), .val (.int 2), .unset, .unset, .unset] [(.int 2)])) rfl (by rw [hml]; rfl) (argsL := [(.int 2)]) (rest := []) (lenOf pd_I_Lcom_example_demarc_demarc_Propagation_940 rfl) rfl (by show 2 * 0 + _ ≤ _; exact Nat.le_of_eq rfl) (hb hby at_9) (fun _ _ => ⟨rfl, e0, (by decide : 0 + 0 ≤ _), (by decide : 0 + 0 ≤ _)⟩)
  dsimp only [Pt.U, Pt.locs, Pt.cells, Pt.slots] at X1 l1 y1 z1 st1 hQ1
  subst l1 y1 z1
  obtain ⟨rfl, N1q, e1⟩ := hQ1
  have N1 := Fr.app N0 N1q
  obtain ⟨cq2, kq2, q2a, q2b, q2c⟩ := isOf hZ e1 (E_w_MANDATORY.ext O0.2)
  obtain ⟨_, _, ⟨T2, L2, k2, n2⟩, -, X2, ⟨Lc2, hQ2, l2, y2, z2⟩, st2⟩ := X1.virtualBack hx (y := (⟨"com/example/demarc/demarc/Propagation", "step", "(Z)Lcom/example/demarc/demarc/Propagation$Step;"⟩ : MethodName)) (z := (⟨"com/example/demarc/demarc/Propagation", "step", "(Z)Lcom/example/demarc/demarc/Propagation$Step;"⟩ : MethodName)) hown (mvT hZ (hwi hw 8 rfl)) (mvT hZ (hwi hw 9 rfl)) (notFace_of_selects (args := #[]) (mvT hZ (hwi hw 11 rfl))) (mvT hZ (hwi hw 11 rfl)) (mvT hZ (hwi hw 10 rfl)) (by decide) (backOf (W := 0) (rm_step_1 l Z a0 hw [] w_MANDATORY w_JOIN h0 n0 Z0 (F_w_MANDATORY__inTransaction.ext O0.2)) hZ (hwi hw 12 rfl) (hwi hw 6 rfl) (by decide) (by decide)) q2a q2c (g := (mkF m 15 #[.val (.int p1), .val (.int 2), .val (.ref w_MANDATORY), .unset, .unset] [(.int 1), (.ref w_MANDATORY)])) rfl (by rw [hml]; rfl) (Steps.refl _) (argsL := [(.int 1)]) (rest := []) (lenOf pd_Z_Lcom_example_demarc_demarc_Propagation_Step_405 rfl) rfl (by show 2 * 0 + _ ≤ _; exact Nat.le_of_eq rfl) (hb hby at_15) (fun _ _ => ⟨rfl, e1, (by decide : 0 + 0 ≤ _), (by decide : 0 + 0 ≤ _)⟩)
  dsimp only [Pt.U, Pt.locs, Pt.cells, Pt.slots] at X2 l2 y2 z2 st2 hQ2
  subst l2 y2 z2
  obtain ⟨rfl, N2q, e2⟩ := hQ2
  have N2 := Fr.app N1 N2q
  obtain ⟨cq3, kq3, q3a, q3b, q3c⟩ := isOf hZ e2 (E_w_MANDATORY.ext O0.2)
  obtain ⟨_, _, ⟨T3, L3, k3, n3⟩, -, X3, ⟨Lc3, hQ3, l3, y3, z3⟩, st3⟩ := X2.virtualBack hx (y := (⟨"com/example/demarc/demarc/Propagation", "step", "(Z)Lcom/example/demarc/demarc/Propagation$Step;"⟩ : MethodName)) (z := (⟨"com/example/demarc/demarc/Propagation", "step", "(Z)Lcom/example/demarc/demarc/Propagation$Step;"⟩ : MethodName)) hown (mvT hZ (hwi hw 8 rfl)) (mvT hZ (hwi hw 9 rfl)) (notFace_of_selects (args := #[]) (mvT hZ (hwi hw 11 rfl))) (mvT hZ (hwi hw 11 rfl)) (mvT hZ (hwi hw 10 rfl)) (by decide) (backOf (W := 0) (rm_step_0 l Z a0 hw [] w_MANDATORY w_REFUSE h0 n0 Z0 (F_w_MANDATORY__outside.ext O0.2)) hZ (hwi hw 12 rfl) (hwi hw 6 rfl) (by decide) (by decide)) q3a q3c (g := (mkF m 21 #[.val (.int p1), .val (.int 2), .val (.ref w_MANDATORY), .val (.ref w_JOIN), .unset] [(.int 0), (.ref w_MANDATORY)])) rfl (by rw [hml]; rfl) (Steps.refl _) (argsL := [(.int 0)]) (rest := []) (lenOf pd_Z_Lcom_example_demarc_demarc_Propagation_Step_405 rfl) rfl (by show 2 * 0 + _ ≤ _; exact Nat.le_of_eq rfl) (hb hby at_21) (fun _ _ => ⟨rfl, e2, (by decide : 0 + 0 ≤ _), (by decide : 0 + 0 ≤ _)⟩)
  dsimp only [Pt.U, Pt.locs, Pt.cells, Pt.slots] at X3 l3 y3 z3 st3 hQ3
  subst l3 y3 z3
  obtain ⟨rfl, N3q, e3⟩ := hQ3
  have N3 := Fr.app N2 N3q
  obtain ⟨_, _, ⟨T4, L4, k4, n4⟩, -, X4, ⟨Lc4, hQ4, l4, y4, z4⟩, st4⟩ := Jvm.LawKit.callS X3 hx (y := (⟨"com/example/demarc/demarc/PropagationStepPinLaw", "expectIn", "(I)Lcom/example/demarc/demarc/Propagation$Step;"⟩ : MethodName)) hown (mvT hZ (hwi hw 20 rfl)) (mvT hZ (hwi hw 21 rfl)) (mvT hZ (hwi hw 3 rfl)) (mvT hZ (hwi hw 22 rfl)) (by decide) (backOf (W := 1) (rm_ein_2 l Z a0 hw [] w_JOIN h0 n0 Z0 S_JOIN O0) hZ (hwi hw 22 rfl) (hwi hw 3 rfl) (by decide) (by decide)) (g := (mkF m 28 #[.val (.int p1), .val (.int 2), .val (.ref w_MANDATORY), .val (.ref w_JOIN), .val (.ref w_REFUSE)] [(.int 2), (.ref w_JOIN)])) rfl (by rw [hml]; rfl) (argsL := [(.int 2)]) (rest := [(.ref w_JOIN)]) (lenOf pd_I_Lcom_example_demarc_demarc_Propagation_Step_388 rfl) rfl (by show 2 * 0 + _ ≤ _; exact Nat.le_of_eq rfl) (hb hby at_28) (fun _ _ => ⟨rfl, e3, (by decide : 0 + 0 ≤ _), (by decide : 0 + 0 ≤ _)⟩)
  dsimp only [Pt.U, Pt.locs, Pt.cells, Pt.slots] at X4 l4 y4 z4 st4 hQ4
  subst l4 y4 z4
  obtain ⟨rfl, N4q, e4⟩ := hQ4
  have N4 := Fr.app N3 N4q
  obtain ⟨_, _, ⟨T5, L5, k5, n5⟩, -, X5, ⟨Lc5, hQ5, l5, y5, z5⟩, st5⟩ := Jvm.LawKit.callS X4 hx (y := (⟨"com/example/demarc/demarc/PropagationStepPinLaw", "expectOut", "(I)Lcom/example/demarc/demarc/Propagation$Step;"⟩ : MethodName)) hown (mvT hZ (hwi hw 24 rfl)) (mvT hZ (hwi hw 25 rfl)) (mvT hZ (hwi hw 3 rfl)) (mvT hZ (hwi hw 26 rfl)) (by decide) (backOf (W := 1) (rm_eout_2 l Z a0 hw [] w_REFUSE h0 n0 Z0 S_REFUSE O0) hZ (hwi hw 26 rfl) (hwi hw 3 rfl) (by decide) (by decide)) (g := (mkF m 37 #[.val (.int p1), .val (.int 2), .val (.ref w_MANDATORY), .val (.ref w_JOIN), .val (.ref w_REFUSE)] [(.int 2), (.ref w_REFUSE)])) rfl (by rw [hml]; rfl) (argsL := [(.int 2)]) (rest := [(.ref w_REFUSE)]) (lenOf pd_I_Lcom_example_demarc_demarc_Propagation_Step_388 rfl) rfl (by show 2 * 0 + _ ≤ _; exact Nat.le_of_eq rfl) (hb hby at_37) (fun _ _ => ⟨rfl, e4, (by decide : 0 + 0 ≤ _), (by decide : 0 + 0 ≤ _)⟩)
  dsimp only [Pt.U, Pt.locs, Pt.cells, Pt.slots] at X5 l5 y5 z5 st5 hQ5
  subst l5 y5 z5
  obtain ⟨rfl, N5q, e5⟩ := hQ5
  have N5 := Fr.app N4 N5q
  obtain ⟨fs, hr, hrun, hended, hW, hsame⟩ := X5.leave (v := some (.int 1)) (fun h => by rw [Bd.returns] at h; cases h)
  refine ⟨_, _, pre0 _ ?_, hrun, hended, _, _, rfl, ?_, ⟨_, rfl⟩, hW, hsame.mono (by decide) (by decide)⟩
  · show St p e below s₁ (mkF m 0 #[.val (.int p1), .unset, .unset, .unset, .unset] []) _
    refine XS.iloadN X0.here hx rfl (hb hby at_0) rfl ?_
    show St p e below s₁ (mkF m 1 #[.val (.int p1), .unset, .unset, .unset, .unset] [(.int p1)]) _
    refine X0.ldcInt hx hown (mvT hZ (hwi hw 0 rfl)) (g := (mkF m 1 #[.val (.int p1), .unset, .unset, .unset, .unset] [(.int p1)])) rfl (hb hby at_1) _ ?_
    show St p e below s₁ (mkF m 3 #[.val (.int p1), .unset, .unset, .unset, .unset] [(.int 2147483647), (.int p1)]) _
    refine XS.iand X0.here hx rfl (hb hby at_3) rfl ?_
    show St p e below s₁ (mkF m 4 #[.val (.int p1), .unset, .unset, .unset, .unset] [(.int (p1 &&& (2147483647 : Int32)))]) _
    refine XS.bipush X0.here hx rfl (hb hby at_4) ?_
    show St p e below s₁ (mkF m 6 #[.val (.int p1), .unset, .unset, .unset, .unset] [(.int 7), (.int (p1 &&& (2147483647 : Int32)))]) _
    refine iremM X0 hx rfl (hb hby at_6) rfl (by decide) ?_
    show St p e below s₁ (mkF m 7 #[.val (.int p1), .unset, .unset, .unset, .unset] [(.int ((p1 &&& (2147483647 : Int32)) % (7 : Int32)))]) _
    rw [hk]
    show St p e below s₁ (mkF m 7 #[.val (.int p1), .unset, .unset, .unset, .unset] [(.int 2)]) _
    refine XS.istoreN X0.here hx rfl (hb hby at_7) rfl (l' := #[.val (.int p1), .val (.int 2), .unset, .unset, .unset]) rfl ?_
    show St p e below s₁ (mkF m 8 #[.val (.int p1), .val (.int 2), .unset, .unset, .unset] []) _
    refine XS.iloadN X0.here hx rfl (hb hby at_8) rfl ?_
    show St p e below s₁ (mkF m 9 #[.val (.int p1), .val (.int 2), .unset, .unset, .unset] [(.int 2)]) _
    refine st1 _ ?_
    show St p e below T1 (mkF m 12 #[.val (.int p1), .val (.int 2), .unset, .unset, .unset] [(.ref w_MANDATORY)]) _
    refine XS.astoreN X1.here hx rfl (hb hby at_12) rfl rfl (l' := #[.val (.int p1), .val (.int 2), .val (.ref w_MANDATORY), .unset, .unset]) rfl ?_
    show St p e below T1 (mkF m 13 #[.val (.int p1), .val (.int 2), .val (.ref w_MANDATORY), .unset, .unset] []) _
    refine XS.aloadN X1.here hx rfl (hb hby at_13) rfl rfl ?_
    show St p e below T1 (mkF m 14 #[.val (.int p1), .val (.int 2), .val (.ref w_MANDATORY), .unset, .unset] [(.ref w_MANDATORY)]) _
    refine XS.iconst X1.here hx rfl (hb hby at_14) ?_
    show St p e below T1 (mkF m 15 #[.val (.int p1), .val (.int 2), .val (.ref w_MANDATORY), .unset, .unset] [(.int 1), (.ref w_MANDATORY)]) _
    refine st2.trans ?_
    show St p e below T2 (mkF m 18 #[.val (.int p1), .val (.int 2), .val (.ref w_MANDATORY), .unset, .unset] [(.ref w_JOIN)]) _
    refine XS.astoreN X2.here hx rfl (hb hby at_18) rfl rfl (l' := #[.val (.int p1), .val (.int 2), .val (.ref w_MANDATORY), .val (.ref w_JOIN), .unset]) rfl ?_
    show St p e below T2 (mkF m 19 #[.val (.int p1), .val (.int 2), .val (.ref w_MANDATORY), .val (.ref w_JOIN), .unset] []) _
    refine XS.aloadN X2.here hx rfl (hb hby at_19) rfl rfl ?_
    show St p e below T2 (mkF m 20 #[.val (.int p1), .val (.int 2), .val (.ref w_MANDATORY), .val (.ref w_JOIN), .unset] [(.ref w_MANDATORY)]) _
    refine XS.iconst X2.here hx rfl (hb hby at_20) ?_
    show St p e below T2 (mkF m 21 #[.val (.int p1), .val (.int 2), .val (.ref w_MANDATORY), .val (.ref w_JOIN), .unset] [(.int 0), (.ref w_MANDATORY)]) _
    refine st3.trans ?_
    show St p e below T3 (mkF m 24 #[.val (.int p1), .val (.int 2), .val (.ref w_MANDATORY), .val (.ref w_JOIN), .unset] [(.ref w_REFUSE)]) _
    refine XS.astore X3.here hx rfl (hb hby at_24) rfl rfl (l' := #[.val (.int p1), .val (.int 2), .val (.ref w_MANDATORY), .val (.ref w_JOIN), .val (.ref w_REFUSE)]) rfl ?_
    show St p e below T3 (mkF m 26 #[.val (.int p1), .val (.int 2), .val (.ref w_MANDATORY), .val (.ref w_JOIN), .val (.ref w_REFUSE)] []) _
    refine XS.aloadN X3.here hx rfl (hb hby at_26) rfl rfl ?_
    show St p e below T3 (mkF m 27 #[.val (.int p1), .val (.int 2), .val (.ref w_MANDATORY), .val (.ref w_JOIN), .val (.ref w_REFUSE)] [(.ref w_JOIN)]) _
    refine XS.iloadN X3.here hx rfl (hb hby at_27) rfl ?_
    show St p e below T3 (mkF m 28 #[.val (.int p1), .val (.int 2), .val (.ref w_MANDATORY), .val (.ref w_JOIN), .val (.ref w_REFUSE)] [(.int 2), (.ref w_JOIN)]) _
    refine st4 _ ?_
    show St p e below T4 (mkF m 31 #[.val (.int p1), .val (.int 2), .val (.ref w_MANDATORY), .val (.ref w_JOIN), .val (.ref w_REFUSE)] [(.ref w_JOIN), (.ref w_JOIN)]) _
    refine Jvm.RoadKit.acmp (g := (mkF m 31 #[.val (.int p1), .val (.int 2), .val (.ref w_MANDATORY), .val (.ref w_JOIN), .val (.ref w_REFUSE)] [(.ref w_JOIN), (.ref w_JOIN)])) X4 hx rfl rfl rfl (pc0 := 31) (pc' := 34) (same := true) rfl (hb hby at_31) rfl (decide_eq_true rfl) (by decide) (by decide) ?_
    show St p e below T4 (mkF m 34 #[.val (.int p1), .val (.int 2), .val (.ref w_MANDATORY), .val (.ref w_JOIN), .val (.ref w_REFUSE)] []) _
    refine XS.aload X4.here hx rfl (hb hby at_34) rfl rfl ?_
    show St p e below T4 (mkF m 36 #[.val (.int p1), .val (.int 2), .val (.ref w_MANDATORY), .val (.ref w_JOIN), .val (.ref w_REFUSE)] [(.ref w_REFUSE)]) _
    refine XS.iloadN X4.here hx rfl (hb hby at_36) rfl ?_
    show St p e below T4 (mkF m 37 #[.val (.int p1), .val (.int 2), .val (.ref w_MANDATORY), .val (.ref w_JOIN), .val (.ref w_REFUSE)] [(.int 2), (.ref w_REFUSE)]) _
    refine st5 _ ?_
    show St p e below T5 (mkF m 40 #[.val (.int p1), .val (.int 2), .val (.ref w_MANDATORY), .val (.ref w_JOIN), .val (.ref w_REFUSE)] [(.ref w_REFUSE), (.ref w_REFUSE)]) _
    refine Jvm.RoadKit.acmp (g := (mkF m 40 #[.val (.int p1), .val (.int 2), .val (.ref w_MANDATORY), .val (.ref w_JOIN), .val (.ref w_REFUSE)] [(.ref w_REFUSE), (.ref w_REFUSE)])) X5 hx rfl rfl rfl (pc0 := 40) (pc' := 43) (same := true) rfl (hb hby at_40) rfl (decide_eq_true rfl) (by decide) (by decide) ?_
    show St p e below T5 (mkF m 43 #[.val (.int p1), .val (.int 2), .val (.ref w_MANDATORY), .val (.ref w_JOIN), .val (.ref w_REFUSE)] []) _
    refine XS.iconst X5.here hx rfl (hb hby at_43) ?_
    show St p e below T5 (mkF m 44 #[.val (.int p1), .val (.int 2), .val (.ref w_MANDATORY), .val (.ref w_JOIN), .val (.ref w_REFUSE)] [(.int 1)]) _
    refine XS.goto X5.here hx rfl (pc0 := 44) (pc' := 48) rfl (hb hby at_44) (by decide) (by decide) ?_
    show St p e below T5 (mkF m 48 #[.val (.int p1), .val (.int 2), .val (.ref w_MANDATORY), .val (.ref w_JOIN), .val (.ref w_REFUSE)] [(.int 1)]) _
    exact retN X5 hx (t := .boolean) Bd.returns (by simp) (hb hby at_48) hr
  · exact ⟨rfl, N5⟩
set_option maxRecDepth 65536 in
set_option maxHeartbeats 40000000 in
theorem rm_law_3 (l : Launch) (Z : State) (a0 : Array Value) (hw : ∀ d ∈ tables_1, d.before a0 Z = true) (ws : List Jvm.Cond) (p1 : Int32) (w_SUPPORTS : Addr) (w_JOIN : Addr) (w_WITHOUT : Addr) (h0 : Heap) (n0 : Nat) (Z0 : n0 ≤ h0.size) (S_SUPPORTS : Sta Z Z.heap "com/example/demarc/demarc/Propagation" "SUPPORTS" "Lcom/example/demarc/demarc/Propagation;" (.ref w_SUPPORTS)) (O0 : Old Z n0 h0) (E_w_SUPPORTS : Exa Z Z.heap w_SUPPORTS "com/example/demarc/demarc/Propagation") (S_JOIN : Sta Z Z.heap "com/example/demarc/demarc/Propagation$Step" "JOIN" "Lcom/example/demarc/demarc/Propagation$Step;" (.ref w_JOIN)) (S_WITHOUT : Sta Z Z.heap "com/example/demarc/demarc/Propagation$Step" "WITHOUT" "Lcom/example/demarc/demarc/Propagation$Step;" (.ref w_WITHOUT)) (F_w_SUPPORTS__inTransaction : Fld Z Z.heap w_SUPPORTS "com/example/demarc/demarc/Propagation" "_inTransaction" "Lcom/example/demarc/demarc/Propagation$Step;" (.ref w_JOIN)) (F_w_SUPPORTS__outside : Fld Z Z.heap w_SUPPORTS "com/example/demarc/demarc/Propagation" "_outside" "Lcom/example/demarc/demarc/Propagation$Step;" (.ref w_WITHOUT)) (hk : ((p1 &&& (2147483647 : Int32)) % (7 : Int32)) = (3 : Int32)) :
    MetFree l x (head1 (Jvm.Cond.code x code maxLocals ret :: ws) room_1) (fun a U => a = #[(.int p1)] ∧ Z.Warmed39 U.vm ∧ U.heap = h0) (fun _ _ _ _ _ => True) (fun _ U o U' => ∃ v L, o = .returned v ∧ Q_law n0 v L ∧ FrameEnd U o U' L room_1.cells room_1.slots) := by
  refine MetFree.of_bodySF (plainFor_of_name pn_0) hisR ?_
  intro p e s m args below meth c s₁ Bd hml0 hP hK
  obtain ⟨rfl, hZ, hh⟩ := hP
  have hx := Bd.exec
  have hby := Bd.bytes
  have hml : c.maxLocals = 5 := hml0
  have hown : s.vm.findClass "com/example/demarc/demarc/PropagationStepPinLaw" = some m.cls := findClass_of_methodNamed Bd.named
  have hnm := (name_of_methodNamed Bd.named Bd.method).1
  have X0 : Stand p l e room_1 s m #[(.int p1)] below meth c s₁ [] 0 0 := Stand.of_body Bd
  have e0 : s₁.heap = h0 := by rw [← hh, Bd.state]; rfl
  have N0 := Fr.nil n0
  have pre0 : ∀ t, Steps p.tables e below (s₁.setTop (mkF m 0 #[.val (.int p1), .unset, .unset, .unset, .unset] [])) t → Steps p.tables e below (s₁.setTop (entryFrame m #[(.int p1)] maxLocals)) t := fun t k => castTop (ef_0_I m p1) k
  obtain ⟨_, _, ⟨T1, L1, k1, n1⟩, -, X1, ⟨Lc1, hQ1, l1, y1, z1⟩, st1⟩ := Jvm.LawKit.callS X0 hx (y := (⟨"com/example/demarc/demarc/PropagationStepPinLaw", "pick", "(I)Lcom/example/demarc/demarc/Propagation;"⟩ : MethodName)) hown (mvT hZ (hwi hw 1 rfl)) (mvT hZ (hwi hw 2 rfl)) (mvT hZ (hwi hw 3 rfl)) (mvT hZ (hwi hw 4 rfl)) (by decide) (backOf (W := 0) (rm_pick_3 l Z a0 hw [] w_SUPPORTS h0 n0 Z0 S_SUPPORTS O0) hZ (hwi hw 4 rfl) (hwi hw 3 rfl) (by decide) (by decide)) (g := (mkF m 9 #[.val (.int p1), .val (.int 3), .unset, .unset, .unset] [(.int 3)])) rfl (by rw [hml]; rfl) (argsL := [(.int 3)]) (rest := []) (lenOf pd_I_Lcom_example_demarc_demarc_Propagation_940 rfl) rfl (by show 2 * 0 + _ ≤ _; exact Nat.le_of_eq rfl) (hb hby at_9) (fun _ _ => ⟨rfl, e0, (by decide : 0 + 0 ≤ _), (by decide : 0 + 0 ≤ _)⟩)
  dsimp only [Pt.U, Pt.locs, Pt.cells, Pt.slots] at X1 l1 y1 z1 st1 hQ1
  subst l1 y1 z1
  obtain ⟨rfl, N1q, e1⟩ := hQ1
  have N1 := Fr.app N0 N1q
  obtain ⟨cq2, kq2, q2a, q2b, q2c⟩ := isOf hZ e1 (E_w_SUPPORTS.ext O0.2)
  obtain ⟨_, _, ⟨T2, L2, k2, n2⟩, -, X2, ⟨Lc2, hQ2, l2, y2, z2⟩, st2⟩ := X1.virtualBack hx (y := (⟨"com/example/demarc/demarc/Propagation", "step", "(Z)Lcom/example/demarc/demarc/Propagation$Step;"⟩ : MethodName)) (z := (⟨"com/example/demarc/demarc/Propagation", "step", "(Z)Lcom/example/demarc/demarc/Propagation$Step;"⟩ : MethodName)) hown (mvT hZ (hwi hw 8 rfl)) (mvT hZ (hwi hw 9 rfl)) (notFace_of_selects (args := #[]) (mvT hZ (hwi hw 11 rfl))) (mvT hZ (hwi hw 11 rfl)) (mvT hZ (hwi hw 10 rfl)) (by decide) (backOf (W := 0) (rm_step_1 l Z a0 hw [] w_SUPPORTS w_JOIN h0 n0 Z0 (F_w_SUPPORTS__inTransaction.ext O0.2)) hZ (hwi hw 12 rfl) (hwi hw 6 rfl) (by decide) (by decide)) q2a q2c (g := (mkF m 15 #[.val (.int p1), .val (.int 3), .val (.ref w_SUPPORTS), .unset, .unset] [(.int 1), (.ref w_SUPPORTS)])) rfl (by rw [hml]; rfl) (Steps.refl _) (argsL := [(.int 1)]) (rest := []) (lenOf pd_Z_Lcom_example_demarc_demarc_Propagation_Step_405 rfl) rfl (by show 2 * 0 + _ ≤ _; exact Nat.le_of_eq rfl) (hb hby at_15) (fun _ _ => ⟨rfl, e1, (by decide : 0 + 0 ≤ _), (by decide : 0 + 0 ≤ _)⟩)
  dsimp only [Pt.U, Pt.locs, Pt.cells, Pt.slots] at X2 l2 y2 z2 st2 hQ2
  subst l2 y2 z2
  obtain ⟨rfl, N2q, e2⟩ := hQ2
  have N2 := Fr.app N1 N2q
  obtain ⟨cq3, kq3, q3a, q3b, q3c⟩ := isOf hZ e2 (E_w_SUPPORTS.ext O0.2)
  obtain ⟨_, _, ⟨T3, L3, k3, n3⟩, -, X3, ⟨Lc3, hQ3, l3, y3, z3⟩, st3⟩ := X2.virtualBack hx (y := (⟨"com/example/demarc/demarc/Propagation", "step", "(Z)Lcom/example/demarc/demarc/Propagation$Step;"⟩ : MethodName)) (z := (⟨"com/example/demarc/demarc/Propagation", "step", "(Z)Lcom/example/demarc/demarc/Propagation$Step;"⟩ : MethodName)) hown (mvT hZ (hwi hw 8 rfl)) (mvT hZ (hwi hw 9 rfl)) (notFace_of_selects (args := #[]) (mvT hZ (hwi hw 11 rfl))) (mvT hZ (hwi hw 11 rfl)) (mvT hZ (hwi hw 10 rfl)) (by decide) (backOf (W := 0) (rm_step_0 l Z a0 hw [] w_SUPPORTS w_WITHOUT h0 n0 Z0 (F_w_SUPPORTS__outside.ext O0.2)) hZ (hwi hw 12 rfl) (hwi hw 6 rfl) (by decide) (by decide)) q3a q3c (g := (mkF m 21 #[.val (.int p1), .val (.int 3), .val (.ref w_SUPPORTS), .val (.ref w_JOIN), .unset] [(.int 0), (.ref w_SUPPORTS)])) rfl (by rw [hml]; rfl) (Steps.refl _) (argsL := [(.int 0)]) (rest := []) (lenOf pd_Z_Lcom_example_demarc_demarc_Propagation_Step_405 rfl) rfl (by show 2 * 0 + _ ≤ _; exact Nat.le_of_eq rfl) (hb hby at_21) (fun _ _ => ⟨rfl, e2, (by decide : 0 + 0 ≤ _), (by decide : 0 + 0 ≤ _)⟩)
  dsimp only [Pt.U, Pt.locs, Pt.cells, Pt.slots] at X3 l3 y3 z3 st3 hQ3
  subst l3 y3 z3
  obtain ⟨rfl, N3q, e3⟩ := hQ3
  have N3 := Fr.app N2 N3q
  obtain ⟨_, _, ⟨T4, L4, k4, n4⟩, -, X4, ⟨Lc4, hQ4, l4, y4, z4⟩, st4⟩ := Jvm.LawKit.callS X3 hx (y := (⟨"com/example/demarc/demarc/PropagationStepPinLaw", "expectIn", "(I)Lcom/example/demarc/demarc/Propagation$Step;"⟩ : MethodName)) hown (mvT hZ (hwi hw 20 rfl)) (mvT hZ (hwi hw 21 rfl)) (mvT hZ (hwi hw 3 rfl)) (mvT hZ (hwi hw 22 rfl)) (by decide) (backOf (W := 1) (rm_ein_3 l Z a0 hw [] w_JOIN h0 n0 Z0 S_JOIN O0) hZ (hwi hw 22 rfl) (hwi hw 3 rfl) (by decide) (by decide)) (g := (mkF m 28 #[.val (.int p1), .val (.int 3), .val (.ref w_SUPPORTS), .val (.ref w_JOIN), .val (.ref w_WITHOUT)] [(.int 3), (.ref w_JOIN)])) rfl (by rw [hml]; rfl) (argsL := [(.int 3)]) (rest := [(.ref w_JOIN)]) (lenOf pd_I_Lcom_example_demarc_demarc_Propagation_Step_388 rfl) rfl (by show 2 * 0 + _ ≤ _; exact Nat.le_of_eq rfl) (hb hby at_28) (fun _ _ => ⟨rfl, e3, (by decide : 0 + 0 ≤ _), (by decide : 0 + 0 ≤ _)⟩)
  dsimp only [Pt.U, Pt.locs, Pt.cells, Pt.slots] at X4 l4 y4 z4 st4 hQ4
  subst l4 y4 z4
  obtain ⟨rfl, N4q, e4⟩ := hQ4
  have N4 := Fr.app N3 N4q
  obtain ⟨_, _, ⟨T5, L5, k5, n5⟩, -, X5, ⟨Lc5, hQ5, l5, y5, z5⟩, st5⟩ := Jvm.LawKit.callS X4 hx (y := (⟨"com/example/demarc/demarc/PropagationStepPinLaw", "expectOut", "(I)Lcom/example/demarc/demarc/Propagation$Step;"⟩ : MethodName)) hown (mvT hZ (hwi hw 24 rfl)) (mvT hZ (hwi hw 25 rfl)) (mvT hZ (hwi hw 3 rfl)) (mvT hZ (hwi hw 26 rfl)) (by decide) (backOf (W := 1) (rm_eout_3 l Z a0 hw [] w_WITHOUT h0 n0 Z0 S_WITHOUT O0) hZ (hwi hw 26 rfl) (hwi hw 3 rfl) (by decide) (by decide)) (g := (mkF m 37 #[.val (.int p1), .val (.int 3), .val (.ref w_SUPPORTS), .val (.ref w_JOIN), .val (.ref w_WITHOUT)] [(.int 3), (.ref w_WITHOUT)])) rfl (by rw [hml]; rfl) (argsL := [(.int 3)]) (rest := [(.ref w_WITHOUT)]) (lenOf pd_I_Lcom_example_demarc_demarc_Propagation_Step_388 rfl) rfl (by show 2 * 0 + _ ≤ _; exact Nat.le_of_eq rfl) (hb hby at_37) (fun _ _ => ⟨rfl, e4, (by decide : 0 + 0 ≤ _), (by decide : 0 + 0 ≤ _)⟩)
  dsimp only [Pt.U, Pt.locs, Pt.cells, Pt.slots] at X5 l5 y5 z5 st5 hQ5
  subst l5 y5 z5
  obtain ⟨rfl, N5q, e5⟩ := hQ5
  have N5 := Fr.app N4 N5q
  obtain ⟨fs, hr, hrun, hended, hW, hsame⟩ := X5.leave (v := some (.int 1)) (fun h => by rw [Bd.returns] at h; cases h)
  refine ⟨_, _, pre0 _ ?_, hrun, hended, _, _, rfl, ?_, ⟨_, rfl⟩, hW, hsame.mono (by decide) (by decide)⟩
  · show St p e below s₁ (mkF m 0 #[.val (.int p1), .unset, .unset, .unset, .unset] []) _
    refine XS.iloadN X0.here hx rfl (hb hby at_0) rfl ?_
    show St p e below s₁ (mkF m 1 #[.val (.int p1), .unset, .unset, .unset, .unset] [(.int p1)]) _
    refine X0.ldcInt hx hown (mvT hZ (hwi hw 0 rfl)) (g := (mkF m 1 #[.val (.int p1), .unset, .unset, .unset, .unset] [(.int p1)])) rfl (hb hby at_1) _ ?_
    show St p e below s₁ (mkF m 3 #[.val (.int p1), .unset, .unset, .unset, .unset] [(.int 2147483647), (.int p1)]) _
    refine XS.iand X0.here hx rfl (hb hby at_3) rfl ?_
    show St p e below s₁ (mkF m 4 #[.val (.int p1), .unset, .unset, .unset, .unset] [(.int (p1 &&& (2147483647 : Int32)))]) _
    refine XS.bipush X0.here hx rfl (hb hby at_4) ?_
    show St p e below s₁ (mkF m 6 #[.val (.int p1), .unset, .unset, .unset, .unset] [(.int 7), (.int (p1 &&& (2147483647 : Int32)))]) _
    refine iremM X0 hx rfl (hb hby at_6) rfl (by decide) ?_
    show St p e below s₁ (mkF m 7 #[.val (.int p1), .unset, .unset, .unset, .unset] [(.int ((p1 &&& (2147483647 : Int32)) % (7 : Int32)))]) _
    rw [hk]
    show St p e below s₁ (mkF m 7 #[.val (.int p1), .unset, .unset, .unset, .unset] [(.int 3)]) _
    refine XS.istoreN X0.here hx rfl (hb hby at_7) rfl (l' := #[.val (.int p1), .val (.int 3), .unset, .unset, .unset]) rfl ?_
    show St p e below s₁ (mkF m 8 #[.val (.int p1), .val (.int 3), .unset, .unset, .unset] []) _
    refine XS.iloadN X0.here hx rfl (hb hby at_8) rfl ?_
    show St p e below s₁ (mkF m 9 #[.val (.int p1), .val (.int 3), .unset, .unset, .unset] [(.int 3)]) _
    refine st1 _ ?_
    show St p e below T1 (mkF m 12 #[.val (.int p1), .val (.int 3), .unset, .unset, .unset] [(.ref w_SUPPORTS)]) _
    refine XS.astoreN X1.here hx rfl (hb hby at_12) rfl rfl (l' := #[.val (.int p1), .val (.int 3), .val (.ref w_SUPPORTS), .unset, .unset]) rfl ?_
    show St p e below T1 (mkF m 13 #[.val (.int p1), .val (.int 3), .val (.ref w_SUPPORTS), .unset, .unset] []) _
    refine XS.aloadN X1.here hx rfl (hb hby at_13) rfl rfl ?_
    show St p e below T1 (mkF m 14 #[.val (.int p1), .val (.int 3), .val (.ref w_SUPPORTS), .unset, .unset] [(.ref w_SUPPORTS)]) _
    refine XS.iconst X1.here hx rfl (hb hby at_14) ?_
    show St p e below T1 (mkF m 15 #[.val (.int p1), .val (.int 3), .val (.ref w_SUPPORTS), .unset, .unset] [(.int 1), (.ref w_SUPPORTS)]) _
    refine st2.trans ?_
    show St p e below T2 (mkF m 18 #[.val (.int p1), .val (.int 3), .val (.ref w_SUPPORTS), .unset, .unset] [(.ref w_JOIN)]) _
    refine XS.astoreN X2.here hx rfl (hb hby at_18) rfl rfl (l' := #[.val (.int p1), .val (.int 3), .val (.ref w_SUPPORTS), .val (.ref w_JOIN), .unset]) rfl ?_
    show St p e below T2 (mkF m 19 #[.val (.int p1), .val (.int 3), .val (.ref w_SUPPORTS), .val (.ref w_JOIN), .unset] []) _
    refine XS.aloadN X2.here hx rfl (hb hby at_19) rfl rfl ?_
    show St p e below T2 (mkF m 20 #[.val (.int p1), .val (.int 3), .val (.ref w_SUPPORTS), .val (.ref w_JOIN), .unset] [(.ref w_SUPPORTS)]) _
    refine XS.iconst X2.here hx rfl (hb hby at_20) ?_
    show St p e below T2 (mkF m 21 #[.val (.int p1), .val (.int 3), .val (.ref w_SUPPORTS), .val (.ref w_JOIN), .unset] [(.int 0), (.ref w_SUPPORTS)]) _
    refine st3.trans ?_
    show St p e below T3 (mkF m 24 #[.val (.int p1), .val (.int 3), .val (.ref w_SUPPORTS), .val (.ref w_JOIN), .unset] [(.ref w_WITHOUT)]) _
    refine XS.astore X3.here hx rfl (hb hby at_24) rfl rfl (l' := #[.val (.int p1), .val (.int 3), .val (.ref w_SUPPORTS), .val (.ref w_JOIN), .val (.ref w_WITHOUT)]) rfl ?_
    show St p e below T3 (mkF m 26 #[.val (.int p1), .val (.int 3), .val (.ref w_SUPPORTS), .val (.ref w_JOIN), .val (.ref w_WITHOUT)] []) _
    refine XS.aloadN X3.here hx rfl (hb hby at_26) rfl rfl ?_
    show St p e below T3 (mkF m 27 #[.val (.int p1), .val (.int 3), .val (.ref w_SUPPORTS), .val (.ref w_JOIN), .val (.ref w_WITHOUT)] [(.ref w_JOIN)]) _
    refine XS.iloadN X3.here hx rfl (hb hby at_27) rfl ?_
    show St p e below T3 (mkF m 28 #[.val (.int p1), .val (.int 3), .val (.ref w_SUPPORTS), .val (.ref w_JOIN), .val (.ref w_WITHOUT)] [(.int 3), (.ref w_JOIN)]) _
    refine st4 _ ?_
    show St p e below T4 (mkF m 31 #[.val (.int p1), .val (.int 3), .val (.ref w_SUPPORTS), .val (.ref w_JOIN), .val (.ref w_WITHOUT)] [(.ref w_JOIN), (.ref w_JOIN)]) _
    refine Jvm.RoadKit.acmp (g := (mkF m 31 #[.val (.int p1), .val (.int 3), .val (.ref w_SUPPORTS), .val (.ref w_JOIN), .val (.ref w_WITHOUT)] [(.ref w_JOIN), (.ref w_JOIN)])) X4 hx rfl rfl rfl (pc0 := 31) (pc' := 34) (same := true) rfl (hb hby at_31) rfl (decide_eq_true rfl) (by decide) (by decide) ?_
    show St p e below T4 (mkF m 34 #[.val (.int p1), .val (.int 3), .val (.ref w_SUPPORTS), .val (.ref w_JOIN), .val (.ref w_WITHOUT)] []) _
    refine XS.aload X4.here hx rfl (hb hby at_34) rfl rfl ?_
    show St p e below T4 (mkF m 36 #[.val (.int p1), .val (.int 3), .val (.ref w_SUPPORTS), .val (.ref w_JOIN), .val (.ref w_WITHOUT)] [(.ref w_WITHOUT)]) _
    refine XS.iloadN X4.here hx rfl (hb hby at_36) rfl ?_
    show St p e below T4 (mkF m 37 #[.val (.int p1), .val (.int 3), .val (.ref w_SUPPORTS), .val (.ref w_JOIN), .val (.ref w_WITHOUT)] [(.int 3), (.ref w_WITHOUT)]) _
    refine st5 _ ?_
    show St p e below T5 (mkF m 40 #[.val (.int p1), .val (.int 3), .val (.ref w_SUPPORTS), .val (.ref w_JOIN), .val (.ref w_WITHOUT)] [(.ref w_WITHOUT), (.ref w_WITHOUT)]) _
    refine Jvm.RoadKit.acmp (g := (mkF m 40 #[.val (.int p1), .val (.int 3), .val (.ref w_SUPPORTS), .val (.ref w_JOIN), .val (.ref w_WITHOUT)] [(.ref w_WITHOUT), (.ref w_WITHOUT)])) X5 hx rfl rfl rfl (pc0 := 40) (pc' := 43) (same := true) rfl (hb hby at_40) rfl (decide_eq_true rfl) (by decide) (by decide) ?_
    show St p e below T5 (mkF m 43 #[.val (.int p1), .val (.int 3), .val (.ref w_SUPPORTS), .val (.ref w_JOIN), .val (.ref w_WITHOUT)] []) _
    refine XS.iconst X5.here hx rfl (hb hby at_43) ?_
    show St p e below T5 (mkF m 44 #[.val (.int p1), .val (.int 3), .val (.ref w_SUPPORTS), .val (.ref w_JOIN), .val (.ref w_WITHOUT)] [(.int 1)]) _
    refine XS.goto X5.here hx rfl (pc0 := 44) (pc' := 48) rfl (hb hby at_44) (by decide) (by decide) ?_
    show St p e below T5 (mkF m 48 #[.val (.int p1), .val (.int 3), .val (.ref w_SUPPORTS), .val (.ref w_JOIN), .val (.ref w_WITHOUT)] [(.int 1)]) _
    exact retN X5 hx (t := .boolean) Bd.returns (by simp) (hb hby at_48) hr
  · exact ⟨rfl, N5⟩
set_option maxRecDepth 65536 in
set_option maxHeartbeats 40000000 in
theorem rm_law_4 (l : Launch) (Z : State) (a0 : Array Value) (hw : ∀ d ∈ tables_1, d.before a0 Z = true) (ws : List Jvm.Cond) (p1 : Int32) (w_NOT_SUPPORTED : Addr) (w_WITHOUT : Addr) (h0 : Heap) (n0 : Nat) (Z0 : n0 ≤ h0.size) (S_NOT_SUPPORTED : Sta Z Z.heap "com/example/demarc/demarc/Propagation" "NOT_SUPPORTED" "Lcom/example/demarc/demarc/Propagation;" (.ref w_NOT_SUPPORTED)) (O0 : Old Z n0 h0) (E_w_NOT_SUPPORTED : Exa Z Z.heap w_NOT_SUPPORTED "com/example/demarc/demarc/Propagation") (S_WITHOUT : Sta Z Z.heap "com/example/demarc/demarc/Propagation$Step" "WITHOUT" "Lcom/example/demarc/demarc/Propagation$Step;" (.ref w_WITHOUT)) (F_w_NOT_SUPPORTED__inTransaction : Fld Z Z.heap w_NOT_SUPPORTED "com/example/demarc/demarc/Propagation" "_inTransaction" "Lcom/example/demarc/demarc/Propagation$Step;" (.ref w_WITHOUT)) (F_w_NOT_SUPPORTED__outside : Fld Z Z.heap w_NOT_SUPPORTED "com/example/demarc/demarc/Propagation" "_outside" "Lcom/example/demarc/demarc/Propagation$Step;" (.ref w_WITHOUT)) (hk : ((p1 &&& (2147483647 : Int32)) % (7 : Int32)) = (4 : Int32)) :
    MetFree l x (head1 (Jvm.Cond.code x code maxLocals ret :: ws) room_1) (fun a U => a = #[(.int p1)] ∧ Z.Warmed39 U.vm ∧ U.heap = h0) (fun _ _ _ _ _ => True) (fun _ U o U' => ∃ v L, o = .returned v ∧ Q_law n0 v L ∧ FrameEnd U o U' L room_1.cells room_1.slots) := by
  refine MetFree.of_bodySF (plainFor_of_name pn_0) hisR ?_
  intro p e s m args below meth c s₁ Bd hml0 hP hK
  obtain ⟨rfl, hZ, hh⟩ := hP
  have hx := Bd.exec
  have hby := Bd.bytes
  have hml : c.maxLocals = 5 := hml0
  have hown : s.vm.findClass "com/example/demarc/demarc/PropagationStepPinLaw" = some m.cls := findClass_of_methodNamed Bd.named
  have hnm := (name_of_methodNamed Bd.named Bd.method).1
  have X0 : Stand p l e room_1 s m #[(.int p1)] below meth c s₁ [] 0 0 := Stand.of_body Bd
  have e0 : s₁.heap = h0 := by rw [← hh, Bd.state]; rfl
  have N0 := Fr.nil n0
  have pre0 : ∀ t, Steps p.tables e below (s₁.setTop (mkF m 0 #[.val (.int p1), .unset, .unset, .unset, .unset] [])) t → Steps p.tables e below (s₁.setTop (entryFrame m #[(.int p1)] maxLocals)) t := fun t k => castTop (ef_0_I m p1) k
  obtain ⟨_, _, ⟨T1, L1, k1, n1⟩, -, X1, ⟨Lc1, hQ1, l1, y1, z1⟩, st1⟩ := Jvm.LawKit.callS X0 hx (y := (⟨"com/example/demarc/demarc/PropagationStepPinLaw", "pick", "(I)Lcom/example/demarc/demarc/Propagation;"⟩ : MethodName)) hown (mvT hZ (hwi hw 1 rfl)) (mvT hZ (hwi hw 2 rfl)) (mvT hZ (hwi hw 3 rfl)) (mvT hZ (hwi hw 4 rfl)) (by decide) (backOf (W := 0) (rm_pick_4 l Z a0 hw [] w_NOT_SUPPORTED h0 n0 Z0 S_NOT_SUPPORTED O0) hZ (hwi hw 4 rfl) (hwi hw 3 rfl) (by decide) (by decide)) (g := (mkF m 9 #[.val (.int p1), .val (.int 4), .unset, .unset, .unset] [(.int 4)])) rfl (by rw [hml]; rfl) (argsL := [(.int 4)]) (rest := []) (lenOf pd_I_Lcom_example_demarc_demarc_Propagation_940 rfl) rfl (by show 2 * 0 + _ ≤ _; exact Nat.le_of_eq rfl) (hb hby at_9) (fun _ _ => ⟨rfl, e0, (by decide : 0 + 0 ≤ _), (by decide : 0 + 0 ≤ _)⟩)
  dsimp only [Pt.U, Pt.locs, Pt.cells, Pt.slots] at X1 l1 y1 z1 st1 hQ1
  subst l1 y1 z1
  obtain ⟨rfl, N1q, e1⟩ := hQ1
  have N1 := Fr.app N0 N1q
  obtain ⟨cq2, kq2, q2a, q2b, q2c⟩ := isOf hZ e1 (E_w_NOT_SUPPORTED.ext O0.2)
  obtain ⟨_, _, ⟨T2, L2, k2, n2⟩, -, X2, ⟨Lc2, hQ2, l2, y2, z2⟩, st2⟩ := X1.virtualBack hx (y := (⟨"com/example/demarc/demarc/Propagation", "step", "(Z)Lcom/example/demarc/demarc/Propagation$Step;"⟩ : MethodName)) (z := (⟨"com/example/demarc/demarc/Propagation", "step", "(Z)Lcom/example/demarc/demarc/Propagation$Step;"⟩ : MethodName)) hown (mvT hZ (hwi hw 8 rfl)) (mvT hZ (hwi hw 9 rfl)) (notFace_of_selects (args := #[]) (mvT hZ (hwi hw 11 rfl))) (mvT hZ (hwi hw 11 rfl)) (mvT hZ (hwi hw 10 rfl)) (by decide) (backOf (W := 0) (rm_step_1 l Z a0 hw [] w_NOT_SUPPORTED w_WITHOUT h0 n0 Z0 (F_w_NOT_SUPPORTED__inTransaction.ext O0.2)) hZ (hwi hw 12 rfl) (hwi hw 6 rfl) (by decide) (by decide)) q2a q2c (g := (mkF m 15 #[.val (.int p1), .val (.int 4), .val (.ref w_NOT_SUPPORTED), .unset, .unset] [(.int 1), (.ref w_NOT_SUPPORTED)])) rfl (by rw [hml]; rfl) (Steps.refl _) (argsL := [(.int 1)]) (rest := []) (lenOf pd_Z_Lcom_example_demarc_demarc_Propagation_Step_405 rfl) rfl (by show 2 * 0 + _ ≤ _; exact Nat.le_of_eq rfl) (hb hby at_15) (fun _ _ => ⟨rfl, e1, (by decide : 0 + 0 ≤ _), (by decide : 0 + 0 ≤ _)⟩)
  dsimp only [Pt.U, Pt.locs, Pt.cells, Pt.slots] at X2 l2 y2 z2 st2 hQ2
  subst l2 y2 z2
  obtain ⟨rfl, N2q, e2⟩ := hQ2
  have N2 := Fr.app N1 N2q
  obtain ⟨cq3, kq3, q3a, q3b, q3c⟩ := isOf hZ e2 (E_w_NOT_SUPPORTED.ext O0.2)
  obtain ⟨_, _, ⟨T3, L3, k3, n3⟩, -, X3, ⟨Lc3, hQ3, l3, y3, z3⟩, st3⟩ := X2.virtualBack hx (y := (⟨"com/example/demarc/demarc/Propagation", "step", "(Z)Lcom/example/demarc/demarc/Propagation$Step;"⟩ : MethodName)) (z := (⟨"com/example/demarc/demarc/Propagation", "step", "(Z)Lcom/example/demarc/demarc/Propagation$Step;"⟩ : MethodName)) hown (mvT hZ (hwi hw 8 rfl)) (mvT hZ (hwi hw 9 rfl)) (notFace_of_selects (args := #[]) (mvT hZ (hwi hw 11 rfl))) (mvT hZ (hwi hw 11 rfl)) (mvT hZ (hwi hw 10 rfl)) (by decide) (backOf (W := 0) (rm_step_0 l Z a0 hw [] w_NOT_SUPPORTED w_WITHOUT h0 n0 Z0 (F_w_NOT_SUPPORTED__outside.ext O0.2)) hZ (hwi hw 12 rfl) (hwi hw 6 rfl) (by decide) (by decide)) q3a q3c (g := (mkF m 21 #[.val (.int p1), .val (.int 4), .val (.ref w_NOT_SUPPORTED), .val (.ref w_WITHOUT), .unset] [(.int 0), (.ref w_NOT_SUPPORTED)])) rfl (by rw [hml]; rfl) (Steps.refl _) (argsL := [(.int 0)]) (rest := []) (lenOf pd_Z_Lcom_example_demarc_demarc_Propagation_Step_405 rfl) rfl (by show 2 * 0 + _ ≤ _; exact Nat.le_of_eq rfl) (hb hby at_21) (fun _ _ => ⟨rfl, e2, (by decide : 0 + 0 ≤ _), (by decide : 0 + 0 ≤ _)⟩)
  dsimp only [Pt.U, Pt.locs, Pt.cells, Pt.slots] at X3 l3 y3 z3 st3 hQ3
  subst l3 y3 z3
  obtain ⟨rfl, N3q, e3⟩ := hQ3
  have N3 := Fr.app N2 N3q
  obtain ⟨_, _, ⟨T4, L4, k4, n4⟩, -, X4, ⟨Lc4, hQ4, l4, y4, z4⟩, st4⟩ := Jvm.LawKit.callS X3 hx (y := (⟨"com/example/demarc/demarc/PropagationStepPinLaw", "expectIn", "(I)Lcom/example/demarc/demarc/Propagation$Step;"⟩ : MethodName)) hown (mvT hZ (hwi hw 20 rfl)) (mvT hZ (hwi hw 21 rfl)) (mvT hZ (hwi hw 3 rfl)) (mvT hZ (hwi hw 22 rfl)) (by decide) (backOf (W := 1) (rm_ein_4 l Z a0 hw [] w_WITHOUT h0 n0 Z0 S_WITHOUT O0) hZ (hwi hw 22 rfl) (hwi hw 3 rfl) (by decide) (by decide)) (g := (mkF m 28 #[.val (.int p1), .val (.int 4), .val (.ref w_NOT_SUPPORTED), .val (.ref w_WITHOUT), .val (.ref w_WITHOUT)] [(.int 4), (.ref w_WITHOUT)])) rfl (by rw [hml]; rfl) (argsL := [(.int 4)]) (rest := [(.ref w_WITHOUT)]) (lenOf pd_I_Lcom_example_demarc_demarc_Propagation_Step_388 rfl) rfl (by show 2 * 0 + _ ≤ _; exact Nat.le_of_eq rfl) (hb hby at_28) (fun _ _ => ⟨rfl, e3, (by decide : 0 + 0 ≤ _), (by decide : 0 + 0 ≤ _)⟩)
  dsimp only [Pt.U, Pt.locs, Pt.cells, Pt.slots] at X4 l4 y4 z4 st4 hQ4
  subst l4 y4 z4
  obtain ⟨rfl, N4q, e4⟩ := hQ4
  have N4 := Fr.app N3 N4q
  obtain ⟨_, _, ⟨T5, L5, k5, n5⟩, -, X5, ⟨Lc5, hQ5, l5, y5, z5⟩, st5⟩ := Jvm.LawKit.callS X4 hx (y := (⟨"com/example/demarc/demarc/PropagationStepPinLaw", "expectOut", "(I)Lcom/example/demarc/demarc/Propagation$Step;"⟩ : MethodName)) hown (mvT hZ (hwi hw 24 rfl)) (mvT hZ (hwi hw 25 rfl)) (mvT hZ (hwi hw 3 rfl)) (mvT hZ (hwi hw 26 rfl)) (by decide) (backOf (W := 1) (rm_eout_4 l Z a0 hw [] w_WITHOUT h0 n0 Z0 S_WITHOUT O0) hZ (hwi hw 26 rfl) (hwi hw 3 rfl) (by decide) (by decide)) (g := (mkF m 37 #[.val (.int p1), .val (.int 4), .val (.ref w_NOT_SUPPORTED), .val (.ref w_WITHOUT), .val (.ref w_WITHOUT)] [(.int 4), (.ref w_WITHOUT)])) rfl (by rw [hml]; rfl) (argsL := [(.int 4)]) (rest := [(.ref w_WITHOUT)]) (lenOf pd_I_Lcom_example_demarc_demarc_Propagation_Step_388 rfl) rfl (by show 2 * 0 + _ ≤ _; exact Nat.le_of_eq rfl) (hb hby at_37) (fun _ _ => ⟨rfl, e4, (by decide : 0 + 0 ≤ _), (by decide : 0 + 0 ≤ _)⟩)
  dsimp only [Pt.U, Pt.locs, Pt.cells, Pt.slots] at X5 l5 y5 z5 st5 hQ5
  subst l5 y5 z5
  obtain ⟨rfl, N5q, e5⟩ := hQ5
  have N5 := Fr.app N4 N5q
  obtain ⟨fs, hr, hrun, hended, hW, hsame⟩ := X5.leave (v := some (.int 1)) (fun h => by rw [Bd.returns] at h; cases h)
  refine ⟨_, _, pre0 _ ?_, hrun, hended, _, _, rfl, ?_, ⟨_, rfl⟩, hW, hsame.mono (by decide) (by decide)⟩
  · show St p e below s₁ (mkF m 0 #[.val (.int p1), .unset, .unset, .unset, .unset] []) _
    refine XS.iloadN X0.here hx rfl (hb hby at_0) rfl ?_
    show St p e below s₁ (mkF m 1 #[.val (.int p1), .unset, .unset, .unset, .unset] [(.int p1)]) _
    refine X0.ldcInt hx hown (mvT hZ (hwi hw 0 rfl)) (g := (mkF m 1 #[.val (.int p1), .unset, .unset, .unset, .unset] [(.int p1)])) rfl (hb hby at_1) _ ?_
    show St p e below s₁ (mkF m 3 #[.val (.int p1), .unset, .unset, .unset, .unset] [(.int 2147483647), (.int p1)]) _
    refine XS.iand X0.here hx rfl (hb hby at_3) rfl ?_
    show St p e below s₁ (mkF m 4 #[.val (.int p1), .unset, .unset, .unset, .unset] [(.int (p1 &&& (2147483647 : Int32)))]) _
    refine XS.bipush X0.here hx rfl (hb hby at_4) ?_
    show St p e below s₁ (mkF m 6 #[.val (.int p1), .unset, .unset, .unset, .unset] [(.int 7), (.int (p1 &&& (2147483647 : Int32)))]) _
    refine iremM X0 hx rfl (hb hby at_6) rfl (by decide) ?_
    show St p e below s₁ (mkF m 7 #[.val (.int p1), .unset, .unset, .unset, .unset] [(.int ((p1 &&& (2147483647 : Int32)) % (7 : Int32)))]) _
    rw [hk]
    show St p e below s₁ (mkF m 7 #[.val (.int p1), .unset, .unset, .unset, .unset] [(.int 4)]) _
    refine XS.istoreN X0.here hx rfl (hb hby at_7) rfl (l' := #[.val (.int p1), .val (.int 4), .unset, .unset, .unset]) rfl ?_
    show St p e below s₁ (mkF m 8 #[.val (.int p1), .val (.int 4), .unset, .unset, .unset] []) _
    refine XS.iloadN X0.here hx rfl (hb hby at_8) rfl ?_
    show St p e below s₁ (mkF m 9 #[.val (.int p1), .val (.int 4), .unset, .unset, .unset] [(.int 4)]) _
    refine st1 _ ?_
    show St p e below T1 (mkF m 12 #[.val (.int p1), .val (.int 4), .unset, .unset, .unset] [(.ref w_NOT_SUPPORTED)]) _
    refine XS.astoreN X1.here hx rfl (hb hby at_12) rfl rfl (l' := #[.val (.int p1), .val (.int 4), .val (.ref w_NOT_SUPPORTED), .unset, .unset]) rfl ?_
    show St p e below T1 (mkF m 13 #[.val (.int p1), .val (.int 4), .val (.ref w_NOT_SUPPORTED), .unset, .unset] []) _
    refine XS.aloadN X1.here hx rfl (hb hby at_13) rfl rfl ?_
    show St p e below T1 (mkF m 14 #[.val (.int p1), .val (.int 4), .val (.ref w_NOT_SUPPORTED), .unset, .unset] [(.ref w_NOT_SUPPORTED)]) _
    refine XS.iconst X1.here hx rfl (hb hby at_14) ?_
    show St p e below T1 (mkF m 15 #[.val (.int p1), .val (.int 4), .val (.ref w_NOT_SUPPORTED), .unset, .unset] [(.int 1), (.ref w_NOT_SUPPORTED)]) _
    refine st2.trans ?_
    show St p e below T2 (mkF m 18 #[.val (.int p1), .val (.int 4), .val (.ref w_NOT_SUPPORTED), .unset, .unset] [(.ref w_WITHOUT)]) _
    refine XS.astoreN X2.here hx rfl (hb hby at_18) rfl rfl (l' := #[.val (.int p1), .val (.int 4), .val (.ref w_NOT_SUPPORTED), .val (.ref w_WITHOUT), .unset]) rfl ?_
    show St p e below T2 (mkF m 19 #[.val (.int p1), .val (.int 4), .val (.ref w_NOT_SUPPORTED), .val (.ref w_WITHOUT), .unset] []) _
    refine XS.aloadN X2.here hx rfl (hb hby at_19) rfl rfl ?_
    show St p e below T2 (mkF m 20 #[.val (.int p1), .val (.int 4), .val (.ref w_NOT_SUPPORTED), .val (.ref w_WITHOUT), .unset] [(.ref w_NOT_SUPPORTED)]) _
    refine XS.iconst X2.here hx rfl (hb hby at_20) ?_
    show St p e below T2 (mkF m 21 #[.val (.int p1), .val (.int 4), .val (.ref w_NOT_SUPPORTED), .val (.ref w_WITHOUT), .unset] [(.int 0), (.ref w_NOT_SUPPORTED)]) _
    refine st3.trans ?_
    show St p e below T3 (mkF m 24 #[.val (.int p1), .val (.int 4), .val (.ref w_NOT_SUPPORTED), .val (.ref w_WITHOUT), .unset] [(.ref w_WITHOUT)]) _
    refine XS.astore X3.here hx rfl (hb hby at_24) rfl rfl (l' := #[.val (.int p1), .val (.int 4), .val (.ref w_NOT_SUPPORTED), .val (.ref w_WITHOUT), .val (.ref w_WITHOUT)]) rfl ?_
    show St p e below T3 (mkF m 26 #[.val (.int p1), .val (.int 4), .val (.ref w_NOT_SUPPORTED), .val (.ref w_WITHOUT), .val (.ref w_WITHOUT)] []) _
    refine XS.aloadN X3.here hx rfl (hb hby at_26) rfl rfl ?_
    show St p e below T3 (mkF m 27 #[.val (.int p1), .val (.int 4), .val (.ref w_NOT_SUPPORTED), .val (.ref w_WITHOUT), .val (.ref w_WITHOUT)] [(.ref w_WITHOUT)]) _
    refine XS.iloadN X3.here hx rfl (hb hby at_27) rfl ?_
    show St p e below T3 (mkF m 28 #[.val (.int p1), .val (.int 4), .val (.ref w_NOT_SUPPORTED), .val (.ref w_WITHOUT), .val (.ref w_WITHOUT)] [(.int 4), (.ref w_WITHOUT)]) _
    refine st4 _ ?_
    show St p e below T4 (mkF m 31 #[.val (.int p1), .val (.int 4), .val (.ref w_NOT_SUPPORTED), .val (.ref w_WITHOUT), .val (.ref w_WITHOUT)] [(.ref w_WITHOUT), (.ref w_WITHOUT)]) _
    refine Jvm.RoadKit.acmp (g := (mkF m 31 #[.val (.int p1), .val (.int 4), .val (.ref w_NOT_SUPPORTED), .val (.ref w_WITHOUT), .val (.ref w_WITHOUT)] [(.ref w_WITHOUT), (.ref w_WITHOUT)])) X4 hx rfl rfl rfl (pc0 := 31) (pc' := 34) (same := true) rfl (hb hby at_31) rfl (decide_eq_true rfl) (by decide) (by decide) ?_
    show St p e below T4 (mkF m 34 #[.val (.int p1), .val (.int 4), .val (.ref w_NOT_SUPPORTED), .val (.ref w_WITHOUT), .val (.ref w_WITHOUT)] []) _
    refine XS.aload X4.here hx rfl (hb hby at_34) rfl rfl ?_
    show St p e below T4 (mkF m 36 #[.val (.int p1), .val (.int 4), .val (.ref w_NOT_SUPPORTED), .val (.ref w_WITHOUT), .val (.ref w_WITHOUT)] [(.ref w_WITHOUT)]) _
    refine XS.iloadN X4.here hx rfl (hb hby at_36) rfl ?_
    show St p e below T4 (mkF m 37 #[.val (.int p1), .val (.int 4), .val (.ref w_NOT_SUPPORTED), .val (.ref w_WITHOUT), .val (.ref w_WITHOUT)] [(.int 4), (.ref w_WITHOUT)]) _
    refine st5 _ ?_
    show St p e below T5 (mkF m 40 #[.val (.int p1), .val (.int 4), .val (.ref w_NOT_SUPPORTED), .val (.ref w_WITHOUT), .val (.ref w_WITHOUT)] [(.ref w_WITHOUT), (.ref w_WITHOUT)]) _
    refine Jvm.RoadKit.acmp (g := (mkF m 40 #[.val (.int p1), .val (.int 4), .val (.ref w_NOT_SUPPORTED), .val (.ref w_WITHOUT), .val (.ref w_WITHOUT)] [(.ref w_WITHOUT), (.ref w_WITHOUT)])) X5 hx rfl rfl rfl (pc0 := 40) (pc' := 43) (same := true) rfl (hb hby at_40) rfl (decide_eq_true rfl) (by decide) (by decide) ?_
    show St p e below T5 (mkF m 43 #[.val (.int p1), .val (.int 4), .val (.ref w_NOT_SUPPORTED), .val (.ref w_WITHOUT), .val (.ref w_WITHOUT)] []) _
    refine XS.iconst X5.here hx rfl (hb hby at_43) ?_
    show St p e below T5 (mkF m 44 #[.val (.int p1), .val (.int 4), .val (.ref w_NOT_SUPPORTED), .val (.ref w_WITHOUT), .val (.ref w_WITHOUT)] [(.int 1)]) _
    refine XS.goto X5.here hx rfl (pc0 := 44) (pc' := 48) rfl (hb hby at_44) (by decide) (by decide) ?_
    show St p e below T5 (mkF m 48 #[.val (.int p1), .val (.int 4), .val (.ref w_NOT_SUPPORTED), .val (.ref w_WITHOUT), .val (.ref w_WITHOUT)] [(.int 1)]) _
    exact retN X5 hx (t := .boolean) Bd.returns (by simp) (hb hby at_48) hr
  · exact ⟨rfl, N5⟩
set_option maxRecDepth 65536 in
set_option maxHeartbeats 40000000 in
theorem rm_law_5 (l : Launch) (Z : State) (a0 : Array Value) (hw : ∀ d ∈ tables_1, d.before a0 Z = true) (ws : List Jvm.Cond) (p1 : Int32) (w_NEVER : Addr) (w_REFUSE : Addr) (w_WITHOUT : Addr) (h0 : Heap) (n0 : Nat) (Z0 : n0 ≤ h0.size) (S_NEVER : Sta Z Z.heap "com/example/demarc/demarc/Propagation" "NEVER" "Lcom/example/demarc/demarc/Propagation;" (.ref w_NEVER)) (O0 : Old Z n0 h0) (E_w_NEVER : Exa Z Z.heap w_NEVER "com/example/demarc/demarc/Propagation") (S_REFUSE : Sta Z Z.heap "com/example/demarc/demarc/Propagation$Step" "REFUSE" "Lcom/example/demarc/demarc/Propagation$Step;" (.ref w_REFUSE)) (S_WITHOUT : Sta Z Z.heap "com/example/demarc/demarc/Propagation$Step" "WITHOUT" "Lcom/example/demarc/demarc/Propagation$Step;" (.ref w_WITHOUT)) (F_w_NEVER__inTransaction : Fld Z Z.heap w_NEVER "com/example/demarc/demarc/Propagation" "_inTransaction" "Lcom/example/demarc/demarc/Propagation$Step;" (.ref w_REFUSE)) (F_w_NEVER__outside : Fld Z Z.heap w_NEVER "com/example/demarc/demarc/Propagation" "_outside" "Lcom/example/demarc/demarc/Propagation$Step;" (.ref w_WITHOUT)) (hk : ((p1 &&& (2147483647 : Int32)) % (7 : Int32)) = (5 : Int32)) :
    MetFree l x (head1 (Jvm.Cond.code x code maxLocals ret :: ws) room_1) (fun a U => a = #[(.int p1)] ∧ Z.Warmed39 U.vm ∧ U.heap = h0) (fun _ _ _ _ _ => True) (fun _ U o U' => ∃ v L, o = .returned v ∧ Q_law n0 v L ∧ FrameEnd U o U' L room_1.cells room_1.slots) := by
  refine MetFree.of_bodySF (plainFor_of_name pn_0) hisR ?_
  intro p e s m args below meth c s₁ Bd hml0 hP hK
  obtain ⟨rfl, hZ, hh⟩ := hP
  have hx := Bd.exec
  have hby := Bd.bytes
  have hml : c.maxLocals = 5 := hml0
  have hown : s.vm.findClass "com/example/demarc/demarc/PropagationStepPinLaw" = some m.cls := findClass_of_methodNamed Bd.named
  have hnm := (name_of_methodNamed Bd.named Bd.method).1
  have X0 : Stand p l e room_1 s m #[(.int p1)] below meth c s₁ [] 0 0 := Stand.of_body Bd
  have e0 : s₁.heap = h0 := by rw [← hh, Bd.state]; rfl
  have N0 := Fr.nil n0
  have pre0 : ∀ t, Steps p.tables e below (s₁.setTop (mkF m 0 #[.val (.int p1), .unset, .unset, .unset, .unset] [])) t → Steps p.tables e below (s₁.setTop (entryFrame m #[(.int p1)] maxLocals)) t := fun t k => castTop (ef_0_I m p1) k
  obtain ⟨_, _, ⟨T1, L1, k1, n1⟩, -, X1, ⟨Lc1, hQ1, l1, y1, z1⟩, st1⟩ := Jvm.LawKit.callS X0 hx (y := (⟨"com/example/demarc/demarc/PropagationStepPinLaw", "pick", "(I)Lcom/example/demarc/demarc/Propagation;"⟩ : MethodName)) hown (mvT hZ (hwi hw 1 rfl)) (mvT hZ (hwi hw 2 rfl)) (mvT hZ (hwi hw 3 rfl)) (mvT hZ (hwi hw 4 rfl)) (by decide) (backOf (W := 0) (rm_pick_5 l Z a0 hw [] w_NEVER h0 n0 Z0 S_NEVER O0) hZ (hwi hw 4 rfl) (hwi hw 3 rfl) (by decide) (by decide)) (g := (mkF m 9 #[.val (.int p1), .val (.int 5), .unset, .unset, .unset] [(.int 5)])) rfl (by rw [hml]; rfl) (argsL := [(.int 5)]) (rest := []) (lenOf pd_I_Lcom_example_demarc_demarc_Propagation_940 rfl) rfl (by show 2 * 0 + _ ≤ _; exact Nat.le_of_eq rfl) (hb hby at_9) (fun _ _ => ⟨rfl, e0, (by decide : 0 + 0 ≤ _), (by decide : 0 + 0 ≤ _)⟩)
  dsimp only [Pt.U, Pt.locs, Pt.cells, Pt.slots] at X1 l1 y1 z1 st1 hQ1
  subst l1 y1 z1
  obtain ⟨rfl, N1q, e1⟩ := hQ1
  have N1 := Fr.app N0 N1q
  obtain ⟨cq2, kq2, q2a, q2b, q2c⟩ := isOf hZ e1 (E_w_NEVER.ext O0.2)
  obtain ⟨_, _, ⟨T2, L2, k2, n2⟩, -, X2, ⟨Lc2, hQ2, l2, y2, z2⟩, st2⟩ := X1.virtualBack hx (y := (⟨"com/example/demarc/demarc/Propagation", "step", "(Z)Lcom/example/demarc/demarc/Propagation$Step;"⟩ : MethodName)) (z := (⟨"com/example/demarc/demarc/Propagation", "step", "(Z)Lcom/example/demarc/demarc/Propagation$Step;"⟩ : MethodName)) hown (mvT hZ (hwi hw 8 rfl)) (mvT hZ (hwi hw 9 rfl)) (notFace_of_selects (args := #[]) (mvT hZ (hwi hw 11 rfl))) (mvT hZ (hwi hw 11 rfl)) (mvT hZ (hwi hw 10 rfl)) (by decide) (backOf (W := 0) (rm_step_1 l Z a0 hw [] w_NEVER w_REFUSE h0 n0 Z0 (F_w_NEVER__inTransaction.ext O0.2)) hZ (hwi hw 12 rfl) (hwi hw 6 rfl) (by decide) (by decide)) q2a q2c (g := (mkF m 15 #[.val (.int p1), .val (.int 5), .val (.ref w_NEVER), .unset, .unset] [(.int 1), (.ref w_NEVER)])) rfl (by rw [hml]; rfl) (Steps.refl _) (argsL := [(.int 1)]) (rest := []) (lenOf pd_Z_Lcom_example_demarc_demarc_Propagation_Step_405 rfl) rfl (by show 2 * 0 + _ ≤ _; exact Nat.le_of_eq rfl) (hb hby at_15) (fun _ _ => ⟨rfl, e1, (by decide : 0 + 0 ≤ _), (by decide : 0 + 0 ≤ _)⟩)
  dsimp only [Pt.U, Pt.locs, Pt.cells, Pt.slots] at X2 l2 y2 z2 st2 hQ2
  subst l2 y2 z2
  obtain ⟨rfl, N2q, e2⟩ := hQ2
  have N2 := Fr.app N1 N2q
  obtain ⟨cq3, kq3, q3a, q3b, q3c⟩ := isOf hZ e2 (E_w_NEVER.ext O0.2)
  obtain ⟨_, _, ⟨T3, L3, k3, n3⟩, -, X3, ⟨Lc3, hQ3, l3, y3, z3⟩, st3⟩ := X2.virtualBack hx (y := (⟨"com/example/demarc/demarc/Propagation", "step", "(Z)Lcom/example/demarc/demarc/Propagation$Step;"⟩ : MethodName)) (z := (⟨"com/example/demarc/demarc/Propagation", "step", "(Z)Lcom/example/demarc/demarc/Propagation$Step;"⟩ : MethodName)) hown (mvT hZ (hwi hw 8 rfl)) (mvT hZ (hwi hw 9 rfl)) (notFace_of_selects (args := #[]) (mvT hZ (hwi hw 11 rfl))) (mvT hZ (hwi hw 11 rfl)) (mvT hZ (hwi hw 10 rfl)) (by decide) (backOf (W := 0) (rm_step_0 l Z a0 hw [] w_NEVER w_WITHOUT h0 n0 Z0 (F_w_NEVER__outside.ext O0.2)) hZ (hwi hw 12 rfl) (hwi hw 6 rfl) (by decide) (by decide)) q3a q3c (g := (mkF m 21 #[.val (.int p1), .val (.int 5), .val (.ref w_NEVER), .val (.ref w_REFUSE), .unset] [(.int 0), (.ref w_NEVER)])) rfl (by rw [hml]; rfl) (Steps.refl _) (argsL := [(.int 0)]) (rest := []) (lenOf pd_Z_Lcom_example_demarc_demarc_Propagation_Step_405 rfl) rfl (by show 2 * 0 + _ ≤ _; exact Nat.le_of_eq rfl) (hb hby at_21) (fun _ _ => ⟨rfl, e2, (by decide : 0 + 0 ≤ _), (by decide : 0 + 0 ≤ _)⟩)
  dsimp only [Pt.U, Pt.locs, Pt.cells, Pt.slots] at X3 l3 y3 z3 st3 hQ3
  subst l3 y3 z3
  obtain ⟨rfl, N3q, e3⟩ := hQ3
  have N3 := Fr.app N2 N3q
  obtain ⟨_, _, ⟨T4, L4, k4, n4⟩, -, X4, ⟨Lc4, hQ4, l4, y4, z4⟩, st4⟩ := Jvm.LawKit.callS X3 hx (y := (⟨"com/example/demarc/demarc/PropagationStepPinLaw", "expectIn", "(I)Lcom/example/demarc/demarc/Propagation$Step;"⟩ : MethodName)) hown (mvT hZ (hwi hw 20 rfl)) (mvT hZ (hwi hw 21 rfl)) (mvT hZ (hwi hw 3 rfl)) (mvT hZ (hwi hw 22 rfl)) (by decide) (backOf (W := 1) (rm_ein_5 l Z a0 hw [] w_REFUSE h0 n0 Z0 S_REFUSE O0) hZ (hwi hw 22 rfl) (hwi hw 3 rfl) (by decide) (by decide)) (g := (mkF m 28 #[.val (.int p1), .val (.int 5), .val (.ref w_NEVER), .val (.ref w_REFUSE), .val (.ref w_WITHOUT)] [(.int 5), (.ref w_REFUSE)])) rfl (by rw [hml]; rfl) (argsL := [(.int 5)]) (rest := [(.ref w_REFUSE)]) (lenOf pd_I_Lcom_example_demarc_demarc_Propagation_Step_388 rfl) rfl (by show 2 * 0 + _ ≤ _; exact Nat.le_of_eq rfl) (hb hby at_28) (fun _ _ => ⟨rfl, e3, (by decide : 0 + 0 ≤ _), (by decide : 0 + 0 ≤ _)⟩)
  dsimp only [Pt.U, Pt.locs, Pt.cells, Pt.slots] at X4 l4 y4 z4 st4 hQ4
  subst l4 y4 z4
  obtain ⟨rfl, N4q, e4⟩ := hQ4
  have N4 := Fr.app N3 N4q
  obtain ⟨_, _, ⟨T5, L5, k5, n5⟩, -, X5, ⟨Lc5, hQ5, l5, y5, z5⟩, st5⟩ := Jvm.LawKit.callS X4 hx (y := (⟨"com/example/demarc/demarc/PropagationStepPinLaw", "expectOut", "(I)Lcom/example/demarc/demarc/Propagation$Step;"⟩ : MethodName)) hown (mvT hZ (hwi hw 24 rfl)) (mvT hZ (hwi hw 25 rfl)) (mvT hZ (hwi hw 3 rfl)) (mvT hZ (hwi hw 26 rfl)) (by decide) (backOf (W := 1) (rm_eout_5 l Z a0 hw [] w_WITHOUT h0 n0 Z0 S_WITHOUT O0) hZ (hwi hw 26 rfl) (hwi hw 3 rfl) (by decide) (by decide)) (g := (mkF m 37 #[.val (.int p1), .val (.int 5), .val (.ref w_NEVER), .val (.ref w_REFUSE), .val (.ref w_WITHOUT)] [(.int 5), (.ref w_WITHOUT)])) rfl (by rw [hml]; rfl) (argsL := [(.int 5)]) (rest := [(.ref w_WITHOUT)]) (lenOf pd_I_Lcom_example_demarc_demarc_Propagation_Step_388 rfl) rfl (by show 2 * 0 + _ ≤ _; exact Nat.le_of_eq rfl) (hb hby at_37) (fun _ _ => ⟨rfl, e4, (by decide : 0 + 0 ≤ _), (by decide : 0 + 0 ≤ _)⟩)
  dsimp only [Pt.U, Pt.locs, Pt.cells, Pt.slots] at X5 l5 y5 z5 st5 hQ5
  subst l5 y5 z5
  obtain ⟨rfl, N5q, e5⟩ := hQ5
  have N5 := Fr.app N4 N5q
  obtain ⟨fs, hr, hrun, hended, hW, hsame⟩ := X5.leave (v := some (.int 1)) (fun h => by rw [Bd.returns] at h; cases h)
  refine ⟨_, _, pre0 _ ?_, hrun, hended, _, _, rfl, ?_, ⟨_, rfl⟩, hW, hsame.mono (by decide) (by decide)⟩
  · show St p e below s₁ (mkF m 0 #[.val (.int p1), .unset, .unset, .unset, .unset] []) _
    refine XS.iloadN X0.here hx rfl (hb hby at_0) rfl ?_
    show St p e below s₁ (mkF m 1 #[.val (.int p1), .unset, .unset, .unset, .unset] [(.int p1)]) _
    refine X0.ldcInt hx hown (mvT hZ (hwi hw 0 rfl)) (g := (mkF m 1 #[.val (.int p1), .unset, .unset, .unset, .unset] [(.int p1)])) rfl (hb hby at_1) _ ?_
    show St p e below s₁ (mkF m 3 #[.val (.int p1), .unset, .unset, .unset, .unset] [(.int 2147483647), (.int p1)]) _
    refine XS.iand X0.here hx rfl (hb hby at_3) rfl ?_
    show St p e below s₁ (mkF m 4 #[.val (.int p1), .unset, .unset, .unset, .unset] [(.int (p1 &&& (2147483647 : Int32)))]) _
    refine XS.bipush X0.here hx rfl (hb hby at_4) ?_
    show St p e below s₁ (mkF m 6 #[.val (.int p1), .unset, .unset, .unset, .unset] [(.int 7), (.int (p1 &&& (2147483647 : Int32)))]) _
    refine iremM X0 hx rfl (hb hby at_6) rfl (by decide) ?_
    show St p e below s₁ (mkF m 7 #[.val (.int p1), .unset, .unset, .unset, .unset] [(.int ((p1 &&& (2147483647 : Int32)) % (7 : Int32)))]) _
    rw [hk]
    show St p e below s₁ (mkF m 7 #[.val (.int p1), .unset, .unset, .unset, .unset] [(.int 5)]) _
    refine XS.istoreN X0.here hx rfl (hb hby at_7) rfl (l' := #[.val (.int p1), .val (.int 5), .unset, .unset, .unset]) rfl ?_
    show St p e below s₁ (mkF m 8 #[.val (.int p1), .val (.int 5), .unset, .unset, .unset] []) _
    refine XS.iloadN X0.here hx rfl (hb hby at_8) rfl ?_
    show St p e below s₁ (mkF m 9 #[.val (.int p1), .val (.int 5), .unset, .unset, .unset] [(.int 5)]) _
    refine st1 _ ?_
    show St p e below T1 (mkF m 12 #[.val (.int p1), .val (.int 5), .unset, .unset, .unset] [(.ref w_NEVER)]) _
    refine XS.astoreN X1.here hx rfl (hb hby at_12) rfl rfl (l' := #[.val (.int p1), .val (.int 5), .val (.ref w_NEVER), .unset, .unset]) rfl ?_
    show St p e below T1 (mkF m 13 #[.val (.int p1), .val (.int 5), .val (.ref w_NEVER), .unset, .unset] []) _
    refine XS.aloadN X1.here hx rfl (hb hby at_13) rfl rfl ?_
    show St p e below T1 (mkF m 14 #[.val (.int p1), .val (.int 5), .val (.ref w_NEVER), .unset, .unset] [(.ref w_NEVER)]) _
    refine XS.iconst X1.here hx rfl (hb hby at_14) ?_
    show St p e below T1 (mkF m 15 #[.val (.int p1), .val (.int 5), .val (.ref w_NEVER), .unset, .unset] [(.int 1), (.ref w_NEVER)]) _
    refine st2.trans ?_
    show St p e below T2 (mkF m 18 #[.val (.int p1), .val (.int 5), .val (.ref w_NEVER), .unset, .unset] [(.ref w_REFUSE)]) _
    refine XS.astoreN X2.here hx rfl (hb hby at_18) rfl rfl (l' := #[.val (.int p1), .val (.int 5), .val (.ref w_NEVER), .val (.ref w_REFUSE), .unset]) rfl ?_
    show St p e below T2 (mkF m 19 #[.val (.int p1), .val (.int 5), .val (.ref w_NEVER), .val (.ref w_REFUSE), .unset] []) _
    refine XS.aloadN X2.here hx rfl (hb hby at_19) rfl rfl ?_
    show St p e below T2 (mkF m 20 #[.val (.int p1), .val (.int 5), .val (.ref w_NEVER), .val (.ref w_REFUSE), .unset] [(.ref w_NEVER)]) _
    refine XS.iconst X2.here hx rfl (hb hby at_20) ?_
    show St p e below T2 (mkF m 21 #[.val (.int p1), .val (.int 5), .val (.ref w_NEVER), .val (.ref w_REFUSE), .unset] [(.int 0), (.ref w_NEVER)]) _
    refine st3.trans ?_
    show St p e below T3 (mkF m 24 #[.val (.int p1), .val (.int 5), .val (.ref w_NEVER), .val (.ref w_REFUSE), .unset] [(.ref w_WITHOUT)]) _
    refine XS.astore X3.here hx rfl (hb hby at_24) rfl rfl (l' := #[.val (.int p1), .val (.int 5), .val (.ref w_NEVER), .val (.ref w_REFUSE), .val (.ref w_WITHOUT)]) rfl ?_
    show St p e below T3 (mkF m 26 #[.val (.int p1), .val (.int 5), .val (.ref w_NEVER), .val (.ref w_REFUSE), .val (.ref w_WITHOUT)] []) _
    refine XS.aloadN X3.here hx rfl (hb hby at_26) rfl rfl ?_
    show St p e below T3 (mkF m 27 #[.val (.int p1), .val (.int 5), .val (.ref w_NEVER), .val (.ref w_REFUSE), .val (.ref w_WITHOUT)] [(.ref w_REFUSE)]) _
    refine XS.iloadN X3.here hx rfl (hb hby at_27) rfl ?_
    show St p e below T3 (mkF m 28 #[.val (.int p1), .val (.int 5), .val (.ref w_NEVER), .val (.ref w_REFUSE), .val (.ref w_WITHOUT)] [(.int 5), (.ref w_REFUSE)]) _
    refine st4 _ ?_
    show St p e below T4 (mkF m 31 #[.val (.int p1), .val (.int 5), .val (.ref w_NEVER), .val (.ref w_REFUSE), .val (.ref w_WITHOUT)] [(.ref w_REFUSE), (.ref w_REFUSE)]) _
    refine Jvm.RoadKit.acmp (g := (mkF m 31 #[.val (.int p1), .val (.int 5), .val (.ref w_NEVER), .val (.ref w_REFUSE), .val (.ref w_WITHOUT)] [(.ref w_REFUSE), (.ref w_REFUSE)])) X4 hx rfl rfl rfl (pc0 := 31) (pc' := 34) (same := true) rfl (hb hby at_31) rfl (decide_eq_true rfl) (by decide) (by decide) ?_
    show St p e below T4 (mkF m 34 #[.val (.int p1), .val (.int 5), .val (.ref w_NEVER), .val (.ref w_REFUSE), .val (.ref w_WITHOUT)] []) _
    refine XS.aload X4.here hx rfl (hb hby at_34) rfl rfl ?_
    show St p e below T4 (mkF m 36 #[.val (.int p1), .val (.int 5), .val (.ref w_NEVER), .val (.ref w_REFUSE), .val (.ref w_WITHOUT)] [(.ref w_WITHOUT)]) _
    refine XS.iloadN X4.here hx rfl (hb hby at_36) rfl ?_
    show St p e below T4 (mkF m 37 #[.val (.int p1), .val (.int 5), .val (.ref w_NEVER), .val (.ref w_REFUSE), .val (.ref w_WITHOUT)] [(.int 5), (.ref w_WITHOUT)]) _
    refine st5 _ ?_
    show St p e below T5 (mkF m 40 #[.val (.int p1), .val (.int 5), .val (.ref w_NEVER), .val (.ref w_REFUSE), .val (.ref w_WITHOUT)] [(.ref w_WITHOUT), (.ref w_WITHOUT)]) _
    refine Jvm.RoadKit.acmp (g := (mkF m 40 #[.val (.int p1), .val (.int 5), .val (.ref w_NEVER), .val (.ref w_REFUSE), .val (.ref w_WITHOUT)] [(.ref w_WITHOUT), (.ref w_WITHOUT)])) X5 hx rfl rfl rfl (pc0 := 40) (pc' := 43) (same := true) rfl (hb hby at_40) rfl (decide_eq_true rfl) (by decide) (by decide) ?_
    show St p e below T5 (mkF m 43 #[.val (.int p1), .val (.int 5), .val (.ref w_NEVER), .val (.ref w_REFUSE), .val (.ref w_WITHOUT)] []) _
    refine XS.iconst X5.here hx rfl (hb hby at_43) ?_
    show St p e below T5 (mkF m 44 #[.val (.int p1), .val (.int 5), .val (.ref w_NEVER), .val (.ref w_REFUSE), .val (.ref w_WITHOUT)] [(.int 1)]) _
    refine XS.goto X5.here hx rfl (pc0 := 44) (pc' := 48) rfl (hb hby at_44) (by decide) (by decide) ?_
    show St p e below T5 (mkF m 48 #[.val (.int p1), .val (.int 5), .val (.ref w_NEVER), .val (.ref w_REFUSE), .val (.ref w_WITHOUT)] [(.int 1)]) _
    exact retN X5 hx (t := .boolean) Bd.returns (by simp) (hb hby at_48) hr
  · exact ⟨rfl, N5⟩
set_option maxRecDepth 65536 in
set_option maxHeartbeats 40000000 in
theorem rm_law_6 (l : Launch) (Z : State) (a0 : Array Value) (hw : ∀ d ∈ tables_1, d.before a0 Z = true) (ws : List Jvm.Cond) (p1 : Int32) (w_NESTED : Addr) (w_NEST : Addr) (w_BEGIN : Addr) (h0 : Heap) (n0 : Nat) (Z0 : n0 ≤ h0.size) (S_NESTED : Sta Z Z.heap "com/example/demarc/demarc/Propagation" "NESTED" "Lcom/example/demarc/demarc/Propagation;" (.ref w_NESTED)) (O0 : Old Z n0 h0) (E_w_NESTED : Exa Z Z.heap w_NESTED "com/example/demarc/demarc/Propagation") (S_NEST : Sta Z Z.heap "com/example/demarc/demarc/Propagation$Step" "NEST" "Lcom/example/demarc/demarc/Propagation$Step;" (.ref w_NEST)) (S_BEGIN : Sta Z Z.heap "com/example/demarc/demarc/Propagation$Step" "BEGIN" "Lcom/example/demarc/demarc/Propagation$Step;" (.ref w_BEGIN)) (F_w_NESTED__inTransaction : Fld Z Z.heap w_NESTED "com/example/demarc/demarc/Propagation" "_inTransaction" "Lcom/example/demarc/demarc/Propagation$Step;" (.ref w_NEST)) (F_w_NESTED__outside : Fld Z Z.heap w_NESTED "com/example/demarc/demarc/Propagation" "_outside" "Lcom/example/demarc/demarc/Propagation$Step;" (.ref w_BEGIN)) (hk : ((p1 &&& (2147483647 : Int32)) % (7 : Int32)) = (6 : Int32)) :
    MetFree l x (head1 (Jvm.Cond.code x code maxLocals ret :: ws) room_1) (fun a U => a = #[(.int p1)] ∧ Z.Warmed39 U.vm ∧ U.heap = h0) (fun _ _ _ _ _ => True) (fun _ U o U' => ∃ v L, o = .returned v ∧ Q_law n0 v L ∧ FrameEnd U o U' L room_1.cells room_1.slots) := by
  refine MetFree.of_bodySF (plainFor_of_name pn_0) hisR ?_
  intro p e s m args below meth c s₁ Bd hml0 hP hK
  obtain ⟨rfl, hZ, hh⟩ := hP
  have hx := Bd.exec
  have hby := Bd.bytes
  have hml : c.maxLocals = 5 := hml0
  have hown : s.vm.findClass "com/example/demarc/demarc/PropagationStepPinLaw" = some m.cls := findClass_of_methodNamed Bd.named
  have hnm := (name_of_methodNamed Bd.named Bd.method).1
  have X0 : Stand p l e room_1 s m #[(.int p1)] below meth c s₁ [] 0 0 := Stand.of_body Bd
  have e0 : s₁.heap = h0 := by rw [← hh, Bd.state]; rfl
  have N0 := Fr.nil n0
  have pre0 : ∀ t, Steps p.tables e below (s₁.setTop (mkF m 0 #[.val (.int p1), .unset, .unset, .unset, .unset] [])) t → Steps p.tables e below (s₁.setTop (entryFrame m #[(.int p1)] maxLocals)) t := fun t k => castTop (ef_0_I m p1) k
  obtain ⟨_, _, ⟨T1, L1, k1, n1⟩, -, X1, ⟨Lc1, hQ1, l1, y1, z1⟩, st1⟩ := Jvm.LawKit.callS X0 hx (y := (⟨"com/example/demarc/demarc/PropagationStepPinLaw", "pick", "(I)Lcom/example/demarc/demarc/Propagation;"⟩ : MethodName)) hown (mvT hZ (hwi hw 1 rfl)) (mvT hZ (hwi hw 2 rfl)) (mvT hZ (hwi hw 3 rfl)) (mvT hZ (hwi hw 4 rfl)) (by decide) (backOf (W := 0) (rm_pick_6 l Z a0 hw [] w_NESTED h0 n0 Z0 S_NESTED O0) hZ (hwi hw 4 rfl) (hwi hw 3 rfl) (by decide) (by decide)) (g := (mkF m 9 #[.val (.int p1), .val (.int 6), .unset, .unset, .unset] [(.int 6)])) rfl (by rw [hml]; rfl) (argsL := [(.int 6)]) (rest := []) (lenOf pd_I_Lcom_example_demarc_demarc_Propagation_940 rfl) rfl (by show 2 * 0 + _ ≤ _; exact Nat.le_of_eq rfl) (hb hby at_9) (fun _ _ => ⟨rfl, e0, (by decide : 0 + 0 ≤ _), (by decide : 0 + 0 ≤ _)⟩)
  dsimp only [Pt.U, Pt.locs, Pt.cells, Pt.slots] at X1 l1 y1 z1 st1 hQ1
  subst l1 y1 z1
  obtain ⟨rfl, N1q, e1⟩ := hQ1
  have N1 := Fr.app N0 N1q
  obtain ⟨cq2, kq2, q2a, q2b, q2c⟩ := isOf hZ e1 (E_w_NESTED.ext O0.2)
  obtain ⟨_, _, ⟨T2, L2, k2, n2⟩, -, X2, ⟨Lc2, hQ2, l2, y2, z2⟩, st2⟩ := X1.virtualBack hx (y := (⟨"com/example/demarc/demarc/Propagation", "step", "(Z)Lcom/example/demarc/demarc/Propagation$Step;"⟩ : MethodName)) (z := (⟨"com/example/demarc/demarc/Propagation", "step", "(Z)Lcom/example/demarc/demarc/Propagation$Step;"⟩ : MethodName)) hown (mvT hZ (hwi hw 8 rfl)) (mvT hZ (hwi hw 9 rfl)) (notFace_of_selects (args := #[]) (mvT hZ (hwi hw 11 rfl))) (mvT hZ (hwi hw 11 rfl)) (mvT hZ (hwi hw 10 rfl)) (by decide) (backOf (W := 0) (rm_step_1 l Z a0 hw [] w_NESTED w_NEST h0 n0 Z0 (F_w_NESTED__inTransaction.ext O0.2)) hZ (hwi hw 12 rfl) (hwi hw 6 rfl) (by decide) (by decide)) q2a q2c (g := (mkF m 15 #[.val (.int p1), .val (.int 6), .val (.ref w_NESTED), .unset, .unset] [(.int 1), (.ref w_NESTED)])) rfl (by rw [hml]; rfl) (Steps.refl _) (argsL := [(.int 1)]) (rest := []) (lenOf pd_Z_Lcom_example_demarc_demarc_Propagation_Step_405 rfl) rfl (by show 2 * 0 + _ ≤ _; exact Nat.le_of_eq rfl) (hb hby at_15) (fun _ _ => ⟨rfl, e1, (by decide : 0 + 0 ≤ _), (by decide : 0 + 0 ≤ _)⟩)
  dsimp only [Pt.U, Pt.locs, Pt.cells, Pt.slots] at X2 l2 y2 z2 st2 hQ2
  subst l2 y2 z2
  obtain ⟨rfl, N2q, e2⟩ := hQ2
  have N2 := Fr.app N1 N2q
  obtain ⟨cq3, kq3, q3a, q3b, q3c⟩ := isOf hZ e2 (E_w_NESTED.ext O0.2)
  obtain ⟨_, _, ⟨T3, L3, k3, n3⟩, -, X3, ⟨Lc3, hQ3, l3, y3, z3⟩, st3⟩ := X2.virtualBack hx (y := (⟨"com/example/demarc/demarc/Propagation", "step", "(Z)Lcom/example/demarc/demarc/Propagation$Step;"⟩ : MethodName)) (z := (⟨"com/example/demarc/demarc/Propagation", "step", "(Z)Lcom/example/demarc/demarc/Propagation$Step;"⟩ : MethodName)) hown (mvT hZ (hwi hw 8 rfl)) (mvT hZ (hwi hw 9 rfl)) (notFace_of_selects (args := #[]) (mvT hZ (hwi hw 11 rfl))) (mvT hZ (hwi hw 11 rfl)) (mvT hZ (hwi hw 10 rfl)) (by decide) (backOf (W := 0) (rm_step_0 l Z a0 hw [] w_NESTED w_BEGIN h0 n0 Z0 (F_w_NESTED__outside.ext O0.2)) hZ (hwi hw 12 rfl) (hwi hw 6 rfl) (by decide) (by decide)) q3a q3c (g := (mkF m 21 #[.val (.int p1), .val (.int 6), .val (.ref w_NESTED), .val (.ref w_NEST), .unset] [(.int 0), (.ref w_NESTED)])) rfl (by rw [hml]; rfl) (Steps.refl _) (argsL := [(.int 0)]) (rest := []) (lenOf pd_Z_Lcom_example_demarc_demarc_Propagation_Step_405 rfl) rfl (by show 2 * 0 + _ ≤ _; exact Nat.le_of_eq rfl) (hb hby at_21) (fun _ _ => ⟨rfl, e2, (by decide : 0 + 0 ≤ _), (by decide : 0 + 0 ≤ _)⟩)
  dsimp only [Pt.U, Pt.locs, Pt.cells, Pt.slots] at X3 l3 y3 z3 st3 hQ3
  subst l3 y3 z3
  obtain ⟨rfl, N3q, e3⟩ := hQ3
  have N3 := Fr.app N2 N3q
  obtain ⟨_, _, ⟨T4, L4, k4, n4⟩, -, X4, ⟨Lc4, hQ4, l4, y4, z4⟩, st4⟩ := Jvm.LawKit.callS X3 hx (y := (⟨"com/example/demarc/demarc/PropagationStepPinLaw", "expectIn", "(I)Lcom/example/demarc/demarc/Propagation$Step;"⟩ : MethodName)) hown (mvT hZ (hwi hw 20 rfl)) (mvT hZ (hwi hw 21 rfl)) (mvT hZ (hwi hw 3 rfl)) (mvT hZ (hwi hw 22 rfl)) (by decide) (backOf (W := 1) (rm_ein_6 l Z a0 hw [] w_NEST h0 n0 Z0 S_NEST O0) hZ (hwi hw 22 rfl) (hwi hw 3 rfl) (by decide) (by decide)) (g := (mkF m 28 #[.val (.int p1), .val (.int 6), .val (.ref w_NESTED), .val (.ref w_NEST), .val (.ref w_BEGIN)] [(.int 6), (.ref w_NEST)])) rfl (by rw [hml]; rfl) (argsL := [(.int 6)]) (rest := [(.ref w_NEST)]) (lenOf pd_I_Lcom_example_demarc_demarc_Propagation_Step_388 rfl) rfl (by show 2 * 0 + _ ≤ _; exact Nat.le_of_eq rfl) (hb hby at_28) (fun _ _ => ⟨rfl, e3, (by decide : 0 + 0 ≤ _), (by decide : 0 + 0 ≤ _)⟩)
  dsimp only [Pt.U, Pt.locs, Pt.cells, Pt.slots] at X4 l4 y4 z4 st4 hQ4
  subst l4 y4 z4
  obtain ⟨rfl, N4q, e4⟩ := hQ4
  have N4 := Fr.app N3 N4q
  obtain ⟨_, _, ⟨T5, L5, k5, n5⟩, -, X5, ⟨Lc5, hQ5, l5, y5, z5⟩, st5⟩ := Jvm.LawKit.callS X4 hx (y := (⟨"com/example/demarc/demarc/PropagationStepPinLaw", "expectOut", "(I)Lcom/example/demarc/demarc/Propagation$Step;"⟩ : MethodName)) hown (mvT hZ (hwi hw 24 rfl)) (mvT hZ (hwi hw 25 rfl)) (mvT hZ (hwi hw 3 rfl)) (mvT hZ (hwi hw 26 rfl)) (by decide) (backOf (W := 1) (rm_eout_6 l Z a0 hw [] w_BEGIN h0 n0 Z0 S_BEGIN O0) hZ (hwi hw 26 rfl) (hwi hw 3 rfl) (by decide) (by decide)) (g := (mkF m 37 #[.val (.int p1), .val (.int 6), .val (.ref w_NESTED), .val (.ref w_NEST), .val (.ref w_BEGIN)] [(.int 6), (.ref w_BEGIN)])) rfl (by rw [hml]; rfl) (argsL := [(.int 6)]) (rest := [(.ref w_BEGIN)]) (lenOf pd_I_Lcom_example_demarc_demarc_Propagation_Step_388 rfl) rfl (by show 2 * 0 + _ ≤ _; exact Nat.le_of_eq rfl) (hb hby at_37) (fun _ _ => ⟨rfl, e4, (by decide : 0 + 0 ≤ _), (by decide : 0 + 0 ≤ _)⟩)
  dsimp only [Pt.U, Pt.locs, Pt.cells, Pt.slots] at X5 l5 y5 z5 st5 hQ5
  subst l5 y5 z5
  obtain ⟨rfl, N5q, e5⟩ := hQ5
  have N5 := Fr.app N4 N5q
  obtain ⟨fs, hr, hrun, hended, hW, hsame⟩ := X5.leave (v := some (.int 1)) (fun h => by rw [Bd.returns] at h; cases h)
  refine ⟨_, _, pre0 _ ?_, hrun, hended, _, _, rfl, ?_, ⟨_, rfl⟩, hW, hsame.mono (by decide) (by decide)⟩
  · show St p e below s₁ (mkF m 0 #[.val (.int p1), .unset, .unset, .unset, .unset] []) _
    refine XS.iloadN X0.here hx rfl (hb hby at_0) rfl ?_
    show St p e below s₁ (mkF m 1 #[.val (.int p1), .unset, .unset, .unset, .unset] [(.int p1)]) _
    refine X0.ldcInt hx hown (mvT hZ (hwi hw 0 rfl)) (g := (mkF m 1 #[.val (.int p1), .unset, .unset, .unset, .unset] [(.int p1)])) rfl (hb hby at_1) _ ?_
    show St p e below s₁ (mkF m 3 #[.val (.int p1), .unset, .unset, .unset, .unset] [(.int 2147483647), (.int p1)]) _
    refine XS.iand X0.here hx rfl (hb hby at_3) rfl ?_
    show St p e below s₁ (mkF m 4 #[.val (.int p1), .unset, .unset, .unset, .unset] [(.int (p1 &&& (2147483647 : Int32)))]) _
    refine XS.bipush X0.here hx rfl (hb hby at_4) ?_
    show St p e below s₁ (mkF m 6 #[.val (.int p1), .unset, .unset, .unset, .unset] [(.int 7), (.int (p1 &&& (2147483647 : Int32)))]) _
    refine iremM X0 hx rfl (hb hby at_6) rfl (by decide) ?_
    show St p e below s₁ (mkF m 7 #[.val (.int p1), .unset, .unset, .unset, .unset] [(.int ((p1 &&& (2147483647 : Int32)) % (7 : Int32)))]) _
    rw [hk]
    show St p e below s₁ (mkF m 7 #[.val (.int p1), .unset, .unset, .unset, .unset] [(.int 6)]) _
    refine XS.istoreN X0.here hx rfl (hb hby at_7) rfl (l' := #[.val (.int p1), .val (.int 6), .unset, .unset, .unset]) rfl ?_
    show St p e below s₁ (mkF m 8 #[.val (.int p1), .val (.int 6), .unset, .unset, .unset] []) _
    refine XS.iloadN X0.here hx rfl (hb hby at_8) rfl ?_
    show St p e below s₁ (mkF m 9 #[.val (.int p1), .val (.int 6), .unset, .unset, .unset] [(.int 6)]) _
    refine st1 _ ?_
    show St p e below T1 (mkF m 12 #[.val (.int p1), .val (.int 6), .unset, .unset, .unset] [(.ref w_NESTED)]) _
    refine XS.astoreN X1.here hx rfl (hb hby at_12) rfl rfl (l' := #[.val (.int p1), .val (.int 6), .val (.ref w_NESTED), .unset, .unset]) rfl ?_
    show St p e below T1 (mkF m 13 #[.val (.int p1), .val (.int 6), .val (.ref w_NESTED), .unset, .unset] []) _
    refine XS.aloadN X1.here hx rfl (hb hby at_13) rfl rfl ?_
    show St p e below T1 (mkF m 14 #[.val (.int p1), .val (.int 6), .val (.ref w_NESTED), .unset, .unset] [(.ref w_NESTED)]) _
    refine XS.iconst X1.here hx rfl (hb hby at_14) ?_
    show St p e below T1 (mkF m 15 #[.val (.int p1), .val (.int 6), .val (.ref w_NESTED), .unset, .unset] [(.int 1), (.ref w_NESTED)]) _
    refine st2.trans ?_
    show St p e below T2 (mkF m 18 #[.val (.int p1), .val (.int 6), .val (.ref w_NESTED), .unset, .unset] [(.ref w_NEST)]) _
    refine XS.astoreN X2.here hx rfl (hb hby at_18) rfl rfl (l' := #[.val (.int p1), .val (.int 6), .val (.ref w_NESTED), .val (.ref w_NEST), .unset]) rfl ?_
    show St p e below T2 (mkF m 19 #[.val (.int p1), .val (.int 6), .val (.ref w_NESTED), .val (.ref w_NEST), .unset] []) _
    refine XS.aloadN X2.here hx rfl (hb hby at_19) rfl rfl ?_
    show St p e below T2 (mkF m 20 #[.val (.int p1), .val (.int 6), .val (.ref w_NESTED), .val (.ref w_NEST), .unset] [(.ref w_NESTED)]) _
    refine XS.iconst X2.here hx rfl (hb hby at_20) ?_
    show St p e below T2 (mkF m 21 #[.val (.int p1), .val (.int 6), .val (.ref w_NESTED), .val (.ref w_NEST), .unset] [(.int 0), (.ref w_NESTED)]) _
    refine st3.trans ?_
    show St p e below T3 (mkF m 24 #[.val (.int p1), .val (.int 6), .val (.ref w_NESTED), .val (.ref w_NEST), .unset] [(.ref w_BEGIN)]) _
    refine XS.astore X3.here hx rfl (hb hby at_24) rfl rfl (l' := #[.val (.int p1), .val (.int 6), .val (.ref w_NESTED), .val (.ref w_NEST), .val (.ref w_BEGIN)]) rfl ?_
    show St p e below T3 (mkF m 26 #[.val (.int p1), .val (.int 6), .val (.ref w_NESTED), .val (.ref w_NEST), .val (.ref w_BEGIN)] []) _
    refine XS.aloadN X3.here hx rfl (hb hby at_26) rfl rfl ?_
    show St p e below T3 (mkF m 27 #[.val (.int p1), .val (.int 6), .val (.ref w_NESTED), .val (.ref w_NEST), .val (.ref w_BEGIN)] [(.ref w_NEST)]) _
    refine XS.iloadN X3.here hx rfl (hb hby at_27) rfl ?_
    show St p e below T3 (mkF m 28 #[.val (.int p1), .val (.int 6), .val (.ref w_NESTED), .val (.ref w_NEST), .val (.ref w_BEGIN)] [(.int 6), (.ref w_NEST)]) _
    refine st4 _ ?_
    show St p e below T4 (mkF m 31 #[.val (.int p1), .val (.int 6), .val (.ref w_NESTED), .val (.ref w_NEST), .val (.ref w_BEGIN)] [(.ref w_NEST), (.ref w_NEST)]) _
    refine Jvm.RoadKit.acmp (g := (mkF m 31 #[.val (.int p1), .val (.int 6), .val (.ref w_NESTED), .val (.ref w_NEST), .val (.ref w_BEGIN)] [(.ref w_NEST), (.ref w_NEST)])) X4 hx rfl rfl rfl (pc0 := 31) (pc' := 34) (same := true) rfl (hb hby at_31) rfl (decide_eq_true rfl) (by decide) (by decide) ?_
    show St p e below T4 (mkF m 34 #[.val (.int p1), .val (.int 6), .val (.ref w_NESTED), .val (.ref w_NEST), .val (.ref w_BEGIN)] []) _
    refine XS.aload X4.here hx rfl (hb hby at_34) rfl rfl ?_
    show St p e below T4 (mkF m 36 #[.val (.int p1), .val (.int 6), .val (.ref w_NESTED), .val (.ref w_NEST), .val (.ref w_BEGIN)] [(.ref w_BEGIN)]) _
    refine XS.iloadN X4.here hx rfl (hb hby at_36) rfl ?_
    show St p e below T4 (mkF m 37 #[.val (.int p1), .val (.int 6), .val (.ref w_NESTED), .val (.ref w_NEST), .val (.ref w_BEGIN)] [(.int 6), (.ref w_BEGIN)]) _
    refine st5 _ ?_
    show St p e below T5 (mkF m 40 #[.val (.int p1), .val (.int 6), .val (.ref w_NESTED), .val (.ref w_NEST), .val (.ref w_BEGIN)] [(.ref w_BEGIN), (.ref w_BEGIN)]) _
    refine Jvm.RoadKit.acmp (g := (mkF m 40 #[.val (.int p1), .val (.int 6), .val (.ref w_NESTED), .val (.ref w_NEST), .val (.ref w_BEGIN)] [(.ref w_BEGIN), (.ref w_BEGIN)])) X5 hx rfl rfl rfl (pc0 := 40) (pc' := 43) (same := true) rfl (hb hby at_40) rfl (decide_eq_true rfl) (by decide) (by decide) ?_
    show St p e below T5 (mkF m 43 #[.val (.int p1), .val (.int 6), .val (.ref w_NESTED), .val (.ref w_NEST), .val (.ref w_BEGIN)] []) _
    refine XS.iconst X5.here hx rfl (hb hby at_43) ?_
    show St p e below T5 (mkF m 44 #[.val (.int p1), .val (.int 6), .val (.ref w_NESTED), .val (.ref w_NEST), .val (.ref w_BEGIN)] [(.int 1)]) _
    refine XS.goto X5.here hx rfl (pc0 := 44) (pc' := 48) rfl (hb hby at_44) (by decide) (by decide) ?_
    show St p e below T5 (mkF m 48 #[.val (.int p1), .val (.int 6), .val (.ref w_NESTED), .val (.ref w_NEST), .val (.ref w_BEGIN)] [(.int 1)]) _
    exact retN X5 hx (t := .boolean) Bd.returns (by simp) (hb hby at_48) hr
  · exact ⟨rfl, N5⟩
theorem own_rem7 (x : Int32) : ((x &&& (2147483647 : Int32)) % (7 : Int32)) = (0 : Int32) ∨ ((x &&& (2147483647 : Int32)) % (7 : Int32)) = (1 : Int32) ∨ ((x &&& (2147483647 : Int32)) % (7 : Int32)) = (2 : Int32) ∨ ((x &&& (2147483647 : Int32)) % (7 : Int32)) = (3 : Int32) ∨ ((x &&& (2147483647 : Int32)) % (7 : Int32)) = (4 : Int32) ∨ ((x &&& (2147483647 : Int32)) % (7 : Int32)) = (5 : Int32) ∨ ((x &&& (2147483647 : Int32)) % (7 : Int32)) = (6 : Int32) := by
  have h := c_and x (2147483647 : Int32) (by decide)
  have h2 := (c_iremV (x &&& (2147483647 : Int32)) (7 : Int32)).1 h.1 (by decide)
  rw [show (7 : Int32).toInt = 7 by decide] at h2
  have q : (((x &&& (2147483647 : Int32)) % (7 : Int32))).toInt = 0 ∨ (((x &&& (2147483647 : Int32)) % (7 : Int32))).toInt = 1 ∨ (((x &&& (2147483647 : Int32)) % (7 : Int32))).toInt = 2 ∨ (((x &&& (2147483647 : Int32)) % (7 : Int32))).toInt = 3 ∨ (((x &&& (2147483647 : Int32)) % (7 : Int32))).toInt = 4 ∨ (((x &&& (2147483647 : Int32)) % (7 : Int32))).toInt = 5 ∨ (((x &&& (2147483647 : Int32)) % (7 : Int32))).toInt = 6 := by omega
  rcases q with q | q | q | q | q | q | q
  · exact Or.inl (Int32.toInt_inj.mp (q.trans (by decide)))
  · exact Or.inr (Or.inl (Int32.toInt_inj.mp (q.trans (by decide))))
  · exact Or.inr (Or.inr (Or.inl (Int32.toInt_inj.mp (q.trans (by decide)))))
  · exact Or.inr (Or.inr (Or.inr (Or.inl (Int32.toInt_inj.mp (q.trans (by decide))))))
  · exact Or.inr (Or.inr (Or.inr (Or.inr (Or.inl (Int32.toInt_inj.mp (q.trans (by decide)))))))
  · exact Or.inr (Or.inr (Or.inr (Or.inr (Or.inr (Or.inl (Int32.toInt_inj.mp (q.trans (by decide))))))))
  · exact Or.inr (Or.inr (Or.inr (Or.inr (Or.inr (Or.inr (Int32.toInt_inj.mp (q.trans (by decide))))))))
theorem own_fi {s : State} {args : Array Value} {t : Term} {C n d : String} {k : Int32} {a : Addr} (ev : t.eval args s none [] s = some (.ref a)) (h : (Jvm.Cond.eq (Term.field t C n d) (Term.int k)).value args s none s [] = some true) : Fld s s.heap a C n d (.int k) := by
  obtain ⟨x, y, h1, h2, h3, h4⟩ := cmp_v (Or.inl h)
  have e2 : y = .int k := (Option.some.inj (h2.symm.trans (Term.int_eval k)))
  subst e2
  obtain ⟨z, rfl⟩ := h4
  have e3 : z = k := gotT (Cond.eq_ints h1 h2) h
  subst e3
  exact Fld.start ((fld_at ev).symm.trans h1)
theorem own_fr {s : State} {args : Array Value} {t u : Term} {C n d : String} {a b : Addr} (ev : t.eval args s none [] s = some (.ref a)) (ev2 : u.eval args s none [] s = some (.ref b)) (h : (Jvm.Cond.eq (Term.field t C n d) u).value args s none s [] = some true) : Fld s s.heap a C n d (.ref b) := by
  obtain ⟨x, y, h1, h2, h3, h4⟩ := cmp_v (Or.inl h)
  obtain rfl : y = .ref b := Option.some.inj (h2.symm.trans ev2)
  have hx : x.isRef = true := h4.2
  have e3 : x = .ref b := gotT (eq_R h1 h2 hx rfl) h
  subst e3
  exact Fld.start ((fld_at ev).symm.trans h1)
set_option maxRecDepth 65536 in
set_option maxHeartbeats 40000000 in
theorem comes_1 {Post : Tables → Env → Array Value → State → Outcome → State → Prop} (hpost : ∀ tb e args s v u, (limb_1_1.after args s (.returned v) u = true ∧ limb_1_2.after args s (.returned v) u = true ∧ True) → FrameEnd s (.returned v) u (Jvm.fieldLocs frame_1_writes args s ++ Jvm.arrayLocs frame_1_arrays args s ++ Jvm.staticLocs frame_1_statics s) 0 0 → Post tb e args s (.returned v) u) :
    ArmFor flags0 classFile x code maxLocals ret World_1 tables_1 room_1 Calls_1 rest_1 Pre_1 Post := by
  intro l hfl _ _ p e ha hc hk s m args below hf hA hF happ hP
  obtain ⟨hcalls, hrest, hpre⟩ := hP
  obtain ⟨-, -, -, hnamed, -, -, -, hat⟩ := (Spec.applies_iff hf).mp happ
  obtain ⟨hg, hn⟩ := and_e (Cond.before_iff.mp (show (Jvm.Cond.and given_1 narrow_1).before args s = true from hpre))
  obtain ⟨j1, j2⟩ := and_e hg
  obtain ⟨j3, j4⟩ := and_e hn
  obtain ⟨j5, j6⟩ := and_e j4
  obtain ⟨j7, j8⟩ := and_e j6
  obtain ⟨j9, j10⟩ := and_e j8
  obtain ⟨j11, j12⟩ := and_e j10
  obtain ⟨j13, j14⟩ := and_e j12
  obtain ⟨j15, j16⟩ := and_e j14
  obtain ⟨j17, j18⟩ := and_e j16
  obtain ⟨j19, j20⟩ := and_e j18
  obtain ⟨j21, j22⟩ := and_e j20
  obtain ⟨j23, j24⟩ := and_e j22
  obtain ⟨j25, j26⟩ := and_e j24
  obtain ⟨j27, j28⟩ := and_e j26
  obtain ⟨j29, j30⟩ := and_e j28
  obtain ⟨j31, j32⟩ := and_e j30
  obtain ⟨j33, j34⟩ := and_e j32
  obtain ⟨j35, j36⟩ := and_e j34
  obtain ⟨j37, j38⟩ := and_e j36
  obtain ⟨j39, j40⟩ := and_e j38
  obtain ⟨j41, j42⟩ := and_e j40
  obtain ⟨j43, j44⟩ := and_e j42
  obtain ⟨j45, j46⟩ := and_e j44
  obtain ⟨j47, j48⟩ := and_e j46
  obtain ⟨j49, j50⟩ := and_e j48
  obtain ⟨j51, j52⟩ := and_e j50
  obtain ⟨w0, rfl⟩ : ∃ w0 : Value, args = #[w0] := by
    have hs : args.size = 1 := by simpa [Cond.value, given_1] using j1
    obtain ⟨L⟩ := args
    match L, hs with
    | [w0], _ => exact ⟨w0, rfl⟩
  have hw := fun d (hd : d ∈ tables_1) => atoms_spec (ws := Jvm.Cond.code x code maxLocals ret :: tables_1) hat d (List.mem_cons_of_mem _ hd)
  have hfit : Fit s := fun {y c} hc i hi => by
    obtain ⟨ha, rfl⟩ := Array.getElem?_eq_some_iff.mp hc
    have q := List.all_eq_true.mp ((Array.all_eq_true_iff_forall_mem.mp hF) _ (Array.getElem_mem ha)) i (List.mem_range.mpr hi)
    simpa [Array.getElem?_eq_getElem hi] using q
  obtain ⟨i0, ei0⟩ := is_v j2
  obtain rfl : w0 = (.int i0) := Option.some.inj ei0
  obtain ⟨w_REQUIRED, ev_w_REQUIRED⟩ := exa_v j3
  have S_REQUIRED := Sta.start ev_w_REQUIRED (Or.inr ⟨(hwi hw 6 rfl), (hwi hw 7 rfl)⟩)
  have E_w_REQUIRED := Exa.start ev_w_REQUIRED j3
  obtain ⟨w_JOIN, ev_w_JOIN⟩ := exa_v j5
  have S_JOIN := Sta.start ev_w_JOIN (Or.inr ⟨(hwi hw 15 rfl), (hwi hw 16 rfl)⟩)
  have E_w_JOIN := Exa.start ev_w_JOIN j5
  obtain ⟨w_BEGIN, ev_w_BEGIN⟩ := exa_v j9
  have S_BEGIN := Sta.start ev_w_BEGIN (Or.inr ⟨(hwi hw 15 rfl), (hwi hw 19 rfl)⟩)
  have E_w_BEGIN := Exa.start ev_w_BEGIN j9
  obtain ⟨w_SUPPORTS, ev_w_SUPPORTS⟩ := exa_v j13
  have S_SUPPORTS := Sta.start ev_w_SUPPORTS (Or.inr ⟨(hwi hw 6 rfl), (hwi hw 29 rfl)⟩)
  have E_w_SUPPORTS := Exa.start ev_w_SUPPORTS j13
  obtain ⟨w_WITHOUT, ev_w_WITHOUT⟩ := exa_v j17
  have S_WITHOUT := Sta.start ev_w_WITHOUT (Or.inr ⟨(hwi hw 15 rfl), (hwi hw 30 rfl)⟩)
  have E_w_WITHOUT := Exa.start ev_w_WITHOUT j17
  obtain ⟨w_NEVER, ev_w_NEVER⟩ := exa_v j21
  have S_NEVER := Sta.start ev_w_NEVER (Or.inr ⟨(hwi hw 6 rfl), (hwi hw 33 rfl)⟩)
  have E_w_NEVER := Exa.start ev_w_NEVER j21
  obtain ⟨w_REFUSE, ev_w_REFUSE⟩ := exa_v j23
  have S_REFUSE := Sta.start ev_w_REFUSE (Or.inr ⟨(hwi hw 15 rfl), (hwi hw 34 rfl)⟩)
  have E_w_REFUSE := Exa.start ev_w_REFUSE j23
  obtain ⟨w_NESTED, ev_w_NESTED⟩ := exa_v j29
  have S_NESTED := Sta.start ev_w_NESTED (Or.inr ⟨(hwi hw 6 rfl), (hwi hw 37 rfl)⟩)
  have E_w_NESTED := Exa.start ev_w_NESTED j29
  obtain ⟨w_NEST, ev_w_NEST⟩ := exa_v j31
  have S_NEST := Sta.start ev_w_NEST (Or.inr ⟨(hwi hw 15 rfl), (hwi hw 38 rfl)⟩)
  have E_w_NEST := Exa.start ev_w_NEST j31
  obtain ⟨w_NOT_SUPPORTED, ev_w_NOT_SUPPORTED⟩ := exa_v j37
  have S_NOT_SUPPORTED := Sta.start ev_w_NOT_SUPPORTED (Or.inr ⟨(hwi hw 6 rfl), (hwi hw 41 rfl)⟩)
  have E_w_NOT_SUPPORTED := Exa.start ev_w_NOT_SUPPORTED j37
  obtain ⟨w_MANDATORY, ev_w_MANDATORY⟩ := exa_v j43
  have S_MANDATORY := Sta.start ev_w_MANDATORY (Or.inr ⟨(hwi hw 6 rfl), (hwi hw 43 rfl)⟩)
  have E_w_MANDATORY := Exa.start ev_w_MANDATORY j43
  obtain ⟨w_REQUIRES_NEW, ev_w_REQUIRES_NEW⟩ := exa_v j49
  have S_REQUIRES_NEW := Sta.start ev_w_REQUIRES_NEW (Or.inr ⟨(hwi hw 6 rfl), (hwi hw 45 rfl)⟩)
  have E_w_REQUIRES_NEW := Exa.start ev_w_REQUIRES_NEW j49
  have F_w_REQUIRED__inTransaction := own_fr ev_w_REQUIRED ev_w_JOIN j7
  have F_w_REQUIRED__outside := own_fr ev_w_REQUIRED ev_w_BEGIN j11
  have F_w_SUPPORTS__inTransaction := own_fr ev_w_SUPPORTS ev_w_JOIN j15
  have F_w_SUPPORTS__outside := own_fr ev_w_SUPPORTS ev_w_WITHOUT j19
  have F_w_NEVER__inTransaction := own_fr ev_w_NEVER ev_w_REFUSE j25
  have F_w_NEVER__outside := own_fr ev_w_NEVER ev_w_WITHOUT j27
  have F_w_NESTED__inTransaction := own_fr ev_w_NESTED ev_w_NEST j33
  have F_w_NESTED__outside := own_fr ev_w_NESTED ev_w_BEGIN j35
  have F_w_NOT_SUPPORTED__inTransaction := own_fr ev_w_NOT_SUPPORTED ev_w_WITHOUT j39
  have F_w_NOT_SUPPORTED__outside := own_fr ev_w_NOT_SUPPORTED ev_w_WITHOUT j41
  have F_w_MANDATORY__inTransaction := own_fr ev_w_MANDATORY ev_w_JOIN j45
  have F_w_MANDATORY__outside := own_fr ev_w_MANDATORY ev_w_REFUSE j47
  have F_w_REQUIRES_NEW__inTransaction := own_fr ev_w_REQUIRES_NEW ev_w_BEGIN j51
  have F_w_REQUIRES_NEW__outside := own_fr ev_w_REQUIRES_NEW ev_w_BEGIN j52
  have key : MetFree l x (head1 (Jvm.Cond.code x code maxLocals ret :: tables_1) room_1) (fun a U => a = #[(.int i0)] ∧ s.Warmed39 U.vm ∧ U.heap = s.heap) (fun _ _ _ _ _ => True) (fun _ U o U' => ∃ v L, o = .returned v ∧ Q_law s.heap.size v L ∧ FrameEnd U o U' L room_1.cells room_1.slots) := by
    rcases own_rem7 i0 with hk | hk | hk | hk | hk | hk | hk
    · exact rm_law_0 l s _ hw tables_1 i0 w_REQUIRED w_JOIN w_BEGIN s.heap s.heap.size (Nat.le_refl _) S_REQUIRED (Old.start s) E_w_REQUIRED S_JOIN S_BEGIN F_w_REQUIRED__inTransaction F_w_REQUIRED__outside hk
    · exact rm_law_1 l s _ hw tables_1 i0 w_REQUIRES_NEW w_BEGIN s.heap s.heap.size (Nat.le_refl _) S_REQUIRES_NEW (Old.start s) E_w_REQUIRES_NEW S_BEGIN F_w_REQUIRES_NEW__inTransaction F_w_REQUIRES_NEW__outside hk
    · exact rm_law_2 l s _ hw tables_1 i0 w_MANDATORY w_JOIN w_REFUSE s.heap s.heap.size (Nat.le_refl _) S_MANDATORY (Old.start s) E_w_MANDATORY S_JOIN S_REFUSE F_w_MANDATORY__inTransaction F_w_MANDATORY__outside hk
    · exact rm_law_3 l s _ hw tables_1 i0 w_SUPPORTS w_JOIN w_WITHOUT s.heap s.heap.size (Nat.le_refl _) S_SUPPORTS (Old.start s) E_w_SUPPORTS S_JOIN S_WITHOUT F_w_SUPPORTS__inTransaction F_w_SUPPORTS__outside hk
    · exact rm_law_4 l s _ hw tables_1 i0 w_NOT_SUPPORTED w_WITHOUT s.heap s.heap.size (Nat.le_refl _) S_NOT_SUPPORTED (Old.start s) E_w_NOT_SUPPORTED S_WITHOUT F_w_NOT_SUPPORTED__inTransaction F_w_NOT_SUPPORTED__outside hk
    · exact rm_law_5 l s _ hw tables_1 i0 w_NEVER w_REFUSE w_WITHOUT s.heap s.heap.size (Nat.le_refl _) S_NEVER (Old.start s) E_w_NEVER S_REFUSE S_WITHOUT F_w_NEVER__inTransaction F_w_NEVER__outside hk
    · exact rm_law_6 l s _ hw tables_1 i0 w_NESTED w_NEST w_BEGIN s.heap s.heap.size (Nat.le_refl _) S_NESTED (Old.start s) E_w_NESTED S_NEST S_BEGIN F_w_NESTED__inTransaction F_w_NESTED__outside hk
  obtain ⟨n, o, h1, h2, h3, _, L, rfl, ⟨rfl, N⟩, hq⟩ := key p e ha hc hk s m _ below hf ((Spec.applies_iff_loose hf).mp happ).1 ⟨rfl, State.Warmed39.refl s, rfl⟩ trivial
  refine ⟨n, _, h1, h2, h3, hpost _ _ _ _ _ _ ⟨Cond.after_iff.mpr rfl, Cond.after_iff.mpr (eq_i res_at (Term.int_eval (1)) rfl), trivial⟩ ⟨hq.1, hq.2.1, (hq.2.2.sift fun y hy => Or.inr (N y hy)).mono (by decide) (by decide)⟩⟩
theorem main_1_1 : Claimed_1_1 := comes_1 fun _ _ _ _ _ _ h hF => ⟨h.1, hF⟩
theorem main_1_2 : Claimed_1_2 := comes_1 fun _ _ _ _ _ _ h hF => ⟨h.2.1, hF⟩
end Jvm.Pilot.@@N@@
namespace Jvm.Pilot.@@N@@
open Jvm Jvm.ClassFile Sem Op Lib Jvm.Free Jvm.Stand Jvm.Pilot.@@N@@.Jvm.D
/-! MADE BY PROGRAM (witnessworld.py) out of the Statement's table words and the real class files: 11 classes; the members and pool entries that the words name. The judged class is class 1, her method 1. -/
namespace start1
open Jvm.ClassFile
def u (s : String) : CpInfo := .utf8 (stringToUtf16 s)
/-- a pool by its gaps: so many unusable entries, then the entry; so many at the end -/
def gap : Nat → List CpInfo → List CpInfo
  | 0, r => r
  | n + 1, r => .unusable :: gap n r
def poolList (es : List (Nat × CpInfo)) (last : Nat) : List CpInfo := es.foldr (fun e r => gap e.1 (e.2 :: r)) (gap last [])
def pool (es : List (Nat × CpInfo)) (last : Nat) : Array CpInfo := ⟨poolList es last⟩
def fileOf (pool : Array CpInfo) (this : Nat) (attrs : Array Attribute := #[]) (ms : Array MethodInfo := #[]) (fl : Nat := 33) (sup : Nat := 0) (ifs : Array Nat := #[]) (fds : Array FieldInfo := #[]) : ClassFile where
  minorVersion := 0
  majorVersion := 65
  constantPool := pool
  accessFlags := fl
  thisClass := this
  superClass := sup
  interfaces := ifs
  fields := fds
  methods := ms
  attributes := attrs
def plain (name : String) (sup : Option ClassId) : Class where
  name := name
  kind := .ordinary
  loader := none
  accessFlags := 33
  super := sup
  interfaces := #[]
  cf := none
  fields := #[]
  methods := #[]
  instanceTypes := #[]
  staticTypes := #[]
  resolved := #[]
  callSites := []
  init := .initialized
  statics := none
  mirror := none

def pool0 : Array CpInfo := pool [(5, u "<init>"), (0, u "()V"), (1, .class_ 10), (1, u "java/lang/Object")] 113

def k0m0 : Method := { name := "<init>", desc := "()V", sig := { parameters := [], returnType := none }, accessFlags := 1, code := none }
/-- java/lang/Object -/
def k0 : Class := { plain "java/lang/Object" none with
  accessFlags := 33
  interfaces := #[]
  cf := some (fileOf pool0 8 #[] #[{ accessFlags := 1, nameIndex := 5, descriptorIndex := 6, attributes := #[] }] 33 0 #[] #[])
  fields := #[]
  methods := #[k0m0]
  instanceTypes := #[]
  staticTypes := #[]
  resolved := Array.replicate 124 none
  statics := none }

def pool1 : Array CpInfo := pool [(2, .class_ 4), (1, u "java/lang/Object"), (0, u "<init>"), (0, u "()V"), (0, .integer 2147483647), (0, .methodref 9 10), (0, .class_ 11), (0, .nameAndType 12 13), (0, u "com/example/demarc/demarc/PropagationStepPinLaw"), (0, u "pick"), (0, u "(I)Lcom/example/demarc/demarc/Propagation;"), (0, .methodref 15 16), (0, .class_ 17), (0, .nameAndType 18 19), (0, u "com/example/demarc/demarc/Propagation"), (0, u "step"), (0, u "(Z)Lcom/example/demarc/demarc/Propagation$Step;"), (0, .methodref 9 21), (0, .nameAndType 22 23), (0, u "expectIn"), (0, u "(I)Lcom/example/demarc/demarc/Propagation$Step;"), (0, .methodref 9 25), (0, .nameAndType 26 23), (0, u "expectOut"), (0, .fieldref 15 28), (0, .nameAndType 29 30), (0, u "REQUIRED"), (0, u "Lcom/example/demarc/demarc/Propagation;"), (0, .fieldref 15 32), (0, .nameAndType 33 30), (0, u "REQUIRES_NEW"), (0, .fieldref 15 35), (0, .nameAndType 36 30), (0, u "MANDATORY"), (0, .fieldref 15 38), (0, .nameAndType 39 30), (0, u "SUPPORTS"), (0, .fieldref 15 41), (0, .nameAndType 42 30), (0, u "NOT_SUPPORTED"), (0, .fieldref 15 44), (0, .nameAndType 45 30), (0, u "NEVER"), (0, .fieldref 15 47), (0, .nameAndType 48 30), (0, u "NESTED"), (0, .fieldref 50 51), (0, .class_ 52), (0, .nameAndType 53 54), (0, u "com/example/demarc/demarc/Propagation$Step"), (0, u "JOIN"), (0, u "Lcom/example/demarc/demarc/Propagation$Step;"), (0, .fieldref 50 56), (0, .nameAndType 57 54), (0, u "BEGIN"), (0, .fieldref 50 59), (0, .nameAndType 60 54), (0, u "WITHOUT"), (0, .fieldref 50 62), (0, .nameAndType 63 54), (0, u "REFUSE"), (0, .fieldref 50 65), (0, .nameAndType 66 54), (0, u "NEST"), (2, u "law"), (0, u "(I)Z")] 5

def k1m0 : Method := { name := "<init>", desc := "()V", sig := { parameters := [], returnType := none }, accessFlags := 1, code := none }
def k1c1 : Code := { maxStack := 2, maxLocals := 5, code := code, exceptionTable := #[], attributes := #[] }
def k1m1 : Method := { name := "law", desc := "(I)Z", sig := { parameters := [.int], returnType := some .boolean }, accessFlags := 9, code := some k1c1 }
def k1c2 : Code := { maxStack := 2, maxLocals := 1, code := method_3_code, exceptionTable := #[], attributes := #[] }
def k1m2 : Method := { name := "pick", desc := "(I)Lcom/example/demarc/demarc/Propagation;", sig := { parameters := [.int], returnType := some (.object "com/example/demarc/demarc/Propagation") }, accessFlags := 10, code := some k1c2 }
def k1c3 : Code := { maxStack := 2, maxLocals := 1, code := method_4_code, exceptionTable := #[], attributes := #[] }
def k1m3 : Method := { name := "expectIn", desc := "(I)Lcom/example/demarc/demarc/Propagation$Step;", sig := { parameters := [.int], returnType := some (.object "com/example/demarc/demarc/Propagation$Step") }, accessFlags := 10, code := some k1c3 }
def k1c4 : Code := { maxStack := 2, maxLocals := 1, code := method_5_code, exceptionTable := #[], attributes := #[] }
def k1m4 : Method := { name := "expectOut", desc := "(I)Lcom/example/demarc/demarc/Propagation$Step;", sig := { parameters := [.int], returnType := some (.object "com/example/demarc/demarc/Propagation$Step") }, accessFlags := 10, code := some k1c4 }
/-- com/example/demarc/demarc/PropagationStepPinLaw -/
def k1 : Class := { plain "com/example/demarc/demarc/PropagationStepPinLaw" (some 0) with
  accessFlags := 49
  interfaces := #[]
  cf := some (fileOf pool1 9 #[] #[{ accessFlags := 1, nameIndex := 5, descriptorIndex := 6, attributes := #[] }, { accessFlags := 9, nameIndex := 69, descriptorIndex := 70, attributes := #[] }, { accessFlags := 10, nameIndex := 12, descriptorIndex := 13, attributes := #[] }, { accessFlags := 10, nameIndex := 22, descriptorIndex := 23, attributes := #[] }, { accessFlags := 10, nameIndex := 26, descriptorIndex := 23, attributes := #[] }] 49 2 #[] #[])
  fields := #[]
  methods := #[k1m0, k1m1, k1m2, k1m3, k1m4]
  instanceTypes := #[]
  staticTypes := #[]
  resolved := Array.replicate 76 none
  statics := none }

def pool2 : Array CpInfo := pool [(1, .class_ 2), (0, u "java/lang/constant/Constable"), (0, .class_ 4), (0, u "java/lang/Object")] 6

/-- java/lang/constant/Constable -/
def k2 : Class := { plain "java/lang/constant/Constable" (some 0) with
  accessFlags := 1537
  interfaces := #[]
  cf := some (fileOf pool2 1 #[] #[] 1537 3 #[] #[])
  fields := #[]
  methods := #[]
  instanceTypes := #[]
  staticTypes := #[]
  resolved := Array.replicate 11 none
  statics := none }

def pool3 : Array CpInfo := pool [(1, .class_ 2), (0, u "java/lang/Comparable"), (0, .class_ 4), (0, u "java/lang/Object")] 7

/-- java/lang/Comparable -/
def k3 : Class := { plain "java/lang/Comparable" (some 0) with
  accessFlags := 1537
  interfaces := #[]
  cf := some (fileOf pool3 1 #[] #[] 1537 3 #[] #[])
  fields := #[]
  methods := #[]
  instanceTypes := #[]
  staticTypes := #[]
  resolved := Array.replicate 12 none
  statics := none }

def pool4 : Array CpInfo := pool [(1, .class_ 2), (0, u "java/io/Serializable"), (0, .class_ 4), (0, u "java/lang/Object")] 2

/-- java/io/Serializable -/
def k4 : Class := { plain "java/io/Serializable" (some 0) with
  accessFlags := 1537
  interfaces := #[]
  cf := some (fileOf pool4 1 #[] #[] 1537 3 #[] #[])
  fields := #[]
  methods := #[]
  instanceTypes := #[]
  staticTypes := #[]
  resolved := Array.replicate 7 none
  statics := none }

def pool5 : Array CpInfo := pool [(2, .class_ 4), (1, u "java/lang/Enum"), (0, u "name"), (0, u "Ljava/lang/String;"), (2, u "ordinal"), (0, u "I"), (1, .class_ 14), (1, u "java/lang/Object"), (4, u "hash"), (86, .class_ 108), (1, u "java/lang/Enum$EnumDesc"), (2, .class_ 112), (0, u "java/lang/constant/Constable"), (0, .class_ 114), (0, u "java/lang/Comparable"), (0, .class_ 116), (0, u "java/io/Serializable")] 87

/-- java/lang/Enum -/
def k5 : Class := { plain "java/lang/Enum" (some 0) with
  accessFlags := 1057
  interfaces := #[2, 3, 4]
  cf := some (fileOf pool5 2 #[.nestMembers #[106]] #[] 1057 12 #[111, 113, 115] #[{ accessFlags := 18, nameIndex := 5, descriptorIndex := 6, attributes := #[] }, { accessFlags := 18, nameIndex := 9, descriptorIndex := 10, attributes := #[] }, { accessFlags := 2, nameIndex := 19, descriptorIndex := 10, attributes := #[] }])
  fields := #[{ name := "name", type := (.object "java/lang/String"), accessFlags := 18, slot := 0, constantValue := 0 }, { name := "ordinal", type := .int, accessFlags := 18, slot := 1, constantValue := 0 }, { name := "hash", type := .int, accessFlags := 2, slot := 2, constantValue := 0 }]
  methods := #[]
  instanceTypes := #[(.object "java/lang/String"), .int, .int]
  staticTypes := #[]
  resolved := Array.replicate 204 none
  statics := none }

def pool6 : Array CpInfo := pool [(1, .class_ 2), (0, u "com/example/demarc/demarc/Propagation"), (2, u "REQUIRED"), (0, u "Lcom/example/demarc/demarc/Propagation;"), (2, u "REQUIRES_NEW"), (2, u "MANDATORY"), (2, u "SUPPORTS"), (2, u "NOT_SUPPORTED"), (2, u "NEVER"), (2, u "NESTED"), (2, u "$VALUES"), (0, u "[Lcom/example/demarc/demarc/Propagation;"), (6, .class_ 37), (1, u "java/lang/Enum"), (6, .fieldref 1 45), (0, .nameAndType 46 47), (0, u "_inTransaction"), (0, u "Lcom/example/demarc/demarc/Propagation$Step;"), (0, .fieldref 1 49), (0, .nameAndType 50 47), (0, u "_outside"), (2, .class_ 55), (1, u "com/example/demarc/demarc/Propagation$Step"), (33, u "step"), (0, u "(Z)Lcom/example/demarc/demarc/Propagation$Step;")] 9

def k6c0 : Code := { maxStack := 1, maxLocals := 2, code := prog_20_method_4_code, exceptionTable := #[], attributes := #[] }
def k6m0 : Method := { name := "step", desc := "(Z)Lcom/example/demarc/demarc/Propagation$Step;", sig := { parameters := [.boolean], returnType := some (.object "com/example/demarc/demarc/Propagation$Step") }, accessFlags := 0, code := some k6c0 }
/-- com/example/demarc/demarc/Propagation -/
def k6 : Class := { plain "com/example/demarc/demarc/Propagation" (some 5) with
  accessFlags := 16433
  interfaces := #[]
  cf := some (fileOf pool6 1 #[.nestMembers #[53]] #[{ accessFlags := 0, nameIndex := 89, descriptorIndex := 90, attributes := #[] }] 16433 35 #[] #[{ accessFlags := 16409, nameIndex := 5, descriptorIndex := 6, attributes := #[] }, { accessFlags := 16409, nameIndex := 9, descriptorIndex := 6, attributes := #[] }, { accessFlags := 16409, nameIndex := 12, descriptorIndex := 6, attributes := #[] }, { accessFlags := 16409, nameIndex := 15, descriptorIndex := 6, attributes := #[] }, { accessFlags := 16409, nameIndex := 18, descriptorIndex := 6, attributes := #[] }, { accessFlags := 16409, nameIndex := 21, descriptorIndex := 6, attributes := #[] }, { accessFlags := 16409, nameIndex := 24, descriptorIndex := 6, attributes := #[] }, { accessFlags := 18, nameIndex := 46, descriptorIndex := 47, attributes := #[] }, { accessFlags := 18, nameIndex := 50, descriptorIndex := 47, attributes := #[] }, { accessFlags := 4122, nameIndex := 27, descriptorIndex := 28, attributes := #[] }])
  fields := #[{ name := "REQUIRED", type := (.object "com/example/demarc/demarc/Propagation"), accessFlags := 16409, slot := 0, constantValue := 0 }, { name := "REQUIRES_NEW", type := (.object "com/example/demarc/demarc/Propagation"), accessFlags := 16409, slot := 1, constantValue := 0 }, { name := "MANDATORY", type := (.object "com/example/demarc/demarc/Propagation"), accessFlags := 16409, slot := 2, constantValue := 0 }, { name := "SUPPORTS", type := (.object "com/example/demarc/demarc/Propagation"), accessFlags := 16409, slot := 3, constantValue := 0 }, { name := "NOT_SUPPORTED", type := (.object "com/example/demarc/demarc/Propagation"), accessFlags := 16409, slot := 4, constantValue := 0 }, { name := "NEVER", type := (.object "com/example/demarc/demarc/Propagation"), accessFlags := 16409, slot := 5, constantValue := 0 }, { name := "NESTED", type := (.object "com/example/demarc/demarc/Propagation"), accessFlags := 16409, slot := 6, constantValue := 0 }, { name := "_inTransaction", type := (.object "com/example/demarc/demarc/Propagation$Step"), accessFlags := 18, slot := 3, constantValue := 0 }, { name := "_outside", type := (.object "com/example/demarc/demarc/Propagation$Step"), accessFlags := 18, slot := 4, constantValue := 0 }, { name := "$VALUES", type := (.array (.object "com/example/demarc/demarc/Propagation")), accessFlags := 4122, slot := 7, constantValue := 0 }]
  methods := #[k6m0]
  instanceTypes := #[(.object "java/lang/String"), .int, .int, (.object "com/example/demarc/demarc/Propagation$Step"), (.object "com/example/demarc/demarc/Propagation$Step")]
  staticTypes := #[(.object "com/example/demarc/demarc/Propagation"), (.object "com/example/demarc/demarc/Propagation"), (.object "com/example/demarc/demarc/Propagation"), (.object "com/example/demarc/demarc/Propagation"), (.object "com/example/demarc/demarc/Propagation"), (.object "com/example/demarc/demarc/Propagation"), (.object "com/example/demarc/demarc/Propagation"), (.array (.object "com/example/demarc/demarc/Propagation"))]
  resolved := Array.replicate 100 none
  statics := some 0 }

def pool7 : Array CpInfo := pool [(1, .class_ 2), (0, u "com/example/demarc/demarc/Propagation$Step"), (2, u "JOIN"), (0, u "Lcom/example/demarc/demarc/Propagation$Step;"), (2, u "BEGIN"), (2, u "WITHOUT"), (2, u "NEST"), (2, u "REFUSE"), (2, u "$VALUES"), (0, u "[Lcom/example/demarc/demarc/Propagation$Step;"), (6, .class_ 31), (1, u "java/lang/Enum"), (28, .class_ 61), (0, u "com/example/demarc/demarc/Propagation")] 2

/-- com/example/demarc/demarc/Propagation$Step -/
def k7 : Class := { plain "com/example/demarc/demarc/Propagation$Step" (some 5) with
  accessFlags := 16432
  interfaces := #[]
  cf := some (fileOf pool7 1 #[.nestHost 60] #[] 16432 29 #[] #[{ accessFlags := 16409, nameIndex := 5, descriptorIndex := 6, attributes := #[] }, { accessFlags := 16409, nameIndex := 9, descriptorIndex := 6, attributes := #[] }, { accessFlags := 16409, nameIndex := 12, descriptorIndex := 6, attributes := #[] }, { accessFlags := 16409, nameIndex := 15, descriptorIndex := 6, attributes := #[] }, { accessFlags := 16409, nameIndex := 18, descriptorIndex := 6, attributes := #[] }, { accessFlags := 4122, nameIndex := 21, descriptorIndex := 22, attributes := #[] }])
  fields := #[{ name := "JOIN", type := (.object "com/example/demarc/demarc/Propagation$Step"), accessFlags := 16409, slot := 0, constantValue := 0 }, { name := "BEGIN", type := (.object "com/example/demarc/demarc/Propagation$Step"), accessFlags := 16409, slot := 1, constantValue := 0 }, { name := "WITHOUT", type := (.object "com/example/demarc/demarc/Propagation$Step"), accessFlags := 16409, slot := 2, constantValue := 0 }, { name := "NEST", type := (.object "com/example/demarc/demarc/Propagation$Step"), accessFlags := 16409, slot := 3, constantValue := 0 }, { name := "REFUSE", type := (.object "com/example/demarc/demarc/Propagation$Step"), accessFlags := 16409, slot := 4, constantValue := 0 }, { name := "$VALUES", type := (.array (.object "com/example/demarc/demarc/Propagation$Step")), accessFlags := 4122, slot := 5, constantValue := 0 }]
  methods := #[]
  instanceTypes := #[(.object "java/lang/String"), .int, .int]
  staticTypes := #[(.object "com/example/demarc/demarc/Propagation$Step"), (.object "com/example/demarc/demarc/Propagation$Step"), (.object "com/example/demarc/demarc/Propagation$Step"), (.object "com/example/demarc/demarc/Propagation$Step"), (.object "com/example/demarc/demarc/Propagation$Step"), (.array (.object "com/example/demarc/demarc/Propagation$Step"))]
  resolved := Array.replicate 64 none
  statics := some 1 }

def pool8 : Array CpInfo := pool [(1, u "java/lang/Cloneable"), (0, .class_ 1), (0, u "java/lang/Object"), (0, .class_ 3)] 3

/-- java/lang/Cloneable -/
def k8 : Class := { plain "java/lang/Cloneable" (some 0) with
  accessFlags := 1537
  interfaces := #[]
  cf := some (fileOf pool8 2 #[] #[] 1537 4 #[] #[])
  fields := #[]
  methods := #[]
  instanceTypes := #[]
  staticTypes := #[]
  resolved := Array.replicate 8 none
  statics := none }

/-- the primitive byte -/
def k9 : Class := { plain "byte" none with kind := .primitive 'B', accessFlags := 0x411 }
/-- [B -/
def k10 : Class := { plain "[B" (some 0) with kind := .array 9 .byte, interfaces := #[8, 4], accessFlags := 1041 }

def heap : Heap := #[{ cls := 6, slots := #[.ref 2, .ref 13, .ref 12, .ref 5, .ref 11, .ref 7, .ref 9, .null], vm := .statics 6 },
  { cls := 7, slots := #[.ref 3, .ref 4, .ref 6, .ref 10, .ref 8, .null], vm := .statics 7 },
  { cls := 6, slots := #[.null, .int 0, .int 0, .ref 3, .ref 4], vm := .none },
  { cls := 7, slots := #[.null, .int 0, .int 0], vm := .none },
  { cls := 7, slots := #[.null, .int 0, .int 0], vm := .none },
  { cls := 6, slots := #[.null, .int 0, .int 0, .ref 3, .ref 6], vm := .none },
  { cls := 7, slots := #[.null, .int 0, .int 0], vm := .none },
  { cls := 6, slots := #[.null, .int 0, .int 0, .ref 8, .ref 6], vm := .none },
  { cls := 7, slots := #[.null, .int 0, .int 0], vm := .none },
  { cls := 6, slots := #[.null, .int 0, .int 0, .ref 10, .ref 4], vm := .none },
  { cls := 7, slots := #[.null, .int 0, .int 0], vm := .none },
  { cls := 6, slots := #[.null, .int 0, .int 0, .ref 6, .ref 6], vm := .none },
  { cls := 6, slots := #[.null, .int 0, .int 0, .ref 3, .ref 8], vm := .none },
  { cls := 6, slots := #[.null, .int 0, .int 0, .ref 4, .ref 4], vm := .none }]
def classes : Array Class := #[k0, k1, k2, k3, k4, k5, k6, k7, k8, k9, k10]
def interned : List (Array UInt16 × Addr) := []
def slotsUsed : Nat := 64
def theMethod : MethodId := ⟨1, 1⟩
def args0 : Array Value := #[.int 5]
def aboutOver (below : List Frame) : State where
  vm := { classes := classes, interned := interned.toArray }
  heap := heap
  slotsUsed := slotsUsed
  threads := #[{ frames := .invoking theMethod args0 :: below }]
def below0 : List Frame := [.native { method := ⟨0, 0⟩, args := #[] }]
def about1 : State := aboutOver below0
def p0 : Program := .bare "" "" ""
def e0 : Env := launch0.env 0 0 0
theorem w_frames : about1.frames = Frame.invoking theMethod args0 :: below0 := rfl
set_option maxRecDepth 65536 in
theorem w_args : argsFit about1.vm theMethod args0 = true := by decide +kernel
set_option maxRecDepth 65536 in
theorem w_heap : heapFits about1 = true := by decide +kernel
set_option maxRecDepth 65536 in
theorem w_runnable : about1.curStatus? = some .runnable := by decide +kernel
set_option maxRecDepth 65536 in
theorem w_alone : about1.alone = true := by decide +kernel
set_option maxRecDepth 65536 in
theorem w_named : about1.methodNamed? x = some theMethod := by decide +kernel
set_option maxRecDepth 65536 in
theorem w_hears : about1.hears theMethod below0 = true := by decide +kernel
set_option maxRecDepth 65536 in
theorem w_ripe : about1.ripe theMethod args0 below0 = true := by decide +kernel
theorem w_running : about1.status = .running := rfl
set_option maxRecDepth 65536 in
theorem w_room : about1.hasRoom e0.platform room_1 = true :=
  launch0.hasRoom_least _ room_1 (by decide +kernel) (by decide +kernel) (by decide +kernel) (by decide +kernel) (by decide +kernel) (by decide +kernel)
theorem allAtoms_all (ts : List Jvm.Cond) (a : Array Jvm.Value) (st : Jvm.State) : (allAtoms ts).before a st = ts.all (fun c => c.before a st) := by
  induction ts with
  | nil => rfl
  | cons c t ih =>
    show (Jvm.Cond.and c (allAtoms t)).before a st = _
    rw [Jvm.Cond.before_and, ih, List.all_cons]
def words1 : List Jvm.Cond := Jvm.Cond.code x code maxLocals ret :: tables_1
/-- a 'code' word, met by the world's own term for the bytes: nothing is compared byte by byte -/
theorem code_word {y : MethodName} {bytes : ByteArray} {mx : Nat} {rt : Option FieldType} {a : Array Value} {s : State} {m : MethodId} {meth : Method} {c : Code} (h1 : s.methodNamed? y = some m) (h2 : s.vm.method? m = some meth) (h3 : meth.code = some c) (h4 : c.code = bytes)
    (h5 : (c.maxLocals == mx && c.exceptionTable.isEmpty && decide (c.maxStack ≤ mostOperands) && decide (meth.sig.returnType = rt) && !meth.locks && decide (parseMethodDescriptor y.desc = some meth.sig)) = true) : (Jvm.Cond.code y bytes mx rt).before a s = true := by
  simp only [Bool.and_eq_true, beq_iff_eq, Bool.not_eq_true', decide_eq_true_eq] at h5
  obtain ⟨⟨⟨⟨⟨g1, g2⟩, g3⟩, g4⟩, g5⟩, g6⟩ := h5
  simp [Cond.before, Cond.holds, Cond.value, h1, h2, h3, h4, g1, g2, g3, g4, g5, g6]
def isCode : Jvm.Cond → Bool
  | .code _ _ _ _ => true
  | _ => false
theorem all_split {L : List Jvm.Cond} {P : Jvm.Cond → Bool} (h1 : L.all (fun c => isCode c || P c) = true) (h2 : ∀ c ∈ L.filter isCode, P c = true) : L.all P = true := by
  refine List.all_eq_true.mpr fun c hc => ?_
  have h := List.all_eq_true.mp h1 c hc
  rcases Bool.eq_false_or_eq_true (isCode c) with hi | hi
  · exact h2 c (List.mem_filter.mpr ⟨hc, hi⟩)
  · simpa [hi] using h
set_option maxRecDepth 65536 in
theorem w_c0 : (Jvm.Cond.code x code maxLocals ret).before args0 about1 = true := code_word (m := ⟨1, 1⟩) (meth := k1m1) (c := k1c1) (by decide +kernel) rfl rfl rfl (by decide +kernel)
set_option maxRecDepth 65536 in
theorem w_c1 : (Jvm.Cond.code ({ cls := "com/example/demarc/demarc/PropagationStepPinLaw", name := "pick", desc := "(I)Lcom/example/demarc/demarc/Propagation;" } : Jvm.MethodName) method_3_code (1 : Nat) (Option.some (Jvm.ClassFile.FieldType.object "com/example/demarc/demarc/Propagation"))).before args0 about1 = true := code_word (m := ⟨1, 2⟩) (meth := k1m2) (c := k1c2) (by decide +kernel) rfl rfl rfl (by decide +kernel)
set_option maxRecDepth 65536 in
theorem w_c2 : (Jvm.Cond.code ({ cls := "com/example/demarc/demarc/Propagation", name := "step", desc := "(Z)Lcom/example/demarc/demarc/Propagation$Step;" } : Jvm.MethodName) prog_20_method_4_code (2 : Nat) (Option.some (Jvm.ClassFile.FieldType.object "com/example/demarc/demarc/Propagation$Step"))).before args0 about1 = true := code_word (m := ⟨6, 0⟩) (meth := k6m0) (c := k6c0) (by decide +kernel) rfl rfl rfl (by decide +kernel)
set_option maxRecDepth 65536 in
theorem w_c3 : (Jvm.Cond.code ({ cls := "com/example/demarc/demarc/PropagationStepPinLaw", name := "expectIn", desc := "(I)Lcom/example/demarc/demarc/Propagation$Step;" } : Jvm.MethodName) method_4_code (1 : Nat) (Option.some (Jvm.ClassFile.FieldType.object "com/example/demarc/demarc/Propagation$Step"))).before args0 about1 = true := code_word (m := ⟨1, 3⟩) (meth := k1m3) (c := k1c3) (by decide +kernel) rfl rfl rfl (by decide +kernel)
set_option maxRecDepth 65536 in
theorem w_c4 : (Jvm.Cond.code ({ cls := "com/example/demarc/demarc/PropagationStepPinLaw", name := "expectOut", desc := "(I)Lcom/example/demarc/demarc/Propagation$Step;" } : Jvm.MethodName) method_5_code (1 : Nat) (Option.some (Jvm.ClassFile.FieldType.object "com/example/demarc/demarc/Propagation$Step"))).before args0 about1 = true := code_word (m := ⟨1, 4⟩) (meth := k1m4) (c := k1c4) (by decide +kernel) rfl rfl rfl (by decide +kernel)
def codes1 : List Jvm.Cond := [Jvm.Cond.code x code maxLocals ret, Jvm.Cond.code ({ cls := "com/example/demarc/demarc/PropagationStepPinLaw", name := "pick", desc := "(I)Lcom/example/demarc/demarc/Propagation;" } : Jvm.MethodName) method_3_code (1 : Nat) (Option.some (Jvm.ClassFile.FieldType.object "com/example/demarc/demarc/Propagation")), Jvm.Cond.code ({ cls := "com/example/demarc/demarc/Propagation", name := "step", desc := "(Z)Lcom/example/demarc/demarc/Propagation$Step;" } : Jvm.MethodName) prog_20_method_4_code (2 : Nat) (Option.some (Jvm.ClassFile.FieldType.object "com/example/demarc/demarc/Propagation$Step")), Jvm.Cond.code ({ cls := "com/example/demarc/demarc/PropagationStepPinLaw", name := "expectIn", desc := "(I)Lcom/example/demarc/demarc/Propagation$Step;" } : Jvm.MethodName) method_4_code (1 : Nat) (Option.some (Jvm.ClassFile.FieldType.object "com/example/demarc/demarc/Propagation$Step")), Jvm.Cond.code ({ cls := "com/example/demarc/demarc/PropagationStepPinLaw", name := "expectOut", desc := "(I)Lcom/example/demarc/demarc/Propagation$Step;" } : Jvm.MethodName) method_5_code (1 : Nat) (Option.some (Jvm.ClassFile.FieldType.object "com/example/demarc/demarc/Propagation$Step"))]
set_option maxRecDepth 65536 in
theorem codes_eq : words1.filter isCode = codes1 := rfl
theorem w_codes : ∀ c ∈ words1.filter isCode, c.before args0 about1 = true := by
  rw [codes_eq]
  intro c hc
  simp only [codes1, List.mem_cons, List.not_mem_nil, or_false] at hc
  rcases hc with rfl | rfl | rfl | rfl | rfl
  · exact w_c0
  · exact w_c1
  · exact w_c2
  · exact w_c3
  · exact w_c4
set_option maxRecDepth 65536 in
theorem w_t1 : (words1.take 24).all (fun c => isCode c || c.before args0 about1) = true := by decide +kernel
set_option maxRecDepth 65536 in
theorem w_t2 : (words1.drop 24).all (fun c => isCode c || c.before args0 about1) = true := by decide +kernel
theorem w_tables : (allAtoms (Jvm.Cond.code x code maxLocals ret :: tables_1)).before args0 about1 = true := by
  rw [allAtoms_all]
  show words1.all (fun c => c.before args0 about1) = true
  refine all_split ?_ w_codes
  rw [← List.take_append_drop 24 words1, List.all_append, w_t1, w_t2]
  rfl
set_option maxRecDepth 65536 in
theorem w_case : (Jvm.Cond.and given_1 narrow_1).before args0 about1 = true := by decide +kernel
theorem w_applies : (headSpec (Jvm.Cond.code x code maxLocals ret :: tables_1) room_1).applies x e0.platform about1 = true :=
  (Spec.applies_iff w_frames).mpr ⟨w_running, w_runnable, w_alone, w_named, w_hears, w_ripe, w_room, w_tables⟩
theorem atStart : AtStart classFile x code maxLocals ret World_1 tables_1 room_1 Calls_1 rest_1 Pre_1 launch0 p0 e0 about1 theMethod args0 below0 :=
  ⟨lists_1, trivial, launch0.admits_env _ _ _, launch0.least_env, fairChoices_fair.cas, fairChoices_fair.clock, w_frames, w_args, w_heap, w_applies, trivial, trivial, w_case⟩
end start1
theorem witness_1 : WitnessClaimed_1 := ⟨start1.p0, start1.e0, start1.about1, start1.theMethod, start1.args0, start1.below0, start1.atStart⟩
end Jvm.Pilot.@@N@@
