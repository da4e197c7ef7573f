import JvmDerived
import JvmDerived.Pilot.@@N@@Statement
import JvmDerived.Pilot.@@N@@Code
set_option linter.unusedVariables false
set_option linter.unusedSimpArgs false
namespace Jvm.RoadKit
open Sem ClassFile Op Lib Jvm.Stand Jvm.Free Jvm.LawKit
section New
variable {p : Program} {l : Launch} {e : Env} {R : Room} {s : State} {m : MethodId} {args : Array Value} {below : List Frame} {meth : Method} {c : Code} {T : State} {locs : List Loc} {cells slots : Nat}
theorem retI (X : Stand p l e R s m args below meth c T locs cells slots) (hx : p.tables.exec = Jvm.exec) {pc : Nat} {Ls : Array Slot} {z : Int32} {rest : List Value} (hret : meth.sig.returnType = some .int) (hd : decode c.code pc = .ok (.ireturn, 1)) {fs : List Frame}
    (hl : ∀ (f : JFrame) (acts : List Action), f.method = m → f.locked = none → f.entered = [] → (doReturn e (T.setTop f) acts (some (.int z))).1 = T.setFrames fs) : Steps p.tables e below (T.setTop (mkF m pc Ls (.int z :: rest))) (T.setFrames fs) := by
  have hm' : T.vm.method? m = some meth := X.method'
  have hn : narrow .int (.int z) = .int z := rfl
  show Steps p.tables e below (T.setTop { method := m, pc := pc, locals := Ls, stack := _ :: rest, locked := none }) _
  jvm_step X.here [X.here.top, hx, hd, hm', hret, hn]
  first | (intro acts; rw [hl _ acts rfl rfl rfl]) | rw [hl _ _ rfl rfl rfl]
  exact Steps.refl _
end New
end Jvm.RoadKit
namespace Jvm.Pilot.@@N@@
open Jvm Jvm.ClassFile Sem Op Lib Jvm.Free Jvm.Stand Jvm.LawKit Jvm.RoadKit Bundle Jvm.Pilot.@@N@@.Jvm.D
abbrev St (p : Program) (e : Env) (below : List Frame) (T : State) (g : JFrame) (t : State) : Prop := Steps p.tables e below (T.setTop g) t
theorem hwi {Z : State} {a0 : Array Value} (hw : ∀ d ∈ tables_1, d.before a0 Z = true) (i : Nat) {d : Jvm.Cond} (h : tables_1[i]? = some d) : d.before a0 Z = true := hw d (List.mem_of_getElem? h)
theorem own_w0 {n : Nat} : n ≤ n := Nat.le_refl n
theorem d1_0 : decode method_2_code 0 = .ok (.iload_n 0, 1) := by decide +kernel
theorem d1_1 : decode method_2_code 1 = .ok (.ifCond .ne 7, 3) := by decide +kernel
theorem d1_4 : decode method_2_code 4 = .ok (.getstatic 7, 3) := by decide +kernel
theorem d1_7 : decode method_2_code 7 = .ok (.areturn, 1) := by decide +kernel
theorem pn_1 : plainName "com/example/disbursa/disbursa/payouts/PayoutStatusUnpaidPinLaw" = true := by first | (simp [plainName, overriddenIn]; done) | decide +kernel
theorem ef_1_I (m : MethodId) (x0 : Int32) : entryFrame m #[(.int x0)] 1 = mkF m 0 #[.val (.int x0)] [] := by first | (simp [entryFrame, mkF, argsToLocals, Value.category]; done) | rfl
def Q_pick_0 (Z : State) (w_PENDING : Addr) (h0 : Heap) (n0 : Nat) (v : Option Value) (h : Heap) (L : List Loc) : Prop := v = some (.ref w_PENDING) ∧ Fr n0 L ∧ h = h0
set_option maxRecDepth 65536 in
set_option maxHeartbeats 40000000 in
theorem rm_pick_0 (l : Launch) (Z : State) (a0 : Array Value) (hw : ∀ d ∈ tables_1, d.before a0 Z = true) (ws : List Jvm.Cond) (w_PENDING : Addr) (h0 : Heap) (n0 : Nat) (Z0 : n0 ≤ h0.size) (S_PENDING : Sta Z Z.heap "com/example/disbursa/disbursa/payouts/PayoutStatus" "PENDING" "Lcom/example/disbursa/disbursa/payouts/PayoutStatus;" (.ref w_PENDING)) (O0 : Old Z n0 h0) :
    MetFree l (⟨"com/example/disbursa/disbursa/payouts/PayoutStatusUnpaidPinLaw", "pick", "(I)Lcom/example/disbursa/disbursa/payouts/PayoutStatus;"⟩ : MethodName) (head1 (Jvm.Cond.code (⟨"com/example/disbursa/disbursa/payouts/PayoutStatusUnpaidPinLaw", "pick", "(I)Lcom/example/disbursa/disbursa/payouts/PayoutStatus;"⟩ : MethodName) method_2_code 1 (some (.object "com/example/disbursa/disbursa/payouts/PayoutStatus")) :: ws) ({ frames := 0, cells := 0, slots := 0, locals := 0 } : Room)) (fun a U => a = #[(.int 0)] ∧ Z.Warmed39 U.vm ∧ U.heap = h0) (fun _ _ _ _ _ => True) (fun _ U o U' => ∃ v L, o = .returned v ∧ Q_pick_0 Z w_PENDING h0 n0 v U'.heap L ∧ FrameEnd U o U' L ({ frames := 0, cells := 0, slots := 0, locals := 0 } : Room).cells ({ frames := 0, cells := 0, slots := 0, locals := 0 } : Room).slots) := by
  refine MetFree.of_bodySF (plainFor_of_name pn_1) hisR ?_
  intro p e s m args below meth c s₁ Bd hml0 hP hK
  obtain ⟨rfl, hZ, hh⟩ := hP
  have hx := Bd.exec
  have hby := Bd.bytes
  have hml : c.maxLocals = 1 := hml0
  have hown : s.vm.findClass "com/example/disbursa/disbursa/payouts/PayoutStatusUnpaidPinLaw" = some m.cls := findClass_of_methodNamed Bd.named
  have hnm := (name_of_methodNamed Bd.named Bd.method).1
  have X0 : Stand p l e ({ frames := 0, cells := 0, slots := 0, locals := 0 } : Room) s m #[(.int 0)] below meth c s₁ [] 0 0 := Stand.of_body Bd
  have e0 : s₁.heap = h0 := by rw [← hh, Bd.state]; rfl
  have N0 := Fr.nil n0
  have pre0 : ∀ t, Steps p.tables e below (s₁.setTop (mkF m 0 #[.val (.int 0)] [])) t → Steps p.tables e below (s₁.setTop (entryFrame m #[(.int 0)] 1)) t := fun t k => castTop (ef_1_I m (0 : Int32)) k
  obtain ⟨T1, X1, e1, st1⟩ := getS2 X0 hx hZ hown (host := "") (Or.inl (hwi hw 4 rfl)) Via.refl e0 (S_PENDING.ext O0.2) (g := (mkF m 4 #[.val (.int 0)] [])) rfl (hb hby d1_4)
  obtain ⟨fs, hr, hrun, hended, hW, hsame⟩ := X1.leave (v := some (.ref w_PENDING)) (fun h => by rw [Bd.returns] at h; cases h)
  refine ⟨_, _, pre0 _ ?_, hrun, hended, _, _, rfl, ?_, ⟨_, rfl⟩, hW, hsame.mono (by decide) (by decide)⟩
  · show St p e below s₁ (mkF m 0 #[.val (.int 0)] []) _
    refine XS.iloadN X0.here hx rfl (hb hby d1_0) rfl ?_
    show St p e below s₁ (mkF m 1 #[.val (.int 0)] [(.int 0)]) _
    refine XS.ifNo X0.here hx rfl (hb hby d1_1) rfl ((if0 _ _).trans (teq (by decide : (0 : Int32) = (0 : Int32))).2) ?_
    show St p e below s₁ (mkF m 4 #[.val (.int 0)] []) _
    refine st1 _ ?_
    show St p e below T1 (mkF m 7 #[.val (.int 0)] [(.ref w_PENDING)]) _
    jvm_step X1.here [X1.here.top, hx, (hb hby d1_7), X1.method', Bd.returns, Value.isRef, FieldType.isReference]
    first | (intro acts; rw [hr _ acts rfl rfl rfl]) | rw [hr _ _ rfl rfl rfl]
    exact Steps.refl _
  · show Q_pick_0 Z w_PENDING h0 n0 _ T1.heap _
    rw [e1]
    exact ⟨rfl, N0, rfl⟩
theorem d1_8 : decode method_2_code 8 = .ok (.iload_n 0, 1) := by decide +kernel
theorem d1_9 : decode method_2_code 9 = .ok (.iconst 1, 1) := by decide +kernel
theorem d1_10 : decode method_2_code 10 = .ok (.if_icmp .ne 7, 3) := by decide +kernel
theorem d1_13 : decode method_2_code 13 = .ok (.getstatic 13, 3) := by decide +kernel
theorem d1_16 : decode method_2_code 16 = .ok (.areturn, 1) := by decide +kernel
def Q_pick_1 (Z : State) (w_BATCHED : Addr) (h0 : Heap) (n0 : Nat) (v : Option Value) (h : Heap) (L : List Loc) : Prop := v = some (.ref w_BATCHED) ∧ Fr n0 L ∧ h = h0
set_option maxRecDepth 65536 in
set_option maxHeartbeats 40000000 in
theorem rm_pick_1 (l : Launch) (Z : State) (a0 : Array Value) (hw : ∀ d ∈ tables_1, d.before a0 Z = true) (ws : List Jvm.Cond) (w_BATCHED : Addr) (h0 : Heap) (n0 : Nat) (Z0 : n0 ≤ h0.size) (S_BATCHED : Sta Z Z.heap "com/example/disbursa/disbursa/payouts/PayoutStatus" "BATCHED" "Lcom/example/disbursa/disbursa/payouts/PayoutStatus;" (.ref w_BATCHED)) (O0 : Old Z n0 h0) :
    MetFree l (⟨"com/example/disbursa/disbursa/payouts/PayoutStatusUnpaidPinLaw", "pick", "(I)Lcom/example/disbursa/disbursa/payouts/PayoutStatus;"⟩ : MethodName) (head1 (Jvm.Cond.code (⟨"com/example/disbursa/disbursa/payouts/PayoutStatusUnpaidPinLaw", "pick", "(I)Lcom/example/disbursa/disbursa/payouts/PayoutStatus;"⟩ : MethodName) method_2_code 1 (some (.object "com/example/disbursa/disbursa/payouts/PayoutStatus")) :: ws) ({ frames := 0, cells := 0, slots := 0, locals := 0 } : Room)) (fun a U => a = #[(.int 1)] ∧ Z.Warmed39 U.vm ∧ U.heap = h0) (fun _ _ _ _ _ => True) (fun _ U o U' => ∃ v L, o = .returned v ∧ Q_pick_1 Z w_BATCHED h0 n0 v U'.heap L ∧ FrameEnd U o U' L ({ frames := 0, cells := 0, slots := 0, locals := 0 } : Room).cells ({ frames := 0, cells := 0, slots := 0, locals := 0 } : Room).slots) := by
  refine MetFree.of_bodySF (plainFor_of_name pn_1) hisR ?_
  intro p e s m args below meth c s₁ Bd hml0 hP hK
  obtain ⟨rfl, hZ, hh⟩ := hP
  have hx := Bd.exec
  have hby := Bd.bytes
  have hml : c.maxLocals = 1 := hml0
  have hown : s.vm.findClass "com/example/disbursa/disbursa/payouts/PayoutStatusUnpaidPinLaw" = some m.cls := findClass_of_methodNamed Bd.named
  have hnm := (name_of_methodNamed Bd.named Bd.method).1
  have X0 : Stand p l e ({ frames := 0, cells := 0, slots := 0, locals := 0 } : Room) s m #[(.int 1)] below meth c s₁ [] 0 0 := Stand.of_body Bd
  have e0 : s₁.heap = h0 := by rw [← hh, Bd.state]; rfl
  have N0 := Fr.nil n0
  have pre0 : ∀ t, Steps p.tables e below (s₁.setTop (mkF m 0 #[.val (.int 1)] [])) t → Steps p.tables e below (s₁.setTop (entryFrame m #[(.int 1)] 1)) t := fun t k => castTop (ef_1_I m (1 : Int32)) k
  obtain ⟨T1, X1, e1, st1⟩ := getS2 X0 hx hZ hown (host := "") (Or.inl (hwi hw 24 rfl)) Via.refl e0 (S_BATCHED.ext O0.2) (g := (mkF m 13 #[.val (.int 1)] [])) rfl (hb hby d1_13)
  obtain ⟨fs, hr, hrun, hended, hW, hsame⟩ := X1.leave (v := some (.ref w_BATCHED)) (fun h => by rw [Bd.returns] at h; cases h)
  refine ⟨_, _, pre0 _ ?_, hrun, hended, _, _, rfl, ?_, ⟨_, rfl⟩, hW, hsame.mono (by decide) (by decide)⟩
  · show St p e below s₁ (mkF m 0 #[.val (.int 1)] []) _
    refine XS.iloadN X0.here hx rfl (hb hby d1_0) rfl ?_
    show St p e below s₁ (mkF m 1 #[.val (.int 1)] [(.int 1)]) _
    refine XS.ifYes X0.here hx rfl (pc0 := 1) (pc' := 8) rfl (hb hby d1_1) rfl ((if0 _ _).trans (feq (by decide : ¬ ((1 : Int32) = (0 : Int32)))).2) (by decide) (by decide) ?_
    show St p e below s₁ (mkF m 8 #[.val (.int 1)] []) _
    refine XS.iloadN X0.here hx rfl (hb hby d1_8) rfl ?_
    show St p e below s₁ (mkF m 9 #[.val (.int 1)] [(.int 1)]) _
    refine XS.iconst X0.here hx rfl (hb hby d1_9) ?_
    show St p e below s₁ (mkF m 10 #[.val (.int 1)] [(.int 1), (.int 1)]) _
    refine XS.icmpNo X0.here hx rfl (hb hby d1_10) rfl (teq (by decide : (1 : Int32) = (1 : Int32))).2 ?_
    show St p e below s₁ (mkF m 13 #[.val (.int 1)] []) _
    refine st1 _ ?_
    show St p e below T1 (mkF m 16 #[.val (.int 1)] [(.ref w_BATCHED)]) _
    jvm_step X1.here [X1.here.top, hx, (hb hby d1_16), X1.method', Bd.returns, Value.isRef, FieldType.isReference]
    first | (intro acts; rw [hr _ acts rfl rfl rfl]) | rw [hr _ _ rfl rfl rfl]
    exact Steps.refl _
  · show Q_pick_1 Z w_BATCHED h0 n0 _ T1.heap _
    rw [e1]
    exact ⟨rfl, N0, rfl⟩
theorem d1_17 : decode method_2_code 17 = .ok (.iload_n 0, 1) := by decide +kernel
theorem d1_18 : decode method_2_code 18 = .ok (.iconst 2, 1) := by decide +kernel
theorem d1_19 : decode method_2_code 19 = .ok (.if_icmp .ne 7, 3) := by decide +kernel
theorem d1_22 : decode method_2_code 22 = .ok (.getstatic 16, 3) := by decide +kernel
theorem d1_25 : decode method_2_code 25 = .ok (.areturn, 1) := by decide +kernel
def Q_pick_2 (Z : State) (w_SUBMITTED : Addr) (h0 : Heap) (n0 : Nat) (v : Option Value) (h : Heap) (L : List Loc) : Prop := v = some (.ref w_SUBMITTED) ∧ Fr n0 L ∧ h = h0
set_option maxRecDepth 65536 in
set_option maxHeartbeats 40000000 in
theorem rm_pick_2 (l : Launch) (Z : State) (a0 : Array Value) (hw : ∀ d ∈ tables_1, d.before a0 Z = true) (ws : List Jvm.Cond) (w_SUBMITTED : Addr) (h0 : Heap) (n0 : Nat) (Z0 : n0 ≤ h0.size) (S_SUBMITTED : Sta Z Z.heap "com/example/disbursa/disbursa/payouts/PayoutStatus" "SUBMITTED" "Lcom/example/disbursa/disbursa/payouts/PayoutStatus;" (.ref w_SUBMITTED)) (O0 : Old Z n0 h0) :
    MetFree l (⟨"com/example/disbursa/disbursa/payouts/PayoutStatusUnpaidPinLaw", "pick", "(I)Lcom/example/disbursa/disbursa/payouts/PayoutStatus;"⟩ : MethodName) (head1 (Jvm.Cond.code (⟨"com/example/disbursa/disbursa/payouts/PayoutStatusUnpaidPinLaw", "pick", "(I)Lcom/example/disbursa/disbursa/payouts/PayoutStatus;"⟩ : MethodName) method_2_code 1 (some (.object "com/example/disbursa/disbursa/payouts/PayoutStatus")) :: ws) ({ frames := 0, cells := 0, slots := 0, locals := 0 } : Room)) (fun a U => a = #[(.int 2)] ∧ Z.Warmed39 U.vm ∧ U.heap = h0) (fun _ _ _ _ _ => True) (fun _ U o U' => ∃ v L, o = .returned v ∧ Q_pick_2 Z w_SUBMITTED h0 n0 v U'.heap L ∧ FrameEnd U o U' L ({ frames := 0, cells := 0, slots := 0, locals := 0 } : Room).cells ({ frames := 0, cells := 0, slots := 0, locals := 0 } : Room).slots) := by
  refine MetFree.of_bodySF (plainFor_of_name pn_1) hisR ?_
  intro p e s m args below meth c s₁ Bd hml0 hP hK
  obtain ⟨rfl, hZ, hh⟩ := hP
  have hx := Bd.exec
  have hby := Bd.bytes
  have hml : c.maxLocals = 1 := hml0
  have hown : s.vm.findClass "com/example/disbursa/disbursa/payouts/PayoutStatusUnpaidPinLaw" = some m.cls := findClass_of_methodNamed Bd.named
  have hnm := (name_of_methodNamed Bd.named Bd.method).1
  have X0 : Stand p l e ({ frames := 0, cells := 0, slots := 0, locals := 0 } : Room) s m #[(.int 2)] below meth c s₁ [] 0 0 := Stand.of_body Bd
  have e0 : s₁.heap = h0 := by rw [← hh, Bd.state]; rfl
  have N0 := Fr.nil n0
  have pre0 : ∀ t, Steps p.tables e below (s₁.setTop (mkF m 0 #[.val (.int 2)] [])) t → Steps p.tables e below (s₁.setTop (entryFrame m #[(.int 2)] 1)) t := fun t k => castTop (ef_1_I m (2 : Int32)) k
  obtain ⟨T1, X1, e1, st1⟩ := getS2 X0 hx hZ hown (host := "") (Or.inl (hwi hw 22 rfl)) Via.refl e0 (S_SUBMITTED.ext O0.2) (g := (mkF m 22 #[.val (.int 2)] [])) rfl (hb hby d1_22)
  obtain ⟨fs, hr, hrun, hended, hW, hsame⟩ := X1.leave (v := some (.ref w_SUBMITTED)) (fun h => by rw [Bd.returns] at h; cases h)
  refine ⟨_, _, pre0 _ ?_, hrun, hended, _, _, rfl, ?_, ⟨_, rfl⟩, hW, hsame.mono (by decide) (by decide)⟩
  · show St p e below s₁ (mkF m 0 #[.val (.int 2)] []) _
    refine XS.iloadN X0.here hx rfl (hb hby d1_0) rfl ?_
    show St p e below s₁ (mkF m 1 #[.val (.int 2)] [(.int 2)]) _
    refine XS.ifYes X0.here hx rfl (pc0 := 1) (pc' := 8) rfl (hb hby d1_1) rfl ((if0 _ _).trans (feq (by decide : ¬ ((2 : Int32) = (0 : Int32)))).2) (by decide) (by decide) ?_
    show St p e below s₁ (mkF m 8 #[.val (.int 2)] []) _
    refine XS.iloadN X0.here hx rfl (hb hby d1_8) rfl ?_
    show St p e below s₁ (mkF m 9 #[.val (.int 2)] [(.int 2)]) _
    refine XS.iconst X0.here hx rfl (hb hby d1_9) ?_
    show St p e below s₁ (mkF m 10 #[.val (.int 2)] [(.int 1), (.int 2)]) _
    refine XS.icmpYes X0.here hx rfl (pc0 := 10) (pc' := 17) rfl (hb hby d1_10) rfl (feq (by decide : ¬ ((2 : Int32) = (1 : Int32)))).2 (by decide) (by decide) ?_
    show St p e below s₁ (mkF m 17 #[.val (.int 2)] []) _
    refine XS.iloadN X0.here hx rfl (hb hby d1_17) rfl ?_
    show St p e below s₁ (mkF m 18 #[.val (.int 2)] [(.int 2)]) _
    refine XS.iconst X0.here hx rfl (hb hby d1_18) ?_
    show St p e below s₁ (mkF m 19 #[.val (.int 2)] [(.int 2), (.int 2)]) _
    refine XS.icmpNo X0.here hx rfl (hb hby d1_19) rfl (teq (by decide : (2 : Int32) = (2 : Int32))).2 ?_
    show St p e below s₁ (mkF m 22 #[.val (.int 2)] []) _
    refine st1 _ ?_
    show St p e below T1 (mkF m 25 #[.val (.int 2)] [(.ref w_SUBMITTED)]) _
    jvm_step X1.here [X1.here.top, hx, (hb hby d1_25), X1.method', Bd.returns, Value.isRef, FieldType.isReference]
    first | (intro acts; rw [hr _ acts rfl rfl rfl]) | rw [hr _ _ rfl rfl rfl]
    exact Steps.refl _
  · show Q_pick_2 Z w_SUBMITTED h0 n0 _ T1.heap _
    rw [e1]
    exact ⟨rfl, N0, rfl⟩
theorem d1_26 : decode method_2_code 26 = .ok (.iload_n 0, 1) := by decide +kernel
theorem d1_27 : decode method_2_code 27 = .ok (.iconst 3, 1) := by decide +kernel
theorem d1_28 : decode method_2_code 28 = .ok (.if_icmp .ne 7, 3) := by decide +kernel
theorem d1_31 : decode method_2_code 31 = .ok (.getstatic 19, 3) := by decide +kernel
theorem d1_34 : decode method_2_code 34 = .ok (.areturn, 1) := by decide +kernel
def Q_pick_3 (Z : State) (w_ACCEPTED : Addr) (h0 : Heap) (n0 : Nat) (v : Option Value) (h : Heap) (L : List Loc) : Prop := v = some (.ref w_ACCEPTED) ∧ Fr n0 L ∧ h = h0
set_option maxRecDepth 65536 in
set_option maxHeartbeats 40000000 in
theorem rm_pick_3 (l : Launch) (Z : State) (a0 : Array Value) (hw : ∀ d ∈ tables_1, d.before a0 Z = true) (ws : List Jvm.Cond) (w_ACCEPTED : Addr) (h0 : Heap) (n0 : Nat) (Z0 : n0 ≤ h0.size) (S_ACCEPTED : Sta Z Z.heap "com/example/disbursa/disbursa/payouts/PayoutStatus" "ACCEPTED" "Lcom/example/disbursa/disbursa/payouts/PayoutStatus;" (.ref w_ACCEPTED)) (O0 : Old Z n0 h0) :
    MetFree l (⟨"com/example/disbursa/disbursa/payouts/PayoutStatusUnpaidPinLaw", "pick", "(I)Lcom/example/disbursa/disbursa/payouts/PayoutStatus;"⟩ : MethodName) (head1 (Jvm.Cond.code (⟨"com/example/disbursa/disbursa/payouts/PayoutStatusUnpaidPinLaw", "pick", "(I)Lcom/example/disbursa/disbursa/payouts/PayoutStatus;"⟩ : MethodName) method_2_code 1 (some (.object "com/example/disbursa/disbursa/payouts/PayoutStatus")) :: ws) ({ frames := 0, cells := 0, slots := 0, locals := 0 } : Room)) (fun a U => a = #[(.int 3)] ∧ Z.Warmed39 U.vm ∧ U.heap = h0) (fun _ _ _ _ _ => True) (fun _ U o U' => ∃ v L, o = .returned v ∧ Q_pick_3 Z w_ACCEPTED h0 n0 v U'.heap L ∧ FrameEnd U o U' L ({ frames := 0, cells := 0, slots := 0, locals := 0 } : Room).cells ({ frames := 0, cells := 0, slots := 0, locals := 0 } : Room).slots) := by
  refine MetFree.of_bodySF (plainFor_of_name pn_1) hisR ?_
  intro p e s m args below meth c s₁ Bd hml0 hP hK
  obtain ⟨rfl, hZ, hh⟩ := hP
  have hx := Bd.exec
  have hby := Bd.bytes
  have hml : c.maxLocals = 1 := hml0
  have hown : s.vm.findClass "com/example/disbursa/disbursa/payouts/PayoutStatusUnpaidPinLaw" = some m.cls := findClass_of_methodNamed Bd.named
  have hnm := (name_of_methodNamed Bd.named Bd.method).1
  have X0 : Stand p l e ({ frames := 0, cells := 0, slots := 0, locals := 0 } : Room) s m #[(.int 3)] below meth c s₁ [] 0 0 := Stand.of_body Bd
  have e0 : s₁.heap = h0 := by rw [← hh, Bd.state]; rfl
  have N0 := Fr.nil n0
  have pre0 : ∀ t, Steps p.tables e below (s₁.setTop (mkF m 0 #[.val (.int 3)] [])) t → Steps p.tables e below (s₁.setTop (entryFrame m #[(.int 3)] 1)) t := fun t k => castTop (ef_1_I m (3 : Int32)) k
  obtain ⟨T1, X1, e1, st1⟩ := getS2 X0 hx hZ hown (host := "") (Or.inl (hwi hw 18 rfl)) Via.refl e0 (S_ACCEPTED.ext O0.2) (g := (mkF m 31 #[.val (.int 3)] [])) rfl (hb hby d1_31)
  obtain ⟨fs, hr, hrun, hended, hW, hsame⟩ := X1.leave (v := some (.ref w_ACCEPTED)) (fun h => by rw [Bd.returns] at h; cases h)
  refine ⟨_, _, pre0 _ ?_, hrun, hended, _, _, rfl, ?_, ⟨_, rfl⟩, hW, hsame.mono (by decide) (by decide)⟩
  · show St p e below s₁ (mkF m 0 #[.val (.int 3)] []) _
    refine XS.iloadN X0.here hx rfl (hb hby d1_0) rfl ?_
    show St p e below s₁ (mkF m 1 #[.val (.int 3)] [(.int 3)]) _
    refine XS.ifYes X0.here hx rfl (pc0 := 1) (pc' := 8) rfl (hb hby d1_1) rfl ((if0 _ _).trans (feq (by decide : ¬ ((3 : Int32) = (0 : Int32)))).2) (by decide) (by decide) ?_
    show St p e below s₁ (mkF m 8 #[.val (.int 3)] []) _
    refine XS.iloadN X0.here hx rfl (hb hby d1_8) rfl ?_
    show St p e below s₁ (mkF m 9 #[.val (.int 3)] [(.int 3)]) _
    refine XS.iconst X0.here hx rfl (hb hby d1_9) ?_
    show St p e below s₁ (mkF m 10 #[.val (.int 3)] [(.int 1), (.int 3)]) _
    refine XS.icmpYes X0.here hx rfl (pc0 := 10) (pc' := 17) rfl (hb hby d1_10) rfl (feq (by decide : ¬ ((3 : Int32) = (1 : Int32)))).2 (by decide) (by decide) ?_
    show St p e below s₁ (mkF m 17 #[.val (.int 3)] []) _
    refine XS.iloadN X0.here hx rfl (hb hby d1_17) rfl ?_
    show St p e below s₁ (mkF m 18 #[.val (.int 3)] [(.int 3)]) _
    refine XS.iconst X0.here hx rfl (hb hby d1_18) ?_
    show St p e below s₁ (mkF m 19 #[.val (.int 3)] [(.int 2), (.int 3)]) _
    refine XS.icmpYes X0.here hx rfl (pc0 := 19) (pc' := 26) rfl (hb hby d1_19) rfl (feq (by decide : ¬ ((3 : Int32) = (2 : Int32)))).2 (by decide) (by decide) ?_
    show St p e below s₁ (mkF m 26 #[.val (.int 3)] []) _
    refine XS.iloadN X0.here hx rfl (hb hby d1_26) rfl ?_
    show St p e below s₁ (mkF m 27 #[.val (.int 3)] [(.int 3)]) _
    refine XS.iconst X0.here hx rfl (hb hby d1_27) ?_
    show St p e below s₁ (mkF m 28 #[.val (.int 3)] [(.int 3), (.int 3)]) _
    refine XS.icmpNo X0.here hx rfl (hb hby d1_28) rfl (teq (by decide : (3 : Int32) = (3 : Int32))).2 ?_
    show St p e below s₁ (mkF m 31 #[.val (.int 3)] []) _
    refine st1 _ ?_
    show St p e below T1 (mkF m 34 #[.val (.int 3)] [(.ref w_ACCEPTED)]) _
    jvm_step X1.here [X1.here.top, hx, (hb hby d1_34), X1.method', Bd.returns, Value.isRef, FieldType.isReference]
    first | (intro acts; rw [hr _ acts rfl rfl rfl]) | rw [hr _ _ rfl rfl rfl]
    exact Steps.refl _
  · show Q_pick_3 Z w_ACCEPTED h0 n0 _ T1.heap _
    rw [e1]
    exact ⟨rfl, N0, rfl⟩
theorem d1_35 : decode method_2_code 35 = .ok (.iload_n 0, 1) := by decide +kernel
theorem d1_36 : decode method_2_code 36 = .ok (.iconst 4, 1) := by decide +kernel
theorem d1_37 : decode method_2_code 37 = .ok (.if_icmp .ne 7, 3) := by decide +kernel
theorem d1_40 : decode method_2_code 40 = .ok (.getstatic 22, 3) := by decide +kernel
theorem d1_43 : decode method_2_code 43 = .ok (.areturn, 1) := by decide +kernel
def Q_pick_4 (Z : State) (w_SETTLED : Addr) (h0 : Heap) (n0 : Nat) (v : Option Value) (h : Heap) (L : List Loc) : Prop := v = some (.ref w_SETTLED) ∧ Fr n0 L ∧ h = h0
set_option maxRecDepth 65536 in
set_option maxHeartbeats 40000000 in
theorem rm_pick_4 (l : Launch) (Z : State) (a0 : Array Value) (hw : ∀ d ∈ tables_1, d.before a0 Z = true) (ws : List Jvm.Cond) (w_SETTLED : Addr) (h0 : Heap) (n0 : Nat) (Z0 : n0 ≤ h0.size) (S_SETTLED : Sta Z Z.heap "com/example/disbursa/disbursa/payouts/PayoutStatus" "SETTLED" "Lcom/example/disbursa/disbursa/payouts/PayoutStatus;" (.ref w_SETTLED)) (O0 : Old Z n0 h0) :
    MetFree l (⟨"com/example/disbursa/disbursa/payouts/PayoutStatusUnpaidPinLaw", "pick", "(I)Lcom/example/disbursa/disbursa/payouts/PayoutStatus;"⟩ : MethodName) (head1 (Jvm.Cond.code (⟨"com/example/disbursa/disbursa/payouts/PayoutStatusUnpaidPinLaw", "pick", "(I)Lcom/example/disbursa/disbursa/payouts/PayoutStatus;"⟩ : MethodName) method_2_code 1 (some (.object "com/example/disbursa/disbursa/payouts/PayoutStatus")) :: ws) ({ frames := 0, cells := 0, slots := 0, locals := 0 } : Room)) (fun a U => a = #[(.int 4)] ∧ Z.Warmed39 U.vm ∧ U.heap = h0) (fun _ _ _ _ _ => True) (fun _ U o U' => ∃ v L, o = .returned v ∧ Q_pick_4 Z w_SETTLED h0 n0 v U'.heap L ∧ FrameEnd U o U' L ({ frames := 0, cells := 0, slots := 0, locals := 0 } : Room).cells ({ frames := 0, cells := 0, slots := 0, locals := 0 } : Room).slots) := by
  refine MetFree.of_bodySF (plainFor_of_name pn_1) hisR ?_
  intro p e s m args below meth c s₁ Bd hml0 hP hK
  obtain ⟨rfl, hZ, hh⟩ := hP
  have hx := Bd.exec
  have hby := Bd.bytes
  have hml : c.maxLocals = 1 := hml0
  have hown : s.vm.findClass "com/example/disbursa/disbursa/payouts/PayoutStatusUnpaidPinLaw" = some m.cls := findClass_of_methodNamed Bd.named
  have hnm := (name_of_methodNamed Bd.named Bd.method).1
  have X0 : Stand p l e ({ frames := 0, cells := 0, slots := 0, locals := 0 } : Room) s m #[(.int 4)] below meth c s₁ [] 0 0 := Stand.of_body Bd
  have e0 : s₁.heap = h0 := by rw [← hh, Bd.state]; rfl
  have N0 := Fr.nil n0
  have pre0 : ∀ t, Steps p.tables e below (s₁.setTop (mkF m 0 #[.val (.int 4)] [])) t → Steps p.tables e below (s₁.setTop (entryFrame m #[(.int 4)] 1)) t := fun t k => castTop (ef_1_I m (4 : Int32)) k
  obtain ⟨T1, X1, e1, st1⟩ := getS2 X0 hx hZ hown (host := "") (Or.inl (hwi hw 26 rfl)) Via.refl e0 (S_SETTLED.ext O0.2) (g := (mkF m 40 #[.val (.int 4)] [])) rfl (hb hby d1_40)
  obtain ⟨fs, hr, hrun, hended, hW, hsame⟩ := X1.leave (v := some (.ref w_SETTLED)) (fun h => by rw [Bd.returns] at h; cases h)
  refine ⟨_, _, pre0 _ ?_, hrun, hended, _, _, rfl, ?_, ⟨_, rfl⟩, hW, hsame.mono (by decide) (by decide)⟩
  · show St p e below s₁ (mkF m 0 #[.val (.int 4)] []) _
    refine XS.iloadN X0.here hx rfl (hb hby d1_0) rfl ?_
    show St p e below s₁ (mkF m 1 #[.val (.int 4)] [(.int 4)]) _
    refine XS.ifYes X0.here hx rfl (pc0 := 1) (pc' := 8) rfl (hb hby d1_1) rfl ((if0 _ _).trans (feq (by decide : ¬ ((4 : Int32) = (0 : Int32)))).2) (by decide) (by decide) ?_
    show St p e below s₁ (mkF m 8 #[.val (.int 4)] []) _
    refine XS.iloadN X0.here hx rfl (hb hby d1_8) rfl ?_
    show St p e below s₁ (mkF m 9 #[.val (.int 4)] [(.int 4)]) _
    refine XS.iconst X0.here hx rfl (hb hby d1_9) ?_
    show St p e below s₁ (mkF m 10 #[.val (.int 4)] [(.int 1), (.int 4)]) _
    refine XS.icmpYes X0.here hx rfl (pc0 := 10) (pc' := 17) rfl (hb hby d1_10) rfl (feq (by decide : ¬ ((4 : Int32) = (1 : Int32)))).2 (by decide) (by decide) ?_
    show St p e below s₁ (mkF m 17 #[.val (.int 4)] []) _
    refine XS.iloadN X0.here hx rfl (hb hby d1_17) rfl ?_
    show St p e below s₁ (mkF m 18 #[.val (.int 4)] [(.int 4)]) _
    refine XS.iconst X0.here hx rfl (hb hby d1_18) ?_
    show St p e below s₁ (mkF m 19 #[.val (.int 4)] [(.int 2), (.int 4)]) _
    refine XS.icmpYes X0.here hx rfl (pc0 := 19) (pc' := 26) rfl (hb hby d1_19) rfl (feq (by decide : ¬ ((4 : Int32) = (2 : Int32)))).2 (by decide) (by decide) ?_
    show St p e below s₁ (mkF m 26 #[.val (.int 4)] []) _
    refine XS.iloadN X0.here hx rfl (hb hby d1_26) rfl ?_
    show St p e below s₁ (mkF m 27 #[.val (.int 4)] [(.int 4)]) _
    refine XS.iconst X0.here hx rfl (hb hby d1_27) ?_
    show St p e below s₁ (mkF m 28 #[.val (.int 4)] [(.int 3), (.int 4)]) _
    refine XS.icmpYes X0.here hx rfl (pc0 := 28) (pc' := 35) rfl (hb hby d1_28) rfl (feq (by decide : ¬ ((4 : Int32) = (3 : Int32)))).2 (by decide) (by decide) ?_
    show St p e below s₁ (mkF m 35 #[.val (.int 4)] []) _
    refine XS.iloadN X0.here hx rfl (hb hby d1_35) rfl ?_
    show St p e below s₁ (mkF m 36 #[.val (.int 4)] [(.int 4)]) _
    refine XS.iconst X0.here hx rfl (hb hby d1_36) ?_
    show St p e below s₁ (mkF m 37 #[.val (.int 4)] [(.int 4), (.int 4)]) _
    refine XS.icmpNo X0.here hx rfl (hb hby d1_37) rfl (teq (by decide : (4 : Int32) = (4 : Int32))).2 ?_
    show St p e below s₁ (mkF m 40 #[.val (.int 4)] []) _
    refine st1 _ ?_
    show St p e below T1 (mkF m 43 #[.val (.int 4)] [(.ref w_SETTLED)]) _
    jvm_step X1.here [X1.here.top, hx, (hb hby d1_43), X1.method', Bd.returns, Value.isRef, FieldType.isReference]
    first | (intro acts; rw [hr _ acts rfl rfl rfl]) | rw [hr _ _ rfl rfl rfl]
    exact Steps.refl _
  · show Q_pick_4 Z w_SETTLED h0 n0 _ T1.heap _
    rw [e1]
    exact ⟨rfl, N0, rfl⟩
theorem d1_44 : decode method_2_code 44 = .ok (.iload_n 0, 1) := by decide +kernel
theorem d1_45 : decode method_2_code 45 = .ok (.iconst 5, 1) := by decide +kernel
theorem d1_46 : decode method_2_code 46 = .ok (.if_icmp .ne 7, 3) := by decide +kernel
theorem d1_49 : decode method_2_code 49 = .ok (.getstatic 25, 3) := by decide +kernel
theorem d1_52 : decode method_2_code 52 = .ok (.areturn, 1) := by decide +kernel
def Q_pick_5 (Z : State) (w_REVERSED : Addr) (h0 : Heap) (n0 : Nat) (v : Option Value) (h : Heap) (L : List Loc) : Prop := v = some (.ref w_REVERSED) ∧ Fr n0 L ∧ h = h0
set_option maxRecDepth 65536 in
set_option maxHeartbeats 40000000 in
theorem rm_pick_5 (l : Launch) (Z : State) (a0 : Array Value) (hw : ∀ d ∈ tables_1, d.before a0 Z = true) (ws : List Jvm.Cond) (w_REVERSED : Addr) (h0 : Heap) (n0 : Nat) (Z0 : n0 ≤ h0.size) (S_REVERSED : Sta Z Z.heap "com/example/disbursa/disbursa/payouts/PayoutStatus" "REVERSED" "Lcom/example/disbursa/disbursa/payouts/PayoutStatus;" (.ref w_REVERSED)) (O0 : Old Z n0 h0) :
    MetFree l (⟨"com/example/disbursa/disbursa/payouts/PayoutStatusUnpaidPinLaw", "pick", "(I)Lcom/example/disbursa/disbursa/payouts/PayoutStatus;"⟩ : MethodName) (head1 (Jvm.Cond.code (⟨"com/example/disbursa/disbursa/payouts/PayoutStatusUnpaidPinLaw", "pick", "(I)Lcom/example/disbursa/disbursa/payouts/PayoutStatus;"⟩ : MethodName) method_2_code 1 (some (.object "com/example/disbursa/disbursa/payouts/PayoutStatus")) :: ws) ({ frames := 0, cells := 0, slots := 0, locals := 0 } : Room)) (fun a U => a = #[(.int 5)] ∧ Z.Warmed39 U.vm ∧ U.heap = h0) (fun _ _ _ _ _ => True) (fun _ U o U' => ∃ v L, o = .returned v ∧ Q_pick_5 Z w_REVERSED h0 n0 v U'.heap L ∧ FrameEnd U o U' L ({ frames := 0, cells := 0, slots := 0, locals := 0 } : Room).cells ({ frames := 0, cells := 0, slots := 0, locals := 0 } : Room).slots) := by
  refine MetFree.of_bodySF (plainFor_of_name pn_1) hisR ?_
  intro p e s m args below meth c s₁ Bd hml0 hP hK
  obtain ⟨rfl, hZ, hh⟩ := hP
  have hx := Bd.exec
  have hby := Bd.bytes
  have hml : c.maxLocals = 1 := hml0
  have hown : s.vm.findClass "com/example/disbursa/disbursa/payouts/PayoutStatusUnpaidPinLaw" = some m.cls := findClass_of_methodNamed Bd.named
  have hnm := (name_of_methodNamed Bd.named Bd.method).1
  have X0 : Stand p l e ({ frames := 0, cells := 0, slots := 0, locals := 0 } : Room) s m #[(.int 5)] below meth c s₁ [] 0 0 := Stand.of_body Bd
  have e0 : s₁.heap = h0 := by rw [← hh, Bd.state]; rfl
  have N0 := Fr.nil n0
  have pre0 : ∀ t, Steps p.tables e below (s₁.setTop (mkF m 0 #[.val (.int 5)] [])) t → Steps p.tables e below (s₁.setTop (entryFrame m #[(.int 5)] 1)) t := fun t k => castTop (ef_1_I m (5 : Int32)) k
  obtain ⟨T1, X1, e1, st1⟩ := getS2 X0 hx hZ hown (host := "") (Or.inl (hwi hw 28 rfl)) Via.refl e0 (S_REVERSED.ext O0.2) (g := (mkF m 49 #[.val (.int 5)] [])) rfl (hb hby d1_49)
  obtain ⟨fs, hr, hrun, hended, hW, hsame⟩ := X1.leave (v := some (.ref w_REVERSED)) (fun h => by rw [Bd.returns] at h; cases h)
  refine ⟨_, _, pre0 _ ?_, hrun, hended, _, _, rfl, ?_, ⟨_, rfl⟩, hW, hsame.mono (by decide) (by decide)⟩
  · show St p e below s₁ (mkF m 0 #[.val (.int 5)] []) _
    refine XS.iloadN X0.here hx rfl (hb hby d1_0) rfl ?_
    show St p e below s₁ (mkF m 1 #[.val (.int 5)] [(.int 5)]) _
    refine XS.ifYes X0.here hx rfl (pc0 := 1) (pc' := 8) rfl (hb hby d1_1) rfl ((if0 _ _).trans (feq (by decide : ¬ ((5 : Int32) = (0 : Int32)))).2) (by decide) (by decide) ?_
    show St p e below s₁ (mkF m 8 #[.val (.int 5)] []) _
    refine XS.iloadN X0.here hx rfl (hb hby d1_8) rfl ?_
    show St p e below s₁ (mkF m 9 #[.val (.int 5)] [(.int 5)]) _
    refine XS.iconst X0.here hx rfl (hb hby d1_9) ?_
    show St p e below s₁ (mkF m 10 #[.val (.int 5)] [(.int 1), (.int 5)]) _
    refine XS.icmpYes X0.here hx rfl (pc0 := 10) (pc' := 17) rfl (hb hby d1_10) rfl (feq (by decide : ¬ ((5 : Int32) = (1 : Int32)))).2 (by decide) (by decide) ?_
    show St p e below s₁ (mkF m 17 #[.val (.int 5)] []) _
    refine XS.iloadN X0.here hx rfl (hb hby d1_17) rfl ?_
    show St p e below s₁ (mkF m 18 #[.val (.int 5)] [(.int 5)]) _
    refine XS.iconst X0.here hx rfl (hb hby d1_18) ?_
    show St p e below s₁ (mkF m 19 #[.val (.int 5)] [(.int 2), (.int 5)]) _
    refine XS.icmpYes X0.here hx rfl (pc0 := 19) (pc' := 26) rfl (hb hby d1_19) rfl (feq (by decide : ¬ ((5 : Int32) = (2 : Int32)))).2 (by decide) (by decide) ?_
    show St p e below s₁ (mkF m 26 #[.val (.int 5)] []) _
    refine XS.iloadN X0.here hx rfl (hb hby d1_26) rfl ?_
    show St p e below s₁ (mkF m 27 #[.val (.int 5)] [(.int 5)]) _
    refine XS.iconst X0.here hx rfl (hb hby d1_27) ?_
    show St p e below s₁ (mkF m 28 #[.val (.int 5)] [(.int 3), (.int 5)]) _
    refine XS.icmpYes X0.here hx rfl (pc0 := 28) (pc' := 35) rfl (hb hby d1_28) rfl (feq (by decide : ¬ ((5 : Int32) = (3 : Int32)))).2 (by decide) (by decide) ?_
    show St p e below s₁ (mkF m 35 #[.val (.int 5)] []) _
    refine XS.iloadN X0.here hx rfl (hb hby d1_35) rfl ?_
    show St p e below s₁ (mkF m 36 #[.val (.int 5)] [(.int 5)]) _
    refine XS.iconst X0.here hx rfl (hb hby d1_36) ?_
    show St p e below s₁ (mkF m 37 #[.val (.int 5)] [(.int 4), (.int 5)]) _
    refine XS.icmpYes X0.here hx rfl (pc0 := 37) (pc' := 44) rfl (hb hby d1_37) rfl (feq (by decide : ¬ ((5 : Int32) = (4 : Int32)))).2 (by decide) (by decide) ?_
    show St p e below s₁ (mkF m 44 #[.val (.int 5)] []) _
    refine XS.iloadN X0.here hx rfl (hb hby d1_44) rfl ?_
    show St p e below s₁ (mkF m 45 #[.val (.int 5)] [(.int 5)]) _
    refine XS.iconst X0.here hx rfl (hb hby d1_45) ?_
    show St p e below s₁ (mkF m 46 #[.val (.int 5)] [(.int 5), (.int 5)]) _
    refine XS.icmpNo X0.here hx rfl (hb hby d1_46) rfl (teq (by decide : (5 : Int32) = (5 : Int32))).2 ?_
    show St p e below s₁ (mkF m 49 #[.val (.int 5)] []) _
    refine st1 _ ?_
    show St p e below T1 (mkF m 52 #[.val (.int 5)] [(.ref w_REVERSED)]) _
    jvm_step X1.here [X1.here.top, hx, (hb hby d1_52), X1.method', Bd.returns, Value.isRef, FieldType.isReference]
    first | (intro acts; rw [hr _ acts rfl rfl rfl]) | rw [hr _ _ rfl rfl rfl]
    exact Steps.refl _
  · show Q_pick_5 Z w_REVERSED h0 n0 _ T1.heap _
    rw [e1]
    exact ⟨rfl, N0, rfl⟩
theorem d1_53 : decode method_2_code 53 = .ok (.iload_n 0, 1) := by decide +kernel
theorem d1_54 : decode method_2_code 54 = .ok (.bipush 6, 2) := by decide +kernel
theorem d1_56 : decode method_2_code 56 = .ok (.if_icmp .ne 7, 3) := by decide +kernel
theorem d1_59 : decode method_2_code 59 = .ok (.getstatic 28, 3) := by decide +kernel
theorem d1_62 : decode method_2_code 62 = .ok (.areturn, 1) := by decide +kernel
def Q_pick_6 (Z : State) (w_RETURNED : Addr) (h0 : Heap) (n0 : Nat) (v : Option Value) (h : Heap) (L : List Loc) : Prop := v = some (.ref w_RETURNED) ∧ Fr n0 L ∧ h = h0
set_option maxRecDepth 65536 in
set_option maxHeartbeats 40000000 in
theorem rm_pick_6 (l : Launch) (Z : State) (a0 : Array Value) (hw : ∀ d ∈ tables_1, d.before a0 Z = true) (ws : List Jvm.Cond) (w_RETURNED : Addr) (h0 : Heap) (n0 : Nat) (Z0 : n0 ≤ h0.size) (S_RETURNED : Sta Z Z.heap "com/example/disbursa/disbursa/payouts/PayoutStatus" "RETURNED" "Lcom/example/disbursa/disbursa/payouts/PayoutStatus;" (.ref w_RETURNED)) (O0 : Old Z n0 h0) :
    MetFree l (⟨"com/example/disbursa/disbursa/payouts/PayoutStatusUnpaidPinLaw", "pick", "(I)Lcom/example/disbursa/disbursa/payouts/PayoutStatus;"⟩ : MethodName) (head1 (Jvm.Cond.code (⟨"com/example/disbursa/disbursa/payouts/PayoutStatusUnpaidPinLaw", "pick", "(I)Lcom/example/disbursa/disbursa/payouts/PayoutStatus;"⟩ : MethodName) method_2_code 1 (some (.object "com/example/disbursa/disbursa/payouts/PayoutStatus")) :: ws) ({ frames := 0, cells := 0, slots := 0, locals := 0 } : Room)) (fun a U => a = #[(.int 6)] ∧ Z.Warmed39 U.vm ∧ U.heap = h0) (fun _ _ _ _ _ => True) (fun _ U o U' => ∃ v L, o = .returned v ∧ Q_pick_6 Z w_RETURNED h0 n0 v U'.heap L ∧ FrameEnd U o U' L ({ frames := 0, cells := 0, slots := 0, locals := 0 } : Room).cells ({ frames := 0, cells := 0, slots := 0, locals := 0 } : Room).slots) := by
  refine MetFree.of_bodySF (plainFor_of_name pn_1) hisR ?_
  intro p e s m args below meth c s₁ Bd hml0 hP hK
  obtain ⟨rfl, hZ, hh⟩ := hP
  have hx := Bd.exec
  have hby := Bd.bytes
  have hml : c.maxLocals = 1 := hml0
  have hown : s.vm.findClass "com/example/disbursa/disbursa/payouts/PayoutStatusUnpaidPinLaw" = some m.cls := findClass_of_methodNamed Bd.named
  have hnm := (name_of_methodNamed Bd.named Bd.method).1
  have X0 : Stand p l e ({ frames := 0, cells := 0, slots := 0, locals := 0 } : Room) s m #[(.int 6)] below meth c s₁ [] 0 0 := Stand.of_body Bd
  have e0 : s₁.heap = h0 := by rw [← hh, Bd.state]; rfl
  have N0 := Fr.nil n0
  have pre0 : ∀ t, Steps p.tables e below (s₁.setTop (mkF m 0 #[.val (.int 6)] [])) t → Steps p.tables e below (s₁.setTop (entryFrame m #[(.int 6)] 1)) t := fun t k => castTop (ef_1_I m (6 : Int32)) k
  obtain ⟨T1, X1, e1, st1⟩ := getS2 X0 hx hZ hown (host := "") (Or.inl (hwi hw 20 rfl)) Via.refl e0 (S_RETURNED.ext O0.2) (g := (mkF m 59 #[.val (.int 6)] [])) rfl (hb hby d1_59)
  obtain ⟨fs, hr, hrun, hended, hW, hsame⟩ := X1.leave (v := some (.ref w_RETURNED)) (fun h => by rw [Bd.returns] at h; cases h)
  refine ⟨_, _, pre0 _ ?_, hrun, hended, _, _, rfl, ?_, ⟨_, rfl⟩, hW, hsame.mono (by decide) (by decide)⟩
  · show St p e below s₁ (mkF m 0 #[.val (.int 6)] []) _
    refine XS.iloadN X0.here hx rfl (hb hby d1_0) rfl ?_
    show St p e below s₁ (mkF m 1 #[.val (.int 6)] [(.int 6)]) _
    refine XS.ifYes X0.here hx rfl (pc0 := 1) (pc' := 8) rfl (hb hby d1_1) rfl ((if0 _ _).trans (feq (by decide : ¬ ((6 : Int32) = (0 : Int32)))).2) (by decide) (by decide) ?_
    show St p e below s₁ (mkF m 8 #[.val (.int 6)] []) _
    refine XS.iloadN X0.here hx rfl (hb hby d1_8) rfl ?_
    show St p e below s₁ (mkF m 9 #[.val (.int 6)] [(.int 6)]) _
    refine XS.iconst X0.here hx rfl (hb hby d1_9) ?_
    show St p e below s₁ (mkF m 10 #[.val (.int 6)] [(.int 1), (.int 6)]) _
    refine XS.icmpYes X0.here hx rfl (pc0 := 10) (pc' := 17) rfl (hb hby d1_10) rfl (feq (by decide : ¬ ((6 : Int32) = (1 : Int32)))).2 (by decide) (by decide) ?_
    show St p e below s₁ (mkF m 17 #[.val (.int 6)] []) _
    refine XS.iloadN X0.here hx rfl (hb hby d1_17) rfl ?_
    show St p e below s₁ (mkF m 18 #[.val (.int 6)] [(.int 6)]) _
    refine XS.iconst X0.here hx rfl (hb hby d1_18) ?_
    show St p e below s₁ (mkF m 19 #[.val (.int 6)] [(.int 2), (.int 6)]) _
    refine XS.icmpYes X0.here hx rfl (pc0 := 19) (pc' := 26) rfl (hb hby d1_19) rfl (feq (by decide : ¬ ((6 : Int32) = (2 : Int32)))).2 (by decide) (by decide) ?_
    show St p e below s₁ (mkF m 26 #[.val (.int 6)] []) _
    refine XS.iloadN X0.here hx rfl (hb hby d1_26) rfl ?_
    show St p e below s₁ (mkF m 27 #[.val (.int 6)] [(.int 6)]) _
    refine XS.iconst X0.here hx rfl (hb hby d1_27) ?_
    show St p e below s₁ (mkF m 28 #[.val (.int 6)] [(.int 3), (.int 6)]) _
    refine XS.icmpYes X0.here hx rfl (pc0 := 28) (pc' := 35) rfl (hb hby d1_28) rfl (feq (by decide : ¬ ((6 : Int32) = (3 : Int32)))).2 (by decide) (by decide) ?_
    show St p e below s₁ (mkF m 35 #[.val (.int 6)] []) _
    refine XS.iloadN X0.here hx rfl (hb hby d1_35) rfl ?_
    show St p e below s₁ (mkF m 36 #[.val (.int 6)] [(.int 6)]) _
    refine XS.iconst X0.here hx rfl (hb hby d1_36) ?_
    show St p e below s₁ (mkF m 37 #[.val (.int 6)] [(.int 4), (.int 6)]) _
    refine XS.icmpYes X0.here hx rfl (pc0 := 37) (pc' := 44) rfl (hb hby d1_37) rfl (feq (by decide : ¬ ((6 : Int32) = (4 : Int32)))).2 (by decide) (by decide) ?_
    show St p e below s₁ (mkF m 44 #[.val (.int 6)] []) _
    refine XS.iloadN X0.here hx rfl (hb hby d1_44) rfl ?_
    show St p e below s₁ (mkF m 45 #[.val (.int 6)] [(.int 6)]) _
    refine XS.iconst X0.here hx rfl (hb hby d1_45) ?_
    show St p e below s₁ (mkF m 46 #[.val (.int 6)] [(.int 5), (.int 6)]) _
    refine XS.icmpYes X0.here hx rfl (pc0 := 46) (pc' := 53) rfl (hb hby d1_46) rfl (feq (by decide : ¬ ((6 : Int32) = (5 : Int32)))).2 (by decide) (by decide) ?_
    show St p e below s₁ (mkF m 53 #[.val (.int 6)] []) _
    refine XS.iloadN X0.here hx rfl (hb hby d1_53) rfl ?_
    show St p e below s₁ (mkF m 54 #[.val (.int 6)] [(.int 6)]) _
    refine XS.bipush X0.here hx rfl (hb hby d1_54) ?_
    show St p e below s₁ (mkF m 56 #[.val (.int 6)] [(.int 6), (.int 6)]) _
    refine XS.icmpNo X0.here hx rfl (hb hby d1_56) rfl (teq (by decide : (6 : Int32) = (6 : Int32))).2 ?_
    show St p e below s₁ (mkF m 59 #[.val (.int 6)] []) _
    refine st1 _ ?_
    show St p e below T1 (mkF m 62 #[.val (.int 6)] [(.ref w_RETURNED)]) _
    jvm_step X1.here [X1.here.top, hx, (hb hby d1_62), X1.method', Bd.returns, Value.isRef, FieldType.isReference]
    first | (intro acts; rw [hr _ acts rfl rfl rfl]) | rw [hr _ _ rfl rfl rfl]
    exact Steps.refl _
  · show Q_pick_6 Z w_RETURNED h0 n0 _ T1.heap _
    rw [e1]
    exact ⟨rfl, N0, rfl⟩
theorem d1_63 : decode method_2_code 63 = .ok (.getstatic 31, 3) := by decide +kernel
theorem d1_66 : decode method_2_code 66 = .ok (.areturn, 1) := by decide +kernel
def Q_pick_7 (Z : State) (w_FAILED : Addr) (h0 : Heap) (n0 : Nat) (v : Option Value) (h : Heap) (L : List Loc) : Prop := v = some (.ref w_FAILED) ∧ Fr n0 L ∧ h = h0
set_option maxRecDepth 65536 in
set_option maxHeartbeats 40000000 in
theorem rm_pick_7 (l : Launch) (Z : State) (a0 : Array Value) (hw : ∀ d ∈ tables_1, d.before a0 Z = true) (ws : List Jvm.Cond) (w_FAILED : Addr) (h0 : Heap) (n0 : Nat) (Z0 : n0 ≤ h0.size) (S_FAILED : Sta Z Z.heap "com/example/disbursa/disbursa/payouts/PayoutStatus" "FAILED" "Lcom/example/disbursa/disbursa/payouts/PayoutStatus;" (.ref w_FAILED)) (O0 : Old Z n0 h0) :
    MetFree l (⟨"com/example/disbursa/disbursa/payouts/PayoutStatusUnpaidPinLaw", "pick", "(I)Lcom/example/disbursa/disbursa/payouts/PayoutStatus;"⟩ : MethodName) (head1 (Jvm.Cond.code (⟨"com/example/disbursa/disbursa/payouts/PayoutStatusUnpaidPinLaw", "pick", "(I)Lcom/example/disbursa/disbursa/payouts/PayoutStatus;"⟩ : MethodName) method_2_code 1 (some (.object "com/example/disbursa/disbursa/payouts/PayoutStatus")) :: ws) ({ frames := 0, cells := 0, slots := 0, locals := 0 } : Room)) (fun a U => a = #[(.int 7)] ∧ Z.Warmed39 U.vm ∧ U.heap = h0) (fun _ _ _ _ _ => True) (fun _ U o U' => ∃ v L, o = .returned v ∧ Q_pick_7 Z w_FAILED h0 n0 v U'.heap L ∧ FrameEnd U o U' L ({ frames := 0, cells := 0, slots := 0, locals := 0 } : Room).cells ({ frames := 0, cells := 0, slots := 0, locals := 0 } : Room).slots) := by
  refine MetFree.of_bodySF (plainFor_of_name pn_1) hisR ?_
  intro p e s m args below meth c s₁ Bd hml0 hP hK
  obtain ⟨rfl, hZ, hh⟩ := hP
  have hx := Bd.exec
  have hby := Bd.bytes
  have hml : c.maxLocals = 1 := hml0
  have hown : s.vm.findClass "com/example/disbursa/disbursa/payouts/PayoutStatusUnpaidPinLaw" = some m.cls := findClass_of_methodNamed Bd.named
  have hnm := (name_of_methodNamed Bd.named Bd.method).1
  have X0 : Stand p l e ({ frames := 0, cells := 0, slots := 0, locals := 0 } : Room) s m #[(.int 7)] below meth c s₁ [] 0 0 := Stand.of_body Bd
  have e0 : s₁.heap = h0 := by rw [← hh, Bd.state]; rfl
  have N0 := Fr.nil n0
  have pre0 : ∀ t, Steps p.tables e below (s₁.setTop (mkF m 0 #[.val (.int 7)] [])) t → Steps p.tables e below (s₁.setTop (entryFrame m #[(.int 7)] 1)) t := fun t k => castTop (ef_1_I m (7 : Int32)) k
  obtain ⟨T1, X1, e1, st1⟩ := getS2 X0 hx hZ hown (host := "") (Or.inl (hwi hw 21 rfl)) Via.refl e0 (S_FAILED.ext O0.2) (g := (mkF m 63 #[.val (.int 7)] [])) rfl (hb hby d1_63)
  obtain ⟨fs, hr, hrun, hended, hW, hsame⟩ := X1.leave (v := some (.ref w_FAILED)) (fun h => by rw [Bd.returns] at h; cases h)
  refine ⟨_, _, pre0 _ ?_, hrun, hended, _, _, rfl, ?_, ⟨_, rfl⟩, hW, hsame.mono (by decide) (by decide)⟩
  · show St p e below s₁ (mkF m 0 #[.val (.int 7)] []) _
    refine XS.iloadN X0.here hx rfl (hb hby d1_0) rfl ?_
    show St p e below s₁ (mkF m 1 #[.val (.int 7)] [(.int 7)]) _
    refine XS.ifYes X0.here hx rfl (pc0 := 1) (pc' := 8) rfl (hb hby d1_1) rfl ((if0 _ _).trans (feq (by decide : ¬ ((7 : Int32) = (0 : Int32)))).2) (by decide) (by decide) ?_
    show St p e below s₁ (mkF m 8 #[.val (.int 7)] []) _
    refine XS.iloadN X0.here hx rfl (hb hby d1_8) rfl ?_
    show St p e below s₁ (mkF m 9 #[.val (.int 7)] [(.int 7)]) _
    refine XS.iconst X0.here hx rfl (hb hby d1_9) ?_
    show St p e below s₁ (mkF m 10 #[.val (.int 7)] [(.int 1), (.int 7)]) _
    refine XS.icmpYes X0.here hx rfl (pc0 := 10) (pc' := 17) rfl (hb hby d1_10) rfl (feq (by decide : ¬ ((7 : Int32) = (1 : Int32)))).2 (by decide) (by decide) ?_
    show St p e below s₁ (mkF m 17 #[.val (.int 7)] []) _
    refine XS.iloadN X0.here hx rfl (hb hby d1_17) rfl ?_
    show St p e below s₁ (mkF m 18 #[.val (.int 7)] [(.int 7)]) _
    refine XS.iconst X0.here hx rfl (hb hby d1_18) ?_
    show St p e below s₁ (mkF m 19 #[.val (.int 7)] [(.int 2), (.int 7)]) _
    refine XS.icmpYes X0.here hx rfl (pc0 := 19) (pc' := 26) rfl (hb hby d1_19) rfl (feq (by decide : ¬ ((7 : Int32) = (2 : Int32)))).2 (by decide) (by decide) ?_
    show St p e below s₁ (mkF m 26 #[.val (.int 7)] []) _
    refine XS.iloadN X0.here hx rfl (hb hby d1_26) rfl ?_
    show St p e below s₁ (mkF m 27 #[.val (.int 7)] [(.int 7)]) _
    refine XS.iconst X0.here hx rfl (hb hby d1_27) ?_
    show St p e below s₁ (mkF m 28 #[.val (.int 7)] [(.int 3), (.int 7)]) _
    refine XS.icmpYes X0.here hx rfl (pc0 := 28) (pc' := 35) rfl (hb hby d1_28) rfl (feq (by decide : ¬ ((7 : Int32) = (3 : Int32)))).2 (by decide) (by decide) ?_
    show St p e below s₁ (mkF m 35 #[.val (.int 7)] []) _
    refine XS.iloadN X0.here hx rfl (hb hby d1_35) rfl ?_
    show St p e below s₁ (mkF m 36 #[.val (.int 7)] [(.int 7)]) _
    refine XS.iconst X0.here hx rfl (hb hby d1_36) ?_
    show St p e below s₁ (mkF m 37 #[.val (.int 7)] [(.int 4), (.int 7)]) _
    refine XS.icmpYes X0.here hx rfl (pc0 := 37) (pc' := 44) rfl (hb hby d1_37) rfl (feq (by decide : ¬ ((7 : Int32) = (4 : Int32)))).2 (by decide) (by decide) ?_
    show St p e below s₁ (mkF m 44 #[.val (.int 7)] []) _
    refine XS.iloadN X0.here hx rfl (hb hby d1_44) rfl ?_
    show St p e below s₁ (mkF m 45 #[.val (.int 7)] [(.int 7)]) _
    refine XS.iconst X0.here hx rfl (hb hby d1_45) ?_
    show St p e below s₁ (mkF m 46 #[.val (.int 7)] [(.int 5), (.int 7)]) _
    refine XS.icmpYes X0.here hx rfl (pc0 := 46) (pc' := 53) rfl (hb hby d1_46) rfl (feq (by decide : ¬ ((7 : Int32) = (5 : Int32)))).2 (by decide) (by decide) ?_
    show St p e below s₁ (mkF m 53 #[.val (.int 7)] []) _
    refine XS.iloadN X0.here hx rfl (hb hby d1_53) rfl ?_
    show St p e below s₁ (mkF m 54 #[.val (.int 7)] [(.int 7)]) _
    refine XS.bipush X0.here hx rfl (hb hby d1_54) ?_
    show St p e below s₁ (mkF m 56 #[.val (.int 7)] [(.int 6), (.int 7)]) _
    refine XS.icmpYes X0.here hx rfl (pc0 := 56) (pc' := 63) rfl (hb hby d1_56) rfl (feq (by decide : ¬ ((7 : Int32) = (6 : Int32)))).2 (by decide) (by decide) ?_
    show St p e below s₁ (mkF m 63 #[.val (.int 7)] []) _
    refine st1 _ ?_
    show St p e below T1 (mkF m 66 #[.val (.int 7)] [(.ref w_FAILED)]) _
    jvm_step X1.here [X1.here.top, hx, (hb hby d1_66), X1.method', Bd.returns, Value.isRef, FieldType.isReference]
    first | (intro acts; rw [hr _ acts rfl rfl rfl]) | rw [hr _ _ rfl rfl rfl]
    exact Steps.refl _
  · show Q_pick_7 Z w_FAILED h0 n0 _ T1.heap _
    rw [e1]
    exact ⟨rfl, N0, rfl⟩
theorem d2_0 : decode prog_111_method_5_code 0 = .ok (.aload_n 0, 1) := by decide +kernel
theorem d2_1 : decode prog_111_method_5_code 1 = .ok (.getstatic 19, 3) := by decide +kernel
theorem d2_4 : decode prog_111_method_5_code 4 = .ok (.if_acmp .eq 17, 3) := by decide +kernel
theorem d2_21 : decode prog_111_method_5_code 21 = .ok (.iconst 1, 1) := by decide +kernel
theorem d2_22 : decode prog_111_method_5_code 22 = .ok (.goto 4, 3) := by decide +kernel
theorem d2_26 : decode prog_111_method_5_code 26 = .ok (.ireturn, 1) := by decide +kernel
theorem pn_2 : plainName "com/example/disbursa/disbursa/payouts/PayoutStatus" = true := by first | (simp [plainName, overriddenIn]; done) | decide +kernel
theorem ef_2_R (m : MethodId) (x0 : Addr) : entryFrame m #[(.ref x0)] 1 = mkF m 0 #[.val (.ref x0)] [] := by first | (simp [entryFrame, mkF, argsToLocals, Value.category]; done) | rfl
def Q_unpaid_rev (Z : State) (w_REVERSED : Addr) (h0 : Heap) (n0 : Nat) (v : Option Value) (h : Heap) (L : List Loc) : Prop := v = some (.int 1) ∧ Fr n0 L ∧ h = h0
set_option maxRecDepth 65536 in
set_option maxHeartbeats 40000000 in
theorem rm_unpaid_rev (l : Launch) (Z : State) (a0 : Array Value) (hw : ∀ d ∈ tables_1, d.before a0 Z = true) (ws : List Jvm.Cond) (w_REVERSED : Addr) (h0 : Heap) (n0 : Nat) (Z0 : n0 ≤ h0.size) (S_REVERSED : Sta Z Z.heap "com/example/disbursa/disbursa/payouts/PayoutStatus" "REVERSED" "Lcom/example/disbursa/disbursa/payouts/PayoutStatus;" (.ref w_REVERSED)) (O0 : Old Z n0 h0) :
    MetFree l (⟨"com/example/disbursa/disbursa/payouts/PayoutStatus", "unpaid", "()Z"⟩ : MethodName) (head1 (Jvm.Cond.code (⟨"com/example/disbursa/disbursa/payouts/PayoutStatus", "unpaid", "()Z"⟩ : MethodName) prog_111_method_5_code 1 (some .boolean) :: ws) ({ frames := 0, cells := 0, slots := 0, locals := 0 } : Room)) (fun a U => a = #[(.ref w_REVERSED)] ∧ Z.Warmed39 U.vm ∧ U.heap = h0) (fun _ _ _ _ _ => True) (fun _ U o U' => ∃ v L, o = .returned v ∧ Q_unpaid_rev Z w_REVERSED h0 n0 v U'.heap L ∧ FrameEnd U o U' L ({ frames := 0, cells := 0, slots := 0, locals := 0 } : Room).cells ({ frames := 0, cells := 0, slots := 0, locals := 0 } : Room).slots) := by
  refine MetFree.of_bodySF (plainFor_of_name pn_2) hisR ?_
  intro p e s m args below meth c s₁ Bd hml0 hP hK
  obtain ⟨rfl, hZ, hh⟩ := hP
  have hx := Bd.exec
  have hby := Bd.bytes
  have hml : c.maxLocals = 1 := hml0
  have hown : s.vm.findClass "com/example/disbursa/disbursa/payouts/PayoutStatus" = some m.cls := findClass_of_methodNamed Bd.named
  have hnm := (name_of_methodNamed Bd.named Bd.method).1
  have X0 : Stand p l e ({ frames := 0, cells := 0, slots := 0, locals := 0 } : Room) s m #[(.ref w_REVERSED)] below meth c s₁ [] 0 0 := Stand.of_body Bd
  have e0 : s₁.heap = h0 := by rw [← hh, Bd.state]; rfl
  have N0 := Fr.nil n0
  have pre0 : ∀ t, Steps p.tables e below (s₁.setTop (mkF m 0 #[.val (.ref w_REVERSED)] [])) t → Steps p.tables e below (s₁.setTop (entryFrame m #[(.ref w_REVERSED)] 1)) t := fun t k => castTop (ef_2_R m w_REVERSED) k
  obtain ⟨T1, X1, e1, st1⟩ := getS2 X0 hx hZ hown (host := "") (Or.inl (hwi hw 12 rfl)) Via.refl e0 (S_REVERSED.ext O0.2) (g := (mkF m 1 #[.val (.ref w_REVERSED)] [(.ref w_REVERSED)])) rfl (hb hby d2_1)
  obtain ⟨fs, hr, hrun, hended, hW, hsame⟩ := X1.leave (v := some (.int 1)) (fun h => by rw [Bd.returns] at h; cases h)
  refine ⟨_, _, pre0 _ ?_, hrun, hended, _, _, rfl, ?_, ⟨_, rfl⟩, hW, hsame.mono (by decide) (by decide)⟩
  · show St p e below s₁ (mkF m 0 #[.val (.ref w_REVERSED)] []) _
    refine XS.aloadN X0.here hx rfl (hb hby d2_0) rfl rfl ?_
    show St p e below s₁ (mkF m 1 #[.val (.ref w_REVERSED)] [(.ref w_REVERSED)]) _
    refine st1 _ ?_
    show St p e below T1 (mkF m 4 #[.val (.ref w_REVERSED)] [(.ref w_REVERSED), (.ref w_REVERSED)]) _
    refine Jvm.RoadKit.acmp (g := (mkF m 4 #[.val (.ref w_REVERSED)] [(.ref w_REVERSED), (.ref w_REVERSED)])) X1 hx rfl rfl rfl (pc0 := 4) (pc' := 21) (same := true) rfl (hb hby d2_4) rfl (decide_eq_true rfl) (by decide) (by decide) ?_
    show St p e below T1 (mkF m 21 #[.val (.ref w_REVERSED)] []) _
    refine XS.iconst X1.here hx rfl (hb hby d2_21) ?_
    show St p e below T1 (mkF m 22 #[.val (.ref w_REVERSED)] [(.int 1)]) _
    refine XS.goto X1.here hx rfl (pc0 := 22) (pc' := 26) rfl (hb hby d2_22) (by decide) (by decide) ?_
    show St p e below T1 (mkF m 26 #[.val (.ref w_REVERSED)] [(.int 1)]) _
    exact retN X1 hx (t := .boolean) Bd.returns (by simp) (hb hby d2_26) hr
  · show Q_unpaid_rev Z w_REVERSED h0 n0 _ T1.heap _
    rw [e1]
    exact ⟨rfl, N0, rfl⟩
theorem d2_7 : decode prog_111_method_5_code 7 = .ok (.aload_n 0, 1) := by decide +kernel
theorem d2_8 : decode prog_111_method_5_code 8 = .ok (.getstatic 22, 3) := by decide +kernel
theorem d2_11 : decode prog_111_method_5_code 11 = .ok (.if_acmp .eq 10, 3) := by decide +kernel
def Q_unpaid_ret (Z : State) (w_RETURNED : Addr) (w_REVERSED : Addr) (h0 : Heap) (n0 : Nat) (v : Option Value) (h : Heap) (L : List Loc) : Prop := v = some (.int 1) ∧ Fr n0 L ∧ h = h0
set_option maxRecDepth 65536 in
set_option maxHeartbeats 40000000 in
theorem rm_unpaid_ret (l : Launch) (Z : State) (a0 : Array Value) (hw : ∀ d ∈ tables_1, d.before a0 Z = true) (ws : List Jvm.Cond) (w_RETURNED : Addr) (w_REVERSED : Addr) (h0 : Heap) (n0 : Nat) (Z0 : n0 ≤ h0.size) (S_REVERSED : Sta Z Z.heap "com/example/disbursa/disbursa/payouts/PayoutStatus" "REVERSED" "Lcom/example/disbursa/disbursa/payouts/PayoutStatus;" (.ref w_REVERSED)) (O0 : Old Z n0 h0) (ha4 : ¬ (w_RETURNED = w_REVERSED)) (S_RETURNED : Sta Z Z.heap "com/example/disbursa/disbursa/payouts/PayoutStatus" "RETURNED" "Lcom/example/disbursa/disbursa/payouts/PayoutStatus;" (.ref w_RETURNED)) :
    MetFree l (⟨"com/example/disbursa/disbursa/payouts/PayoutStatus", "unpaid", "()Z"⟩ : MethodName) (head1 (Jvm.Cond.code (⟨"com/example/disbursa/disbursa/payouts/PayoutStatus", "unpaid", "()Z"⟩ : MethodName) prog_111_method_5_code 1 (some .boolean) :: ws) ({ frames := 0, cells := 0, slots := 0, locals := 0 } : Room)) (fun a U => a = #[(.ref w_RETURNED)] ∧ Z.Warmed39 U.vm ∧ U.heap = h0) (fun _ _ _ _ _ => True) (fun _ U o U' => ∃ v L, o = .returned v ∧ Q_unpaid_ret Z w_RETURNED w_REVERSED h0 n0 v U'.heap L ∧ FrameEnd U o U' L ({ frames := 0, cells := 0, slots := 0, locals := 0 } : Room).cells ({ frames := 0, cells := 0, slots := 0, locals := 0 } : Room).slots) := by
  refine MetFree.of_bodySF (plainFor_of_name pn_2) hisR ?_
  intro p e s m args below meth c s₁ Bd hml0 hP hK
  obtain ⟨rfl, hZ, hh⟩ := hP
  have hx := Bd.exec
  have hby := Bd.bytes
  have hml : c.maxLocals = 1 := hml0
  have hown : s.vm.findClass "com/example/disbursa/disbursa/payouts/PayoutStatus" = some m.cls := findClass_of_methodNamed Bd.named
  have hnm := (name_of_methodNamed Bd.named Bd.method).1
  have X0 : Stand p l e ({ frames := 0, cells := 0, slots := 0, locals := 0 } : Room) s m #[(.ref w_RETURNED)] below meth c s₁ [] 0 0 := Stand.of_body Bd
  have e0 : s₁.heap = h0 := by rw [← hh, Bd.state]; rfl
  have N0 := Fr.nil n0
  have pre0 : ∀ t, Steps p.tables e below (s₁.setTop (mkF m 0 #[.val (.ref w_RETURNED)] [])) t → Steps p.tables e below (s₁.setTop (entryFrame m #[(.ref w_RETURNED)] 1)) t := fun t k => castTop (ef_2_R m w_RETURNED) k
  obtain ⟨T1, X1, e1, st1⟩ := getS2 X0 hx hZ hown (host := "") (Or.inl (hwi hw 12 rfl)) Via.refl e0 (S_REVERSED.ext O0.2) (g := (mkF m 1 #[.val (.ref w_RETURNED)] [(.ref w_RETURNED)])) rfl (hb hby d2_1)
  obtain ⟨T2, X2, e2, st2⟩ := getS2 X1 hx hZ hown (host := "") (Or.inl (hwi hw 14 rfl)) Via.refl e1 (S_RETURNED.ext O0.2) (g := (mkF m 8 #[.val (.ref w_RETURNED)] [(.ref w_RETURNED)])) rfl (hb hby d2_8)
  obtain ⟨fs, hr, hrun, hended, hW, hsame⟩ := X2.leave (v := some (.int 1)) (fun h => by rw [Bd.returns] at h; cases h)
  refine ⟨_, _, pre0 _ ?_, hrun, hended, _, _, rfl, ?_, ⟨_, rfl⟩, hW, hsame.mono (by decide) (by decide)⟩
  · show St p e below s₁ (mkF m 0 #[.val (.ref w_RETURNED)] []) _
    refine XS.aloadN X0.here hx rfl (hb hby d2_0) rfl rfl ?_
    show St p e below s₁ (mkF m 1 #[.val (.ref w_RETURNED)] [(.ref w_RETURNED)]) _
    refine st1 _ ?_
    show St p e below T1 (mkF m 4 #[.val (.ref w_RETURNED)] [(.ref w_REVERSED), (.ref w_RETURNED)]) _
    refine Jvm.RoadKit.acmp (g := (mkF m 4 #[.val (.ref w_RETURNED)] [(.ref w_REVERSED), (.ref w_RETURNED)])) X1 hx rfl rfl rfl (pc0 := 4) (pc' := 7) (same := false) rfl (hb hby d2_4) rfl (decide_eq_false fun q => (fun q => ha4 q) (Value.ref.inj q)) (by decide) (by decide) ?_
    show St p e below T1 (mkF m 7 #[.val (.ref w_RETURNED)] []) _
    refine XS.aloadN X1.here hx rfl (hb hby d2_7) rfl rfl ?_
    show St p e below T1 (mkF m 8 #[.val (.ref w_RETURNED)] [(.ref w_RETURNED)]) _
    refine st2 _ ?_
    show St p e below T2 (mkF m 11 #[.val (.ref w_RETURNED)] [(.ref w_RETURNED), (.ref w_RETURNED)]) _
    refine Jvm.RoadKit.acmp (g := (mkF m 11 #[.val (.ref w_RETURNED)] [(.ref w_RETURNED), (.ref w_RETURNED)])) X2 hx rfl rfl rfl (pc0 := 11) (pc' := 21) (same := true) rfl (hb hby d2_11) rfl (decide_eq_true rfl) (by decide) (by decide) ?_
    show St p e below T2 (mkF m 21 #[.val (.ref w_RETURNED)] []) _
    refine XS.iconst X2.here hx rfl (hb hby d2_21) ?_
    show St p e below T2 (mkF m 22 #[.val (.ref w_RETURNED)] [(.int 1)]) _
    refine XS.goto X2.here hx rfl (pc0 := 22) (pc' := 26) rfl (hb hby d2_22) (by decide) (by decide) ?_
    show St p e below T2 (mkF m 26 #[.val (.ref w_RETURNED)] [(.int 1)]) _
    exact retN X2 hx (t := .boolean) Bd.returns (by simp) (hb hby d2_26) hr
  · show Q_unpaid_ret Z w_RETURNED w_REVERSED h0 n0 _ T2.heap _
    rw [e2]
    exact ⟨rfl, N0, rfl⟩
theorem d2_14 : decode prog_111_method_5_code 14 = .ok (.aload_n 0, 1) := by decide +kernel
theorem d2_15 : decode prog_111_method_5_code 15 = .ok (.getstatic 25, 3) := by decide +kernel
theorem d2_18 : decode prog_111_method_5_code 18 = .ok (.if_acmp .ne 7, 3) := by decide +kernel
def Q_unpaid_fai (Z : State) (w_FAILED : Addr) (w_REVERSED : Addr) (w_RETURNED : Addr) (h0 : Heap) (n0 : Nat) (v : Option Value) (h : Heap) (L : List Loc) : Prop := v = some (.int 1) ∧ Fr n0 L ∧ h = h0
set_option maxRecDepth 65536 in
set_option maxHeartbeats 40000000 in
theorem rm_unpaid_fai (l : Launch) (Z : State) (a0 : Array Value) (hw : ∀ d ∈ tables_1, d.before a0 Z = true) (ws : List Jvm.Cond) (w_FAILED : Addr) (w_REVERSED : Addr) (w_RETURNED : Addr) (h0 : Heap) (n0 : Nat) (Z0 : n0 ≤ h0.size) (S_REVERSED : Sta Z Z.heap "com/example/disbursa/disbursa/payouts/PayoutStatus" "REVERSED" "Lcom/example/disbursa/disbursa/payouts/PayoutStatus;" (.ref w_REVERSED)) (O0 : Old Z n0 h0) (ha4 : ¬ (w_FAILED = w_REVERSED)) (S_RETURNED : Sta Z Z.heap "com/example/disbursa/disbursa/payouts/PayoutStatus" "RETURNED" "Lcom/example/disbursa/disbursa/payouts/PayoutStatus;" (.ref w_RETURNED)) (ha11 : ¬ (w_FAILED = w_RETURNED)) (S_FAILED : Sta Z Z.heap "com/example/disbursa/disbursa/payouts/PayoutStatus" "FAILED" "Lcom/example/disbursa/disbursa/payouts/PayoutStatus;" (.ref w_FAILED)) :
    MetFree l (⟨"com/example/disbursa/disbursa/payouts/PayoutStatus", "unpaid", "()Z"⟩ : MethodName) (head1 (Jvm.Cond.code (⟨"com/example/disbursa/disbursa/payouts/PayoutStatus", "unpaid", "()Z"⟩ : MethodName) prog_111_method_5_code 1 (some .boolean) :: ws) ({ frames := 0, cells := 0, slots := 0, locals := 0 } : Room)) (fun a U => a = #[(.ref w_FAILED)] ∧ Z.Warmed39 U.vm ∧ U.heap = h0) (fun _ _ _ _ _ => True) (fun _ U o U' => ∃ v L, o = .returned v ∧ Q_unpaid_fai Z w_FAILED w_REVERSED w_RETURNED h0 n0 v U'.heap L ∧ FrameEnd U o U' L ({ frames := 0, cells := 0, slots := 0, locals := 0 } : Room).cells ({ frames := 0, cells := 0, slots := 0, locals := 0 } : Room).slots) := by
  refine MetFree.of_bodySF (plainFor_of_name pn_2) hisR ?_
  intro p e s m args below meth c s₁ Bd hml0 hP hK
  obtain ⟨rfl, hZ, hh⟩ := hP
  have hx := Bd.exec
  have hby := Bd.bytes
  have hml : c.maxLocals = 1 := hml0
  have hown : s.vm.findClass "com/example/disbursa/disbursa/payouts/PayoutStatus" = some m.cls := findClass_of_methodNamed Bd.named
  have hnm := (name_of_methodNamed Bd.named Bd.method).1
  have X0 : Stand p l e ({ frames := 0, cells := 0, slots := 0, locals := 0 } : Room) s m #[(.ref w_FAILED)] below meth c s₁ [] 0 0 := Stand.of_body Bd
  have e0 : s₁.heap = h0 := by rw [← hh, Bd.state]; rfl
  have N0 := Fr.nil n0
  have pre0 : ∀ t, Steps p.tables e below (s₁.setTop (mkF m 0 #[.val (.ref w_FAILED)] [])) t → Steps p.tables e below (s₁.setTop (entryFrame m #[(.ref w_FAILED)] 1)) t := fun t k => castTop (ef_2_R m w_FAILED) k
  obtain ⟨T1, X1, e1, st1⟩ := getS2 X0 hx hZ hown (host := "") (Or.inl (hwi hw 12 rfl)) Via.refl e0 (S_REVERSED.ext O0.2) (g := (mkF m 1 #[.val (.ref w_FAILED)] [(.ref w_FAILED)])) rfl (hb hby d2_1)
  obtain ⟨T2, X2, e2, st2⟩ := getS2 X1 hx hZ hown (host := "") (Or.inl (hwi hw 14 rfl)) Via.refl e1 (S_RETURNED.ext O0.2) (g := (mkF m 8 #[.val (.ref w_FAILED)] [(.ref w_FAILED)])) rfl (hb hby d2_8)
  obtain ⟨T3, X3, e3, st3⟩ := getS2 X2 hx hZ hown (host := "") (Or.inl (hwi hw 16 rfl)) Via.refl e2 (S_FAILED.ext O0.2) (g := (mkF m 15 #[.val (.ref w_FAILED)] [(.ref w_FAILED)])) rfl (hb hby d2_15)
  obtain ⟨fs, hr, hrun, hended, hW, hsame⟩ := X3.leave (v := some (.int 1)) (fun h => by rw [Bd.returns] at h; cases h)
  refine ⟨_, _, pre0 _ ?_, hrun, hended, _, _, rfl, ?_, ⟨_, rfl⟩, hW, hsame.mono (by decide) (by decide)⟩
  · show St p e below s₁ (mkF m 0 #[.val (.ref w_FAILED)] []) _
    refine XS.aloadN X0.here hx rfl (hb hby d2_0) rfl rfl ?_
    show St p e below s₁ (mkF m 1 #[.val (.ref w_FAILED)] [(.ref w_FAILED)]) _
    refine st1 _ ?_
    show St p e below T1 (mkF m 4 #[.val (.ref w_FAILED)] [(.ref w_REVERSED), (.ref w_FAILED)]) _
    refine Jvm.RoadKit.acmp (g := (mkF m 4 #[.val (.ref w_FAILED)] [(.ref w_REVERSED), (.ref w_FAILED)])) X1 hx rfl rfl rfl (pc0 := 4) (pc' := 7) (same := false) rfl (hb hby d2_4) rfl (decide_eq_false fun q => (fun q => ha4 q) (Value.ref.inj q)) (by decide) (by decide) ?_
    show St p e below T1 (mkF m 7 #[.val (.ref w_FAILED)] []) _
    refine XS.aloadN X1.here hx rfl (hb hby d2_7) rfl rfl ?_
    show St p e below T1 (mkF m 8 #[.val (.ref w_FAILED)] [(.ref w_FAILED)]) _
    refine st2 _ ?_
    show St p e below T2 (mkF m 11 #[.val (.ref w_FAILED)] [(.ref w_RETURNED), (.ref w_FAILED)]) _
    refine Jvm.RoadKit.acmp (g := (mkF m 11 #[.val (.ref w_FAILED)] [(.ref w_RETURNED), (.ref w_FAILED)])) X2 hx rfl rfl rfl (pc0 := 11) (pc' := 14) (same := false) rfl (hb hby d2_11) rfl (decide_eq_false fun q => (fun q => ha11 q) (Value.ref.inj q)) (by decide) (by decide) ?_
    show St p e below T2 (mkF m 14 #[.val (.ref w_FAILED)] []) _
    refine XS.aloadN X2.here hx rfl (hb hby d2_14) rfl rfl ?_
    show St p e below T2 (mkF m 15 #[.val (.ref w_FAILED)] [(.ref w_FAILED)]) _
    refine st3 _ ?_
    show St p e below T3 (mkF m 18 #[.val (.ref w_FAILED)] [(.ref w_FAILED), (.ref w_FAILED)]) _
    refine Jvm.RoadKit.acmp (g := (mkF m 18 #[.val (.ref w_FAILED)] [(.ref w_FAILED), (.ref w_FAILED)])) X3 hx rfl rfl rfl (pc0 := 18) (pc' := 21) (same := true) rfl (hb hby d2_18) rfl (decide_eq_true rfl) (by decide) (by decide) ?_
    show St p e below T3 (mkF m 21 #[.val (.ref w_FAILED)] []) _
    refine XS.iconst X3.here hx rfl (hb hby d2_21) ?_
    show St p e below T3 (mkF m 22 #[.val (.ref w_FAILED)] [(.int 1)]) _
    refine XS.goto X3.here hx rfl (pc0 := 22) (pc' := 26) rfl (hb hby d2_22) (by decide) (by decide) ?_
    show St p e below T3 (mkF m 26 #[.val (.ref w_FAILED)] [(.int 1)]) _
    exact retN X3 hx (t := .boolean) Bd.returns (by simp) (hb hby d2_26) hr
  · show Q_unpaid_fai Z w_FAILED w_REVERSED w_RETURNED h0 n0 _ T3.heap _
    rw [e3]
    exact ⟨rfl, N0, rfl⟩
theorem d2_25 : decode prog_111_method_5_code 25 = .ok (.iconst 0, 1) := by decide +kernel
def Q_unpaid_oth (Z : State) (a1 : Addr) (w_REVERSED : Addr) (w_RETURNED : Addr) (w_FAILED : Addr) (h0 : Heap) (n0 : Nat) (v : Option Value) (h : Heap) (L : List Loc) : Prop := v = some (.int 0) ∧ Fr n0 L ∧ h = h0
set_option maxRecDepth 65536 in
set_option maxHeartbeats 40000000 in
theorem rm_unpaid_oth (l : Launch) (Z : State) (a0 : Array Value) (hw : ∀ d ∈ tables_1, d.before a0 Z = true) (ws : List Jvm.Cond) (a1 : Addr) (w_REVERSED : Addr) (w_RETURNED : Addr) (w_FAILED : Addr) (h0 : Heap) (n0 : Nat) (Z0 : n0 ≤ h0.size) (S_REVERSED : Sta Z Z.heap "com/example/disbursa/disbursa/payouts/PayoutStatus" "REVERSED" "Lcom/example/disbursa/disbursa/payouts/PayoutStatus;" (.ref w_REVERSED)) (O0 : Old Z n0 h0) (ha4 : ¬ (a1 = w_REVERSED)) (S_RETURNED : Sta Z Z.heap "com/example/disbursa/disbursa/payouts/PayoutStatus" "RETURNED" "Lcom/example/disbursa/disbursa/payouts/PayoutStatus;" (.ref w_RETURNED)) (ha11 : ¬ (a1 = w_RETURNED)) (S_FAILED : Sta Z Z.heap "com/example/disbursa/disbursa/payouts/PayoutStatus" "FAILED" "Lcom/example/disbursa/disbursa/payouts/PayoutStatus;" (.ref w_FAILED)) (ha18 : ¬ (a1 = w_FAILED)) :
    MetFree l (⟨"com/example/disbursa/disbursa/payouts/PayoutStatus", "unpaid", "()Z"⟩ : MethodName) (head1 (Jvm.Cond.code (⟨"com/example/disbursa/disbursa/payouts/PayoutStatus", "unpaid", "()Z"⟩ : MethodName) prog_111_method_5_code 1 (some .boolean) :: ws) ({ frames := 0, cells := 0, slots := 0, locals := 0 } : Room)) (fun a U => a = #[(.ref a1)] ∧ Z.Warmed39 U.vm ∧ U.heap = h0) (fun _ _ _ _ _ => True) (fun _ U o U' => ∃ v L, o = .returned v ∧ Q_unpaid_oth Z a1 w_REVERSED w_RETURNED w_FAILED h0 n0 v U'.heap L ∧ FrameEnd U o U' L ({ frames := 0, cells := 0, slots := 0, locals := 0 } : Room).cells ({ frames := 0, cells := 0, slots := 0, locals := 0 } : Room).slots) := by
  refine MetFree.of_bodySF (plainFor_of_name pn_2) hisR ?_
  intro p e s m args below meth c s₁ Bd hml0 hP hK
  obtain ⟨rfl, hZ, hh⟩ := hP
  have hx := Bd.exec
  have hby := Bd.bytes
  have hml : c.maxLocals = 1 := hml0
  have hown : s.vm.findClass "com/example/disbursa/disbursa/payouts/PayoutStatus" = some m.cls := findClass_of_methodNamed Bd.named
  have hnm := (name_of_methodNamed Bd.named Bd.method).1
  have X0 : Stand p l e ({ frames := 0, cells := 0, slots := 0, locals := 0 } : Room) s m #[(.ref a1)] below meth c s₁ [] 0 0 := Stand.of_body Bd
  have e0 : s₁.heap = h0 := by rw [← hh, Bd.state]; rfl
  have N0 := Fr.nil n0
  have pre0 : ∀ t, Steps p.tables e below (s₁.setTop (mkF m 0 #[.val (.ref a1)] [])) t → Steps p.tables e below (s₁.setTop (entryFrame m #[(.ref a1)] 1)) t := fun t k => castTop (ef_2_R m a1) k
  obtain ⟨T1, X1, e1, st1⟩ := getS2 X0 hx hZ hown (host := "") (Or.inl (hwi hw 12 rfl)) Via.refl e0 (S_REVERSED.ext O0.2) (g := (mkF m 1 #[.val (.ref a1)] [(.ref a1)])) rfl (hb hby d2_1)
  obtain ⟨T2, X2, e2, st2⟩ := getS2 X1 hx hZ hown (host := "") (Or.inl (hwi hw 14 rfl)) Via.refl e1 (S_RETURNED.ext O0.2) (g := (mkF m 8 #[.val (.ref a1)] [(.ref a1)])) rfl (hb hby d2_8)
  obtain ⟨T3, X3, e3, st3⟩ := getS2 X2 hx hZ hown (host := "") (Or.inl (hwi hw 16 rfl)) Via.refl e2 (S_FAILED.ext O0.2) (g := (mkF m 15 #[.val (.ref a1)] [(.ref a1)])) rfl (hb hby d2_15)
  obtain ⟨fs, hr, hrun, hended, hW, hsame⟩ := X3.leave (v := some (.int 0)) (fun h => by rw [Bd.returns] at h; cases h)
  refine ⟨_, _, pre0 _ ?_, hrun, hended, _, _, rfl, ?_, ⟨_, rfl⟩, hW, hsame.mono (by decide) (by decide)⟩
  · show St p e below s₁ (mkF m 0 #[.val (.ref a1)] []) _
    refine XS.aloadN X0.here hx rfl (hb hby d2_0) rfl rfl ?_
    show St p e below s₁ (mkF m 1 #[.val (.ref a1)] [(.ref a1)]) _
    refine st1 _ ?_
    show St p e below T1 (mkF m 4 #[.val (.ref a1)] [(.ref w_REVERSED), (.ref a1)]) _
    refine Jvm.RoadKit.acmp (g := (mkF m 4 #[.val (.ref a1)] [(.ref w_REVERSED), (.ref a1)])) X1 hx rfl rfl rfl (pc0 := 4) (pc' := 7) (same := false) rfl (hb hby d2_4) rfl (decide_eq_false fun q => (fun q => ha4 q) (Value.ref.inj q)) (by decide) (by decide) ?_
    show St p e below T1 (mkF m 7 #[.val (.ref a1)] []) _
    refine XS.aloadN X1.here hx rfl (hb hby d2_7) rfl rfl ?_
    show St p e below T1 (mkF m 8 #[.val (.ref a1)] [(.ref a1)]) _
    refine st2 _ ?_
    show St p e below T2 (mkF m 11 #[.val (.ref a1)] [(.ref w_RETURNED), (.ref a1)]) _
    refine Jvm.RoadKit.acmp (g := (mkF m 11 #[.val (.ref a1)] [(.ref w_RETURNED), (.ref a1)])) X2 hx rfl rfl rfl (pc0 := 11) (pc' := 14) (same := false) rfl (hb hby d2_11) rfl (decide_eq_false fun q => (fun q => ha11 q) (Value.ref.inj q)) (by decide) (by decide) ?_
    show St p e below T2 (mkF m 14 #[.val (.ref a1)] []) _
    refine XS.aloadN X2.here hx rfl (hb hby d2_14) rfl rfl ?_
    show St p e below T2 (mkF m 15 #[.val (.ref a1)] [(.ref a1)]) _
    refine st3 _ ?_
    show St p e below T3 (mkF m 18 #[.val (.ref a1)] [(.ref w_FAILED), (.ref a1)]) _
    refine Jvm.RoadKit.acmp (g := (mkF m 18 #[.val (.ref a1)] [(.ref w_FAILED), (.ref a1)])) X3 hx rfl rfl rfl (pc0 := 18) (pc' := 25) (same := false) rfl (hb hby d2_18) rfl (decide_eq_false fun q => (fun q => ha18 q) (Value.ref.inj q)) (by decide) (by decide) ?_
    show St p e below T3 (mkF m 25 #[.val (.ref a1)] []) _
    refine XS.iconst X3.here hx rfl (hb hby d2_25) ?_
    show St p e below T3 (mkF m 26 #[.val (.ref a1)] [(.int 0)]) _
    exact retN X3 hx (t := .boolean) Bd.returns (by simp) (hb hby d2_26) hr
  · show Q_unpaid_oth Z a1 w_REVERSED w_RETURNED w_FAILED h0 n0 _ T3.heap _
    rw [e3]
    exact ⟨rfl, N0, rfl⟩
theorem pd_I_Lcom_example_disbursa_disbursa_payouts_PayoutStatus_388 : parseMethodDescriptor "(I)Lcom/example/disbursa/disbursa/payouts/PayoutStatus;" = some ⟨[.int], some (.object "com/example/disbursa/disbursa/payouts/PayoutStatus")⟩ := by decide +kernel
theorem pd_Z_171 : parseMethodDescriptor "()Z" = some ⟨[], some .boolean⟩ := by decide +kernel
theorem pn_0 : plainName "com/example/disbursa/disbursa/payouts/PayoutStatusUnpaidPinLaw" = true := by first | (simp [plainName, overriddenIn]; done) | decide +kernel
theorem ef_0_I (m : MethodId) (x0 : Int32) : entryFrame m #[(.int x0)] maxLocals = mkF m 0 #[.val (.int x0), .unset, .unset, .unset] [] := by first | (simp [entryFrame, mkF, argsToLocals, Value.category, maxLocals]; done) | rfl
def Q_law (n0 : Nat) (v : Option Value) (L : List Loc) : Prop := v = some (.int 1) ∧ Fr n0 L
set_option maxRecDepth 65536 in
set_option maxHeartbeats 40000000 in
theorem rm_law_0 (l : Launch) (Z : State) (a0 : Array Value) (hw : ∀ d ∈ tables_1, d.before a0 Z = true) (ws : List Jvm.Cond) (p1 : Int32) (w_PENDING : Addr) (w_REVERSED : Addr) (w_RETURNED : Addr) (w_FAILED : Addr) (h0 : Heap) (n0 : Nat) (Z0 : n0 ≤ h0.size) (S_PENDING : Sta Z Z.heap "com/example/disbursa/disbursa/payouts/PayoutStatus" "PENDING" "Lcom/example/disbursa/disbursa/payouts/PayoutStatus;" (.ref w_PENDING)) (O0 : Old Z n0 h0) (E_w_PENDING : Exa Z Z.heap w_PENDING "com/example/disbursa/disbursa/payouts/PayoutStatus") (S_REVERSED : Sta Z Z.heap "com/example/disbursa/disbursa/payouts/PayoutStatus" "REVERSED" "Lcom/example/disbursa/disbursa/payouts/PayoutStatus;" (.ref w_REVERSED)) (hne_PENDING_REVERSED : ¬ (w_PENDING = w_REVERSED)) (S_RETURNED : Sta Z Z.heap "com/example/disbursa/disbursa/payouts/PayoutStatus" "RETURNED" "Lcom/example/disbursa/disbursa/payouts/PayoutStatus;" (.ref w_RETURNED)) (hne_PENDING_RETURNED : ¬ (w_PENDING = w_RETURNED)) (S_FAILED : Sta Z Z.heap "com/example/disbursa/disbursa/payouts/PayoutStatus" "FAILED" "Lcom/example/disbursa/disbursa/payouts/PayoutStatus;" (.ref w_FAILED)) (hne_PENDING_FAILED : ¬ (w_PENDING = w_FAILED)) (hk : (p1 &&& (7 : Int32)) = (0 : Int32)) :
    MetFree l x (head1 (Jvm.Cond.code x code maxLocals ret :: ws) room_1) (fun a U => a = #[(.int p1)] ∧ Z.Warmed39 U.vm ∧ U.heap = h0) (fun _ _ _ _ _ => True) (fun _ U o U' => ∃ v L, o = .returned v ∧ Q_law n0 v L ∧ FrameEnd U o U' L room_1.cells room_1.slots) := by
  refine MetFree.of_bodySF (plainFor_of_name pn_0) hisR ?_
  intro p e s m args below meth c s₁ Bd hml0 hP hK
  obtain ⟨rfl, hZ, hh⟩ := hP
  have hx := Bd.exec
  have hby := Bd.bytes
  have hml : c.maxLocals = 4 := hml0
  have hown : s.vm.findClass "com/example/disbursa/disbursa/payouts/PayoutStatusUnpaidPinLaw" = some m.cls := findClass_of_methodNamed Bd.named
  have hnm := (name_of_methodNamed Bd.named Bd.method).1
  have X0 : Stand p l e room_1 s m #[(.int p1)] below meth c s₁ [] 0 0 := Stand.of_body Bd
  have e0 : s₁.heap = h0 := by rw [← hh, Bd.state]; rfl
  have N0 := Fr.nil n0
  have pre0 : ∀ t, Steps p.tables e below (s₁.setTop (mkF m 0 #[.val (.int p1), .unset, .unset, .unset] [])) t → Steps p.tables e below (s₁.setTop (entryFrame m #[(.int p1)] maxLocals)) t := fun t k => castTop (ef_0_I m p1) k
  obtain ⟨_, _, ⟨T1, L1, k1, n1⟩, -, X1, ⟨Lc1, hQ1, l1, y1, z1⟩, st1⟩ := Jvm.LawKit.callS X0 hx (y := (⟨"com/example/disbursa/disbursa/payouts/PayoutStatusUnpaidPinLaw", "pick", "(I)Lcom/example/disbursa/disbursa/payouts/PayoutStatus;"⟩ : MethodName)) hown (mvT hZ (hwi hw 0 rfl)) (mvT hZ (hwi hw 1 rfl)) (mvT hZ (hwi hw 2 rfl)) (mvT hZ (hwi hw 3 rfl)) (by decide) (backOf (W := 0) (rm_pick_0 l Z a0 hw [] w_PENDING h0 n0 Z0 S_PENDING O0) hZ (hwi hw 3 rfl) (hwi hw 2 rfl) (by decide) (by decide)) (g := (mkF m 6 #[.val (.int p1), .val (.int 0), .unset, .unset] [(.int 0)])) rfl (by rw [hml]; rfl) (argsL := [(.int 0)]) (rest := []) (lenOf pd_I_Lcom_example_disbursa_disbursa_payouts_PayoutStatus_388 rfl) rfl (by show 2 * 0 + _ ≤ _; exact Nat.le_of_eq rfl) (hb hby at_6) (fun _ _ => ⟨rfl, e0, (by decide : 0 + 0 ≤ _), (by decide : 0 + 0 ≤ _)⟩)
  dsimp only [Pt.U, Pt.locs, Pt.cells, Pt.slots] at X1 l1 y1 z1 st1 hQ1
  subst l1 y1 z1
  obtain ⟨rfl, N1q, e1⟩ := hQ1
  have N1 := Fr.app N0 N1q
  obtain ⟨cq2, kq2, q2a, q2b, q2c⟩ := isOf hZ e1 (E_w_PENDING.ext O0.2)
  obtain ⟨_, _, ⟨T2, L2, k2, n2⟩, -, X2, ⟨Lc2, hQ2, l2, y2, z2⟩, st2⟩ := X1.virtualBack hx (y := (⟨"com/example/disbursa/disbursa/payouts/PayoutStatus", "unpaid", "()Z"⟩ : MethodName)) (z := (⟨"com/example/disbursa/disbursa/payouts/PayoutStatus", "unpaid", "()Z"⟩ : MethodName)) hown (mvT hZ (hwi hw 7 rfl)) (mvT hZ (hwi hw 8 rfl)) (notFace_of_selects (args := #[]) (mvT hZ (hwi hw 10 rfl))) (mvT hZ (hwi hw 10 rfl)) (mvT hZ (hwi hw 9 rfl)) (by decide) (backOf (W := 0) (rm_unpaid_oth l Z a0 hw [] w_PENDING w_REVERSED w_RETURNED w_FAILED h0 n0 Z0 S_REVERSED O0 hne_PENDING_REVERSED S_RETURNED hne_PENDING_RETURNED S_FAILED hne_PENDING_FAILED) hZ (hwi hw 11 rfl) (hwi hw 5 rfl) (by decide) (by decide)) q2a q2c (g := (mkF m 22 #[.val (.int p1), .val (.int 0), .val (.ref w_PENDING), .val (.int 0)] [(.ref w_PENDING)])) rfl (by rw [hml]; rfl) (Steps.refl _) (argsL := []) (rest := []) (lenOf pd_Z_171 rfl) rfl (by show 2 * 0 + _ ≤ _; exact Nat.le_of_eq rfl) (hb hby at_22) (fun _ _ => ⟨rfl, e1, (by decide : 0 + 0 ≤ _), (by decide : 0 + 0 ≤ _)⟩)
  dsimp only [Pt.U, Pt.locs, Pt.cells, Pt.slots] at X2 l2 y2 z2 st2 hQ2
  subst l2 y2 z2
  obtain ⟨rfl, N2q, e2⟩ := hQ2
  have N2 := Fr.app N1 N2q
  obtain ⟨fs, hr, hrun, hended, hW, hsame⟩ := X2.leave (v := some (.int 1)) (fun h => by rw [Bd.returns] at h; cases h)
  refine ⟨_, _, pre0 _ ?_, hrun, hended, _, _, rfl, ?_, ⟨_, rfl⟩, hW, hsame.mono (by decide) (by decide)⟩
  · show St p e below s₁ (mkF m 0 #[.val (.int p1), .unset, .unset, .unset] []) _
    refine XS.iloadN X0.here hx rfl (hb hby at_0) rfl ?_
    show St p e below s₁ (mkF m 1 #[.val (.int p1), .unset, .unset, .unset] [(.int p1)]) _
    refine XS.bipush X0.here hx rfl (hb hby at_1) ?_
    show St p e below s₁ (mkF m 3 #[.val (.int p1), .unset, .unset, .unset] [(.int 7), (.int p1)]) _
    refine XS.iand X0.here hx rfl (hb hby at_3) rfl ?_
    show St p e below s₁ (mkF m 4 #[.val (.int p1), .unset, .unset, .unset] [(.int (p1 &&& (7 : Int32)))]) _
    rw [hk]
    show St p e below s₁ (mkF m 4 #[.val (.int p1), .unset, .unset, .unset] [(.int 0)]) _
    refine XS.istoreN X0.here hx rfl (hb hby at_4) rfl (l' := #[.val (.int p1), .val (.int 0), .unset, .unset]) rfl ?_
    show St p e below s₁ (mkF m 5 #[.val (.int p1), .val (.int 0), .unset, .unset] []) _
    refine XS.iloadN X0.here hx rfl (hb hby at_5) rfl ?_
    show St p e below s₁ (mkF m 6 #[.val (.int p1), .val (.int 0), .unset, .unset] [(.int 0)]) _
    refine st1 _ ?_
    show St p e below T1 (mkF m 9 #[.val (.int p1), .val (.int 0), .unset, .unset] [(.ref w_PENDING)]) _
    refine XS.astoreN X1.here hx rfl (hb hby at_9) rfl rfl (l' := #[.val (.int p1), .val (.int 0), .val (.ref w_PENDING), .unset]) rfl ?_
    show St p e below T1 (mkF m 10 #[.val (.int p1), .val (.int 0), .val (.ref w_PENDING), .unset] []) _
    refine XS.iloadN X1.here hx rfl (hb hby at_10) rfl ?_
    show St p e below T1 (mkF m 11 #[.val (.int p1), .val (.int 0), .val (.ref w_PENDING), .unset] [(.int 0)]) _
    refine XS.iconst X1.here hx rfl (hb hby at_11) ?_
    show St p e below T1 (mkF m 12 #[.val (.int p1), .val (.int 0), .val (.ref w_PENDING), .unset] [(.int 5), (.int 0)]) _
    refine XS.icmpYes X1.here hx rfl (pc0 := 12) (pc' := 19) rfl (hb hby at_12) rfl (tlt (by decide : (0 : Int32) < (5 : Int32))).1 (by decide) (by decide) ?_
    show St p e below T1 (mkF m 19 #[.val (.int p1), .val (.int 0), .val (.ref w_PENDING), .unset] []) _
    refine XS.iconst X1.here hx rfl (hb hby at_19) ?_
    show St p e below T1 (mkF m 20 #[.val (.int p1), .val (.int 0), .val (.ref w_PENDING), .unset] [(.int 0)]) _
    refine XS.istoreN X1.here hx rfl (hb hby at_20) rfl (l' := #[.val (.int p1), .val (.int 0), .val (.ref w_PENDING), .val (.int 0)]) rfl ?_
    show St p e below T1 (mkF m 21 #[.val (.int p1), .val (.int 0), .val (.ref w_PENDING), .val (.int 0)] []) _
    refine XS.aloadN X1.here hx rfl (hb hby at_21) rfl rfl ?_
    show St p e below T1 (mkF m 22 #[.val (.int p1), .val (.int 0), .val (.ref w_PENDING), .val (.int 0)] [(.ref w_PENDING)]) _
    refine st2.trans ?_
    show St p e below T2 (mkF m 25 #[.val (.int p1), .val (.int 0), .val (.ref w_PENDING), .val (.int 0)] [(.int 0)]) _
    refine XS.iloadN X2.here hx rfl (hb hby at_25) rfl ?_
    show St p e below T2 (mkF m 26 #[.val (.int p1), .val (.int 0), .val (.ref w_PENDING), .val (.int 0)] [(.int 0), (.int 0)]) _
    refine XS.icmpNo X2.here hx rfl (hb hby at_26) rfl (teq (by decide : (0 : Int32) = (0 : Int32))).2 ?_
    show St p e below T2 (mkF m 29 #[.val (.int p1), .val (.int 0), .val (.ref w_PENDING), .val (.int 0)] []) _
    refine XS.iconst X2.here hx rfl (hb hby at_29) ?_
    show St p e below T2 (mkF m 30 #[.val (.int p1), .val (.int 0), .val (.ref w_PENDING), .val (.int 0)] [(.int 1)]) _
    refine XS.goto X2.here hx rfl (pc0 := 30) (pc' := 34) rfl (hb hby at_30) (by decide) (by decide) ?_
    show St p e below T2 (mkF m 34 #[.val (.int p1), .val (.int 0), .val (.ref w_PENDING), .val (.int 0)] [(.int 1)]) _
    exact retN X2 hx (t := .boolean) Bd.returns (by simp) (hb hby at_34) hr
  · exact ⟨rfl, N2⟩
set_option maxRecDepth 65536 in
set_option maxHeartbeats 40000000 in
theorem rm_law_1 (l : Launch) (Z : State) (a0 : Array Value) (hw : ∀ d ∈ tables_1, d.before a0 Z = true) (ws : List Jvm.Cond) (p1 : Int32) (w_BATCHED : Addr) (w_REVERSED : Addr) (w_RETURNED : Addr) (w_FAILED : Addr) (h0 : Heap) (n0 : Nat) (Z0 : n0 ≤ h0.size) (S_BATCHED : Sta Z Z.heap "com/example/disbursa/disbursa/payouts/PayoutStatus" "BATCHED" "Lcom/example/disbursa/disbursa/payouts/PayoutStatus;" (.ref w_BATCHED)) (O0 : Old Z n0 h0) (E_w_BATCHED : Exa Z Z.heap w_BATCHED "com/example/disbursa/disbursa/payouts/PayoutStatus") (S_REVERSED : Sta Z Z.heap "com/example/disbursa/disbursa/payouts/PayoutStatus" "REVERSED" "Lcom/example/disbursa/disbursa/payouts/PayoutStatus;" (.ref w_REVERSED)) (hne_BATCHED_REVERSED : ¬ (w_BATCHED = w_REVERSED)) (S_RETURNED : Sta Z Z.heap "com/example/disbursa/disbursa/payouts/PayoutStatus" "RETURNED" "Lcom/example/disbursa/disbursa/payouts/PayoutStatus;" (.ref w_RETURNED)) (hne_BATCHED_RETURNED : ¬ (w_BATCHED = w_RETURNED)) (S_FAILED : Sta Z Z.heap "com/example/disbursa/disbursa/payouts/PayoutStatus" "FAILED" "Lcom/example/disbursa/disbursa/payouts/PayoutStatus;" (.ref w_FAILED)) (hne_BATCHED_FAILED : ¬ (w_BATCHED = w_FAILED)) (hk : (p1 &&& (7 : Int32)) = (1 : Int32)) :
    MetFree l x (head1 (Jvm.Cond.code x code maxLocals ret :: ws) room_1) (fun a U => a = #[(.int p1)] ∧ Z.Warmed39 U.vm ∧ U.heap = h0) (fun _ _ _ _ _ => True) (fun _ U o U' => ∃ v L, o = .returned v ∧ Q_law n0 v L ∧ FrameEnd U o U' L room_1.cells room_1.slots) := by
  refine MetFree.of_bodySF (plainFor_of_name pn_0) hisR ?_
  intro p e s m args below meth c s₁ Bd hml0 hP hK
  obtain ⟨rfl, hZ, hh⟩ := hP
  have hx := Bd.exec
  have hby := Bd.bytes
  have hml : c.maxLocals = 4 := hml0
  have hown : s.vm.findClass "com/example/disbursa/disbursa/payouts/PayoutStatusUnpaidPinLaw" = some m.cls := findClass_of_methodNamed Bd.named
  have hnm := (name_of_methodNamed Bd.named Bd.method).1
  have X0 : Stand p l e room_1 s m #[(.int p1)] below meth c s₁ [] 0 0 := Stand.of_body Bd
  have e0 : s₁.heap = h0 := by rw [← hh, Bd.state]; rfl
  have N0 := Fr.nil n0
  have pre0 : ∀ t, Steps p.tables e below (s₁.setTop (mkF m 0 #[.val (.int p1), .unset, .unset, .unset] [])) t → Steps p.tables e below (s₁.setTop (entryFrame m #[(.int p1)] maxLocals)) t := fun t k => castTop (ef_0_I m p1) k
  obtain ⟨_, _, ⟨T1, L1, k1, n1⟩, -, X1, ⟨Lc1, hQ1, l1, y1, z1⟩, st1⟩ := Jvm.LawKit.callS X0 hx (y := (⟨"com/example/disbursa/disbursa/payouts/PayoutStatusUnpaidPinLaw", "pick", "(I)Lcom/example/disbursa/disbursa/payouts/PayoutStatus;"⟩ : MethodName)) hown (mvT hZ (hwi hw 0 rfl)) (mvT hZ (hwi hw 1 rfl)) (mvT hZ (hwi hw 2 rfl)) (mvT hZ (hwi hw 3 rfl)) (by decide) (backOf (W := 0) (rm_pick_1 l Z a0 hw [] w_BATCHED h0 n0 Z0 S_BATCHED O0) hZ (hwi hw 3 rfl) (hwi hw 2 rfl) (by decide) (by decide)) (g := (mkF m 6 #[.val (.int p1), .val (.int 1), .unset, .unset] [(.int 1)])) rfl (by rw [hml]; rfl) (argsL := [(.int 1)]) (rest := []) (lenOf pd_I_Lcom_example_disbursa_disbursa_payouts_PayoutStatus_388 rfl) rfl (by show 2 * 0 + _ ≤ _; exact Nat.le_of_eq rfl) (hb hby at_6) (fun _ _ => ⟨rfl, e0, (by decide : 0 + 0 ≤ _), (by decide : 0 + 0 ≤ _)⟩)
  dsimp only [Pt.U, Pt.locs, Pt.cells, Pt.slots] at X1 l1 y1 z1 st1 hQ1
  subst l1 y1 z1
  obtain ⟨rfl, N1q, e1⟩ := hQ1
  have N1 := Fr.app N0 N1q
  obtain ⟨cq2, kq2, q2a, q2b, q2c⟩ := isOf hZ e1 (E_w_BATCHED.ext O0.2)
  obtain ⟨_, _, ⟨T2, L2, k2, n2⟩, -, X2, ⟨Lc2, hQ2, l2, y2, z2⟩, st2⟩ := X1.virtualBack hx (y := (⟨"com/example/disbursa/disbursa/payouts/PayoutStatus", "unpaid", "()Z"⟩ : MethodName)) (z := (⟨"com/example/disbursa/disbursa/payouts/PayoutStatus", "unpaid", "()Z"⟩ : MethodName)) hown (mvT hZ (hwi hw 7 rfl)) (mvT hZ (hwi hw 8 rfl)) (notFace_of_selects (args := #[]) (mvT hZ (hwi hw 10 rfl))) (mvT hZ (hwi hw 10 rfl)) (mvT hZ (hwi hw 9 rfl)) (by decide) (backOf (W := 0) (rm_unpaid_oth l Z a0 hw [] w_BATCHED w_REVERSED w_RETURNED w_FAILED h0 n0 Z0 S_REVERSED O0 hne_BATCHED_REVERSED S_RETURNED hne_BATCHED_RETURNED S_FAILED hne_BATCHED_FAILED) hZ (hwi hw 11 rfl) (hwi hw 5 rfl) (by decide) (by decide)) q2a q2c (g := (mkF m 22 #[.val (.int p1), .val (.int 1), .val (.ref w_BATCHED), .val (.int 0)] [(.ref w_BATCHED)])) rfl (by rw [hml]; rfl) (Steps.refl _) (argsL := []) (rest := []) (lenOf pd_Z_171 rfl) rfl (by show 2 * 0 + _ ≤ _; exact Nat.le_of_eq rfl) (hb hby at_22) (fun _ _ => ⟨rfl, e1, (by decide : 0 + 0 ≤ _), (by decide : 0 + 0 ≤ _)⟩)
  dsimp only [Pt.U, Pt.locs, Pt.cells, Pt.slots] at X2 l2 y2 z2 st2 hQ2
  subst l2 y2 z2
  obtain ⟨rfl, N2q, e2⟩ := hQ2
  have N2 := Fr.app N1 N2q
  obtain ⟨fs, hr, hrun, hended, hW, hsame⟩ := X2.leave (v := some (.int 1)) (fun h => by rw [Bd.returns] at h; cases h)
  refine ⟨_, _, pre0 _ ?_, hrun, hended, _, _, rfl, ?_, ⟨_, rfl⟩, hW, hsame.mono (by decide) (by decide)⟩
  · show St p e below s₁ (mkF m 0 #[.val (.int p1), .unset, .unset, .unset] []) _
    refine XS.iloadN X0.here hx rfl (hb hby at_0) rfl ?_
    show St p e below s₁ (mkF m 1 #[.val (.int p1), .unset, .unset, .unset] [(.int p1)]) _
    refine XS.bipush X0.here hx rfl (hb hby at_1) ?_
    show St p e below s₁ (mkF m 3 #[.val (.int p1), .unset, .unset, .unset] [(.int 7), (.int p1)]) _
    refine XS.iand X0.here hx rfl (hb hby at_3) rfl ?_
    show St p e below s₁ (mkF m 4 #[.val (.int p1), .unset, .unset, .unset] [(.int (p1 &&& (7 : Int32)))]) _
    rw [hk]
    show St p e below s₁ (mkF m 4 #[.val (.int p1), .unset, .unset, .unset] [(.int 1)]) _
    refine XS.istoreN X0.here hx rfl (hb hby at_4) rfl (l' := #[.val (.int p1), .val (.int 1), .unset, .unset]) rfl ?_
    show St p e below s₁ (mkF m 5 #[.val (.int p1), .val (.int 1), .unset, .unset] []) _
    refine XS.iloadN X0.here hx rfl (hb hby at_5) rfl ?_
    show St p e below s₁ (mkF m 6 #[.val (.int p1), .val (.int 1), .unset, .unset] [(.int 1)]) _
    refine st1 _ ?_
    show St p e below T1 (mkF m 9 #[.val (.int p1), .val (.int 1), .unset, .unset] [(.ref w_BATCHED)]) _
    refine XS.astoreN X1.here hx rfl (hb hby at_9) rfl rfl (l' := #[.val (.int p1), .val (.int 1), .val (.ref w_BATCHED), .unset]) rfl ?_
    show St p e below T1 (mkF m 10 #[.val (.int p1), .val (.int 1), .val (.ref w_BATCHED), .unset] []) _
    refine XS.iloadN X1.here hx rfl (hb hby at_10) rfl ?_
    show St p e below T1 (mkF m 11 #[.val (.int p1), .val (.int 1), .val (.ref w_BATCHED), .unset] [(.int 1)]) _
    refine XS.iconst X1.here hx rfl (hb hby at_11) ?_
    show St p e below T1 (mkF m 12 #[.val (.int p1), .val (.int 1), .val (.ref w_BATCHED), .unset] [(.int 5), (.int 1)]) _
    refine XS.icmpYes X1.here hx rfl (pc0 := 12) (pc' := 19) rfl (hb hby at_12) rfl (tlt (by decide : (1 : Int32) < (5 : Int32))).1 (by decide) (by decide) ?_
    show St p e below T1 (mkF m 19 #[.val (.int p1), .val (.int 1), .val (.ref w_BATCHED), .unset] []) _
    refine XS.iconst X1.here hx rfl (hb hby at_19) ?_
    show St p e below T1 (mkF m 20 #[.val (.int p1), .val (.int 1), .val (.ref w_BATCHED), .unset] [(.int 0)]) _
    refine XS.istoreN X1.here hx rfl (hb hby at_20) rfl (l' := #[.val (.int p1), .val (.int 1), .val (.ref w_BATCHED), .val (.int 0)]) rfl ?_
    show St p e below T1 (mkF m 21 #[.val (.int p1), .val (.int 1), .val (.ref w_BATCHED), .val (.int 0)] []) _
    refine XS.aloadN X1.here hx rfl (hb hby at_21) rfl rfl ?_
    show St p e below T1 (mkF m 22 #[.val (.int p1), .val (.int 1), .val (.ref w_BATCHED), .val (.int 0)] [(.ref w_BATCHED)]) _
    refine st2.trans ?_
    show St p e below T2 (mkF m 25 #[.val (.int p1), .val (.int 1), .val (.ref w_BATCHED), .val (.int 0)] [(.int 0)]) _
    refine XS.iloadN X2.here hx rfl (hb hby at_25) rfl ?_
    show St p e below T2 (mkF m 26 #[.val (.int p1), .val (.int 1), .val (.ref w_BATCHED), .val (.int 0)] [(.int 0), (.int 0)]) _
    refine XS.icmpNo X2.here hx rfl (hb hby at_26) rfl (teq (by decide : (0 : Int32) = (0 : Int32))).2 ?_
    show St p e below T2 (mkF m 29 #[.val (.int p1), .val (.int 1), .val (.ref w_BATCHED), .val (.int 0)] []) _
    refine XS.iconst X2.here hx rfl (hb hby at_29) ?_
    show St p e below T2 (mkF m 30 #[.val (.int p1), .val (.int 1), .val (.ref w_BATCHED), .val (.int 0)] [(.int 1)]) _
    refine XS.goto X2.here hx rfl (pc0 := 30) (pc' := 34) rfl (hb hby at_30) (by decide) (by decide) ?_
    show St p e below T2 (mkF m 34 #[.val (.int p1), .val (.int 1), .val (.ref w_BATCHED), .val (.int 0)] [(.int 1)]) _
    exact retN X2 hx (t := .boolean) Bd.returns (by simp) (hb hby at_34) hr
  · exact ⟨rfl, N2⟩
set_option maxRecDepth 65536 in
set_option maxHeartbeats 40000000 in
theorem rm_law_2 (l : Launch) (Z : State) (a0 : Array Value) (hw : ∀ d ∈ tables_1, d.before a0 Z = true) (ws : List Jvm.Cond) (p1 : Int32) (w_SUBMITTED : Addr) (w_REVERSED : Addr) (w_RETURNED : Addr) (w_FAILED : Addr) (h0 : Heap) (n0 : Nat) (Z0 : n0 ≤ h0.size) (S_SUBMITTED : Sta Z Z.heap "com/example/disbursa/disbursa/payouts/PayoutStatus" "SUBMITTED" "Lcom/example/disbursa/disbursa/payouts/PayoutStatus;" (.ref w_SUBMITTED)) (O0 : Old Z n0 h0) (E_w_SUBMITTED : Exa Z Z.heap w_SUBMITTED "com/example/disbursa/disbursa/payouts/PayoutStatus") (S_REVERSED : Sta Z Z.heap "com/example/disbursa/disbursa/payouts/PayoutStatus" "REVERSED" "Lcom/example/disbursa/disbursa/payouts/PayoutStatus;" (.ref w_REVERSED)) (hne_SUBMITTED_REVERSED : ¬ (w_SUBMITTED = w_REVERSED)) (S_RETURNED : Sta Z Z.heap "com/example/disbursa/disbursa/payouts/PayoutStatus" "RETURNED" "Lcom/example/disbursa/disbursa/payouts/PayoutStatus;" (.ref w_RETURNED)) (hne_SUBMITTED_RETURNED : ¬ (w_SUBMITTED = w_RETURNED)) (S_FAILED : Sta Z Z.heap "com/example/disbursa/disbursa/payouts/PayoutStatus" "FAILED" "Lcom/example/disbursa/disbursa/payouts/PayoutStatus;" (.ref w_FAILED)) (hne_SUBMITTED_FAILED : ¬ (w_SUBMITTED = w_FAILED)) (hk : (p1 &&& (7 : Int32)) = (2 : Int32)) :
    MetFree l x (head1 (Jvm.Cond.code x code maxLocals ret :: ws) room_1) (fun a U => a = #[(.int p1)] ∧ Z.Warmed39 U.vm ∧ U.heap = h0) (fun _ _ _ _ _ => True) (fun _ U o U' => ∃ v L, o = .returned v ∧ Q_law n0 v L ∧ FrameEnd U o U' L room_1.cells room_1.slots) := by
  refine MetFree.of_bodySF (plainFor_of_name pn_0) hisR ?_
  intro p e s m args below meth c s₁ Bd hml0 hP hK
  obtain ⟨rfl, hZ, hh⟩ := hP
  have hx := Bd.exec
  have hby := Bd.bytes
  have hml : c.maxLocals = 4 := hml0
  have hown : s.vm.findClass "com/example/disbursa/disbursa/payouts/PayoutStatusUnpaidPinLaw" = some m.cls := findClass_of_methodNamed Bd.named
  have hnm := (name_of_methodNamed Bd.named Bd.method).1
  have X0 : Stand p l e room_1 s m #[(.int p1)] below meth c s₁ [] 0 0 := Stand.of_body Bd
  have e0 : s₁.heap = h0 := by rw [← hh, Bd.state]; rfl
  have N0 := Fr.nil n0
  have pre0 : ∀ t, Steps p.tables e below (s₁.setTop (mkF m 0 #[.val (.int p1), .unset, .unset, .unset] [])) t → Steps p.tables e below (s₁.setTop (entryFrame m #[(.int p1)] maxLocals)) t := fun t k => castTop (ef_0_I m p1) k
  obtain ⟨_, _, ⟨T1, L1, k1, n1⟩, -, X1, ⟨Lc1, hQ1, l1, y1, z1⟩, st1⟩ := Jvm.LawKit.callS X0 hx (y := (⟨"com/example/disbursa/disbursa/payouts/PayoutStatusUnpaidPinLaw", "pick", "(I)Lcom/example/disbursa/disbursa/payouts/PayoutStatus;"⟩ : MethodName)) hown (mvT hZ (hwi hw 0 rfl)) (mvT hZ (hwi hw 1 rfl)) (mvT hZ (hwi hw 2 rfl)) (mvT hZ (hwi hw 3 rfl)) (by decide) (backOf (W := 0) (rm_pick_2 l Z a0 hw [] w_SUBMITTED h0 n0 Z0 S_SUBMITTED O0) hZ (hwi hw 3 rfl) (hwi hw 2 rfl) (by decide) (by decide)) (g := (mkF m 6 #[.val (.int p1), .val (.int 2), .unset, .unset] [(.int 2)])) rfl (by rw [hml]; rfl) (argsL := [(.int 2)]) (rest := []) (lenOf pd_I_Lcom_example_disbursa_disbursa_payouts_PayoutStatus_388 rfl) rfl (by show 2 * 0 + _ ≤ _; exact Nat.le_of_eq rfl) (hb hby at_6) (fun _ _ => ⟨rfl, e0, (by decide : 0 + 0 ≤ _), (by decide : 0 + 0 ≤ _)⟩)
  dsimp only [Pt.U, Pt.locs, Pt.cells, Pt.slots] at X1 l1 y1 z1 st1 hQ1
  subst l1 y1 z1
  obtain ⟨rfl, N1q, e1⟩ := hQ1
  have N1 := Fr.app N0 N1q
  obtain ⟨cq2, kq2, q2a, q2b, q2c⟩ := isOf hZ e1 (E_w_SUBMITTED.ext O0.2)
  obtain ⟨_, _, ⟨T2, L2, k2, n2⟩, -, X2, ⟨Lc2, hQ2, l2, y2, z2⟩, st2⟩ := X1.virtualBack hx (y := (⟨"com/example/disbursa/disbursa/payouts/PayoutStatus", "unpaid", "()Z"⟩ : MethodName)) (z := (⟨"com/example/disbursa/disbursa/payouts/PayoutStatus", "unpaid", "()Z"⟩ : MethodName)) hown (mvT hZ (hwi hw 7 rfl)) (mvT hZ (hwi hw 8 rfl)) (notFace_of_selects (args := #[]) (mvT hZ (hwi hw 10 rfl))) (mvT hZ (hwi hw 10 rfl)) (mvT hZ (hwi hw 9 rfl)) (by decide) (backOf (W := 0) (rm_unpaid_oth l Z a0 hw [] w_SUBMITTED w_REVERSED w_RETURNED w_FAILED h0 n0 Z0 S_REVERSED O0 hne_SUBMITTED_REVERSED S_RETURNED hne_SUBMITTED_RETURNED S_FAILED hne_SUBMITTED_FAILED) hZ (hwi hw 11 rfl) (hwi hw 5 rfl) (by decide) (by decide)) q2a q2c (g := (mkF m 22 #[.val (.int p1), .val (.int 2), .val (.ref w_SUBMITTED), .val (.int 0)] [(.ref w_SUBMITTED)])) rfl (by rw [hml]; rfl) (Steps.refl _) (argsL := []) (rest := []) (lenOf pd_Z_171 rfl) rfl (by show 2 * 0 + _ ≤ _; exact Nat.le_of_eq rfl) (hb hby at_22) (fun _ _ => ⟨rfl, e1, (by decide : 0 + 0 ≤ _), (by decide : 0 + 0 ≤ _)⟩)
  dsimp only [Pt.U, Pt.locs, Pt.cells, Pt.slots] at X2 l2 y2 z2 st2 hQ2
  subst l2 y2 z2
  obtain ⟨rfl, N2q, e2⟩ := hQ2
  have N2 := Fr.app N1 N2q
  obtain ⟨fs, hr, hrun, hended, hW, hsame⟩ := X2.leave (v := some (.int 1)) (fun h => by rw [Bd.returns] at h; cases h)
  refine ⟨_, _, pre0 _ ?_, hrun, hended, _, _, rfl, ?_, ⟨_, rfl⟩, hW, hsame.mono (by decide) (by decide)⟩
  · show St p e below s₁ (mkF m 0 #[.val (.int p1), .unset, .unset, .unset] []) _
    refine XS.iloadN X0.here hx rfl (hb hby at_0) rfl ?_
    show St p e below s₁ (mkF m 1 #[.val (.int p1), .unset, .unset, .unset] [(.int p1)]) _
    refine XS.bipush X0.here hx rfl (hb hby at_1) ?_
    show St p e below s₁ (mkF m 3 #[.val (.int p1), .unset, .unset, .unset] [(.int 7), (.int p1)]) _
    refine XS.iand X0.here hx rfl (hb hby at_3) rfl ?_
    show St p e below s₁ (mkF m 4 #[.val (.int p1), .unset, .unset, .unset] [(.int (p1 &&& (7 : Int32)))]) _
    rw [hk]
    show St p e below s₁ (mkF m 4 #[.val (.int p1), .unset, .unset, .unset] [(.int 2)]) _
    refine XS.istoreN X0.here hx rfl (hb hby at_4) rfl (l' := #[.val (.int p1), .val (.int 2), .unset, .unset]) rfl ?_
    show St p e below s₁ (mkF m 5 #[.val (.int p1), .val (.int 2), .unset, .unset] []) _
    refine XS.iloadN X0.here hx rfl (hb hby at_5) rfl ?_
    show St p e below s₁ (mkF m 6 #[.val (.int p1), .val (.int 2), .unset, .unset] [(.int 2)]) _
    refine st1 _ ?_
    show St p e below T1 (mkF m 9 #[.val (.int p1), .val (.int 2), .unset, .unset] [(.ref w_SUBMITTED)]) _
    refine XS.astoreN X1.here hx rfl (hb hby at_9) rfl rfl (l' := #[.val (.int p1), .val (.int 2), .val (.ref w_SUBMITTED), .unset]) rfl ?_
    show St p e below T1 (mkF m 10 #[.val (.int p1), .val (.int 2), .val (.ref w_SUBMITTED), .unset] []) _
    refine XS.iloadN X1.here hx rfl (hb hby at_10) rfl ?_
    show St p e below T1 (mkF m 11 #[.val (.int p1), .val (.int 2), .val (.ref w_SUBMITTED), .unset] [(.int 2)]) _
    refine XS.iconst X1.here hx rfl (hb hby at_11) ?_
    show St p e below T1 (mkF m 12 #[.val (.int p1), .val (.int 2), .val (.ref w_SUBMITTED), .unset] [(.int 5), (.int 2)]) _
    refine XS.icmpYes X1.here hx rfl (pc0 := 12) (pc' := 19) rfl (hb hby at_12) rfl (tlt (by decide : (2 : Int32) < (5 : Int32))).1 (by decide) (by decide) ?_
    show St p e below T1 (mkF m 19 #[.val (.int p1), .val (.int 2), .val (.ref w_SUBMITTED), .unset] []) _
    refine XS.iconst X1.here hx rfl (hb hby at_19) ?_
    show St p e below T1 (mkF m 20 #[.val (.int p1), .val (.int 2), .val (.ref w_SUBMITTED), .unset] [(.int 0)]) _
    refine XS.istoreN X1.here hx rfl (hb hby at_20) rfl (l' := #[.val (.int p1), .val (.int 2), .val (.ref w_SUBMITTED), .val (.int 0)]) rfl ?_
    show St p e below T1 (mkF m 21 #[.val (.int p1), .val (.int 2), .val (.ref w_SUBMITTED), .val (.int 0)] []) _
    refine XS.aloadN X1.here hx rfl (hb hby at_21) rfl rfl ?_
    show St p e below T1 (mkF m 22 #[.val (.int p1), .val (.int 2), .val (.ref w_SUBMITTED), .val (.int 0)] [(.ref w_SUBMITTED)]) _
    refine st2.trans ?_
    show St p e below T2 (mkF m 25 #[.val (.int p1), .val (.int 2), .val (.ref w_SUBMITTED), .val (.int 0)] [(.int 0)]) _
    refine XS.iloadN X2.here hx rfl (hb hby at_25) rfl ?_
    show St p e below T2 (mkF m 26 #[.val (.int p1), .val (.int 2), .val (.ref w_SUBMITTED), .val (.int 0)] [(.int 0), (.int 0)]) _
    refine XS.icmpNo X2.here hx rfl (hb hby at_26) rfl (teq (by decide : (0 : Int32) = (0 : Int32))).2 ?_
    show St p e below T2 (mkF m 29 #[.val (.int p1), .val (.int 2), .val (.ref w_SUBMITTED), .val (.int 0)] []) _
    refine XS.iconst X2.here hx rfl (hb hby at_29) ?_
    show St p e below T2 (mkF m 30 #[.val (.int p1), .val (.int 2), .val (.ref w_SUBMITTED), .val (.int 0)] [(.int 1)]) _
    refine XS.goto X2.here hx rfl (pc0 := 30) (pc' := 34) rfl (hb hby at_30) (by decide) (by decide) ?_
    show St p e below T2 (mkF m 34 #[.val (.int p1), .val (.int 2), .val (.ref w_SUBMITTED), .val (.int 0)] [(.int 1)]) _
    exact retN X2 hx (t := .boolean) Bd.returns (by simp) (hb hby at_34) hr
  · exact ⟨rfl, N2⟩
set_option maxRecDepth 65536 in
set_option maxHeartbeats 40000000 in
theorem rm_law_3 (l : Launch) (Z : State) (a0 : Array Value) (hw : ∀ d ∈ tables_1, d.before a0 Z = true) (ws : List Jvm.Cond) (p1 : Int32) (w_ACCEPTED : Addr) (w_REVERSED : Addr) (w_RETURNED : Addr) (w_FAILED : Addr) (h0 : Heap) (n0 : Nat) (Z0 : n0 ≤ h0.size) (S_ACCEPTED : Sta Z Z.heap "com/example/disbursa/disbursa/payouts/PayoutStatus" "ACCEPTED" "Lcom/example/disbursa/disbursa/payouts/PayoutStatus;" (.ref w_ACCEPTED)) (O0 : Old Z n0 h0) (E_w_ACCEPTED : Exa Z Z.heap w_ACCEPTED "com/example/disbursa/disbursa/payouts/PayoutStatus") (S_REVERSED : Sta Z Z.heap "com/example/disbursa/disbursa/payouts/PayoutStatus" "REVERSED" "Lcom/example/disbursa/disbursa/payouts/PayoutStatus;" (.ref w_REVERSED)) (hne_ACCEPTED_REVERSED : ¬ (w_ACCEPTED = w_REVERSED)) (S_RETURNED : Sta Z Z.heap "com/example/disbursa/disbursa/payouts/PayoutStatus" "RETURNED" "Lcom/example/disbursa/disbursa/payouts/PayoutStatus;" (.ref w_RETURNED)) (hne_ACCEPTED_RETURNED : ¬ (w_ACCEPTED = w_RETURNED)) (S_FAILED : Sta Z Z.heap "com/example/disbursa/disbursa/payouts/PayoutStatus" "FAILED" "Lcom/example/disbursa/disbursa/payouts/PayoutStatus;" (.ref w_FAILED)) (hne_ACCEPTED_FAILED : ¬ (w_ACCEPTED = w_FAILED)) (hk : (p1 &&& (7 : Int32)) = (3 : Int32)) :
    MetFree l x (head1 (Jvm.Cond.code x code maxLocals ret :: ws) room_1) (fun a U => a = #[(.int p1)] ∧ Z.Warmed39 U.vm ∧ U.heap = h0) (fun _ _ _ _ _ => True) (fun _ U o U' => ∃ v L, o = .returned v ∧ Q_law n0 v L ∧ FrameEnd U o U' L room_1.cells room_1.slots) := by
  refine MetFree.of_bodySF (plainFor_of_name pn_0) hisR ?_
  intro p e s m args below meth c s₁ Bd hml0 hP hK
  obtain ⟨rfl, hZ, hh⟩ := hP
  have hx := Bd.exec
  have hby := Bd.bytes
  have hml : c.maxLocals = 4 := hml0
  have hown : s.vm.findClass "com/example/disbursa/disbursa/payouts/PayoutStatusUnpaidPinLaw" = some m.cls := findClass_of_methodNamed Bd.named
  have hnm := (name_of_methodNamed Bd.named Bd.method).1
  have X0 : Stand p l e room_1 s m #[(.int p1)] below meth c s₁ [] 0 0 := Stand.of_body Bd
  have e0 : s₁.heap = h0 := by rw [← hh, Bd.state]; rfl
  have N0 := Fr.nil n0
  have pre0 : ∀ t, Steps p.tables e below (s₁.setTop (mkF m 0 #[.val (.int p1), .unset, .unset, .unset] [])) t → Steps p.tables e below (s₁.setTop (entryFrame m #[(.int p1)] maxLocals)) t := fun t k => castTop (ef_0_I m p1) k
  obtain ⟨_, _, ⟨T1, L1, k1, n1⟩, -, X1, ⟨Lc1, hQ1, l1, y1, z1⟩, st1⟩ := Jvm.LawKit.callS X0 hx (y := (⟨"com/example/disbursa/disbursa/payouts/PayoutStatusUnpaidPinLaw", "pick", "(I)Lcom/example/disbursa/disbursa/payouts/PayoutStatus;"⟩ : MethodName)) hown (mvT hZ (hwi hw 0 rfl)) (mvT hZ (hwi hw 1 rfl)) (mvT hZ (hwi hw 2 rfl)) (mvT hZ (hwi hw 3 rfl)) (by decide) (backOf (W := 0) (rm_pick_3 l Z a0 hw [] w_ACCEPTED h0 n0 Z0 S_ACCEPTED O0) hZ (hwi hw 3 rfl) (hwi hw 2 rfl) (by decide) (by decide)) (g := (mkF m 6 #[.val (.int p1), .val (.int 3), .unset, .unset] [(.int 3)])) rfl (by rw [hml]; rfl) (argsL := [(.int 3)]) (rest := []) (lenOf pd_I_Lcom_example_disbursa_disbursa_payouts_PayoutStatus_388 rfl) rfl (by show 2 * 0 + _ ≤ _; exact Nat.le_of_eq rfl) (hb hby at_6) (fun _ _ => ⟨rfl, e0, (by decide : 0 + 0 ≤ _), (by decide : 0 + 0 ≤ _)⟩)
  dsimp only [Pt.U, Pt.locs, Pt.cells, Pt.slots] at X1 l1 y1 z1 st1 hQ1
  subst l1 y1 z1
  obtain ⟨rfl, N1q, e1⟩ := hQ1
  have N1 := Fr.app N0 N1q
  obtain ⟨cq2, kq2, q2a, q2b, q2c⟩ := isOf hZ e1 (E_w_ACCEPTED.ext O0.2)
  obtain ⟨_, _, ⟨T2, L2, k2, n2⟩, -, X2, ⟨Lc2, hQ2, l2, y2, z2⟩, st2⟩ := X1.virtualBack hx (y := (⟨"com/example/disbursa/disbursa/payouts/PayoutStatus", "unpaid", "()Z"⟩ : MethodName)) (z := (⟨"com/example/disbursa/disbursa/payouts/PayoutStatus", "unpaid", "()Z"⟩ : MethodName)) hown (mvT hZ (hwi hw 7 rfl)) (mvT hZ (hwi hw 8 rfl)) (notFace_of_selects (args := #[]) (mvT hZ (hwi hw 10 rfl))) (mvT hZ (hwi hw 10 rfl)) (mvT hZ (hwi hw 9 rfl)) (by decide) (backOf (W := 0) (rm_unpaid_oth l Z a0 hw [] w_ACCEPTED w_REVERSED w_RETURNED w_FAILED h0 n0 Z0 S_REVERSED O0 hne_ACCEPTED_REVERSED S_RETURNED hne_ACCEPTED_RETURNED S_FAILED hne_ACCEPTED_FAILED) hZ (hwi hw 11 rfl) (hwi hw 5 rfl) (by decide) (by decide)) q2a q2c (g := (mkF m 22 #[.val (.int p1), .val (.int 3), .val (.ref w_ACCEPTED), .val (.int 0)] [(.ref w_ACCEPTED)])) rfl (by rw [hml]; rfl) (Steps.refl _) (argsL := []) (rest := []) (lenOf pd_Z_171 rfl) rfl (by show 2 * 0 + _ ≤ _; exact Nat.le_of_eq rfl) (hb hby at_22) (fun _ _ => ⟨rfl, e1, (by decide : 0 + 0 ≤ _), (by decide : 0 + 0 ≤ _)⟩)
  dsimp only [Pt.U, Pt.locs, Pt.cells, Pt.slots] at X2 l2 y2 z2 st2 hQ2
  subst l2 y2 z2
  obtain ⟨rfl, N2q, e2⟩ := hQ2
  have N2 := Fr.app N1 N2q
  obtain ⟨fs, hr, hrun, hended, hW, hsame⟩ := X2.leave (v := some (.int 1)) (fun h => by rw [Bd.returns] at h; cases h)
  refine ⟨_, _, pre0 _ ?_, hrun, hended, _, _, rfl, ?_, ⟨_, rfl⟩, hW, hsame.mono (by decide) (by decide)⟩
  · show St p e below s₁ (mkF m 0 #[.val (.int p1), .unset, .unset, .unset] []) _
    refine XS.iloadN X0.here hx rfl (hb hby at_0) rfl ?_
    show St p e below s₁ (mkF m 1 #[.val (.int p1), .unset, .unset, .unset] [(.int p1)]) _
    refine XS.bipush X0.here hx rfl (hb hby at_1) ?_
    show St p e below s₁ (mkF m 3 #[.val (.int p1), .unset, .unset, .unset] [(.int 7), (.int p1)]) _
    refine XS.iand X0.here hx rfl (hb hby at_3) rfl ?_
    show St p e below s₁ (mkF m 4 #[.val (.int p1), .unset, .unset, .unset] [(.int (p1 &&& (7 : Int32)))]) _
    rw [hk]
    show St p e below s₁ (mkF m 4 #[.val (.int p1), .unset, .unset, .unset] [(.int 3)]) _
    refine XS.istoreN X0.here hx rfl (hb hby at_4) rfl (l' := #[.val (.int p1), .val (.int 3), .unset, .unset]) rfl ?_
    show St p e below s₁ (mkF m 5 #[.val (.int p1), .val (.int 3), .unset, .unset] []) _
    refine XS.iloadN X0.here hx rfl (hb hby at_5) rfl ?_
    show St p e below s₁ (mkF m 6 #[.val (.int p1), .val (.int 3), .unset, .unset] [(.int 3)]) _
    refine st1 _ ?_
    show St p e below T1 (mkF m 9 #[.val (.int p1), .val (.int 3), .unset, .unset] [(.ref w_ACCEPTED)]) _
    refine XS.astoreN X1.here hx rfl (hb hby at_9) rfl rfl (l' := #[.val (.int p1), .val (.int 3), .val (.ref w_ACCEPTED), .unset]) rfl ?_
    show St p e below T1 (mkF m 10 #[.val (.int p1), .val (.int 3), .val (.ref w_ACCEPTED), .unset] []) _
    refine XS.iloadN X1.here hx rfl (hb hby at_10) rfl ?_
    show St p e below T1 (mkF m 11 #[.val (.int p1), .val (.int 3), .val (.ref w_ACCEPTED), .unset] [(.int 3)]) _
    refine XS.iconst X1.here hx rfl (hb hby at_11) ?_
    show St p e below T1 (mkF m 12 #[.val (.int p1), .val (.int 3), .val (.ref w_ACCEPTED), .unset] [(.int 5), (.int 3)]) _
    refine XS.icmpYes X1.here hx rfl (pc0 := 12) (pc' := 19) rfl (hb hby at_12) rfl (tlt (by decide : (3 : Int32) < (5 : Int32))).1 (by decide) (by decide) ?_
    show St p e below T1 (mkF m 19 #[.val (.int p1), .val (.int 3), .val (.ref w_ACCEPTED), .unset] []) _
    refine XS.iconst X1.here hx rfl (hb hby at_19) ?_
    show St p e below T1 (mkF m 20 #[.val (.int p1), .val (.int 3), .val (.ref w_ACCEPTED), .unset] [(.int 0)]) _
    refine XS.istoreN X1.here hx rfl (hb hby at_20) rfl (l' := #[.val (.int p1), .val (.int 3), .val (.ref w_ACCEPTED), .val (.int 0)]) rfl ?_
    show St p e below T1 (mkF m 21 #[.val (.int p1), .val (.int 3), .val (.ref w_ACCEPTED), .val (.int 0)] []) _
    refine XS.aloadN X1.here hx rfl (hb hby at_21) rfl rfl ?_
    show St p e below T1 (mkF m 22 #[.val (.int p1), .val (.int 3), .val (.ref w_ACCEPTED), .val (.int 0)] [(.ref w_ACCEPTED)]) _
    refine st2.trans ?_
    show St p e below T2 (mkF m 25 #[.val (.int p1), .val (.int 3), .val (.ref w_ACCEPTED), .val (.int 0)] [(.int 0)]) _
    refine XS.iloadN X2.here hx rfl (hb hby at_25) rfl ?_
    show St p e below T2 (mkF m 26 #[.val (.int p1), .val (.int 3), .val (.ref w_ACCEPTED), .val (.int 0)] [(.int 0), (.int 0)]) _
    refine XS.icmpNo X2.here hx rfl (hb hby at_26) rfl (teq (by decide : (0 : Int32) = (0 : Int32))).2 ?_
    show St p e below T2 (mkF m 29 #[.val (.int p1), .val (.int 3), .val (.ref w_ACCEPTED), .val (.int 0)] []) _
    refine XS.iconst X2.here hx rfl (hb hby at_29) ?_
    show St p e below T2 (mkF m 30 #[.val (.int p1), .val (.int 3), .val (.ref w_ACCEPTED), .val (.int 0)] [(.int 1)]) _
    refine XS.goto X2.here hx rfl (pc0 := 30) (pc' := 34) rfl (hb hby at_30) (by decide) (by decide) ?_
    show St p e below T2 (mkF m 34 #[.val (.int p1), .val (.int 3), .val (.ref w_ACCEPTED), .val (.int 0)] [(.int 1)]) _
    exact retN X2 hx (t := .boolean) Bd.returns (by simp) (hb hby at_34) hr
  · exact ⟨rfl, N2⟩
set_option maxRecDepth 65536 in
set_option maxHeartbeats 40000000 in
theorem rm_law_4 (l : Launch) (Z : State) (a0 : Array Value) (hw : ∀ d ∈ tables_1, d.before a0 Z = true) (ws : List Jvm.Cond) (p1 : Int32) (w_SETTLED : Addr) (w_REVERSED : Addr) (w_RETURNED : Addr) (w_FAILED : Addr) (h0 : Heap) (n0 : Nat) (Z0 : n0 ≤ h0.size) (S_SETTLED : Sta Z Z.heap "com/example/disbursa/disbursa/payouts/PayoutStatus" "SETTLED" "Lcom/example/disbursa/disbursa/payouts/PayoutStatus;" (.ref w_SETTLED)) (O0 : Old Z n0 h0) (E_w_SETTLED : Exa Z Z.heap w_SETTLED "com/example/disbursa/disbursa/payouts/PayoutStatus") (S_REVERSED : Sta Z Z.heap "com/example/disbursa/disbursa/payouts/PayoutStatus" "REVERSED" "Lcom/example/disbursa/disbursa/payouts/PayoutStatus;" (.ref w_REVERSED)) (hne_SETTLED_REVERSED : ¬ (w_SETTLED = w_REVERSED)) (S_RETURNED : Sta Z Z.heap "com/example/disbursa/disbursa/payouts/PayoutStatus" "RETURNED" "Lcom/example/disbursa/disbursa/payouts/PayoutStatus;" (.ref w_RETURNED)) (hne_SETTLED_RETURNED : ¬ (w_SETTLED = w_RETURNED)) (S_FAILED : Sta Z Z.heap "com/example/disbursa/disbursa/payouts/PayoutStatus" "FAILED" "Lcom/example/disbursa/disbursa/payouts/PayoutStatus;" (.ref w_FAILED)) (hne_SETTLED_FAILED : ¬ (w_SETTLED = w_FAILED)) (hk : (p1 &&& (7 : Int32)) = (4 : Int32)) :
    MetFree l x (head1 (Jvm.Cond.code x code maxLocals ret :: ws) room_1) (fun a U => a = #[(.int p1)] ∧ Z.Warmed39 U.vm ∧ U.heap = h0) (fun _ _ _ _ _ => True) (fun _ U o U' => ∃ v L, o = .returned v ∧ Q_law n0 v L ∧ FrameEnd U o U' L room_1.cells room_1.slots) := by
  refine MetFree.of_bodySF (plainFor_of_name pn_0) hisR ?_
  intro p e s m args below meth c s₁ Bd hml0 hP hK
  obtain ⟨rfl, hZ, hh⟩ := hP
  have hx := Bd.exec
  have hby := Bd.bytes
  have hml : c.maxLocals = 4 := hml0
  have hown : s.vm.findClass "com/example/disbursa/disbursa/payouts/PayoutStatusUnpaidPinLaw" = some m.cls := findClass_of_methodNamed Bd.named
  have hnm := (name_of_methodNamed Bd.named Bd.method).1
  have X0 : Stand p l e room_1 s m #[(.int p1)] below meth c s₁ [] 0 0 := Stand.of_body Bd
  have e0 : s₁.heap = h0 := by rw [← hh, Bd.state]; rfl
  have N0 := Fr.nil n0
  have pre0 : ∀ t, Steps p.tables e below (s₁.setTop (mkF m 0 #[.val (.int p1), .unset, .unset, .unset] [])) t → Steps p.tables e below (s₁.setTop (entryFrame m #[(.int p1)] maxLocals)) t := fun t k => castTop (ef_0_I m p1) k
  obtain ⟨_, _, ⟨T1, L1, k1, n1⟩, -, X1, ⟨Lc1, hQ1, l1, y1, z1⟩, st1⟩ := Jvm.LawKit.callS X0 hx (y := (⟨"com/example/disbursa/disbursa/payouts/PayoutStatusUnpaidPinLaw", "pick", "(I)Lcom/example/disbursa/disbursa/payouts/PayoutStatus;"⟩ : MethodName)) hown (mvT hZ (hwi hw 0 rfl)) (mvT hZ (hwi hw 1 rfl)) (mvT hZ (hwi hw 2 rfl)) (mvT hZ (hwi hw 3 rfl)) (by decide) (backOf (W := 0) (rm_pick_4 l Z a0 hw [] w_SETTLED h0 n0 Z0 S_SETTLED O0) hZ (hwi hw 3 rfl) (hwi hw 2 rfl) (by decide) (by decide)) (g := (mkF m 6 #[.val (.int p1), .val (.int 4), .unset, .unset] [(.int 4)])) rfl (by rw [hml]; rfl) (argsL := [(.int 4)]) (rest := []) (lenOf pd_I_Lcom_example_disbursa_disbursa_payouts_PayoutStatus_388 rfl) rfl (by show 2 * 0 + _ ≤ _; exact Nat.le_of_eq rfl) (hb hby at_6) (fun _ _ => ⟨rfl, e0, (by decide : 0 + 0 ≤ _), (by decide : 0 + 0 ≤ _)⟩)
  dsimp only [Pt.U, Pt.locs, Pt.cells, Pt.slots] at X1 l1 y1 z1 st1 hQ1
  subst l1 y1 z1
  obtain ⟨rfl, N1q, e1⟩ := hQ1
  have N1 := Fr.app N0 N1q
  obtain ⟨cq2, kq2, q2a, q2b, q2c⟩ := isOf hZ e1 (E_w_SETTLED.ext O0.2)
  obtain ⟨_, _, ⟨T2, L2, k2, n2⟩, -, X2, ⟨Lc2, hQ2, l2, y2, z2⟩, st2⟩ := X1.virtualBack hx (y := (⟨"com/example/disbursa/disbursa/payouts/PayoutStatus", "unpaid", "()Z"⟩ : MethodName)) (z := (⟨"com/example/disbursa/disbursa/payouts/PayoutStatus", "unpaid", "()Z"⟩ : MethodName)) hown (mvT hZ (hwi hw 7 rfl)) (mvT hZ (hwi hw 8 rfl)) (notFace_of_selects (args := #[]) (mvT hZ (hwi hw 10 rfl))) (mvT hZ (hwi hw 10 rfl)) (mvT hZ (hwi hw 9 rfl)) (by decide) (backOf (W := 0) (rm_unpaid_oth l Z a0 hw [] w_SETTLED w_REVERSED w_RETURNED w_FAILED h0 n0 Z0 S_REVERSED O0 hne_SETTLED_REVERSED S_RETURNED hne_SETTLED_RETURNED S_FAILED hne_SETTLED_FAILED) hZ (hwi hw 11 rfl) (hwi hw 5 rfl) (by decide) (by decide)) q2a q2c (g := (mkF m 22 #[.val (.int p1), .val (.int 4), .val (.ref w_SETTLED), .val (.int 0)] [(.ref w_SETTLED)])) rfl (by rw [hml]; rfl) (Steps.refl _) (argsL := []) (rest := []) (lenOf pd_Z_171 rfl) rfl (by show 2 * 0 + _ ≤ _; exact Nat.le_of_eq rfl) (hb hby at_22) (fun _ _ => ⟨rfl, e1, (by decide : 0 + 0 ≤ _), (by decide : 0 + 0 ≤ _)⟩)
  dsimp only [Pt.U, Pt.locs, Pt.cells, Pt.slots] at X2 l2 y2 z2 st2 hQ2
  subst l2 y2 z2
  obtain ⟨rfl, N2q, e2⟩ := hQ2
  have N2 := Fr.app N1 N2q
  obtain ⟨fs, hr, hrun, hended, hW, hsame⟩ := X2.leave (v := some (.int 1)) (fun h => by rw [Bd.returns] at h; cases h)
  refine ⟨_, _, pre0 _ ?_, hrun, hended, _, _, rfl, ?_, ⟨_, rfl⟩, hW, hsame.mono (by decide) (by decide)⟩
  · show St p e below s₁ (mkF m 0 #[.val (.int p1), .unset, .unset, .unset] []) _
    refine XS.iloadN X0.here hx rfl (hb hby at_0) rfl ?_
    show St p e below s₁ (mkF m 1 #[.val (.int p1), .unset, .unset, .unset] [(.int p1)]) _
    refine XS.bipush X0.here hx rfl (hb hby at_1) ?_
    show St p e below s₁ (mkF m 3 #[.val (.int p1), .unset, .unset, .unset] [(.int 7), (.int p1)]) _
    refine XS.iand X0.here hx rfl (hb hby at_3) rfl ?_
    show St p e below s₁ (mkF m 4 #[.val (.int p1), .unset, .unset, .unset] [(.int (p1 &&& (7 : Int32)))]) _
    rw [hk]
    show St p e below s₁ (mkF m 4 #[.val (.int p1), .unset, .unset, .unset] [(.int 4)]) _
    refine XS.istoreN X0.here hx rfl (hb hby at_4) rfl (l' := #[.val (.int p1), .val (.int 4), .unset, .unset]) rfl ?_
    show St p e below s₁ (mkF m 5 #[.val (.int p1), .val (.int 4), .unset, .unset] []) _
    refine XS.iloadN X0.here hx rfl (hb hby at_5) rfl ?_
    show St p e below s₁ (mkF m 6 #[.val (.int p1), .val (.int 4), .unset, .unset] [(.int 4)]) _
    refine st1 _ ?_
    show St p e below T1 (mkF m 9 #[.val (.int p1), .val (.int 4), .unset, .unset] [(.ref w_SETTLED)]) _
    refine XS.astoreN X1.here hx rfl (hb hby at_9) rfl rfl (l' := #[.val (.int p1), .val (.int 4), .val (.ref w_SETTLED), .unset]) rfl ?_
    show St p e below T1 (mkF m 10 #[.val (.int p1), .val (.int 4), .val (.ref w_SETTLED), .unset] []) _
    refine XS.iloadN X1.here hx rfl (hb hby at_10) rfl ?_
    show St p e below T1 (mkF m 11 #[.val (.int p1), .val (.int 4), .val (.ref w_SETTLED), .unset] [(.int 4)]) _
    refine XS.iconst X1.here hx rfl (hb hby at_11) ?_
    show St p e below T1 (mkF m 12 #[.val (.int p1), .val (.int 4), .val (.ref w_SETTLED), .unset] [(.int 5), (.int 4)]) _
    refine XS.icmpYes X1.here hx rfl (pc0 := 12) (pc' := 19) rfl (hb hby at_12) rfl (tlt (by decide : (4 : Int32) < (5 : Int32))).1 (by decide) (by decide) ?_
    show St p e below T1 (mkF m 19 #[.val (.int p1), .val (.int 4), .val (.ref w_SETTLED), .unset] []) _
    refine XS.iconst X1.here hx rfl (hb hby at_19) ?_
    show St p e below T1 (mkF m 20 #[.val (.int p1), .val (.int 4), .val (.ref w_SETTLED), .unset] [(.int 0)]) _
    refine XS.istoreN X1.here hx rfl (hb hby at_20) rfl (l' := #[.val (.int p1), .val (.int 4), .val (.ref w_SETTLED), .val (.int 0)]) rfl ?_
    show St p e below T1 (mkF m 21 #[.val (.int p1), .val (.int 4), .val (.ref w_SETTLED), .val (.int 0)] []) _
    refine XS.aloadN X1.here hx rfl (hb hby at_21) rfl rfl ?_
    show St p e below T1 (mkF m 22 #[.val (.int p1), .val (.int 4), .val (.ref w_SETTLED), .val (.int 0)] [(.ref w_SETTLED)]) _
    refine st2.trans ?_
    show St p e below T2 (mkF m 25 #[.val (.int p1), .val (.int 4), .val (.ref w_SETTLED), .val (.int 0)] [(.int 0)]) _
    refine XS.iloadN X2.here hx rfl (hb hby at_25) rfl ?_
    show St p e below T2 (mkF m 26 #[.val (.int p1), .val (.int 4), .val (.ref w_SETTLED), .val (.int 0)] [(.int 0), (.int 0)]) _
    refine XS.icmpNo X2.here hx rfl (hb hby at_26) rfl (teq (by decide : (0 : Int32) = (0 : Int32))).2 ?_
    show St p e below T2 (mkF m 29 #[.val (.int p1), .val (.int 4), .val (.ref w_SETTLED), .val (.int 0)] []) _
    refine XS.iconst X2.here hx rfl (hb hby at_29) ?_
    show St p e below T2 (mkF m 30 #[.val (.int p1), .val (.int 4), .val (.ref w_SETTLED), .val (.int 0)] [(.int 1)]) _
    refine XS.goto X2.here hx rfl (pc0 := 30) (pc' := 34) rfl (hb hby at_30) (by decide) (by decide) ?_
    show St p e below T2 (mkF m 34 #[.val (.int p1), .val (.int 4), .val (.ref w_SETTLED), .val (.int 0)] [(.int 1)]) _
    exact retN X2 hx (t := .boolean) Bd.returns (by simp) (hb hby at_34) hr
  · exact ⟨rfl, N2⟩
set_option maxRecDepth 65536 in
set_option maxHeartbeats 40000000 in
theorem rm_law_5 (l : Launch) (Z : State) (a0 : Array Value) (hw : ∀ d ∈ tables_1, d.before a0 Z = true) (ws : List Jvm.Cond) (p1 : Int32) (w_REVERSED : Addr) (w_RETURNED : Addr) (w_FAILED : Addr) (h0 : Heap) (n0 : Nat) (Z0 : n0 ≤ h0.size) (S_REVERSED : Sta Z Z.heap "com/example/disbursa/disbursa/payouts/PayoutStatus" "REVERSED" "Lcom/example/disbursa/disbursa/payouts/PayoutStatus;" (.ref w_REVERSED)) (O0 : Old Z n0 h0) (E_w_REVERSED : Exa Z Z.heap w_REVERSED "com/example/disbursa/disbursa/payouts/PayoutStatus") (S_RETURNED : Sta Z Z.heap "com/example/disbursa/disbursa/payouts/PayoutStatus" "RETURNED" "Lcom/example/disbursa/disbursa/payouts/PayoutStatus;" (.ref w_RETURNED)) (S_FAILED : Sta Z Z.heap "com/example/disbursa/disbursa/payouts/PayoutStatus" "FAILED" "Lcom/example/disbursa/disbursa/payouts/PayoutStatus;" (.ref w_FAILED)) (hk : (p1 &&& (7 : Int32)) = (5 : Int32)) :
    MetFree l x (head1 (Jvm.Cond.code x code maxLocals ret :: ws) room_1) (fun a U => a = #[(.int p1)] ∧ Z.Warmed39 U.vm ∧ U.heap = h0) (fun _ _ _ _ _ => True) (fun _ U o U' => ∃ v L, o = .returned v ∧ Q_law n0 v L ∧ FrameEnd U o U' L room_1.cells room_1.slots) := by
  refine MetFree.of_bodySF (plainFor_of_name pn_0) hisR ?_
  intro p e s m args below meth c s₁ Bd hml0 hP hK
  obtain ⟨rfl, hZ, hh⟩ := hP
  have hx := Bd.exec
  have hby := Bd.bytes
  have hml : c.maxLocals = 4 := hml0
  have hown : s.vm.findClass "com/example/disbursa/disbursa/payouts/PayoutStatusUnpaidPinLaw" = some m.cls := findClass_of_methodNamed Bd.named
  have hnm := (name_of_methodNamed Bd.named Bd.method).1
  have X0 : Stand p l e room_1 s m #[(.int p1)] below meth c s₁ [] 0 0 := Stand.of_body Bd
  have e0 : s₁.heap = h0 := by rw [← hh, Bd.state]; rfl
  have N0 := Fr.nil n0
  have pre0 : ∀ t, Steps p.tables e below (s₁.setTop (mkF m 0 #[.val (.int p1), .unset, .unset, .unset] [])) t → Steps p.tables e below (s₁.setTop (entryFrame m #[(.int p1)] maxLocals)) t := fun t k => castTop (ef_0_I m p1) k
  obtain ⟨_, _, ⟨T1, L1, k1, n1⟩, -, X1, ⟨Lc1, hQ1, l1, y1, z1⟩, st1⟩ := Jvm.LawKit.callS X0 hx (y := (⟨"com/example/disbursa/disbursa/payouts/PayoutStatusUnpaidPinLaw", "pick", "(I)Lcom/example/disbursa/disbursa/payouts/PayoutStatus;"⟩ : MethodName)) hown (mvT hZ (hwi hw 0 rfl)) (mvT hZ (hwi hw 1 rfl)) (mvT hZ (hwi hw 2 rfl)) (mvT hZ (hwi hw 3 rfl)) (by decide) (backOf (W := 0) (rm_pick_5 l Z a0 hw [] w_REVERSED h0 n0 Z0 S_REVERSED O0) hZ (hwi hw 3 rfl) (hwi hw 2 rfl) (by decide) (by decide)) (g := (mkF m 6 #[.val (.int p1), .val (.int 5), .unset, .unset] [(.int 5)])) rfl (by rw [hml]; rfl) (argsL := [(.int 5)]) (rest := []) (lenOf pd_I_Lcom_example_disbursa_disbursa_payouts_PayoutStatus_388 rfl) rfl (by show 2 * 0 + _ ≤ _; exact Nat.le_of_eq rfl) (hb hby at_6) (fun _ _ => ⟨rfl, e0, (by decide : 0 + 0 ≤ _), (by decide : 0 + 0 ≤ _)⟩)
  dsimp only [Pt.U, Pt.locs, Pt.cells, Pt.slots] at X1 l1 y1 z1 st1 hQ1
  subst l1 y1 z1
  obtain ⟨rfl, N1q, e1⟩ := hQ1
  have N1 := Fr.app N0 N1q
  obtain ⟨cq2, kq2, q2a, q2b, q2c⟩ := isOf hZ e1 (E_w_REVERSED.ext O0.2)
  obtain ⟨_, _, ⟨T2, L2, k2, n2⟩, -, X2, ⟨Lc2, hQ2, l2, y2, z2⟩, st2⟩ := X1.virtualBack hx (y := (⟨"com/example/disbursa/disbursa/payouts/PayoutStatus", "unpaid", "()Z"⟩ : MethodName)) (z := (⟨"com/example/disbursa/disbursa/payouts/PayoutStatus", "unpaid", "()Z"⟩ : MethodName)) hown (mvT hZ (hwi hw 7 rfl)) (mvT hZ (hwi hw 8 rfl)) (notFace_of_selects (args := #[]) (mvT hZ (hwi hw 10 rfl))) (mvT hZ (hwi hw 10 rfl)) (mvT hZ (hwi hw 9 rfl)) (by decide) (backOf (W := 0) (rm_unpaid_rev l Z a0 hw [] w_REVERSED h0 n0 Z0 S_REVERSED O0) hZ (hwi hw 11 rfl) (hwi hw 5 rfl) (by decide) (by decide)) q2a q2c (g := (mkF m 22 #[.val (.int p1), .val (.int 5), .val (.ref w_REVERSED), .val (.int 1)] [(.ref w_REVERSED)])) rfl (by rw [hml]; rfl) (Steps.refl _) (argsL := []) (rest := []) (lenOf pd_Z_171 rfl) rfl (by show 2 * 0 + _ ≤ _; exact Nat.le_of_eq rfl) (hb hby at_22) (fun _ _ => ⟨rfl, e1, (by decide : 0 + 0 ≤ _), (by decide : 0 + 0 ≤ _)⟩)
  dsimp only [Pt.U, Pt.locs, Pt.cells, Pt.slots] at X2 l2 y2 z2 st2 hQ2
  subst l2 y2 z2
  obtain ⟨rfl, N2q, e2⟩ := hQ2
  have N2 := Fr.app N1 N2q
  obtain ⟨fs, hr, hrun, hended, hW, hsame⟩ := X2.leave (v := some (.int 1)) (fun h => by rw [Bd.returns] at h; cases h)
  refine ⟨_, _, pre0 _ ?_, hrun, hended, _, _, rfl, ?_, ⟨_, rfl⟩, hW, hsame.mono (by decide) (by decide)⟩
  · show St p e below s₁ (mkF m 0 #[.val (.int p1), .unset, .unset, .unset] []) _
    refine XS.iloadN X0.here hx rfl (hb hby at_0) rfl ?_
    show St p e below s₁ (mkF m 1 #[.val (.int p1), .unset, .unset, .unset] [(.int p1)]) _
    refine XS.bipush X0.here hx rfl (hb hby at_1) ?_
    show St p e below s₁ (mkF m 3 #[.val (.int p1), .unset, .unset, .unset] [(.int 7), (.int p1)]) _
    refine XS.iand X0.here hx rfl (hb hby at_3) rfl ?_
    show St p e below s₁ (mkF m 4 #[.val (.int p1), .unset, .unset, .unset] [(.int (p1 &&& (7 : Int32)))]) _
    rw [hk]
    show St p e below s₁ (mkF m 4 #[.val (.int p1), .unset, .unset, .unset] [(.int 5)]) _
    refine XS.istoreN X0.here hx rfl (hb hby at_4) rfl (l' := #[.val (.int p1), .val (.int 5), .unset, .unset]) rfl ?_
    show St p e below s₁ (mkF m 5 #[.val (.int p1), .val (.int 5), .unset, .unset] []) _
    refine XS.iloadN X0.here hx rfl (hb hby at_5) rfl ?_
    show St p e below s₁ (mkF m 6 #[.val (.int p1), .val (.int 5), .unset, .unset] [(.int 5)]) _
    refine st1 _ ?_
    show St p e below T1 (mkF m 9 #[.val (.int p1), .val (.int 5), .unset, .unset] [(.ref w_REVERSED)]) _
    refine XS.astoreN X1.here hx rfl (hb hby at_9) rfl rfl (l' := #[.val (.int p1), .val (.int 5), .val (.ref w_REVERSED), .unset]) rfl ?_
    show St p e below T1 (mkF m 10 #[.val (.int p1), .val (.int 5), .val (.ref w_REVERSED), .unset] []) _
    refine XS.iloadN X1.here hx rfl (hb hby at_10) rfl ?_
    show St p e below T1 (mkF m 11 #[.val (.int p1), .val (.int 5), .val (.ref w_REVERSED), .unset] [(.int 5)]) _
    refine XS.iconst X1.here hx rfl (hb hby at_11) ?_
    show St p e below T1 (mkF m 12 #[.val (.int p1), .val (.int 5), .val (.ref w_REVERSED), .unset] [(.int 5), (.int 5)]) _
    refine XS.icmpNo X1.here hx rfl (hb hby at_12) rfl (flt (by decide : ¬ ((5 : Int32) < (5 : Int32)))).1 ?_
    show St p e below T1 (mkF m 15 #[.val (.int p1), .val (.int 5), .val (.ref w_REVERSED), .unset] []) _
    refine XS.iconst X1.here hx rfl (hb hby at_15) ?_
    show St p e below T1 (mkF m 16 #[.val (.int p1), .val (.int 5), .val (.ref w_REVERSED), .unset] [(.int 1)]) _
    refine XS.goto X1.here hx rfl (pc0 := 16) (pc' := 20) rfl (hb hby at_16) (by decide) (by decide) ?_
    show St p e below T1 (mkF m 20 #[.val (.int p1), .val (.int 5), .val (.ref w_REVERSED), .unset] [(.int 1)]) _
    refine XS.istoreN X1.here hx rfl (hb hby at_20) rfl (l' := #[.val (.int p1), .val (.int 5), .val (.ref w_REVERSED), .val (.int 1)]) rfl ?_
    show St p e below T1 (mkF m 21 #[.val (.int p1), .val (.int 5), .val (.ref w_REVERSED), .val (.int 1)] []) _
    refine XS.aloadN X1.here hx rfl (hb hby at_21) rfl rfl ?_
    show St p e below T1 (mkF m 22 #[.val (.int p1), .val (.int 5), .val (.ref w_REVERSED), .val (.int 1)] [(.ref w_REVERSED)]) _
    refine st2.trans ?_
    show St p e below T2 (mkF m 25 #[.val (.int p1), .val (.int 5), .val (.ref w_REVERSED), .val (.int 1)] [(.int 1)]) _
    refine XS.iloadN X2.here hx rfl (hb hby at_25) rfl ?_
    show St p e below T2 (mkF m 26 #[.val (.int p1), .val (.int 5), .val (.ref w_REVERSED), .val (.int 1)] [(.int 1), (.int 1)]) _
    refine XS.icmpNo X2.here hx rfl (hb hby at_26) rfl (teq (by decide : (1 : Int32) = (1 : Int32))).2 ?_
    show St p e below T2 (mkF m 29 #[.val (.int p1), .val (.int 5), .val (.ref w_REVERSED), .val (.int 1)] []) _
    refine XS.iconst X2.here hx rfl (hb hby at_29) ?_
    show St p e below T2 (mkF m 30 #[.val (.int p1), .val (.int 5), .val (.ref w_REVERSED), .val (.int 1)] [(.int 1)]) _
    refine XS.goto X2.here hx rfl (pc0 := 30) (pc' := 34) rfl (hb hby at_30) (by decide) (by decide) ?_
    show St p e below T2 (mkF m 34 #[.val (.int p1), .val (.int 5), .val (.ref w_REVERSED), .val (.int 1)] [(.int 1)]) _
    exact retN X2 hx (t := .boolean) Bd.returns (by simp) (hb hby at_34) hr
  · exact ⟨rfl, N2⟩
set_option maxRecDepth 65536 in
set_option maxHeartbeats 40000000 in
theorem rm_law_6 (l : Launch) (Z : State) (a0 : Array Value) (hw : ∀ d ∈ tables_1, d.before a0 Z = true) (ws : List Jvm.Cond) (p1 : Int32) (w_RETURNED : Addr) (w_REVERSED : Addr) (w_FAILED : Addr) (h0 : Heap) (n0 : Nat) (Z0 : n0 ≤ h0.size) (S_RETURNED : Sta Z Z.heap "com/example/disbursa/disbursa/payouts/PayoutStatus" "RETURNED" "Lcom/example/disbursa/disbursa/payouts/PayoutStatus;" (.ref w_RETURNED)) (O0 : Old Z n0 h0) (E_w_RETURNED : Exa Z Z.heap w_RETURNED "com/example/disbursa/disbursa/payouts/PayoutStatus") (S_REVERSED : Sta Z Z.heap "com/example/disbursa/disbursa/payouts/PayoutStatus" "REVERSED" "Lcom/example/disbursa/disbursa/payouts/PayoutStatus;" (.ref w_REVERSED)) (hne_RETURNED_REVERSED : ¬ (w_RETURNED = w_REVERSED)) (S_FAILED : Sta Z Z.heap "com/example/disbursa/disbursa/payouts/PayoutStatus" "FAILED" "Lcom/example/disbursa/disbursa/payouts/PayoutStatus;" (.ref w_FAILED)) (hk : (p1 &&& (7 : Int32)) = (6 : Int32)) :
    MetFree l x (head1 (Jvm.Cond.code x code maxLocals ret :: ws) room_1) (fun a U => a = #[(.int p1)] ∧ Z.Warmed39 U.vm ∧ U.heap = h0) (fun _ _ _ _ _ => True) (fun _ U o U' => ∃ v L, o = .returned v ∧ Q_law n0 v L ∧ FrameEnd U o U' L room_1.cells room_1.slots) := by
  refine MetFree.of_bodySF (plainFor_of_name pn_0) hisR ?_
  intro p e s m args below meth c s₁ Bd hml0 hP hK
  obtain ⟨rfl, hZ, hh⟩ := hP
  have hx := Bd.exec
  have hby := Bd.bytes
  have hml : c.maxLocals = 4 := hml0
  have hown : s.vm.findClass "com/example/disbursa/disbursa/payouts/PayoutStatusUnpaidPinLaw" = some m.cls := findClass_of_methodNamed Bd.named
  have hnm := (name_of_methodNamed Bd.named Bd.method).1
  have X0 : Stand p l e room_1 s m #[(.int p1)] below meth c s₁ [] 0 0 := Stand.of_body Bd
  have e0 : s₁.heap = h0 := by rw [← hh, Bd.state]; rfl
  have N0 := Fr.nil n0
  have pre0 : ∀ t, Steps p.tables e below (s₁.setTop (mkF m 0 #[.val (.int p1), .unset, .unset, .unset] [])) t → Steps p.tables e below (s₁.setTop (entryFrame m #[(.int p1)] maxLocals)) t := fun t k => castTop (ef_0_I m p1) k
  obtain ⟨_, _, ⟨T1, L1, k1, n1⟩, -, X1, ⟨Lc1, hQ1, l1, y1, z1⟩, st1⟩ := Jvm.LawKit.callS X0 hx (y := (⟨"com/example/disbursa/disbursa/payouts/PayoutStatusUnpaidPinLaw", "pick", "(I)Lcom/example/disbursa/disbursa/payouts/PayoutStatus;"⟩ : MethodName)) hown (mvT hZ (hwi hw 0 rfl)) (mvT hZ (hwi hw 1 rfl)) (mvT hZ (hwi hw 2 rfl)) (mvT hZ (hwi hw 3 rfl)) (by decide) (backOf (W := 0) (rm_pick_6 l Z a0 hw [] w_RETURNED h0 n0 Z0 S_RETURNED O0) hZ (hwi hw 3 rfl) (hwi hw 2 rfl) (by decide) (by decide)) (g := (mkF m 6 #[.val (.int p1), .val (.int 6), .unset, .unset] [(.int 6)])) rfl (by rw [hml]; rfl) (argsL := [(.int 6)]) (rest := []) (lenOf pd_I_Lcom_example_disbursa_disbursa_payouts_PayoutStatus_388 rfl) rfl (by show 2 * 0 + _ ≤ _; exact Nat.le_of_eq rfl) (hb hby at_6) (fun _ _ => ⟨rfl, e0, (by decide : 0 + 0 ≤ _), (by decide : 0 + 0 ≤ _)⟩)
  dsimp only [Pt.U, Pt.locs, Pt.cells, Pt.slots] at X1 l1 y1 z1 st1 hQ1
  subst l1 y1 z1
  obtain ⟨rfl, N1q, e1⟩ := hQ1
  have N1 := Fr.app N0 N1q
  obtain ⟨cq2, kq2, q2a, q2b, q2c⟩ := isOf hZ e1 (E_w_RETURNED.ext O0.2)
  obtain ⟨_, _, ⟨T2, L2, k2, n2⟩, -, X2, ⟨Lc2, hQ2, l2, y2, z2⟩, st2⟩ := X1.virtualBack hx (y := (⟨"com/example/disbursa/disbursa/payouts/PayoutStatus", "unpaid", "()Z"⟩ : MethodName)) (z := (⟨"com/example/disbursa/disbursa/payouts/PayoutStatus", "unpaid", "()Z"⟩ : MethodName)) hown (mvT hZ (hwi hw 7 rfl)) (mvT hZ (hwi hw 8 rfl)) (notFace_of_selects (args := #[]) (mvT hZ (hwi hw 10 rfl))) (mvT hZ (hwi hw 10 rfl)) (mvT hZ (hwi hw 9 rfl)) (by decide) (backOf (W := 0) (rm_unpaid_ret l Z a0 hw [] w_RETURNED w_REVERSED h0 n0 Z0 S_REVERSED O0 hne_RETURNED_REVERSED S_RETURNED) hZ (hwi hw 11 rfl) (hwi hw 5 rfl) (by decide) (by decide)) q2a q2c (g := (mkF m 22 #[.val (.int p1), .val (.int 6), .val (.ref w_RETURNED), .val (.int 1)] [(.ref w_RETURNED)])) rfl (by rw [hml]; rfl) (Steps.refl _) (argsL := []) (rest := []) (lenOf pd_Z_171 rfl) rfl (by show 2 * 0 + _ ≤ _; exact Nat.le_of_eq rfl) (hb hby at_22) (fun _ _ => ⟨rfl, e1, (by decide : 0 + 0 ≤ _), (by decide : 0 + 0 ≤ _)⟩)
  dsimp only [Pt.U, Pt.locs, Pt.cells, Pt.slots] at X2 l2 y2 z2 st2 hQ2
  subst l2 y2 z2
  obtain ⟨rfl, N2q, e2⟩ := hQ2
  have N2 := Fr.app N1 N2q
  obtain ⟨fs, hr, hrun, hended, hW, hsame⟩ := X2.leave (v := some (.int 1)) (fun h => by rw [Bd.returns] at h; cases h)
  refine ⟨_, _, pre0 _ ?_, hrun, hended, _, _, rfl, ?_, ⟨_, rfl⟩, hW, hsame.mono (by decide) (by decide)⟩
  · show St p e below s₁ (mkF m 0 #[.val (.int p1), .unset, .unset, .unset] []) _
    refine XS.iloadN X0.here hx rfl (hb hby at_0) rfl ?_
    show St p e below s₁ (mkF m 1 #[.val (.int p1), .unset, .unset, .unset] [(.int p1)]) _
    refine XS.bipush X0.here hx rfl (hb hby at_1) ?_
    show St p e below s₁ (mkF m 3 #[.val (.int p1), .unset, .unset, .unset] [(.int 7), (.int p1)]) _
    refine XS.iand X0.here hx rfl (hb hby at_3) rfl ?_
    show St p e below s₁ (mkF m 4 #[.val (.int p1), .unset, .unset, .unset] [(.int (p1 &&& (7 : Int32)))]) _
    rw [hk]
    show St p e below s₁ (mkF m 4 #[.val (.int p1), .unset, .unset, .unset] [(.int 6)]) _
    refine XS.istoreN X0.here hx rfl (hb hby at_4) rfl (l' := #[.val (.int p1), .val (.int 6), .unset, .unset]) rfl ?_
    show St p e below s₁ (mkF m 5 #[.val (.int p1), .val (.int 6), .unset, .unset] []) _
    refine XS.iloadN X0.here hx rfl (hb hby at_5) rfl ?_
    show St p e below s₁ (mkF m 6 #[.val (.int p1), .val (.int 6), .unset, .unset] [(.int 6)]) _
    refine st1 _ ?_
    show St p e below T1 (mkF m 9 #[.val (.int p1), .val (.int 6), .unset, .unset] [(.ref w_RETURNED)]) _
    refine XS.astoreN X1.here hx rfl (hb hby at_9) rfl rfl (l' := #[.val (.int p1), .val (.int 6), .val (.ref w_RETURNED), .unset]) rfl ?_
    show St p e below T1 (mkF m 10 #[.val (.int p1), .val (.int 6), .val (.ref w_RETURNED), .unset] []) _
    refine XS.iloadN X1.here hx rfl (hb hby at_10) rfl ?_
    show St p e below T1 (mkF m 11 #[.val (.int p1), .val (.int 6), .val (.ref w_RETURNED), .unset] [(.int 6)]) _
    refine XS.iconst X1.here hx rfl (hb hby at_11) ?_
    show St p e below T1 (mkF m 12 #[.val (.int p1), .val (.int 6), .val (.ref w_RETURNED), .unset] [(.int 5), (.int 6)]) _
    refine XS.icmpNo X1.here hx rfl (hb hby at_12) rfl (flt (by decide : ¬ ((6 : Int32) < (5 : Int32)))).1 ?_
    show St p e below T1 (mkF m 15 #[.val (.int p1), .val (.int 6), .val (.ref w_RETURNED), .unset] []) _
    refine XS.iconst X1.here hx rfl (hb hby at_15) ?_
    show St p e below T1 (mkF m 16 #[.val (.int p1), .val (.int 6), .val (.ref w_RETURNED), .unset] [(.int 1)]) _
    refine XS.goto X1.here hx rfl (pc0 := 16) (pc' := 20) rfl (hb hby at_16) (by decide) (by decide) ?_
    show St p e below T1 (mkF m 20 #[.val (.int p1), .val (.int 6), .val (.ref w_RETURNED), .unset] [(.int 1)]) _
    refine XS.istoreN X1.here hx rfl (hb hby at_20) rfl (l' := #[.val (.int p1), .val (.int 6), .val (.ref w_RETURNED), .val (.int 1)]) rfl ?_
    show St p e below T1 (mkF m 21 #[.val (.int p1), .val (.int 6), .val (.ref w_RETURNED), .val (.int 1)] []) _
    refine XS.aloadN X1.here hx rfl (hb hby at_21) rfl rfl ?_
    show St p e below T1 (mkF m 22 #[.val (.int p1), .val (.int 6), .val (.ref w_RETURNED), .val (.int 1)] [(.ref w_RETURNED)]) _
    refine st2.trans ?_
    show St p e below T2 (mkF m 25 #[.val (.int p1), .val (.int 6), .val (.ref w_RETURNED), .val (.int 1)] [(.int 1)]) _
    refine XS.iloadN X2.here hx rfl (hb hby at_25) rfl ?_
    show St p e below T2 (mkF m 26 #[.val (.int p1), .val (.int 6), .val (.ref w_RETURNED), .val (.int 1)] [(.int 1), (.int 1)]) _
    refine XS.icmpNo X2.here hx rfl (hb hby at_26) rfl (teq (by decide : (1 : Int32) = (1 : Int32))).2 ?_
    show St p e below T2 (mkF m 29 #[.val (.int p1), .val (.int 6), .val (.ref w_RETURNED), .val (.int 1)] []) _
    refine XS.iconst X2.here hx rfl (hb hby at_29) ?_
    show St p e below T2 (mkF m 30 #[.val (.int p1), .val (.int 6), .val (.ref w_RETURNED), .val (.int 1)] [(.int 1)]) _
    refine XS.goto X2.here hx rfl (pc0 := 30) (pc' := 34) rfl (hb hby at_30) (by decide) (by decide) ?_
    show St p e below T2 (mkF m 34 #[.val (.int p1), .val (.int 6), .val (.ref w_RETURNED), .val (.int 1)] [(.int 1)]) _
    exact retN X2 hx (t := .boolean) Bd.returns (by simp) (hb hby at_34) hr
  · exact ⟨rfl, N2⟩
set_option maxRecDepth 65536 in
set_option maxHeartbeats 40000000 in
theorem rm_law_7 (l : Launch) (Z : State) (a0 : Array Value) (hw : ∀ d ∈ tables_1, d.before a0 Z = true) (ws : List Jvm.Cond) (p1 : Int32) (w_FAILED : Addr) (w_REVERSED : Addr) (w_RETURNED : Addr) (h0 : Heap) (n0 : Nat) (Z0 : n0 ≤ h0.size) (S_FAILED : Sta Z Z.heap "com/example/disbursa/disbursa/payouts/PayoutStatus" "FAILED" "Lcom/example/disbursa/disbursa/payouts/PayoutStatus;" (.ref w_FAILED)) (O0 : Old Z n0 h0) (E_w_FAILED : Exa Z Z.heap w_FAILED "com/example/disbursa/disbursa/payouts/PayoutStatus") (S_REVERSED : Sta Z Z.heap "com/example/disbursa/disbursa/payouts/PayoutStatus" "REVERSED" "Lcom/example/disbursa/disbursa/payouts/PayoutStatus;" (.ref w_REVERSED)) (hne_FAILED_REVERSED : ¬ (w_FAILED = w_REVERSED)) (S_RETURNED : Sta Z Z.heap "com/example/disbursa/disbursa/payouts/PayoutStatus" "RETURNED" "Lcom/example/disbursa/disbursa/payouts/PayoutStatus;" (.ref w_RETURNED)) (hne_FAILED_RETURNED : ¬ (w_FAILED = w_RETURNED)) (hk : (p1 &&& (7 : Int32)) = (7 : Int32)) :
    MetFree l x (head1 (Jvm.Cond.code x code maxLocals ret :: ws) room_1) (fun a U => a = #[(.int p1)] ∧ Z.Warmed39 U.vm ∧ U.heap = h0) (fun _ _ _ _ _ => True) (fun _ U o U' => ∃ v L, o = .returned v ∧ Q_law n0 v L ∧ FrameEnd U o U' L room_1.cells room_1.slots) := by
  refine MetFree.of_bodySF (plainFor_of_name pn_0) hisR ?_
  intro p e s m args below meth c s₁ Bd hml0 hP hK
  obtain ⟨rfl, hZ, hh⟩ := hP
  have hx := Bd.exec
  have hby := Bd.bytes
  have hml : c.maxLocals = 4 := hml0
  have hown : s.vm.findClass "com/example/disbursa/disbursa/payouts/PayoutStatusUnpaidPinLaw" = some m.cls := findClass_of_methodNamed Bd.named
  have hnm := (name_of_methodNamed Bd.named Bd.method).1
  have X0 : Stand p l e room_1 s m #[(.int p1)] below meth c s₁ [] 0 0 := Stand.of_body Bd
  have e0 : s₁.heap = h0 := by rw [← hh, Bd.state]; rfl
  have N0 := Fr.nil n0
  have pre0 : ∀ t, Steps p.tables e below (s₁.setTop (mkF m 0 #[.val (.int p1), .unset, .unset, .unset] [])) t → Steps p.tables e below (s₁.setTop (entryFrame m #[(.int p1)] maxLocals)) t := fun t k => castTop (ef_0_I m p1) k
  obtain ⟨_, _, ⟨T1, L1, k1, n1⟩, -, X1, ⟨Lc1, hQ1, l1, y1, z1⟩, st1⟩ := Jvm.LawKit.callS X0 hx (y := (⟨"com/example/disbursa/disbursa/payouts/PayoutStatusUnpaidPinLaw", "pick", "(I)Lcom/example/disbursa/disbursa/payouts/PayoutStatus;"⟩ : MethodName)) hown (mvT hZ (hwi hw 0 rfl)) (mvT hZ (hwi hw 1 rfl)) (mvT hZ (hwi hw 2 rfl)) (mvT hZ (hwi hw 3 rfl)) (by decide) (backOf (W := 0) (rm_pick_7 l Z a0 hw [] w_FAILED h0 n0 Z0 S_FAILED O0) hZ (hwi hw 3 rfl) (hwi hw 2 rfl) (by decide) (by decide)) (g := (mkF m 6 #[.val (.int p1), .val (.int 7), .unset, .unset] [(.int 7)])) rfl (by rw [hml]; rfl) (argsL := [(.int 7)]) (rest := []) (lenOf pd_I_Lcom_example_disbursa_disbursa_payouts_PayoutStatus_388 rfl) rfl (by show 2 * 0 + _ ≤ _; exact Nat.le_of_eq rfl) (hb hby at_6) (fun _ _ => ⟨rfl, e0, (by decide : 0 + 0 ≤ _), (by decide : 0 + 0 ≤ _)⟩)
  dsimp only [Pt.U, Pt.locs, Pt.cells, Pt.slots] at X1 l1 y1 z1 st1 hQ1
  subst l1 y1 z1
  obtain ⟨rfl, N1q, e1⟩ := hQ1
  have N1 := Fr.app N0 N1q
  obtain ⟨cq2, kq2, q2a, q2b, q2c⟩ := isOf hZ e1 (E_w_FAILED.ext O0.2)
  obtain ⟨_, _, ⟨T2, L2, k2, n2⟩, -, X2, ⟨Lc2, hQ2, l2, y2, z2⟩, st2⟩ := X1.virtualBack hx (y := (⟨"com/example/disbursa/disbursa/payouts/PayoutStatus", "unpaid", "()Z"⟩ : MethodName)) (z := (⟨"com/example/disbursa/disbursa/payouts/PayoutStatus", "unpaid", "()Z"⟩ : MethodName)) hown (mvT hZ (hwi hw 7 rfl)) (mvT hZ (hwi hw 8 rfl)) (notFace_of_selects (args := #[]) (mvT hZ (hwi hw 10 rfl))) (mvT hZ (hwi hw 10 rfl)) (mvT hZ (hwi hw 9 rfl)) (by decide) (backOf (W := 0) (rm_unpaid_fai l Z a0 hw [] w_FAILED w_REVERSED w_RETURNED h0 n0 Z0 S_REVERSED O0 hne_FAILED_REVERSED S_RETURNED hne_FAILED_RETURNED S_FAILED) hZ (hwi hw 11 rfl) (hwi hw 5 rfl) (by decide) (by decide)) q2a q2c (g := (mkF m 22 #[.val (.int p1), .val (.int 7), .val (.ref w_FAILED), .val (.int 1)] [(.ref w_FAILED)])) rfl (by rw [hml]; rfl) (Steps.refl _) (argsL := []) (rest := []) (lenOf pd_Z_171 rfl) rfl (by show 2 * 0 + _ ≤ _; exact Nat.le_of_eq rfl) (hb hby at_22) (fun _ _ => ⟨rfl, e1, (by decide : 0 + 0 ≤ _), (by decide : 0 + 0 ≤ _)⟩)
  dsimp only [Pt.U, Pt.locs, Pt.cells, Pt.slots] at X2 l2 y2 z2 st2 hQ2
  subst l2 y2 z2
  obtain ⟨rfl, N2q, e2⟩ := hQ2
  have N2 := Fr.app N1 N2q
  obtain ⟨fs, hr, hrun, hended, hW, hsame⟩ := X2.leave (v := some (.int 1)) (fun h => by rw [Bd.returns] at h; cases h)
  refine ⟨_, _, pre0 _ ?_, hrun, hended, _, _, rfl, ?_, ⟨_, rfl⟩, hW, hsame.mono (by decide) (by decide)⟩
  · show St p e below s₁ (mkF m 0 #[.val (.int p1), .unset, .unset, .unset] []) _
    refine XS.iloadN X0.here hx rfl (hb hby at_0) rfl ?_
    show St p e below s₁ (mkF m 1 #[.val (.int p1), .unset, .unset, .unset] [(.int p1)]) _
    refine XS.bipush X0.here hx rfl (hb hby at_1) ?_
    show St p e below s₁ (mkF m 3 #[.val (.int p1), .unset, .unset, .unset] [(.int 7), (.int p1)]) _
    refine XS.iand X0.here hx rfl (hb hby at_3) rfl ?_
    show St p e below s₁ (mkF m 4 #[.val (.int p1), .unset, .unset, .unset] [(.int (p1 &&& (7 : Int32)))]) _
    rw [hk]
    show St p e below s₁ (mkF m 4 #[.val (.int p1), .unset, .unset, .unset] [(.int 7)]) _
    refine XS.istoreN X0.here hx rfl (hb hby at_4) rfl (l' := #[.val (.int p1), .val (.int 7), .unset, .unset]) rfl ?_
    show St p e below s₁ (mkF m 5 #[.val (.int p1), .val (.int 7), .unset, .unset] []) _
    refine XS.iloadN X0.here hx rfl (hb hby at_5) rfl ?_
    show St p e below s₁ (mkF m 6 #[.val (.int p1), .val (.int 7), .unset, .unset] [(.int 7)]) _
    refine st1 _ ?_
    show St p e below T1 (mkF m 9 #[.val (.int p1), .val (.int 7), .unset, .unset] [(.ref w_FAILED)]) _
    refine XS.astoreN X1.here hx rfl (hb hby at_9) rfl rfl (l' := #[.val (.int p1), .val (.int 7), .val (.ref w_FAILED), .unset]) rfl ?_
    show St p e below T1 (mkF m 10 #[.val (.int p1), .val (.int 7), .val (.ref w_FAILED), .unset] []) _
    refine XS.iloadN X1.here hx rfl (hb hby at_10) rfl ?_
    show St p e below T1 (mkF m 11 #[.val (.int p1), .val (.int 7), .val (.ref w_FAILED), .unset] [(.int 7)]) _
    refine XS.iconst X1.here hx rfl (hb hby at_11) ?_
    show St p e below T1 (mkF m 12 #[.val (.int p1), .val (.int 7), .val (.ref w_FAILED), .unset] [(.int 5), (.int 7)]) _
    refine XS.icmpNo X1.here hx rfl (hb hby at_12) rfl (flt (by decide : ¬ ((7 : Int32) < (5 : Int32)))).1 ?_
    show St p e below T1 (mkF m 15 #[.val (.int p1), .val (.int 7), .val (.ref w_FAILED), .unset] []) _
    refine XS.iconst X1.here hx rfl (hb hby at_15) ?_
    show St p e below T1 (mkF m 16 #[.val (.int p1), .val (.int 7), .val (.ref w_FAILED), .unset] [(.int 1)]) _
    refine XS.goto X1.here hx rfl (pc0 := 16) (pc' := 20) rfl (hb hby at_16) (by decide) (by decide) ?_
    show St p e below T1 (mkF m 20 #[.val (.int p1), .val (.int 7), .val (.ref w_FAILED), .unset] [(.int 1)]) _
    refine XS.istoreN X1.here hx rfl (hb hby at_20) rfl (l' := #[.val (.int p1), .val (.int 7), .val (.ref w_FAILED), .val (.int 1)]) rfl ?_
    show St p e below T1 (mkF m 21 #[.val (.int p1), .val (.int 7), .val (.ref w_FAILED), .val (.int 1)] []) _
    refine XS.aloadN X1.here hx rfl (hb hby at_21) rfl rfl ?_
    show St p e below T1 (mkF m 22 #[.val (.int p1), .val (.int 7), .val (.ref w_FAILED), .val (.int 1)] [(.ref w_FAILED)]) _
    refine st2.trans ?_
    show St p e below T2 (mkF m 25 #[.val (.int p1), .val (.int 7), .val (.ref w_FAILED), .val (.int 1)] [(.int 1)]) _
    refine XS.iloadN X2.here hx rfl (hb hby at_25) rfl ?_
    show St p e below T2 (mkF m 26 #[.val (.int p1), .val (.int 7), .val (.ref w_FAILED), .val (.int 1)] [(.int 1), (.int 1)]) _
    refine XS.icmpNo X2.here hx rfl (hb hby at_26) rfl (teq (by decide : (1 : Int32) = (1 : Int32))).2 ?_
    show St p e below T2 (mkF m 29 #[.val (.int p1), .val (.int 7), .val (.ref w_FAILED), .val (.int 1)] []) _
    refine XS.iconst X2.here hx rfl (hb hby at_29) ?_
    show St p e below T2 (mkF m 30 #[.val (.int p1), .val (.int 7), .val (.ref w_FAILED), .val (.int 1)] [(.int 1)]) _
    refine XS.goto X2.here hx rfl (pc0 := 30) (pc' := 34) rfl (hb hby at_30) (by decide) (by decide) ?_
    show St p e below T2 (mkF m 34 #[.val (.int p1), .val (.int 7), .val (.ref w_FAILED), .val (.int 1)] [(.int 1)]) _
    exact retN X2 hx (t := .boolean) Bd.returns (by simp) (hb hby at_34) hr
  · exact ⟨rfl, N2⟩
theorem own_and7 (x : Int32) : (x &&& (7 : Int32)) = (0 : Int32) ∨ (x &&& (7 : Int32)) = (1 : Int32) ∨ (x &&& (7 : Int32)) = (2 : Int32) ∨ (x &&& (7 : Int32)) = (3 : Int32) ∨ (x &&& (7 : Int32)) = (4 : Int32) ∨ (x &&& (7 : Int32)) = (5 : Int32) ∨ (x &&& (7 : Int32)) = (6 : Int32) ∨ (x &&& (7 : Int32)) = (7 : Int32) := by
  have h := c_mask x (7 : Int32) 3 (by decide) (by decide)
  rw [show ((2 ^ 3 : Nat) : Int) = 8 from rfl] at h
  have q : ((x &&& (7 : Int32))).toInt = 0 ∨ ((x &&& (7 : Int32))).toInt = 1 ∨ ((x &&& (7 : Int32))).toInt = 2 ∨ ((x &&& (7 : Int32))).toInt = 3 ∨ ((x &&& (7 : Int32))).toInt = 4 ∨ ((x &&& (7 : Int32))).toInt = 5 ∨ ((x &&& (7 : Int32))).toInt = 6 ∨ ((x &&& (7 : Int32))).toInt = 7 := by omega
  rcases q with q | q | q | q | q | q | q | q
  · exact Or.inl (Int32.toInt_inj.mp (q.trans (by decide)))
  · exact Or.inr (Or.inl (Int32.toInt_inj.mp (q.trans (by decide))))
  · exact Or.inr (Or.inr (Or.inl (Int32.toInt_inj.mp (q.trans (by decide)))))
  · exact Or.inr (Or.inr (Or.inr (Or.inl (Int32.toInt_inj.mp (q.trans (by decide))))))
  · exact Or.inr (Or.inr (Or.inr (Or.inr (Or.inl (Int32.toInt_inj.mp (q.trans (by decide)))))))
  · exact Or.inr (Or.inr (Or.inr (Or.inr (Or.inr (Or.inl (Int32.toInt_inj.mp (q.trans (by decide))))))))
  · exact Or.inr (Or.inr (Or.inr (Or.inr (Or.inr (Or.inr (Or.inl (Int32.toInt_inj.mp (q.trans (by decide)))))))))
  · exact Or.inr (Or.inr (Or.inr (Or.inr (Or.inr (Or.inr (Or.inr (Int32.toInt_inj.mp (q.trans (by decide)))))))))
theorem own_fi {s : State} {args : Array Value} {t : Term} {C n d : String} {k : Int32} {a : Addr} (ev : t.eval args s none [] s = some (.ref a)) (h : (Jvm.Cond.eq (Term.field t C n d) (Term.int k)).value args s none s [] = some true) : Fld s s.heap a C n d (.int k) := by
  obtain ⟨x, y, h1, h2, h3, h4⟩ := cmp_v (Or.inl h)
  have e2 : y = .int k := (Option.some.inj (h2.symm.trans (Term.int_eval k)))
  subst e2
  obtain ⟨z, rfl⟩ := h4
  have e3 : z = k := gotT (Cond.eq_ints h1 h2) h
  subst e3
  exact Fld.start ((fld_at ev).symm.trans h1)
theorem own_fr {s : State} {args : Array Value} {t u : Term} {C n d : String} {a b : Addr} (ev : t.eval args s none [] s = some (.ref a)) (ev2 : u.eval args s none [] s = some (.ref b)) (h : (Jvm.Cond.eq (Term.field t C n d) u).value args s none s [] = some true) : Fld s s.heap a C n d (.ref b) := by
  obtain ⟨x, y, h1, h2, h3, h4⟩ := cmp_v (Or.inl h)
  obtain rfl : y = .ref b := Option.some.inj (h2.symm.trans ev2)
  have hx : x.isRef = true := h4.2
  have e3 : x = .ref b := gotT (eq_R h1 h2 hx rfl) h
  subst e3
  exact Fld.start ((fld_at ev).symm.trans h1)
set_option maxRecDepth 65536 in
set_option maxHeartbeats 40000000 in
theorem comes_1 {Post : Tables → Env → Array Value → State → Outcome → State → Prop} (hpost : ∀ tb e args s v u, (limb_1_1.after args s (.returned v) u = true ∧ limb_1_2.after args s (.returned v) u = true ∧ True) → FrameEnd s (.returned v) u (Jvm.fieldLocs frame_1_writes args s ++ Jvm.arrayLocs frame_1_arrays args s ++ Jvm.staticLocs frame_1_statics s) 0 0 → Post tb e args s (.returned v) u) :
    ArmFor flags0 classFile x code maxLocals ret World_1 tables_1 room_1 Calls_1 rest_1 Pre_1 Post := by
  intro l hfl _ _ p e ha hc hk s m args below hf hA hF happ hP
  obtain ⟨hcalls, hrest, hpre⟩ := hP
  obtain ⟨-, -, -, hnamed, -, -, -, hat⟩ := (Spec.applies_iff hf).mp happ
  obtain ⟨hg, hn⟩ := and_e (Cond.before_iff.mp (show (Jvm.Cond.and given_1 narrow_1).before args s = true from hpre))
  obtain ⟨j1, j2⟩ := and_e hg
  obtain ⟨j3, j4⟩ := and_e hn
  obtain ⟨j5, j6⟩ := and_e j4
  obtain ⟨j7, j8⟩ := and_e j6
  obtain ⟨j9, j10⟩ := and_e j8
  obtain ⟨j11, j12⟩ := and_e j10
  obtain ⟨j13, j14⟩ := and_e j12
  obtain ⟨j15, j16⟩ := and_e j14
  obtain ⟨j17, j18⟩ := and_e j16
  obtain ⟨j19, j20⟩ := and_e j18
  obtain ⟨j21, j22⟩ := and_e j20
  obtain ⟨j23, j24⟩ := and_e j22
  obtain ⟨j25, j26⟩ := and_e j24
  obtain ⟨j27, j28⟩ := and_e j26
  obtain ⟨j29, j30⟩ := and_e j28
  obtain ⟨j31, j32⟩ := and_e j30
  obtain ⟨w0, rfl⟩ : ∃ w0 : Value, args = #[w0] := by
    have hs : args.size = 1 := by simpa [Cond.value, given_1] using j1
    obtain ⟨L⟩ := args
    match L, hs with
    | [w0], _ => exact ⟨w0, rfl⟩
  have hw := fun d (hd : d ∈ tables_1) => atoms_spec (ws := Jvm.Cond.code x code maxLocals ret :: tables_1) hat d (List.mem_cons_of_mem _ hd)
  have hfit : Fit s := fun {y c} hc i hi => by
    obtain ⟨ha, rfl⟩ := Array.getElem?_eq_some_iff.mp hc
    have q := List.all_eq_true.mp ((Array.all_eq_true_iff_forall_mem.mp hF) _ (Array.getElem_mem ha)) i (List.mem_range.mpr hi)
    simpa [Array.getElem?_eq_getElem hi] using q
  obtain ⟨i0, ei0⟩ := is_v j2
  obtain rfl : w0 = (.int i0) := Option.some.inj ei0
  obtain ⟨w_PENDING, ev_w_PENDING⟩ := exa_v j3
  have S_PENDING := Sta.start ev_w_PENDING (Or.inr ⟨(hwi hw 5 rfl), (hwi hw 6 rfl)⟩)
  have E_w_PENDING := Exa.start ev_w_PENDING j3
  obtain ⟨w_REVERSED, ev_w_REVERSED⟩ := exa_v j5
  have S_REVERSED := Sta.start ev_w_REVERSED (Or.inr ⟨(hwi hw 5 rfl), (hwi hw 13 rfl)⟩)
  have E_w_REVERSED := Exa.start ev_w_REVERSED j5
  obtain ⟨w_RETURNED, ev_w_RETURNED⟩ := exa_v j11
  have S_RETURNED := Sta.start ev_w_RETURNED (Or.inr ⟨(hwi hw 5 rfl), (hwi hw 15 rfl)⟩)
  have E_w_RETURNED := Exa.start ev_w_RETURNED j11
  obtain ⟨w_FAILED, ev_w_FAILED⟩ := exa_v j15
  have S_FAILED := Sta.start ev_w_FAILED (Or.inr ⟨(hwi hw 5 rfl), (hwi hw 17 rfl)⟩)
  have E_w_FAILED := Exa.start ev_w_FAILED j15
  obtain ⟨w_ACCEPTED, ev_w_ACCEPTED⟩ := exa_v j19
  have S_ACCEPTED := Sta.start ev_w_ACCEPTED (Or.inr ⟨(hwi hw 5 rfl), (hwi hw 19 rfl)⟩)
  have E_w_ACCEPTED := Exa.start ev_w_ACCEPTED j19
  obtain ⟨w_SUBMITTED, ev_w_SUBMITTED⟩ := exa_v j23
  have S_SUBMITTED := Sta.start ev_w_SUBMITTED (Or.inr ⟨(hwi hw 5 rfl), (hwi hw 23 rfl)⟩)
  have E_w_SUBMITTED := Exa.start ev_w_SUBMITTED j23
  obtain ⟨w_BATCHED, ev_w_BATCHED⟩ := exa_v j27
  have S_BATCHED := Sta.start ev_w_BATCHED (Or.inr ⟨(hwi hw 5 rfl), (hwi hw 25 rfl)⟩)
  have E_w_BATCHED := Exa.start ev_w_BATCHED j27
  obtain ⟨w_SETTLED, ev_w_SETTLED⟩ := exa_v j31
  have S_SETTLED := Sta.start ev_w_SETTLED (Or.inr ⟨(hwi hw 5 rfl), (hwi hw 27 rfl)⟩)
  have E_w_SETTLED := Exa.start ev_w_SETTLED j31
  have F_w_PENDING_ordinal := own_fi ev_w_PENDING j7
  have F_w_REVERSED_ordinal := own_fi ev_w_REVERSED j9
  have F_w_RETURNED_ordinal := own_fi ev_w_RETURNED j13
  have F_w_FAILED_ordinal := own_fi ev_w_FAILED j17
  have F_w_ACCEPTED_ordinal := own_fi ev_w_ACCEPTED j21
  have F_w_SUBMITTED_ordinal := own_fi ev_w_SUBMITTED j25
  have F_w_BATCHED_ordinal := own_fi ev_w_BATCHED j29
  have F_w_SETTLED_ordinal := own_fi ev_w_SETTLED j32
  have hne_PENDING_REVERSED : ¬ (w_PENDING = w_REVERSED) := Fld.ne F_w_PENDING_ordinal F_w_REVERSED_ordinal (by decide)
  have hne_PENDING_RETURNED : ¬ (w_PENDING = w_RETURNED) := Fld.ne F_w_PENDING_ordinal F_w_RETURNED_ordinal (by decide)
  have hne_PENDING_FAILED : ¬ (w_PENDING = w_FAILED) := Fld.ne F_w_PENDING_ordinal F_w_FAILED_ordinal (by decide)
  have hne_BATCHED_REVERSED : ¬ (w_BATCHED = w_REVERSED) := Fld.ne F_w_BATCHED_ordinal F_w_REVERSED_ordinal (by decide)
  have hne_BATCHED_RETURNED : ¬ (w_BATCHED = w_RETURNED) := Fld.ne F_w_BATCHED_ordinal F_w_RETURNED_ordinal (by decide)
  have hne_BATCHED_FAILED : ¬ (w_BATCHED = w_FAILED) := Fld.ne F_w_BATCHED_ordinal F_w_FAILED_ordinal (by decide)
  have hne_SUBMITTED_REVERSED : ¬ (w_SUBMITTED = w_REVERSED) := Fld.ne F_w_SUBMITTED_ordinal F_w_REVERSED_ordinal (by decide)
  have hne_SUBMITTED_RETURNED : ¬ (w_SUBMITTED = w_RETURNED) := Fld.ne F_w_SUBMITTED_ordinal F_w_RETURNED_ordinal (by decide)
  have hne_SUBMITTED_FAILED : ¬ (w_SUBMITTED = w_FAILED) := Fld.ne F_w_SUBMITTED_ordinal F_w_FAILED_ordinal (by decide)
  have hne_ACCEPTED_REVERSED : ¬ (w_ACCEPTED = w_REVERSED) := Fld.ne F_w_ACCEPTED_ordinal F_w_REVERSED_ordinal (by decide)
  have hne_ACCEPTED_RETURNED : ¬ (w_ACCEPTED = w_RETURNED) := Fld.ne F_w_ACCEPTED_ordinal F_w_RETURNED_ordinal (by decide)
  have hne_ACCEPTED_FAILED : ¬ (w_ACCEPTED = w_FAILED) := Fld.ne F_w_ACCEPTED_ordinal F_w_FAILED_ordinal (by decide)
  have hne_SETTLED_REVERSED : ¬ (w_SETTLED = w_REVERSED) := Fld.ne F_w_SETTLED_ordinal F_w_REVERSED_ordinal (by decide)
  have hne_SETTLED_RETURNED : ¬ (w_SETTLED = w_RETURNED) := Fld.ne F_w_SETTLED_ordinal F_w_RETURNED_ordinal (by decide)
  have hne_SETTLED_FAILED : ¬ (w_SETTLED = w_FAILED) := Fld.ne F_w_SETTLED_ordinal F_w_FAILED_ordinal (by decide)
  have hne_REVERSED_RETURNED : ¬ (w_REVERSED = w_RETURNED) := Fld.ne F_w_REVERSED_ordinal F_w_RETURNED_ordinal (by decide)
  have hne_REVERSED_FAILED : ¬ (w_REVERSED = w_FAILED) := Fld.ne F_w_REVERSED_ordinal F_w_FAILED_ordinal (by decide)
  have hne_RETURNED_REVERSED : ¬ (w_RETURNED = w_REVERSED) := Fld.ne F_w_RETURNED_ordinal F_w_REVERSED_ordinal (by decide)
  have hne_RETURNED_FAILED : ¬ (w_RETURNED = w_FAILED) := Fld.ne F_w_RETURNED_ordinal F_w_FAILED_ordinal (by decide)
  have hne_FAILED_REVERSED : ¬ (w_FAILED = w_REVERSED) := Fld.ne F_w_FAILED_ordinal F_w_REVERSED_ordinal (by decide)
  have hne_FAILED_RETURNED : ¬ (w_FAILED = w_RETURNED) := Fld.ne F_w_FAILED_ordinal F_w_RETURNED_ordinal (by decide)
  have key : MetFree l x (head1 (Jvm.Cond.code x code maxLocals ret :: tables_1) room_1) (fun a U => a = #[(.int i0)] ∧ s.Warmed39 U.vm ∧ U.heap = s.heap) (fun _ _ _ _ _ => True) (fun _ U o U' => ∃ v L, o = .returned v ∧ Q_law s.heap.size v L ∧ FrameEnd U o U' L room_1.cells room_1.slots) := by
    rcases own_and7 i0 with hk | hk | hk | hk | hk | hk | hk | hk
    · exact rm_law_0 l s _ hw tables_1 i0 w_PENDING w_REVERSED w_RETURNED w_FAILED s.heap s.heap.size (Nat.le_refl _) S_PENDING (Old.start s) E_w_PENDING S_REVERSED hne_PENDING_REVERSED S_RETURNED hne_PENDING_RETURNED S_FAILED hne_PENDING_FAILED hk
    · exact rm_law_1 l s _ hw tables_1 i0 w_BATCHED w_REVERSED w_RETURNED w_FAILED s.heap s.heap.size (Nat.le_refl _) S_BATCHED (Old.start s) E_w_BATCHED S_REVERSED hne_BATCHED_REVERSED S_RETURNED hne_BATCHED_RETURNED S_FAILED hne_BATCHED_FAILED hk
    · exact rm_law_2 l s _ hw tables_1 i0 w_SUBMITTED w_REVERSED w_RETURNED w_FAILED s.heap s.heap.size (Nat.le_refl _) S_SUBMITTED (Old.start s) E_w_SUBMITTED S_REVERSED hne_SUBMITTED_REVERSED S_RETURNED hne_SUBMITTED_RETURNED S_FAILED hne_SUBMITTED_FAILED hk
    · exact rm_law_3 l s _ hw tables_1 i0 w_ACCEPTED w_REVERSED w_RETURNED w_FAILED s.heap s.heap.size (Nat.le_refl _) S_ACCEPTED (Old.start s) E_w_ACCEPTED S_REVERSED hne_ACCEPTED_REVERSED S_RETURNED hne_ACCEPTED_RETURNED S_FAILED hne_ACCEPTED_FAILED hk
    · exact rm_law_4 l s _ hw tables_1 i0 w_SETTLED w_REVERSED w_RETURNED w_FAILED s.heap s.heap.size (Nat.le_refl _) S_SETTLED (Old.start s) E_w_SETTLED S_REVERSED hne_SETTLED_REVERSED S_RETURNED hne_SETTLED_RETURNED S_FAILED hne_SETTLED_FAILED hk
    · exact rm_law_5 l s _ hw tables_1 i0 w_REVERSED w_RETURNED w_FAILED s.heap s.heap.size (Nat.le_refl _) S_REVERSED (Old.start s) E_w_REVERSED S_RETURNED S_FAILED hk
    · exact rm_law_6 l s _ hw tables_1 i0 w_RETURNED w_REVERSED w_FAILED s.heap s.heap.size (Nat.le_refl _) S_RETURNED (Old.start s) E_w_RETURNED S_REVERSED hne_RETURNED_REVERSED S_FAILED hk
    · exact rm_law_7 l s _ hw tables_1 i0 w_FAILED w_REVERSED w_RETURNED s.heap s.heap.size (Nat.le_refl _) S_FAILED (Old.start s) E_w_FAILED S_REVERSED hne_FAILED_REVERSED S_RETURNED hne_FAILED_RETURNED hk
  obtain ⟨n, o, h1, h2, h3, _, L, rfl, ⟨rfl, N⟩, hq⟩ := key p e ha hc hk s m _ below hf ((Spec.applies_iff_loose hf).mp happ).1 ⟨rfl, State.Warmed39.refl s, rfl⟩ trivial
  refine ⟨n, _, h1, h2, h3, hpost _ _ _ _ _ _ ⟨Cond.after_iff.mpr rfl, Cond.after_iff.mpr (eq_i res_at (Term.int_eval (1)) rfl), trivial⟩ ⟨hq.1, hq.2.1, (hq.2.2.sift fun y hy => Or.inr (N y hy)).mono (by decide) (by decide)⟩⟩
theorem main_1_1 : Claimed_1_1 := comes_1 fun _ _ _ _ _ _ h hF => ⟨h.1, hF⟩
theorem main_1_2 : Claimed_1_2 := comes_1 fun _ _ _ _ _ _ h hF => ⟨h.2.1, hF⟩
end Jvm.Pilot.@@N@@
namespace Jvm.Pilot.@@N@@
open Jvm Jvm.ClassFile Sem Op Lib Jvm.Free Jvm.Stand Jvm.Pilot.@@N@@.Jvm.D
/-! MADE BY PROGRAM (witnessworld.py) out of the Statement's table words and the real class files: 10 classes; the members and pool entries that the words name. The judged class is class 1, her method 2. -/
namespace start1
open Jvm.ClassFile
def u (s : String) : CpInfo := .utf8 (stringToUtf16 s)
/-- a pool by its gaps: so many unusable entries, then the entry; so many at the end -/
def gap : Nat → List CpInfo → List CpInfo
  | 0, r => r
  | n + 1, r => .unusable :: gap n r
def poolList (es : List (Nat × CpInfo)) (last : Nat) : List CpInfo := es.foldr (fun e r => gap e.1 (e.2 :: r)) (gap last [])
def pool (es : List (Nat × CpInfo)) (last : Nat) : Array CpInfo := ⟨poolList es last⟩
def fileOf (pool : Array CpInfo) (this : Nat) (attrs : Array Attribute := #[]) (ms : Array MethodInfo := #[]) (fl : Nat := 33) (sup : Nat := 0) (ifs : Array Nat := #[]) (fds : Array FieldInfo := #[]) : ClassFile where
  minorVersion := 0
  majorVersion := 65
  constantPool := pool
  accessFlags := fl
  thisClass := this
  superClass := sup
  interfaces := ifs
  fields := fds
  methods := ms
  attributes := attrs
def plain (name : String) (sup : Option ClassId) : Class where
  name := name
  kind := .ordinary
  loader := none
  accessFlags := 33
  super := sup
  interfaces := #[]
  cf := none
  fields := #[]
  methods := #[]
  instanceTypes := #[]
  staticTypes := #[]
  resolved := #[]
  callSites := []
  init := .initialized
  statics := none
  mirror := none

def pool0 : Array CpInfo := pool [(5, u "<init>"), (0, u "()V"), (1, .class_ 10), (1, u "java/lang/Object")] 113

def k0m0 : Method := { name := "<init>", desc := "()V", sig := { parameters := [], returnType := none }, accessFlags := 1, code := none }
/-- java/lang/Object -/
def k0 : Class := { plain "java/lang/Object" none with
  accessFlags := 33
  interfaces := #[]
  cf := some (fileOf pool0 8 #[] #[{ accessFlags := 1, nameIndex := 5, descriptorIndex := 6, attributes := #[] }] 33 0 #[] #[])
  fields := #[]
  methods := #[k0m0]
  instanceTypes := #[]
  staticTypes := #[]
  resolved := Array.replicate 124 none
  statics := none }

def pool1 : Array CpInfo := pool [(2, .class_ 4), (1, u "java/lang/Object"), (0, u "<init>"), (0, u "()V"), (0, .fieldref 8 9), (0, .class_ 10), (0, .nameAndType 11 12), (0, u "com/example/disbursa/disbursa/payouts/PayoutStatus"), (0, u "PENDING"), (0, u "Lcom/example/disbursa/disbursa/payouts/PayoutStatus;"), (0, .fieldref 8 14), (0, .nameAndType 15 12), (0, u "BATCHED"), (0, .fieldref 8 17), (0, .nameAndType 18 12), (0, u "SUBMITTED"), (0, .fieldref 8 20), (0, .nameAndType 21 12), (0, u "ACCEPTED"), (0, .fieldref 8 23), (0, .nameAndType 24 12), (0, u "SETTLED"), (0, .fieldref 8 26), (0, .nameAndType 27 12), (0, u "REVERSED"), (0, .fieldref 8 29), (0, .nameAndType 30 12), (0, u "RETURNED"), (0, .fieldref 8 32), (0, .nameAndType 33 12), (0, u "FAILED"), (0, .methodref 35 36), (0, .class_ 37), (0, .nameAndType 38 39), (0, u "com/example/disbursa/disbursa/payouts/PayoutStatusUnpaidPinLaw"), (0, u "pick"), (0, u "(I)Lcom/example/disbursa/disbursa/payouts/PayoutStatus;"), (0, .methodref 8 41), (0, .nameAndType 42 43), (0, u "unpaid"), (0, u "()Z"), (3, u "law"), (0, u "(I)Z")] 2

def k1m0 : Method := { name := "<init>", desc := "()V", sig := { parameters := [], returnType := none }, accessFlags := 1, code := none }
def k1c1 : Code := { maxStack := 2, maxLocals := 1, code := method_2_code, exceptionTable := #[], attributes := #[] }
def k1m1 : Method := { name := "pick", desc := "(I)Lcom/example/disbursa/disbursa/payouts/PayoutStatus;", sig := { parameters := [.int], returnType := some (.object "com/example/disbursa/disbursa/payouts/PayoutStatus") }, accessFlags := 10, code := some k1c1 }
def k1c2 : Code := { maxStack := 2, maxLocals := 4, code := code, exceptionTable := #[], attributes := #[] }
def k1m2 : Method := { name := "law", desc := "(I)Z", sig := { parameters := [.int], returnType := some .boolean }, accessFlags := 9, code := some k1c2 }
/-- com/example/disbursa/disbursa/payouts/PayoutStatusUnpaidPinLaw -/
def k1 : Class := { plain "com/example/disbursa/disbursa/payouts/PayoutStatusUnpaidPinLaw" (some 0) with
  accessFlags := 49
  interfaces := #[]
  cf := some (fileOf pool1 35 #[] #[{ accessFlags := 1, nameIndex := 5, descriptorIndex := 6, attributes := #[] }, { accessFlags := 10, nameIndex := 38, descriptorIndex := 39, attributes := #[] }, { accessFlags := 9, nameIndex := 47, descriptorIndex := 48, attributes := #[] }] 49 2 #[] #[])
  fields := #[]
  methods := #[k1m0, k1m1, k1m2]
  instanceTypes := #[]
  staticTypes := #[]
  resolved := Array.replicate 51 none
  statics := none }

def pool2 : Array CpInfo := pool [(1, .class_ 2), (0, u "java/lang/constant/Constable"), (0, .class_ 4), (0, u "java/lang/Object")] 6

/-- java/lang/constant/Constable -/
def k2 : Class := { plain "java/lang/constant/Constable" (some 0) with
  accessFlags := 1537
  interfaces := #[]
  cf := some (fileOf pool2 1 #[] #[] 1537 3 #[] #[])
  fields := #[]
  methods := #[]
  instanceTypes := #[]
  staticTypes := #[]
  resolved := Array.replicate 11 none
  statics := none }

def pool3 : Array CpInfo := pool [(1, .class_ 2), (0, u "java/lang/Comparable"), (0, .class_ 4), (0, u "java/lang/Object")] 7

/-- java/lang/Comparable -/
def k3 : Class := { plain "java/lang/Comparable" (some 0) with
  accessFlags := 1537
  interfaces := #[]
  cf := some (fileOf pool3 1 #[] #[] 1537 3 #[] #[])
  fields := #[]
  methods := #[]
  instanceTypes := #[]
  staticTypes := #[]
  resolved := Array.replicate 12 none
  statics := none }

def pool4 : Array CpInfo := pool [(1, .class_ 2), (0, u "java/io/Serializable"), (0, .class_ 4), (0, u "java/lang/Object")] 2

/-- java/io/Serializable -/
def k4 : Class := { plain "java/io/Serializable" (some 0) with
  accessFlags := 1537
  interfaces := #[]
  cf := some (fileOf pool4 1 #[] #[] 1537 3 #[] #[])
  fields := #[]
  methods := #[]
  instanceTypes := #[]
  staticTypes := #[]
  resolved := Array.replicate 7 none
  statics := none }

def pool5 : Array CpInfo := pool [(2, .class_ 4), (1, u "java/lang/Enum"), (0, u "name"), (0, u "Ljava/lang/String;"), (2, u "ordinal"), (0, u "I"), (1, .class_ 14), (1, u "java/lang/Object"), (4, u "hash"), (86, .class_ 108), (1, u "java/lang/Enum$EnumDesc"), (2, .class_ 112), (0, u "java/lang/constant/Constable"), (0, .class_ 114), (0, u "java/lang/Comparable"), (0, .class_ 116), (0, u "java/io/Serializable")] 87

/-- java/lang/Enum -/
def k5 : Class := { plain "java/lang/Enum" (some 0) with
  accessFlags := 1057
  interfaces := #[2, 3, 4]
  cf := some (fileOf pool5 2 #[.nestMembers #[106]] #[] 1057 12 #[111, 113, 115] #[{ accessFlags := 18, nameIndex := 5, descriptorIndex := 6, attributes := #[] }, { accessFlags := 18, nameIndex := 9, descriptorIndex := 10, attributes := #[] }, { accessFlags := 2, nameIndex := 19, descriptorIndex := 10, attributes := #[] }])
  fields := #[{ name := "name", type := (.object "java/lang/String"), accessFlags := 18, slot := 0, constantValue := 0 }, { name := "ordinal", type := .int, accessFlags := 18, slot := 1, constantValue := 0 }, { name := "hash", type := .int, accessFlags := 2, slot := 2, constantValue := 0 }]
  methods := #[]
  instanceTypes := #[(.object "java/lang/String"), .int, .int]
  staticTypes := #[]
  resolved := Array.replicate 204 none
  statics := none }

def pool6 : Array CpInfo := pool [(1, .class_ 2), (0, u "com/example/disbursa/disbursa/payouts/PayoutStatus"), (2, u "PENDING"), (0, u "Lcom/example/disbursa/disbursa/payouts/PayoutStatus;"), (2, u "BATCHED"), (2, u "SUBMITTED"), (2, u "ACCEPTED"), (2, u "SETTLED"), (0, .fieldref 1 20), (0, .nameAndType 21 6), (0, u "REVERSED"), (0, .fieldref 1 23), (0, .nameAndType 24 6), (0, u "RETURNED"), (0, .fieldref 1 26), (0, .nameAndType 27 6), (0, u "FAILED"), (2, u "$VALUES"), (0, u "[Lcom/example/disbursa/disbursa/payouts/PayoutStatus;"), (6, .class_ 40), (1, u "java/lang/Enum"), (8, u "sentence"), (0, u "Ljava/lang/String;"), (73, u "unpaid"), (0, u "()Z")] 24

def k6c0 : Code := { maxStack := 2, maxLocals := 1, code := prog_111_method_5_code, exceptionTable := #[], attributes := #[] }
def k6m0 : Method := { name := "unpaid", desc := "()Z", sig := { parameters := [], returnType := some .boolean }, accessFlags := 1, code := some k6c0 }
/-- com/example/disbursa/disbursa/payouts/PayoutStatus -/
def k6 : Class := { plain "com/example/disbursa/disbursa/payouts/PayoutStatus" (some 5) with
  accessFlags := 16433
  interfaces := #[]
  cf := some (fileOf pool6 1 #[] #[{ accessFlags := 1, nameIndex := 124, descriptorIndex := 125, attributes := #[] }] 16433 38 #[] #[{ accessFlags := 16409, nameIndex := 5, descriptorIndex := 6, attributes := #[] }, { accessFlags := 16409, nameIndex := 9, descriptorIndex := 6, attributes := #[] }, { accessFlags := 16409, nameIndex := 12, descriptorIndex := 6, attributes := #[] }, { accessFlags := 16409, nameIndex := 15, descriptorIndex := 6, attributes := #[] }, { accessFlags := 16409, nameIndex := 18, descriptorIndex := 6, attributes := #[] }, { accessFlags := 16409, nameIndex := 21, descriptorIndex := 6, attributes := #[] }, { accessFlags := 16409, nameIndex := 24, descriptorIndex := 6, attributes := #[] }, { accessFlags := 16409, nameIndex := 27, descriptorIndex := 6, attributes := #[] }, { accessFlags := 18, nameIndex := 49, descriptorIndex := 50, attributes := #[] }, { accessFlags := 4122, nameIndex := 30, descriptorIndex := 31, attributes := #[] }])
  fields := #[{ name := "PENDING", type := (.object "com/example/disbursa/disbursa/payouts/PayoutStatus"), accessFlags := 16409, slot := 0, constantValue := 0 }, { name := "BATCHED", type := (.object "com/example/disbursa/disbursa/payouts/PayoutStatus"), accessFlags := 16409, slot := 1, constantValue := 0 }, { name := "SUBMITTED", type := (.object "com/example/disbursa/disbursa/payouts/PayoutStatus"), accessFlags := 16409, slot := 2, constantValue := 0 }, { name := "ACCEPTED", type := (.object "com/example/disbursa/disbursa/payouts/PayoutStatus"), accessFlags := 16409, slot := 3, constantValue := 0 }, { name := "SETTLED", type := (.object "com/example/disbursa/disbursa/payouts/PayoutStatus"), accessFlags := 16409, slot := 4, constantValue := 0 }, { name := "REVERSED", type := (.object "com/example/disbursa/disbursa/payouts/PayoutStatus"), accessFlags := 16409, slot := 5, constantValue := 0 }, { name := "RETURNED", type := (.object "com/example/disbursa/disbursa/payouts/PayoutStatus"), accessFlags := 16409, slot := 6, constantValue := 0 }, { name := "FAILED", type := (.object "com/example/disbursa/disbursa/payouts/PayoutStatus"), accessFlags := 16409, slot := 7, constantValue := 0 }, { name := "sentence", type := (.object "java/lang/String"), accessFlags := 18, slot := 3, constantValue := 0 }, { name := "$VALUES", type := (.array (.object "com/example/disbursa/disbursa/payouts/PayoutStatus")), accessFlags := 4122, slot := 8, constantValue := 0 }]
  methods := #[k6m0]
  instanceTypes := #[(.object "java/lang/String"), .int, .int, (.object "java/lang/String")]
  staticTypes := #[(.object "com/example/disbursa/disbursa/payouts/PayoutStatus"), (.object "com/example/disbursa/disbursa/payouts/PayoutStatus"), (.object "com/example/disbursa/disbursa/payouts/PayoutStatus"), (.object "com/example/disbursa/disbursa/payouts/PayoutStatus"), (.object "com/example/disbursa/disbursa/payouts/PayoutStatus"), (.object "com/example/disbursa/disbursa/payouts/PayoutStatus"), (.object "com/example/disbursa/disbursa/payouts/PayoutStatus"), (.object "com/example/disbursa/disbursa/payouts/PayoutStatus"), (.array (.object "com/example/disbursa/disbursa/payouts/PayoutStatus"))]
  resolved := Array.replicate 150 none
  statics := some 0 }

def pool7 : Array CpInfo := pool [(1, u "java/lang/Cloneable"), (0, .class_ 1), (0, u "java/lang/Object"), (0, .class_ 3)] 3

/-- java/lang/Cloneable -/
def k7 : Class := { plain "java/lang/Cloneable" (some 0) with
  accessFlags := 1537
  interfaces := #[]
  cf := some (fileOf pool7 2 #[] #[] 1537 4 #[] #[])
  fields := #[]
  methods := #[]
  instanceTypes := #[]
  staticTypes := #[]
  resolved := Array.replicate 8 none
  statics := none }

/-- the primitive byte -/
def k8 : Class := { plain "byte" none with kind := .primitive 'B', accessFlags := 0x411 }
/-- [B -/
def k9 : Class := { plain "[B" (some 0) with kind := .array 8 .byte, interfaces := #[7, 4], accessFlags := 1041 }

def heap : Heap := #[{ cls := 6, slots := #[.ref 1, .ref 7, .ref 6, .ref 5, .ref 8, .ref 2, .ref 3, .ref 4, .null], vm := .statics 6 },
  { cls := 6, slots := #[.null, .int 0, .int 0, .null], vm := .none },
  { cls := 6, slots := #[.null, .int 5, .int 0, .null], vm := .none },
  { cls := 6, slots := #[.null, .int 6, .int 0, .null], vm := .none },
  { cls := 6, slots := #[.null, .int 7, .int 0, .null], vm := .none },
  { cls := 6, slots := #[.null, .int 3, .int 0, .null], vm := .none },
  { cls := 6, slots := #[.null, .int 2, .int 0, .null], vm := .none },
  { cls := 6, slots := #[.null, .int 1, .int 0, .null], vm := .none },
  { cls := 6, slots := #[.null, .int 4, .int 0, .null], vm := .none }]
def classes : Array Class := #[k0, k1, k2, k3, k4, k5, k6, k7, k8, k9]
def interned : List (Array UInt16 × Addr) := []
def slotsUsed : Nat := 41
def theMethod : MethodId := ⟨1, 2⟩
def args0 : Array Value := #[.int 5]
def aboutOver (below : List Frame) : State where
  vm := { classes := classes, interned := interned.toArray }
  heap := heap
  slotsUsed := slotsUsed
  threads := #[{ frames := .invoking theMethod args0 :: below }]
def below0 : List Frame := [.native { method := ⟨0, 0⟩, args := #[] }]
def about1 : State := aboutOver below0
def p0 : Program := .bare "" "" ""
def e0 : Env := launch0.env 0 0 0
theorem w_frames : about1.frames = Frame.invoking theMethod args0 :: below0 := rfl
set_option maxRecDepth 65536 in
theorem w_args : argsFit about1.vm theMethod args0 = true := by decide +kernel
set_option maxRecDepth 65536 in
theorem w_heap : heapFits about1 = true := by decide +kernel
set_option maxRecDepth 65536 in
theorem w_runnable : about1.curStatus? = some .runnable := by decide +kernel
set_option maxRecDepth 65536 in
theorem w_alone : about1.alone = true := by decide +kernel
set_option maxRecDepth 65536 in
theorem w_named : about1.methodNamed? x = some theMethod := by decide +kernel
set_option maxRecDepth 65536 in
theorem w_hears : about1.hears theMethod below0 = true := by decide +kernel
set_option maxRecDepth 65536 in
theorem w_ripe : about1.ripe theMethod args0 below0 = true := by decide +kernel
theorem w_running : about1.status = .running := rfl
set_option maxRecDepth 65536 in
theorem w_room : about1.hasRoom e0.platform room_1 = true :=
  launch0.hasRoom_least _ room_1 (by decide +kernel) (by decide +kernel) (by decide +kernel) (by decide +kernel) (by decide +kernel) (by decide +kernel)
theorem allAtoms_all (ts : List Jvm.Cond) (a : Array Jvm.Value) (st : Jvm.State) : (allAtoms ts).before a st = ts.all (fun c => c.before a st) := by
  induction ts with
  | nil => rfl
  | cons c t ih =>
    show (Jvm.Cond.and c (allAtoms t)).before a st = _
    rw [Jvm.Cond.before_and, ih, List.all_cons]
def words1 : List Jvm.Cond := Jvm.Cond.code x code maxLocals ret :: tables_1
/-- a 'code' word, met by the world's own term for the bytes: nothing is compared byte by byte -/
theorem code_word {y : MethodName} {bytes : ByteArray} {mx : Nat} {rt : Option FieldType} {a : Array Value} {s : State} {m : MethodId} {meth : Method} {c : Code} (h1 : s.methodNamed? y = some m) (h2 : s.vm.method? m = some meth) (h3 : meth.code = some c) (h4 : c.code = bytes)
    (h5 : (c.maxLocals == mx && c.exceptionTable.isEmpty && decide (c.maxStack ≤ mostOperands) && decide (meth.sig.returnType = rt) && !meth.locks && decide (parseMethodDescriptor y.desc = some meth.sig)) = true) : (Jvm.Cond.code y bytes mx rt).before a s = true := by
  simp only [Bool.and_eq_true, beq_iff_eq, Bool.not_eq_true', decide_eq_true_eq] at h5
  obtain ⟨⟨⟨⟨⟨g1, g2⟩, g3⟩, g4⟩, g5⟩, g6⟩ := h5
  simp [Cond.before, Cond.holds, Cond.value, h1, h2, h3, h4, g1, g2, g3, g4, g5, g6]
def isCode : Jvm.Cond → Bool
  | .code _ _ _ _ => true
  | _ => false
theorem all_split {L : List Jvm.Cond} {P : Jvm.Cond → Bool} (h1 : L.all (fun c => isCode c || P c) = true) (h2 : ∀ c ∈ L.filter isCode, P c = true) : L.all P = true := by
  refine List.all_eq_true.mpr fun c hc => ?_
  have h := List.all_eq_true.mp h1 c hc
  rcases Bool.eq_false_or_eq_true (isCode c) with hi | hi
  · exact h2 c (List.mem_filter.mpr ⟨hc, hi⟩)
  · simpa [hi] using h
set_option maxRecDepth 65536 in
theorem w_c0 : (Jvm.Cond.code x code maxLocals ret).before args0 about1 = true := code_word (m := ⟨1, 2⟩) (meth := k1m2) (c := k1c2) (by decide +kernel) rfl rfl rfl (by decide +kernel)
set_option maxRecDepth 65536 in
theorem w_c1 : (Jvm.Cond.code ({ cls := "com/example/disbursa/disbursa/payouts/PayoutStatusUnpaidPinLaw", name := "pick", desc := "(I)Lcom/example/disbursa/disbursa/payouts/PayoutStatus;" } : Jvm.MethodName) method_2_code (1 : Nat) (Option.some (Jvm.ClassFile.FieldType.object "com/example/disbursa/disbursa/payouts/PayoutStatus"))).before args0 about1 = true := code_word (m := ⟨1, 1⟩) (meth := k1m1) (c := k1c1) (by decide +kernel) rfl rfl rfl (by decide +kernel)
set_option maxRecDepth 65536 in
theorem w_c2 : (Jvm.Cond.code ({ cls := "com/example/disbursa/disbursa/payouts/PayoutStatus", name := "unpaid", desc := "()Z" } : Jvm.MethodName) prog_111_method_5_code (1 : Nat) (Option.some Jvm.ClassFile.FieldType.boolean)).before args0 about1 = true := code_word (m := ⟨6, 0⟩) (meth := k6m0) (c := k6c0) (by decide +kernel) rfl rfl rfl (by decide +kernel)
def codes1 : List Jvm.Cond := [Jvm.Cond.code x code maxLocals ret, Jvm.Cond.code ({ cls := "com/example/disbursa/disbursa/payouts/PayoutStatusUnpaidPinLaw", name := "pick", desc := "(I)Lcom/example/disbursa/disbursa/payouts/PayoutStatus;" } : Jvm.MethodName) method_2_code (1 : Nat) (Option.some (Jvm.ClassFile.FieldType.object "com/example/disbursa/disbursa/payouts/PayoutStatus")), Jvm.Cond.code ({ cls := "com/example/disbursa/disbursa/payouts/PayoutStatus", name := "unpaid", desc := "()Z" } : Jvm.MethodName) prog_111_method_5_code (1 : Nat) (Option.some Jvm.ClassFile.FieldType.boolean)]
set_option maxRecDepth 65536 in
theorem codes_eq : words1.filter isCode = codes1 := rfl
theorem w_codes : ∀ c ∈ words1.filter isCode, c.before args0 about1 = true := by
  rw [codes_eq]
  intro c hc
  simp only [codes1, List.mem_cons, List.not_mem_nil, or_false] at hc
  rcases hc with rfl | rfl | rfl
  · exact w_c0
  · exact w_c1
  · exact w_c2
set_option maxRecDepth 65536 in
theorem w_t1 : (words1.take 24).all (fun c => isCode c || c.before args0 about1) = true := by decide +kernel
set_option maxRecDepth 65536 in
theorem w_t2 : (words1.drop 24).all (fun c => isCode c || c.before args0 about1) = true := by decide +kernel
theorem w_tables : (allAtoms (Jvm.Cond.code x code maxLocals ret :: tables_1)).before args0 about1 = true := by
  rw [allAtoms_all]
  show words1.all (fun c => c.before args0 about1) = true
  refine all_split ?_ w_codes
  rw [← List.take_append_drop 24 words1, List.all_append, w_t1, w_t2]
  rfl
set_option maxRecDepth 65536 in
theorem w_case : (Jvm.Cond.and given_1 narrow_1).before args0 about1 = true := by decide +kernel
theorem w_applies : (headSpec (Jvm.Cond.code x code maxLocals ret :: tables_1) room_1).applies x e0.platform about1 = true :=
  (Spec.applies_iff w_frames).mpr ⟨w_running, w_runnable, w_alone, w_named, w_hears, w_ripe, w_room, w_tables⟩
theorem atStart : AtStart classFile x code maxLocals ret World_1 tables_1 room_1 Calls_1 rest_1 Pre_1 launch0 p0 e0 about1 theMethod args0 below0 :=
  ⟨lists_1, trivial, launch0.admits_env _ _ _, launch0.least_env, fairChoices_fair.cas, fairChoices_fair.clock, w_frames, w_args, w_heap, w_applies, trivial, trivial, w_case⟩
end start1
theorem witness_1 : WitnessClaimed_1 := ⟨start1.p0, start1.e0, start1.about1, start1.theMethod, start1.args0, start1.below0, start1.atStart⟩
end Jvm.Pilot.@@N@@
