import JvmDerived
import JvmDerived.Pilot.@@N@@Statement
import JvmDerived.Pilot.@@N@@Code
set_option linter.unusedVariables false
set_option linter.unusedSimpArgs false
namespace Jvm.RoadKit
open Sem ClassFile Op Lib Jvm.Stand Jvm.Free Jvm.LawKit
section New
variable {p : Program} {l : Launch} {e : Env} {R : Room} {s : State} {m : MethodId} {args : Array Value} {below : List Frame} {meth : Method} {c : Code} {T : State} {locs : List Loc} {cells slots : Nat}
theorem retI (X : Stand p l e R s m args below meth c T locs cells slots) (hx : p.tables.exec = Jvm.exec) {pc : Nat} {Ls : Array Slot} {z : Int32} {rest : List Value} (hret : meth.sig.returnType = some .int) (hd : decode c.code pc = .ok (.ireturn, 1)) {fs : List Frame}
    (hl : ∀ (f : JFrame) (acts : List Action), f.method = m → f.locked = none → f.entered = [] → (doReturn e (T.setTop f) acts (some (.int z))).1 = T.setFrames fs) : Steps p.tables e below (T.setTop (mkF m pc Ls (.int z :: rest))) (T.setFrames fs) := by
  have hm' : T.vm.method? m = some meth := X.method'
  have hn : narrow .int (.int z) = .int z := rfl
  show Steps p.tables e below (T.setTop { method := m, pc := pc, locals := Ls, stack := _ :: rest, locked := none }) _
  jvm_step X.here [X.here.top, hx, hd, hm', hret, hn]
  first | (intro acts; rw [hl _ acts rfl rfl rfl]) | rw [hl _ _ rfl rfl rfl]
  exact Steps.refl _
end New
end Jvm.RoadKit
namespace Jvm.Pilot.@@N@@
open Jvm Jvm.ClassFile Sem Op Lib Jvm.Free Jvm.Stand Jvm.LawKit Jvm.RoadKit Bundle Jvm.Pilot.@@N@@.Jvm.D
abbrev St (p : Program) (e : Env) (below : List Frame) (T : State) (g : JFrame) (t : State) : Prop := Steps p.tables e below (T.setTop g) t
theorem hwi {Z : State} {a0 : Array Value} (hw : ∀ d ∈ tables_1, d.before a0 Z = true) (i : Nat) {d : Jvm.Cond} (h : tables_1[i]? = some d) : d.before a0 Z = true := hw d (List.mem_of_getElem? h)
theorem own_w0 {n : Nat} : n ≤ n := Nat.le_refl n
theorem d1_0 : decode prog_49_method_6_code 0 = .ok (.aload_n 0, 1) := by decide +kernel
theorem d1_1 : decode prog_49_method_6_code 1 = .ok (.getstatic 10, 3) := by decide +kernel
theorem d1_4 : decode prog_49_method_6_code 4 = .ok (.if_acmp .eq 7, 3) := by decide +kernel
theorem d1_11 : decode prog_49_method_6_code 11 = .ok (.iconst 0, 1) := by decide +kernel
theorem d1_12 : decode prog_49_method_6_code 12 = .ok (.ireturn, 1) := by decide +kernel
theorem pn_1 : plainName "com/example/cangdan/cangdan/model/DayKind" = true := by first | (simp [plainName, overriddenIn]; done) | decide +kernel
theorem ef_1_R (m : MethodId) (x0 : Addr) : entryFrame m #[(.ref x0)] 1 = mkF m 0 #[.val (.ref x0)] [] := by first | (simp [entryFrame, mkF, argsToLocals, Value.category]; done) | rfl
def Q_needs_cal (Z : State) (w_CALENDAR : Addr) (h0 : Heap) (n0 : Nat) (v : Option Value) (h : Heap) (L : List Loc) : Prop := v = some (.int 0) ∧ Fr n0 L ∧ h = h0
set_option maxRecDepth 65536 in
set_option maxHeartbeats 40000000 in
theorem rm_needs_cal (l : Launch) (Z : State) (a0 : Array Value) (hw : ∀ d ∈ tables_1, d.before a0 Z = true) (ws : List Jvm.Cond) (w_CALENDAR : Addr) (h0 : Heap) (n0 : Nat) (Z0 : n0 ≤ h0.size) (S_CALENDAR : Sta Z Z.heap "com/example/cangdan/cangdan/model/DayKind" "CALENDAR" "Lcom/example/cangdan/cangdan/model/DayKind;" (.ref w_CALENDAR)) (O0 : Old Z n0 h0) :
    MetFree l (⟨"com/example/cangdan/cangdan/model/DayKind", "needsSchedule", "()Z"⟩ : MethodName) (head1 (Jvm.Cond.code (⟨"com/example/cangdan/cangdan/model/DayKind", "needsSchedule", "()Z"⟩ : MethodName) prog_49_method_6_code 1 (some .boolean) :: ws) ({ frames := 0, cells := 0, slots := 0, locals := 0 } : Room)) (fun a U => a = #[(.ref w_CALENDAR)] ∧ Z.Warmed39 U.vm ∧ U.heap = h0) (fun _ _ _ _ _ => True) (fun _ U o U' => ∃ v L, o = .returned v ∧ Q_needs_cal Z w_CALENDAR h0 n0 v U'.heap L ∧ FrameEnd U o U' L ({ frames := 0, cells := 0, slots := 0, locals := 0 } : Room).cells ({ frames := 0, cells := 0, slots := 0, locals := 0 } : Room).slots) := by
  refine MetFree.of_bodySF (plainFor_of_name pn_1) hisR ?_
  intro p e s m args below meth c s₁ Bd hml0 hP hK
  obtain ⟨rfl, hZ, hh⟩ := hP
  have hx := Bd.exec
  have hby := Bd.bytes
  have hml : c.maxLocals = 1 := hml0
  have hown : s.vm.findClass "com/example/cangdan/cangdan/model/DayKind" = some m.cls := findClass_of_methodNamed Bd.named
  have hnm := (name_of_methodNamed Bd.named Bd.method).1
  have X0 : Stand p l e ({ frames := 0, cells := 0, slots := 0, locals := 0 } : Room) s m #[(.ref w_CALENDAR)] below meth c s₁ [] 0 0 := Stand.of_body Bd
  have e0 : s₁.heap = h0 := by rw [← hh, Bd.state]; rfl
  have N0 := Fr.nil n0
  have pre0 : ∀ t, Steps p.tables e below (s₁.setTop (mkF m 0 #[.val (.ref w_CALENDAR)] [])) t → Steps p.tables e below (s₁.setTop (entryFrame m #[(.ref w_CALENDAR)] 1)) t := fun t k => castTop (ef_1_R m w_CALENDAR) k
  obtain ⟨T1, X1, e1, st1⟩ := getS2 X0 hx hZ hown (host := "") (Or.inl (hwi hw 9 rfl)) Via.refl e0 (S_CALENDAR.ext O0.2) (g := (mkF m 1 #[.val (.ref w_CALENDAR)] [(.ref w_CALENDAR)])) rfl (hb hby d1_1)
  obtain ⟨fs, hr, hrun, hended, hW, hsame⟩ := X1.leave (v := some (.int 0)) (fun h => by rw [Bd.returns] at h; cases h)
  refine ⟨_, _, pre0 _ ?_, hrun, hended, _, _, rfl, ?_, ⟨_, rfl⟩, hW, hsame.mono (by decide) (by decide)⟩
  · show St p e below s₁ (mkF m 0 #[.val (.ref w_CALENDAR)] []) _
    refine XS.aloadN X0.here hx rfl (hb hby d1_0) rfl rfl ?_
    show St p e below s₁ (mkF m 1 #[.val (.ref w_CALENDAR)] [(.ref w_CALENDAR)]) _
    refine st1 _ ?_
    show St p e below T1 (mkF m 4 #[.val (.ref w_CALENDAR)] [(.ref w_CALENDAR), (.ref w_CALENDAR)]) _
    refine Jvm.RoadKit.acmp (g := (mkF m 4 #[.val (.ref w_CALENDAR)] [(.ref w_CALENDAR), (.ref w_CALENDAR)])) X1 hx rfl rfl rfl (pc0 := 4) (pc' := 11) (same := true) rfl (hb hby d1_4) rfl (decide_eq_true rfl) (by decide) (by decide) ?_
    show St p e below T1 (mkF m 11 #[.val (.ref w_CALENDAR)] []) _
    refine XS.iconst X1.here hx rfl (hb hby d1_11) ?_
    show St p e below T1 (mkF m 12 #[.val (.ref w_CALENDAR)] [(.int 0)]) _
    exact retN X1 hx (t := .boolean) Bd.returns (by simp) (hb hby d1_12) hr
  · show Q_needs_cal Z w_CALENDAR h0 n0 _ T1.heap _
    rw [e1]
    exact ⟨rfl, N0, rfl⟩
theorem d1_7 : decode prog_49_method_6_code 7 = .ok (.iconst 1, 1) := by decide +kernel
theorem d1_8 : decode prog_49_method_6_code 8 = .ok (.goto 4, 3) := by decide +kernel
def Q_needs_oth (Z : State) (a1 : Addr) (w_CALENDAR : Addr) (h0 : Heap) (n0 : Nat) (v : Option Value) (h : Heap) (L : List Loc) : Prop := v = some (.int 1) ∧ Fr n0 L ∧ h = h0
set_option maxRecDepth 65536 in
set_option maxHeartbeats 40000000 in
theorem rm_needs_oth (l : Launch) (Z : State) (a0 : Array Value) (hw : ∀ d ∈ tables_1, d.before a0 Z = true) (ws : List Jvm.Cond) (a1 : Addr) (w_CALENDAR : Addr) (h0 : Heap) (n0 : Nat) (Z0 : n0 ≤ h0.size) (S_CALENDAR : Sta Z Z.heap "com/example/cangdan/cangdan/model/DayKind" "CALENDAR" "Lcom/example/cangdan/cangdan/model/DayKind;" (.ref w_CALENDAR)) (O0 : Old Z n0 h0) (ha4 : ¬ (a1 = w_CALENDAR)) :
    MetFree l (⟨"com/example/cangdan/cangdan/model/DayKind", "needsSchedule", "()Z"⟩ : MethodName) (head1 (Jvm.Cond.code (⟨"com/example/cangdan/cangdan/model/DayKind", "needsSchedule", "()Z"⟩ : MethodName) prog_49_method_6_code 1 (some .boolean) :: ws) ({ frames := 0, cells := 0, slots := 0, locals := 0 } : Room)) (fun a U => a = #[(.ref a1)] ∧ Z.Warmed39 U.vm ∧ U.heap = h0) (fun _ _ _ _ _ => True) (fun _ U o U' => ∃ v L, o = .returned v ∧ Q_needs_oth Z a1 w_CALENDAR h0 n0 v U'.heap L ∧ FrameEnd U o U' L ({ frames := 0, cells := 0, slots := 0, locals := 0 } : Room).cells ({ frames := 0, cells := 0, slots := 0, locals := 0 } : Room).slots) := by
  refine MetFree.of_bodySF (plainFor_of_name pn_1) hisR ?_
  intro p e s m args below meth c s₁ Bd hml0 hP hK
  obtain ⟨rfl, hZ, hh⟩ := hP
  have hx := Bd.exec
  have hby := Bd.bytes
  have hml : c.maxLocals = 1 := hml0
  have hown : s.vm.findClass "com/example/cangdan/cangdan/model/DayKind" = some m.cls := findClass_of_methodNamed Bd.named
  have hnm := (name_of_methodNamed Bd.named Bd.method).1
  have X0 : Stand p l e ({ frames := 0, cells := 0, slots := 0, locals := 0 } : Room) s m #[(.ref a1)] below meth c s₁ [] 0 0 := Stand.of_body Bd
  have e0 : s₁.heap = h0 := by rw [← hh, Bd.state]; rfl
  have N0 := Fr.nil n0
  have pre0 : ∀ t, Steps p.tables e below (s₁.setTop (mkF m 0 #[.val (.ref a1)] [])) t → Steps p.tables e below (s₁.setTop (entryFrame m #[(.ref a1)] 1)) t := fun t k => castTop (ef_1_R m a1) k
  obtain ⟨T1, X1, e1, st1⟩ := getS2 X0 hx hZ hown (host := "") (Or.inl (hwi hw 9 rfl)) Via.refl e0 (S_CALENDAR.ext O0.2) (g := (mkF m 1 #[.val (.ref a1)] [(.ref a1)])) rfl (hb hby d1_1)
  obtain ⟨fs, hr, hrun, hended, hW, hsame⟩ := X1.leave (v := some (.int 1)) (fun h => by rw [Bd.returns] at h; cases h)
  refine ⟨_, _, pre0 _ ?_, hrun, hended, _, _, rfl, ?_, ⟨_, rfl⟩, hW, hsame.mono (by decide) (by decide)⟩
  · show St p e below s₁ (mkF m 0 #[.val (.ref a1)] []) _
    refine XS.aloadN X0.here hx rfl (hb hby d1_0) rfl rfl ?_
    show St p e below s₁ (mkF m 1 #[.val (.ref a1)] [(.ref a1)]) _
    refine st1 _ ?_
    show St p e below T1 (mkF m 4 #[.val (.ref a1)] [(.ref w_CALENDAR), (.ref a1)]) _
    refine Jvm.RoadKit.acmp (g := (mkF m 4 #[.val (.ref a1)] [(.ref w_CALENDAR), (.ref a1)])) X1 hx rfl rfl rfl (pc0 := 4) (pc' := 7) (same := false) rfl (hb hby d1_4) rfl (decide_eq_false fun q => (fun q => ha4 q) (Value.ref.inj q)) (by decide) (by decide) ?_
    show St p e below T1 (mkF m 7 #[.val (.ref a1)] []) _
    refine XS.iconst X1.here hx rfl (hb hby d1_7) ?_
    show St p e below T1 (mkF m 8 #[.val (.ref a1)] [(.int 1)]) _
    refine XS.goto X1.here hx rfl (pc0 := 8) (pc' := 12) rfl (hb hby d1_8) (by decide) (by decide) ?_
    show St p e below T1 (mkF m 12 #[.val (.ref a1)] [(.int 1)]) _
    exact retN X1 hx (t := .boolean) Bd.returns (by simp) (hb hby d1_12) hr
  · show Q_needs_oth Z a1 w_CALENDAR h0 n0 _ T1.heap _
    rw [e1]
    exact ⟨rfl, N0, rfl⟩
theorem pd_Z_171 : parseMethodDescriptor "()Z" = some ⟨[], some .boolean⟩ := by decide +kernel
theorem pn_0 : plainName "com/example/cangdan/cangdan/model/DayKindNeedsSchedulePinLaw" = true := by first | (simp [plainName, overriddenIn]; done) | decide +kernel
theorem ef_0_I (m : MethodId) (x0 : Int32) : entryFrame m #[(.int x0)] maxLocals = mkF m 0 #[.val (.int x0), .unset, .unset, .unset] [] := by first | (simp [entryFrame, mkF, argsToLocals, Value.category, maxLocals]; done) | rfl
def Q_law (n0 : Nat) (v : Option Value) (L : List Loc) : Prop := v = some (.int 1) ∧ Fr n0 L
set_option maxRecDepth 65536 in
set_option maxHeartbeats 40000000 in
theorem rm_law_0 (l : Launch) (Z : State) (a0 : Array Value) (hw : ∀ d ∈ tables_1, d.before a0 Z = true) (ws : List Jvm.Cond) (p1 : Int32) (w_TRADING : Addr) (w_CALENDAR : Addr) (h0 : Heap) (n0 : Nat) (Z0 : n0 ≤ h0.size) (S_TRADING : Sta Z Z.heap "com/example/cangdan/cangdan/model/DayKind" "TRADING" "Lcom/example/cangdan/cangdan/model/DayKind;" (.ref w_TRADING)) (O0 : Old Z n0 h0) (E_w_TRADING : Exa Z Z.heap w_TRADING "com/example/cangdan/cangdan/model/DayKind") (S_CALENDAR : Sta Z Z.heap "com/example/cangdan/cangdan/model/DayKind" "CALENDAR" "Lcom/example/cangdan/cangdan/model/DayKind;" (.ref w_CALENDAR)) (hne : ¬ (w_TRADING = w_CALENDAR)) (hk : ((p1 &&& (2147483647 : Int32)) % (3 : Int32)) = (0 : Int32)) :
    MetFree l x (head1 (Jvm.Cond.code x code maxLocals ret :: ws) room_1) (fun a U => a = #[(.int p1)] ∧ Z.Warmed39 U.vm ∧ U.heap = h0) (fun _ _ _ _ _ => True) (fun _ U o U' => ∃ v L, o = .returned v ∧ Q_law n0 v L ∧ FrameEnd U o U' L room_1.cells room_1.slots) := by
  refine MetFree.of_bodySF (plainFor_of_name pn_0) hisR ?_
  intro p e s m args below meth c s₁ Bd hml0 hP hK
  obtain ⟨rfl, hZ, hh⟩ := hP
  have hx := Bd.exec
  have hby := Bd.bytes
  have hml : c.maxLocals = 4 := hml0
  have hown : s.vm.findClass "com/example/cangdan/cangdan/model/DayKindNeedsSchedulePinLaw" = some m.cls := findClass_of_methodNamed Bd.named
  have hnm := (name_of_methodNamed Bd.named Bd.method).1
  have X0 : Stand p l e room_1 s m #[(.int p1)] below meth c s₁ [] 0 0 := Stand.of_body Bd
  have e0 : s₁.heap = h0 := by rw [← hh, Bd.state]; rfl
  have N0 := Fr.nil n0
  have pre0 : ∀ t, Steps p.tables e below (s₁.setTop (mkF m 0 #[.val (.int p1), .unset, .unset, .unset] [])) t → Steps p.tables e below (s₁.setTop (entryFrame m #[(.int p1)] maxLocals)) t := fun t k => castTop (ef_0_I m p1) k
  obtain ⟨T1, X1, e1, st1⟩ := getS2 X0 hx hZ hown (host := "") (Or.inl (hwi hw 1 rfl)) Via.refl e0 (S_TRADING.ext O0.2) (g := (mkF m 11 #[.val (.int p1), .val (.int 0), .unset, .unset] [])) rfl (hb hby at_11)
  obtain ⟨cq2, kq2, q2a, q2b, q2c⟩ := isOf hZ e1 (E_w_TRADING.ext O0.2)
  obtain ⟨_, _, ⟨T2, L2, k2, n2⟩, -, X2, ⟨Lc2, hQ2, l2, y2, z2⟩, st2⟩ := X1.virtualBack hx (y := (⟨"com/example/cangdan/cangdan/model/DayKind", "needsSchedule", "()Z"⟩ : MethodName)) (z := (⟨"com/example/cangdan/cangdan/model/DayKind", "needsSchedule", "()Z"⟩ : MethodName)) hown (mvT hZ (hwi hw 4 rfl)) (mvT hZ (hwi hw 5 rfl)) (notFace_of_selects (args := #[]) (mvT hZ (hwi hw 7 rfl))) (mvT hZ (hwi hw 7 rfl)) (mvT hZ (hwi hw 6 rfl)) (by decide) (backOf (W := 0) (rm_needs_oth l Z a0 hw [] w_TRADING w_CALENDAR h0 n0 Z0 S_CALENDAR O0 hne) hZ (hwi hw 8 rfl) (hwi hw 2 rfl) (by decide) (by decide)) q2a q2c (g := (mkF m 41 #[.val (.int p1), .val (.int 0), .val (.ref w_TRADING), .val (.int 1)] [(.ref w_TRADING)])) rfl (by rw [hml]; rfl) (Steps.refl _) (argsL := []) (rest := []) (lenOf pd_Z_171 rfl) rfl (by show 2 * 0 + _ ≤ _; exact Nat.le_of_eq rfl) (hb hby at_41) (fun _ _ => ⟨rfl, e1, (by decide : 0 + 0 ≤ _), (by decide : 0 + 0 ≤ _)⟩)
  dsimp only [Pt.U, Pt.locs, Pt.cells, Pt.slots] at X2 l2 y2 z2 st2 hQ2
  subst l2 y2 z2
  obtain ⟨rfl, N2q, e2⟩ := hQ2
  have N2 := Fr.app N0 N2q
  obtain ⟨fs, hr, hrun, hended, hW, hsame⟩ := X2.leave (v := some (.int 1)) (fun h => by rw [Bd.returns] at h; cases h)
  refine ⟨_, _, pre0 _ ?_, hrun, hended, _, _, rfl, ?_, ⟨_, rfl⟩, hW, hsame.mono (by decide) (by decide)⟩
  · show St p e below s₁ (mkF m 0 #[.val (.int p1), .unset, .unset, .unset] []) _
    refine XS.iloadN X0.here hx rfl (hb hby at_0) rfl ?_
    show St p e below s₁ (mkF m 1 #[.val (.int p1), .unset, .unset, .unset] [(.int p1)]) _
    refine X0.ldcInt hx hown (mvT hZ (hwi hw 0 rfl)) (g := (mkF m 1 #[.val (.int p1), .unset, .unset, .unset] [(.int p1)])) rfl (hb hby at_1) _ ?_
    show St p e below s₁ (mkF m 3 #[.val (.int p1), .unset, .unset, .unset] [(.int 2147483647), (.int p1)]) _
    refine XS.iand X0.here hx rfl (hb hby at_3) rfl ?_
    show St p e below s₁ (mkF m 4 #[.val (.int p1), .unset, .unset, .unset] [(.int (p1 &&& (2147483647 : Int32)))]) _
    refine XS.iconst X0.here hx rfl (hb hby at_4) ?_
    show St p e below s₁ (mkF m 5 #[.val (.int p1), .unset, .unset, .unset] [(.int 3), (.int (p1 &&& (2147483647 : Int32)))]) _
    refine iremM X0 hx rfl (hb hby at_5) rfl (by decide) ?_
    show St p e below s₁ (mkF m 6 #[.val (.int p1), .unset, .unset, .unset] [(.int ((p1 &&& (2147483647 : Int32)) % (3 : Int32)))]) _
    rw [hk]
    show St p e below s₁ (mkF m 6 #[.val (.int p1), .unset, .unset, .unset] [(.int 0)]) _
    refine XS.istoreN X0.here hx rfl (hb hby at_6) rfl (l' := #[.val (.int p1), .val (.int 0), .unset, .unset]) rfl ?_
    show St p e below s₁ (mkF m 7 #[.val (.int p1), .val (.int 0), .unset, .unset] []) _
    refine XS.iloadN X0.here hx rfl (hb hby at_7) rfl ?_
    show St p e below s₁ (mkF m 8 #[.val (.int p1), .val (.int 0), .unset, .unset] [(.int 0)]) _
    refine XS.ifNo X0.here hx rfl (hb hby at_8) rfl ((if0 _ _).trans (teq (by decide : (0 : Int32) = (0 : Int32))).2) ?_
    show St p e below s₁ (mkF m 11 #[.val (.int p1), .val (.int 0), .unset, .unset] []) _
    refine st1 _ ?_
    show St p e below T1 (mkF m 14 #[.val (.int p1), .val (.int 0), .unset, .unset] [(.ref w_TRADING)]) _
    refine XS.astoreN X1.here hx rfl (hb hby at_14) rfl rfl (l' := #[.val (.int p1), .val (.int 0), .val (.ref w_TRADING), .unset]) rfl ?_
    show St p e below T1 (mkF m 15 #[.val (.int p1), .val (.int 0), .val (.ref w_TRADING), .unset] []) _
    refine XS.iconst X1.here hx rfl (hb hby at_15) ?_
    show St p e below T1 (mkF m 16 #[.val (.int p1), .val (.int 0), .val (.ref w_TRADING), .unset] [(.int 1)]) _
    refine XS.istoreN X1.here hx rfl (hb hby at_16) rfl (l' := #[.val (.int p1), .val (.int 0), .val (.ref w_TRADING), .val (.int 1)]) rfl ?_
    show St p e below T1 (mkF m 17 #[.val (.int p1), .val (.int 0), .val (.ref w_TRADING), .val (.int 1)] []) _
    refine XS.goto X1.here hx rfl (pc0 := 17) (pc' := 40) rfl (hb hby at_17) (by decide) (by decide) ?_
    show St p e below T1 (mkF m 40 #[.val (.int p1), .val (.int 0), .val (.ref w_TRADING), .val (.int 1)] []) _
    refine XS.aloadN X1.here hx rfl (hb hby at_40) rfl rfl ?_
    show St p e below T1 (mkF m 41 #[.val (.int p1), .val (.int 0), .val (.ref w_TRADING), .val (.int 1)] [(.ref w_TRADING)]) _
    refine st2.trans ?_
    show St p e below T2 (mkF m 44 #[.val (.int p1), .val (.int 0), .val (.ref w_TRADING), .val (.int 1)] [(.int 1)]) _
    refine XS.iloadN X2.here hx rfl (hb hby at_44) rfl ?_
    show St p e below T2 (mkF m 45 #[.val (.int p1), .val (.int 0), .val (.ref w_TRADING), .val (.int 1)] [(.int 1), (.int 1)]) _
    refine XS.icmpNo X2.here hx rfl (hb hby at_45) rfl (teq (by decide : (1 : Int32) = (1 : Int32))).2 ?_
    show St p e below T2 (mkF m 48 #[.val (.int p1), .val (.int 0), .val (.ref w_TRADING), .val (.int 1)] []) _
    refine XS.iconst X2.here hx rfl (hb hby at_48) ?_
    show St p e below T2 (mkF m 49 #[.val (.int p1), .val (.int 0), .val (.ref w_TRADING), .val (.int 1)] [(.int 1)]) _
    refine XS.goto X2.here hx rfl (pc0 := 49) (pc' := 53) rfl (hb hby at_49) (by decide) (by decide) ?_
    show St p e below T2 (mkF m 53 #[.val (.int p1), .val (.int 0), .val (.ref w_TRADING), .val (.int 1)] [(.int 1)]) _
    exact retN X2 hx (t := .boolean) Bd.returns (by simp) (hb hby at_53) hr
  · exact ⟨rfl, N2⟩
set_option maxRecDepth 65536 in
set_option maxHeartbeats 40000000 in
theorem rm_law_1 (l : Launch) (Z : State) (a0 : Array Value) (hw : ∀ d ∈ tables_1, d.before a0 Z = true) (ws : List Jvm.Cond) (p1 : Int32) (w_WORKING : Addr) (w_CALENDAR : Addr) (h0 : Heap) (n0 : Nat) (Z0 : n0 ≤ h0.size) (S_WORKING : Sta Z Z.heap "com/example/cangdan/cangdan/model/DayKind" "WORKING" "Lcom/example/cangdan/cangdan/model/DayKind;" (.ref w_WORKING)) (O0 : Old Z n0 h0) (E_w_WORKING : Exa Z Z.heap w_WORKING "com/example/cangdan/cangdan/model/DayKind") (S_CALENDAR : Sta Z Z.heap "com/example/cangdan/cangdan/model/DayKind" "CALENDAR" "Lcom/example/cangdan/cangdan/model/DayKind;" (.ref w_CALENDAR)) (hne : ¬ (w_WORKING = w_CALENDAR)) (hk : ((p1 &&& (2147483647 : Int32)) % (3 : Int32)) = (1 : Int32)) :
    MetFree l x (head1 (Jvm.Cond.code x code maxLocals ret :: ws) room_1) (fun a U => a = #[(.int p1)] ∧ Z.Warmed39 U.vm ∧ U.heap = h0) (fun _ _ _ _ _ => True) (fun _ U o U' => ∃ v L, o = .returned v ∧ Q_law n0 v L ∧ FrameEnd U o U' L room_1.cells room_1.slots) := by
  refine MetFree.of_bodySF (plainFor_of_name pn_0) hisR ?_
  intro p e s m args below meth c s₁ Bd hml0 hP hK
  obtain ⟨rfl, hZ, hh⟩ := hP
  have hx := Bd.exec
  have hby := Bd.bytes
  have hml : c.maxLocals = 4 := hml0
  have hown : s.vm.findClass "com/example/cangdan/cangdan/model/DayKindNeedsSchedulePinLaw" = some m.cls := findClass_of_methodNamed Bd.named
  have hnm := (name_of_methodNamed Bd.named Bd.method).1
  have X0 : Stand p l e room_1 s m #[(.int p1)] below meth c s₁ [] 0 0 := Stand.of_body Bd
  have e0 : s₁.heap = h0 := by rw [← hh, Bd.state]; rfl
  have N0 := Fr.nil n0
  have pre0 : ∀ t, Steps p.tables e below (s₁.setTop (mkF m 0 #[.val (.int p1), .unset, .unset, .unset] [])) t → Steps p.tables e below (s₁.setTop (entryFrame m #[(.int p1)] maxLocals)) t := fun t k => castTop (ef_0_I m p1) k
  obtain ⟨T1, X1, e1, st1⟩ := getS2 X0 hx hZ hown (host := "") (Or.inl (hwi hw 12 rfl)) Via.refl e0 (S_WORKING.ext O0.2) (g := (mkF m 25 #[.val (.int p1), .val (.int 1), .unset, .unset] [])) rfl (hb hby at_25)
  obtain ⟨cq2, kq2, q2a, q2b, q2c⟩ := isOf hZ e1 (E_w_WORKING.ext O0.2)
  obtain ⟨_, _, ⟨T2, L2, k2, n2⟩, -, X2, ⟨Lc2, hQ2, l2, y2, z2⟩, st2⟩ := X1.virtualBack hx (y := (⟨"com/example/cangdan/cangdan/model/DayKind", "needsSchedule", "()Z"⟩ : MethodName)) (z := (⟨"com/example/cangdan/cangdan/model/DayKind", "needsSchedule", "()Z"⟩ : MethodName)) hown (mvT hZ (hwi hw 4 rfl)) (mvT hZ (hwi hw 5 rfl)) (notFace_of_selects (args := #[]) (mvT hZ (hwi hw 7 rfl))) (mvT hZ (hwi hw 7 rfl)) (mvT hZ (hwi hw 6 rfl)) (by decide) (backOf (W := 0) (rm_needs_oth l Z a0 hw [] w_WORKING w_CALENDAR h0 n0 Z0 S_CALENDAR O0 hne) hZ (hwi hw 8 rfl) (hwi hw 2 rfl) (by decide) (by decide)) q2a q2c (g := (mkF m 41 #[.val (.int p1), .val (.int 1), .val (.ref w_WORKING), .val (.int 1)] [(.ref w_WORKING)])) rfl (by rw [hml]; rfl) (Steps.refl _) (argsL := []) (rest := []) (lenOf pd_Z_171 rfl) rfl (by show 2 * 0 + _ ≤ _; exact Nat.le_of_eq rfl) (hb hby at_41) (fun _ _ => ⟨rfl, e1, (by decide : 0 + 0 ≤ _), (by decide : 0 + 0 ≤ _)⟩)
  dsimp only [Pt.U, Pt.locs, Pt.cells, Pt.slots] at X2 l2 y2 z2 st2 hQ2
  subst l2 y2 z2
  obtain ⟨rfl, N2q, e2⟩ := hQ2
  have N2 := Fr.app N0 N2q
  obtain ⟨fs, hr, hrun, hended, hW, hsame⟩ := X2.leave (v := some (.int 1)) (fun h => by rw [Bd.returns] at h; cases h)
  refine ⟨_, _, pre0 _ ?_, hrun, hended, _, _, rfl, ?_, ⟨_, rfl⟩, hW, hsame.mono (by decide) (by decide)⟩
  · show St p e below s₁ (mkF m 0 #[.val (.int p1), .unset, .unset, .unset] []) _
    refine XS.iloadN X0.here hx rfl (hb hby at_0) rfl ?_
    show St p e below s₁ (mkF m 1 #[.val (.int p1), .unset, .unset, .unset] [(.int p1)]) _
    refine X0.ldcInt hx hown (mvT hZ (hwi hw 0 rfl)) (g := (mkF m 1 #[.val (.int p1), .unset, .unset, .unset] [(.int p1)])) rfl (hb hby at_1) _ ?_
    show St p e below s₁ (mkF m 3 #[.val (.int p1), .unset, .unset, .unset] [(.int 2147483647), (.int p1)]) _
    refine XS.iand X0.here hx rfl (hb hby at_3) rfl ?_
    show St p e below s₁ (mkF m 4 #[.val (.int p1), .unset, .unset, .unset] [(.int (p1 &&& (2147483647 : Int32)))]) _
    refine XS.iconst X0.here hx rfl (hb hby at_4) ?_
    show St p e below s₁ (mkF m 5 #[.val (.int p1), .unset, .unset, .unset] [(.int 3), (.int (p1 &&& (2147483647 : Int32)))]) _
    refine iremM X0 hx rfl (hb hby at_5) rfl (by decide) ?_
    show St p e below s₁ (mkF m 6 #[.val (.int p1), .unset, .unset, .unset] [(.int ((p1 &&& (2147483647 : Int32)) % (3 : Int32)))]) _
    rw [hk]
    show St p e below s₁ (mkF m 6 #[.val (.int p1), .unset, .unset, .unset] [(.int 1)]) _
    refine XS.istoreN X0.here hx rfl (hb hby at_6) rfl (l' := #[.val (.int p1), .val (.int 1), .unset, .unset]) rfl ?_
    show St p e below s₁ (mkF m 7 #[.val (.int p1), .val (.int 1), .unset, .unset] []) _
    refine XS.iloadN X0.here hx rfl (hb hby at_7) rfl ?_
    show St p e below s₁ (mkF m 8 #[.val (.int p1), .val (.int 1), .unset, .unset] [(.int 1)]) _
    refine XS.ifYes X0.here hx rfl (pc0 := 8) (pc' := 20) rfl (hb hby at_8) rfl ((if0 _ _).trans (feq (by decide : ¬ ((1 : Int32) = (0 : Int32)))).2) (by decide) (by decide) ?_
    show St p e below s₁ (mkF m 20 #[.val (.int p1), .val (.int 1), .unset, .unset] []) _
    refine XS.iloadN X0.here hx rfl (hb hby at_20) rfl ?_
    show St p e below s₁ (mkF m 21 #[.val (.int p1), .val (.int 1), .unset, .unset] [(.int 1)]) _
    refine XS.iconst X0.here hx rfl (hb hby at_21) ?_
    show St p e below s₁ (mkF m 22 #[.val (.int p1), .val (.int 1), .unset, .unset] [(.int 1), (.int 1)]) _
    refine XS.icmpNo X0.here hx rfl (hb hby at_22) rfl (teq (by decide : (1 : Int32) = (1 : Int32))).2 ?_
    show St p e below s₁ (mkF m 25 #[.val (.int p1), .val (.int 1), .unset, .unset] []) _
    refine st1 _ ?_
    show St p e below T1 (mkF m 28 #[.val (.int p1), .val (.int 1), .unset, .unset] [(.ref w_WORKING)]) _
    refine XS.astoreN X1.here hx rfl (hb hby at_28) rfl rfl (l' := #[.val (.int p1), .val (.int 1), .val (.ref w_WORKING), .unset]) rfl ?_
    show St p e below T1 (mkF m 29 #[.val (.int p1), .val (.int 1), .val (.ref w_WORKING), .unset] []) _
    refine XS.iconst X1.here hx rfl (hb hby at_29) ?_
    show St p e below T1 (mkF m 30 #[.val (.int p1), .val (.int 1), .val (.ref w_WORKING), .unset] [(.int 1)]) _
    refine XS.istoreN X1.here hx rfl (hb hby at_30) rfl (l' := #[.val (.int p1), .val (.int 1), .val (.ref w_WORKING), .val (.int 1)]) rfl ?_
    show St p e below T1 (mkF m 31 #[.val (.int p1), .val (.int 1), .val (.ref w_WORKING), .val (.int 1)] []) _
    refine XS.goto X1.here hx rfl (pc0 := 31) (pc' := 40) rfl (hb hby at_31) (by decide) (by decide) ?_
    show St p e below T1 (mkF m 40 #[.val (.int p1), .val (.int 1), .val (.ref w_WORKING), .val (.int 1)] []) _
    refine XS.aloadN X1.here hx rfl (hb hby at_40) rfl rfl ?_
    show St p e below T1 (mkF m 41 #[.val (.int p1), .val (.int 1), .val (.ref w_WORKING), .val (.int 1)] [(.ref w_WORKING)]) _
    refine st2.trans ?_
    show St p e below T2 (mkF m 44 #[.val (.int p1), .val (.int 1), .val (.ref w_WORKING), .val (.int 1)] [(.int 1)]) _
    refine XS.iloadN X2.here hx rfl (hb hby at_44) rfl ?_
    show St p e below T2 (mkF m 45 #[.val (.int p1), .val (.int 1), .val (.ref w_WORKING), .val (.int 1)] [(.int 1), (.int 1)]) _
    refine XS.icmpNo X2.here hx rfl (hb hby at_45) rfl (teq (by decide : (1 : Int32) = (1 : Int32))).2 ?_
    show St p e below T2 (mkF m 48 #[.val (.int p1), .val (.int 1), .val (.ref w_WORKING), .val (.int 1)] []) _
    refine XS.iconst X2.here hx rfl (hb hby at_48) ?_
    show St p e below T2 (mkF m 49 #[.val (.int p1), .val (.int 1), .val (.ref w_WORKING), .val (.int 1)] [(.int 1)]) _
    refine XS.goto X2.here hx rfl (pc0 := 49) (pc' := 53) rfl (hb hby at_49) (by decide) (by decide) ?_
    show St p e below T2 (mkF m 53 #[.val (.int p1), .val (.int 1), .val (.ref w_WORKING), .val (.int 1)] [(.int 1)]) _
    exact retN X2 hx (t := .boolean) Bd.returns (by simp) (hb hby at_53) hr
  · exact ⟨rfl, N2⟩
set_option maxRecDepth 65536 in
set_option maxHeartbeats 40000000 in
theorem rm_law_2 (l : Launch) (Z : State) (a0 : Array Value) (hw : ∀ d ∈ tables_1, d.before a0 Z = true) (ws : List Jvm.Cond) (p1 : Int32) (w_CALENDAR : Addr) (h0 : Heap) (n0 : Nat) (Z0 : n0 ≤ h0.size) (S_CALENDAR : Sta Z Z.heap "com/example/cangdan/cangdan/model/DayKind" "CALENDAR" "Lcom/example/cangdan/cangdan/model/DayKind;" (.ref w_CALENDAR)) (O0 : Old Z n0 h0) (E_w_CALENDAR : Exa Z Z.heap w_CALENDAR "com/example/cangdan/cangdan/model/DayKind") (hk : ((p1 &&& (2147483647 : Int32)) % (3 : Int32)) = (2 : Int32)) :
    MetFree l x (head1 (Jvm.Cond.code x code maxLocals ret :: ws) room_1) (fun a U => a = #[(.int p1)] ∧ Z.Warmed39 U.vm ∧ U.heap = h0) (fun _ _ _ _ _ => True) (fun _ U o U' => ∃ v L, o = .returned v ∧ Q_law n0 v L ∧ FrameEnd U o U' L room_1.cells room_1.slots) := by
  refine MetFree.of_bodySF (plainFor_of_name pn_0) hisR ?_
  intro p e s m args below meth c s₁ Bd hml0 hP hK
  obtain ⟨rfl, hZ, hh⟩ := hP
  have hx := Bd.exec
  have hby := Bd.bytes
  have hml : c.maxLocals = 4 := hml0
  have hown : s.vm.findClass "com/example/cangdan/cangdan/model/DayKindNeedsSchedulePinLaw" = some m.cls := findClass_of_methodNamed Bd.named
  have hnm := (name_of_methodNamed Bd.named Bd.method).1
  have X0 : Stand p l e room_1 s m #[(.int p1)] below meth c s₁ [] 0 0 := Stand.of_body Bd
  have e0 : s₁.heap = h0 := by rw [← hh, Bd.state]; rfl
  have N0 := Fr.nil n0
  have pre0 : ∀ t, Steps p.tables e below (s₁.setTop (mkF m 0 #[.val (.int p1), .unset, .unset, .unset] [])) t → Steps p.tables e below (s₁.setTop (entryFrame m #[(.int p1)] maxLocals)) t := fun t k => castTop (ef_0_I m p1) k
  obtain ⟨T1, X1, e1, st1⟩ := getS2 X0 hx hZ hown (host := "") (Or.inl (hwi hw 11 rfl)) Via.refl e0 (S_CALENDAR.ext O0.2) (g := (mkF m 34 #[.val (.int p1), .val (.int 2), .unset, .unset] [])) rfl (hb hby at_34)
  obtain ⟨cq2, kq2, q2a, q2b, q2c⟩ := isOf hZ e1 (E_w_CALENDAR.ext O0.2)
  obtain ⟨_, _, ⟨T2, L2, k2, n2⟩, -, X2, ⟨Lc2, hQ2, l2, y2, z2⟩, st2⟩ := X1.virtualBack hx (y := (⟨"com/example/cangdan/cangdan/model/DayKind", "needsSchedule", "()Z"⟩ : MethodName)) (z := (⟨"com/example/cangdan/cangdan/model/DayKind", "needsSchedule", "()Z"⟩ : MethodName)) hown (mvT hZ (hwi hw 4 rfl)) (mvT hZ (hwi hw 5 rfl)) (notFace_of_selects (args := #[]) (mvT hZ (hwi hw 7 rfl))) (mvT hZ (hwi hw 7 rfl)) (mvT hZ (hwi hw 6 rfl)) (by decide) (backOf (W := 0) (rm_needs_cal l Z a0 hw [] w_CALENDAR h0 n0 Z0 S_CALENDAR O0) hZ (hwi hw 8 rfl) (hwi hw 2 rfl) (by decide) (by decide)) q2a q2c (g := (mkF m 41 #[.val (.int p1), .val (.int 2), .val (.ref w_CALENDAR), .val (.int 0)] [(.ref w_CALENDAR)])) rfl (by rw [hml]; rfl) (Steps.refl _) (argsL := []) (rest := []) (lenOf pd_Z_171 rfl) rfl (by show 2 * 0 + _ ≤ _; exact Nat.le_of_eq rfl) (hb hby at_41) (fun _ _ => ⟨rfl, e1, (by decide : 0 + 0 ≤ _), (by decide : 0 + 0 ≤ _)⟩)
  dsimp only [Pt.U, Pt.locs, Pt.cells, Pt.slots] at X2 l2 y2 z2 st2 hQ2
  subst l2 y2 z2
  obtain ⟨rfl, N2q, e2⟩ := hQ2
  have N2 := Fr.app N0 N2q
  obtain ⟨fs, hr, hrun, hended, hW, hsame⟩ := X2.leave (v := some (.int 1)) (fun h => by rw [Bd.returns] at h; cases h)
  refine ⟨_, _, pre0 _ ?_, hrun, hended, _, _, rfl, ?_, ⟨_, rfl⟩, hW, hsame.mono (by decide) (by decide)⟩
  · show St p e below s₁ (mkF m 0 #[.val (.int p1), .unset, .unset, .unset] []) _
    refine XS.iloadN X0.here hx rfl (hb hby at_0) rfl ?_
    show St p e below s₁ (mkF m 1 #[.val (.int p1), .unset, .unset, .unset] [(.int p1)]) _
    refine X0.ldcInt hx hown (mvT hZ (hwi hw 0 rfl)) (g := (mkF m 1 #[.val (.int p1), .unset, .unset, .unset] [(.int p1)])) rfl (hb hby at_1) _ ?_
    show St p e below s₁ (mkF m 3 #[.val (.int p1), .unset, .unset, .unset] [(.int 2147483647), (.int p1)]) _
    refine XS.iand X0.here hx rfl (hb hby at_3) rfl ?_
    show St p e below s₁ (mkF m 4 #[.val (.int p1), .unset, .unset, .unset] [(.int (p1 &&& (2147483647 : Int32)))]) _
    refine XS.iconst X0.here hx rfl (hb hby at_4) ?_
    show St p e below s₁ (mkF m 5 #[.val (.int p1), .unset, .unset, .unset] [(.int 3), (.int (p1 &&& (2147483647 : Int32)))]) _
    refine iremM X0 hx rfl (hb hby at_5) rfl (by decide) ?_
    show St p e below s₁ (mkF m 6 #[.val (.int p1), .unset, .unset, .unset] [(.int ((p1 &&& (2147483647 : Int32)) % (3 : Int32)))]) _
    rw [hk]
    show St p e below s₁ (mkF m 6 #[.val (.int p1), .unset, .unset, .unset] [(.int 2)]) _
    refine XS.istoreN X0.here hx rfl (hb hby at_6) rfl (l' := #[.val (.int p1), .val (.int 2), .unset, .unset]) rfl ?_
    show St p e below s₁ (mkF m 7 #[.val (.int p1), .val (.int 2), .unset, .unset] []) _
    refine XS.iloadN X0.here hx rfl (hb hby at_7) rfl ?_
    show St p e below s₁ (mkF m 8 #[.val (.int p1), .val (.int 2), .unset, .unset] [(.int 2)]) _
    refine XS.ifYes X0.here hx rfl (pc0 := 8) (pc' := 20) rfl (hb hby at_8) rfl ((if0 _ _).trans (feq (by decide : ¬ ((2 : Int32) = (0 : Int32)))).2) (by decide) (by decide) ?_
    show St p e below s₁ (mkF m 20 #[.val (.int p1), .val (.int 2), .unset, .unset] []) _
    refine XS.iloadN X0.here hx rfl (hb hby at_20) rfl ?_
    show St p e below s₁ (mkF m 21 #[.val (.int p1), .val (.int 2), .unset, .unset] [(.int 2)]) _
    refine XS.iconst X0.here hx rfl (hb hby at_21) ?_
    show St p e below s₁ (mkF m 22 #[.val (.int p1), .val (.int 2), .unset, .unset] [(.int 1), (.int 2)]) _
    refine XS.icmpYes X0.here hx rfl (pc0 := 22) (pc' := 34) rfl (hb hby at_22) rfl (feq (by decide : ¬ ((2 : Int32) = (1 : Int32)))).2 (by decide) (by decide) ?_
    show St p e below s₁ (mkF m 34 #[.val (.int p1), .val (.int 2), .unset, .unset] []) _
    refine st1 _ ?_
    show St p e below T1 (mkF m 37 #[.val (.int p1), .val (.int 2), .unset, .unset] [(.ref w_CALENDAR)]) _
    refine XS.astoreN X1.here hx rfl (hb hby at_37) rfl rfl (l' := #[.val (.int p1), .val (.int 2), .val (.ref w_CALENDAR), .unset]) rfl ?_
    show St p e below T1 (mkF m 38 #[.val (.int p1), .val (.int 2), .val (.ref w_CALENDAR), .unset] []) _
    refine XS.iconst X1.here hx rfl (hb hby at_38) ?_
    show St p e below T1 (mkF m 39 #[.val (.int p1), .val (.int 2), .val (.ref w_CALENDAR), .unset] [(.int 0)]) _
    refine XS.istoreN X1.here hx rfl (hb hby at_39) rfl (l' := #[.val (.int p1), .val (.int 2), .val (.ref w_CALENDAR), .val (.int 0)]) rfl ?_
    show St p e below T1 (mkF m 40 #[.val (.int p1), .val (.int 2), .val (.ref w_CALENDAR), .val (.int 0)] []) _
    refine XS.aloadN X1.here hx rfl (hb hby at_40) rfl rfl ?_
    show St p e below T1 (mkF m 41 #[.val (.int p1), .val (.int 2), .val (.ref w_CALENDAR), .val (.int 0)] [(.ref w_CALENDAR)]) _
    refine st2.trans ?_
    show St p e below T2 (mkF m 44 #[.val (.int p1), .val (.int 2), .val (.ref w_CALENDAR), .val (.int 0)] [(.int 0)]) _
    refine XS.iloadN X2.here hx rfl (hb hby at_44) rfl ?_
    show St p e below T2 (mkF m 45 #[.val (.int p1), .val (.int 2), .val (.ref w_CALENDAR), .val (.int 0)] [(.int 0), (.int 0)]) _
    refine XS.icmpNo X2.here hx rfl (hb hby at_45) rfl (teq (by decide : (0 : Int32) = (0 : Int32))).2 ?_
    show St p e below T2 (mkF m 48 #[.val (.int p1), .val (.int 2), .val (.ref w_CALENDAR), .val (.int 0)] []) _
    refine XS.iconst X2.here hx rfl (hb hby at_48) ?_
    show St p e below T2 (mkF m 49 #[.val (.int p1), .val (.int 2), .val (.ref w_CALENDAR), .val (.int 0)] [(.int 1)]) _
    refine XS.goto X2.here hx rfl (pc0 := 49) (pc' := 53) rfl (hb hby at_49) (by decide) (by decide) ?_
    show St p e below T2 (mkF m 53 #[.val (.int p1), .val (.int 2), .val (.ref w_CALENDAR), .val (.int 0)] [(.int 1)]) _
    exact retN X2 hx (t := .boolean) Bd.returns (by simp) (hb hby at_53) hr
  · exact ⟨rfl, N2⟩
theorem own_rem (x : Int32) : (x &&& (2147483647 : Int32)) % (3 : Int32) = (0 : Int32) ∨ (x &&& (2147483647 : Int32)) % (3 : Int32) = (1 : Int32) ∨ (x &&& (2147483647 : Int32)) % (3 : Int32) = (2 : Int32) := by
  have h := c_and x (2147483647 : Int32) (by decide)
  have h2 := (c_iremV (x &&& (2147483647 : Int32)) (3 : Int32)).1 h.1 (by decide)
  have h3 : (3 : Int32).toInt = 3 := by decide
  rw [h3] at h2
  simp only [← Int32.toInt_inj]
  have e0 : (0 : Int32).toInt = 0 := by decide
  have e1 : (1 : Int32).toInt = 1 := by decide
  have e2 : (2 : Int32).toInt = 2 := by decide
  rw [e0, e1, e2]
  omega
theorem own_fi {s : State} {args : Array Value} {t : Term} {C n d : String} {k : Int32} {a : Addr} (ev : t.eval args s none [] s = some (.ref a)) (h : (Jvm.Cond.eq (Term.field t C n d) (Term.int k)).value args s none s [] = some true) : Fld s s.heap a C n d (.int k) := by
  obtain ⟨x, y, h1, h2, h3, h4⟩ := cmp_v (Or.inl h)
  have e2 : y = .int k := (Option.some.inj (h2.symm.trans (Term.int_eval k)))
  subst e2
  obtain ⟨z, rfl⟩ := h4
  have e3 : z = k := gotT (Cond.eq_ints h1 h2) h
  subst e3
  exact Fld.start ((fld_at ev).symm.trans h1)
theorem own_fr {s : State} {args : Array Value} {t u : Term} {C n d : String} {a b : Addr} (ev : t.eval args s none [] s = some (.ref a)) (ev2 : u.eval args s none [] s = some (.ref b)) (h : (Jvm.Cond.eq (Term.field t C n d) u).value args s none s [] = some true) : Fld s s.heap a C n d (.ref b) := by
  obtain ⟨x, y, h1, h2, h3, h4⟩ := cmp_v (Or.inl h)
  obtain rfl : y = .ref b := Option.some.inj (h2.symm.trans ev2)
  have hx : x.isRef = true := h4.2
  have e3 : x = .ref b := gotT (eq_R h1 h2 hx rfl) h
  subst e3
  exact Fld.start ((fld_at ev).symm.trans h1)
set_option maxRecDepth 65536 in
set_option maxHeartbeats 40000000 in
theorem comes_1 {Post : Tables → Env → Array Value → State → Outcome → State → Prop} (hpost : ∀ tb e args s v u, (limb_1_1.after args s (.returned v) u = true ∧ limb_1_2.after args s (.returned v) u = true ∧ True) → FrameEnd s (.returned v) u (Jvm.fieldLocs frame_1_writes args s ++ Jvm.arrayLocs frame_1_arrays args s ++ Jvm.staticLocs frame_1_statics s) 0 0 → Post tb e args s (.returned v) u) :
    ArmFor flags0 classFile x code maxLocals ret World_1 tables_1 room_1 Calls_1 rest_1 Pre_1 Post := by
  intro l hfl _ _ p e ha hc hk s m args below hf hA hF happ hP
  obtain ⟨hcalls, hrest, hpre⟩ := hP
  obtain ⟨-, -, -, hnamed, -, -, -, hat⟩ := (Spec.applies_iff hf).mp happ
  obtain ⟨hg, hn⟩ := and_e (Cond.before_iff.mp (show (Jvm.Cond.and given_1 narrow_1).before args s = true from hpre))
  obtain ⟨j1, j2⟩ := and_e hg
  obtain ⟨j3, j4⟩ := and_e hn
  obtain ⟨j5, j6⟩ := and_e j4
  obtain ⟨j7, j8⟩ := and_e j6
  obtain ⟨j9, j10⟩ := and_e j8
  obtain ⟨j11, j12⟩ := and_e j10
  obtain ⟨w0, rfl⟩ : ∃ w0 : Value, args = #[w0] := by
    have hs : args.size = 1 := by simpa [Cond.value, given_1] using j1
    obtain ⟨L⟩ := args
    match L, hs with
    | [w0], _ => exact ⟨w0, rfl⟩
  have hw := fun d (hd : d ∈ tables_1) => atoms_spec (ws := Jvm.Cond.code x code maxLocals ret :: tables_1) hat d (List.mem_cons_of_mem _ hd)
  have hfit : Fit s := fun {y c} hc i hi => by
    obtain ⟨ha, rfl⟩ := Array.getElem?_eq_some_iff.mp hc
    have q := List.all_eq_true.mp ((Array.all_eq_true_iff_forall_mem.mp hF) _ (Array.getElem_mem ha)) i (List.mem_range.mpr hi)
    simpa [Array.getElem?_eq_getElem hi] using q
  obtain ⟨i0, ei0⟩ := is_v j2
  obtain rfl : w0 = (.int i0) := Option.some.inj ei0
  obtain ⟨w_TRADING, ev_w_TRADING⟩ := exa_v j3
  have S_TRADING := Sta.start ev_w_TRADING (Or.inr ⟨(hwi hw 2 rfl), (hwi hw 3 rfl)⟩)
  have E_w_TRADING := Exa.start ev_w_TRADING j3
  obtain ⟨w_CALENDAR, ev_w_CALENDAR⟩ := exa_v j5
  have S_CALENDAR := Sta.start ev_w_CALENDAR (Or.inr ⟨(hwi hw 2 rfl), (hwi hw 10 rfl)⟩)
  have E_w_CALENDAR := Exa.start ev_w_CALENDAR j5
  obtain ⟨w_WORKING, ev_w_WORKING⟩ := exa_v j11
  have S_WORKING := Sta.start ev_w_WORKING (Or.inr ⟨(hwi hw 2 rfl), (hwi hw 13 rfl)⟩)
  have E_w_WORKING := Exa.start ev_w_WORKING j11
  have F_w_TRADING_ordinal := own_fi ev_w_TRADING j7
  have F_w_CALENDAR_ordinal := own_fi ev_w_CALENDAR j9
  have F_w_WORKING_ordinal := own_fi ev_w_WORKING j12
  have hne0 : ¬ (w_TRADING = w_CALENDAR) := Fld.ne F_w_TRADING_ordinal F_w_CALENDAR_ordinal (by decide)
  have hne1 : ¬ (w_WORKING = w_CALENDAR) := Fld.ne F_w_WORKING_ordinal F_w_CALENDAR_ordinal (by decide)
  have key : MetFree l x (head1 (Jvm.Cond.code x code maxLocals ret :: tables_1) room_1) (fun a U => a = #[(.int i0)] ∧ s.Warmed39 U.vm ∧ U.heap = s.heap) (fun _ _ _ _ _ => True) (fun _ U o U' => ∃ v L, o = .returned v ∧ Q_law s.heap.size v L ∧ FrameEnd U o U' L room_1.cells room_1.slots) := by
    rcases own_rem i0 with hk | hk | hk
    · exact rm_law_0 l s _ hw tables_1 i0 w_TRADING w_CALENDAR s.heap s.heap.size (Nat.le_refl _) S_TRADING (Old.start s) E_w_TRADING S_CALENDAR hne0 hk
    · exact rm_law_1 l s _ hw tables_1 i0 w_WORKING w_CALENDAR s.heap s.heap.size (Nat.le_refl _) S_WORKING (Old.start s) E_w_WORKING S_CALENDAR hne1 hk
    · exact rm_law_2 l s _ hw tables_1 i0 w_CALENDAR s.heap s.heap.size (Nat.le_refl _) S_CALENDAR (Old.start s) E_w_CALENDAR hk
  obtain ⟨n, o, h1, h2, h3, _, L, rfl, ⟨rfl, N⟩, hq⟩ := key p e ha hc hk s m _ below hf ((Spec.applies_iff_loose hf).mp happ).1 ⟨rfl, State.Warmed39.refl s, rfl⟩ trivial
  refine ⟨n, _, h1, h2, h3, hpost _ _ _ _ _ _ ⟨Cond.after_iff.mpr rfl, Cond.after_iff.mpr (eq_i res_at (Term.int_eval (1)) rfl), trivial⟩ ⟨hq.1, hq.2.1, (hq.2.2.sift fun y hy => Or.inr (N y hy)).mono (by decide) (by decide)⟩⟩
theorem main_1_1 : Claimed_1_1 := comes_1 fun _ _ _ _ _ _ h hF => ⟨h.1, hF⟩
theorem main_1_2 : Claimed_1_2 := comes_1 fun _ _ _ _ _ _ h hF => ⟨h.2.1, hF⟩
end Jvm.Pilot.@@N@@
namespace Jvm.Pilot.@@N@@
open Jvm Jvm.ClassFile Sem Op Lib Jvm.Free Jvm.Stand Jvm.Pilot.@@N@@.Jvm.D
/-! MADE BY PROGRAM (witnessworld.py) out of the Statement's table words and the real class files: 10 classes; the members and pool entries that the words name. The judged class is class 1, her method 1. -/
namespace start1
open Jvm.ClassFile
def u (s : String) : CpInfo := .utf8 (stringToUtf16 s)
/-- a pool by its gaps: so many unusable entries, then the entry; so many at the end -/
def gap : Nat → List CpInfo → List CpInfo
  | 0, r => r
  | n + 1, r => .unusable :: gap n r
def poolList (es : List (Nat × CpInfo)) (last : Nat) : List CpInfo := es.foldr (fun e r => gap e.1 (e.2 :: r)) (gap last [])
def pool (es : List (Nat × CpInfo)) (last : Nat) : Array CpInfo := ⟨poolList es last⟩
def fileOf (pool : Array CpInfo) (this : Nat) (attrs : Array Attribute := #[]) (ms : Array MethodInfo := #[]) (fl : Nat := 33) (sup : Nat := 0) (ifs : Array Nat := #[]) (fds : Array FieldInfo := #[]) : ClassFile where
  minorVersion := 0
  majorVersion := 65
  constantPool := pool
  accessFlags := fl
  thisClass := this
  superClass := sup
  interfaces := ifs
  fields := fds
  methods := ms
  attributes := attrs
def plain (name : String) (sup : Option ClassId) : Class where
  name := name
  kind := .ordinary
  loader := none
  accessFlags := 33
  super := sup
  interfaces := #[]
  cf := none
  fields := #[]
  methods := #[]
  instanceTypes := #[]
  staticTypes := #[]
  resolved := #[]
  callSites := []
  init := .initialized
  statics := none
  mirror := none

def pool0 : Array CpInfo := pool [(5, u "<init>"), (0, u "()V"), (1, .class_ 10), (1, u "java/lang/Object")] 113

def k0m0 : Method := { name := "<init>", desc := "()V", sig := { parameters := [], returnType := none }, accessFlags := 1, code := none }
/-- java/lang/Object -/
def k0 : Class := { plain "java/lang/Object" none with
  accessFlags := 33
  interfaces := #[]
  cf := some (fileOf pool0 8 #[] #[{ accessFlags := 1, nameIndex := 5, descriptorIndex := 6, attributes := #[] }] 33 0 #[] #[])
  fields := #[]
  methods := #[k0m0]
  instanceTypes := #[]
  staticTypes := #[]
  resolved := Array.replicate 124 none
  statics := none }

def pool1 : Array CpInfo := pool [(2, .class_ 4), (1, u "java/lang/Object"), (0, u "<init>"), (0, u "()V"), (0, .integer 2147483647), (0, .fieldref 9 10), (0, .class_ 11), (0, .nameAndType 12 13), (0, u "com/example/cangdan/cangdan/model/DayKind"), (0, u "TRADING"), (0, u "Lcom/example/cangdan/cangdan/model/DayKind;"), (0, .fieldref 9 15), (0, .nameAndType 16 13), (0, u "WORKING"), (0, .fieldref 9 18), (0, .nameAndType 19 13), (0, u "CALENDAR"), (0, .methodref 9 21), (0, .nameAndType 22 23), (0, u "needsSchedule"), (0, u "()Z"), (0, .class_ 25), (0, u "com/example/cangdan/cangdan/model/DayKindNeedsSchedulePinLaw"), (2, u "law"), (0, u "(I)Z")] 3

def k1m0 : Method := { name := "<init>", desc := "()V", sig := { parameters := [], returnType := none }, accessFlags := 2, code := none }
def k1c1 : Code := { maxStack := 2, maxLocals := 4, code := code, exceptionTable := #[], attributes := #[] }
def k1m1 : Method := { name := "law", desc := "(I)Z", sig := { parameters := [.int], returnType := some .boolean }, accessFlags := 9, code := some k1c1 }
/-- com/example/cangdan/cangdan/model/DayKindNeedsSchedulePinLaw -/
def k1 : Class := { plain "com/example/cangdan/cangdan/model/DayKindNeedsSchedulePinLaw" (some 0) with
  accessFlags := 49
  interfaces := #[]
  cf := some (fileOf pool1 24 #[] #[{ accessFlags := 2, nameIndex := 5, descriptorIndex := 6, attributes := #[] }, { accessFlags := 9, nameIndex := 28, descriptorIndex := 29, attributes := #[] }] 49 2 #[] #[])
  fields := #[]
  methods := #[k1m0, k1m1]
  instanceTypes := #[]
  staticTypes := #[]
  resolved := Array.replicate 33 none
  statics := none }

def pool2 : Array CpInfo := pool [(1, .class_ 2), (0, u "java/lang/constant/Constable"), (0, .class_ 4), (0, u "java/lang/Object")] 6

/-- java/lang/constant/Constable -/
def k2 : Class := { plain "java/lang/constant/Constable" (some 0) with
  accessFlags := 1537
  interfaces := #[]
  cf := some (fileOf pool2 1 #[] #[] 1537 3 #[] #[])
  fields := #[]
  methods := #[]
  instanceTypes := #[]
  staticTypes := #[]
  resolved := Array.replicate 11 none
  statics := none }

def pool3 : Array CpInfo := pool [(1, .class_ 2), (0, u "java/lang/Comparable"), (0, .class_ 4), (0, u "java/lang/Object")] 7

/-- java/lang/Comparable -/
def k3 : Class := { plain "java/lang/Comparable" (some 0) with
  accessFlags := 1537
  interfaces := #[]
  cf := some (fileOf pool3 1 #[] #[] 1537 3 #[] #[])
  fields := #[]
  methods := #[]
  instanceTypes := #[]
  staticTypes := #[]
  resolved := Array.replicate 12 none
  statics := none }

def pool4 : Array CpInfo := pool [(1, .class_ 2), (0, u "java/io/Serializable"), (0, .class_ 4), (0, u "java/lang/Object")] 2

/-- java/io/Serializable -/
def k4 : Class := { plain "java/io/Serializable" (some 0) with
  accessFlags := 1537
  interfaces := #[]
  cf := some (fileOf pool4 1 #[] #[] 1537 3 #[] #[])
  fields := #[]
  methods := #[]
  instanceTypes := #[]
  staticTypes := #[]
  resolved := Array.replicate 7 none
  statics := none }

def pool5 : Array CpInfo := pool [(2, .class_ 4), (1, u "java/lang/Enum"), (0, u "name"), (0, u "Ljava/lang/String;"), (2, u "ordinal"), (0, u "I"), (1, .class_ 14), (1, u "java/lang/Object"), (4, u "hash"), (86, .class_ 108), (1, u "java/lang/Enum$EnumDesc"), (2, .class_ 112), (0, u "java/lang/constant/Constable"), (0, .class_ 114), (0, u "java/lang/Comparable"), (0, .class_ 116), (0, u "java/io/Serializable")] 87

/-- java/lang/Enum -/
def k5 : Class := { plain "java/lang/Enum" (some 0) with
  accessFlags := 1057
  interfaces := #[2, 3, 4]
  cf := some (fileOf pool5 2 #[.nestMembers #[106]] #[] 1057 12 #[111, 113, 115] #[{ accessFlags := 18, nameIndex := 5, descriptorIndex := 6, attributes := #[] }, { accessFlags := 18, nameIndex := 9, descriptorIndex := 10, attributes := #[] }, { accessFlags := 2, nameIndex := 19, descriptorIndex := 10, attributes := #[] }])
  fields := #[{ name := "name", type := (.object "java/lang/String"), accessFlags := 18, slot := 0, constantValue := 0 }, { name := "ordinal", type := .int, accessFlags := 18, slot := 1, constantValue := 0 }, { name := "hash", type := .int, accessFlags := 2, slot := 2, constantValue := 0 }]
  methods := #[]
  instanceTypes := #[(.object "java/lang/String"), .int, .int]
  staticTypes := #[]
  resolved := Array.replicate 204 none
  statics := none }

def pool6 : Array CpInfo := pool [(1, .class_ 2), (0, u "com/example/cangdan/cangdan/model/DayKind"), (2, u "TRADING"), (0, u "Lcom/example/cangdan/cangdan/model/DayKind;"), (2, u "WORKING"), (0, .fieldref 1 11), (0, .nameAndType 12 6), (0, u "CALENDAR"), (2, u "$VALUES"), (0, u "[Lcom/example/cangdan/cangdan/model/DayKind;"), (6, .class_ 25), (1, u "java/lang/Enum"), (45, u "needsSchedule"), (0, u "()Z")] 24

def k6c0 : Code := { maxStack := 2, maxLocals := 1, code := prog_49_method_6_code, exceptionTable := #[], attributes := #[] }
def k6m0 : Method := { name := "needsSchedule", desc := "()Z", sig := { parameters := [], returnType := some .boolean }, accessFlags := 0, code := some k6c0 }
/-- com/example/cangdan/cangdan/model/DayKind -/
def k6 : Class := { plain "com/example/cangdan/cangdan/model/DayKind" (some 5) with
  accessFlags := 16433
  interfaces := #[]
  cf := some (fileOf pool6 1 #[] #[{ accessFlags := 0, nameIndex := 71, descriptorIndex := 72, attributes := #[] }] 16433 23 #[] #[{ accessFlags := 16409, nameIndex := 5, descriptorIndex := 6, attributes := #[] }, { accessFlags := 16409, nameIndex := 9, descriptorIndex := 6, attributes := #[] }, { accessFlags := 16409, nameIndex := 12, descriptorIndex := 6, attributes := #[] }, { accessFlags := 4122, nameIndex := 15, descriptorIndex := 16, attributes := #[] }])
  fields := #[{ name := "TRADING", type := (.object "com/example/cangdan/cangdan/model/DayKind"), accessFlags := 16409, slot := 0, constantValue := 0 }, { name := "WORKING", type := (.object "com/example/cangdan/cangdan/model/DayKind"), accessFlags := 16409, slot := 1, constantValue := 0 }, { name := "CALENDAR", type := (.object "com/example/cangdan/cangdan/model/DayKind"), accessFlags := 16409, slot := 2, constantValue := 0 }, { name := "$VALUES", type := (.array (.object "com/example/cangdan/cangdan/model/DayKind")), accessFlags := 4122, slot := 3, constantValue := 0 }]
  methods := #[k6m0]
  instanceTypes := #[(.object "java/lang/String"), .int, .int]
  staticTypes := #[(.object "com/example/cangdan/cangdan/model/DayKind"), (.object "com/example/cangdan/cangdan/model/DayKind"), (.object "com/example/cangdan/cangdan/model/DayKind"), (.array (.object "com/example/cangdan/cangdan/model/DayKind"))]
  resolved := Array.replicate 97 none
  statics := some 0 }

def pool7 : Array CpInfo := pool [(1, u "java/lang/Cloneable"), (0, .class_ 1), (0, u "java/lang/Object"), (0, .class_ 3)] 3

/-- java/lang/Cloneable -/
def k7 : Class := { plain "java/lang/Cloneable" (some 0) with
  accessFlags := 1537
  interfaces := #[]
  cf := some (fileOf pool7 2 #[] #[] 1537 4 #[] #[])
  fields := #[]
  methods := #[]
  instanceTypes := #[]
  staticTypes := #[]
  resolved := Array.replicate 8 none
  statics := none }

/-- the primitive byte -/
def k8 : Class := { plain "byte" none with kind := .primitive 'B', accessFlags := 0x411 }
/-- [B -/
def k9 : Class := { plain "[B" (some 0) with kind := .array 8 .byte, interfaces := #[7, 4], accessFlags := 1041 }

def heap : Heap := #[{ cls := 6, slots := #[.ref 1, .ref 3, .ref 2, .null], vm := .statics 6 },
  { cls := 6, slots := #[.null, .int 0, .int 0], vm := .none },
  { cls := 6, slots := #[.null, .int 2, .int 0], vm := .none },
  { cls := 6, slots := #[.null, .int 1, .int 0], vm := .none }]
def classes : Array Class := #[k0, k1, k2, k3, k4, k5, k6, k7, k8, k9]
def interned : List (Array UInt16 × Addr) := []
def slotsUsed : Nat := 13
def theMethod : MethodId := ⟨1, 1⟩
def args0 : Array Value := #[.int 5]
def aboutOver (below : List Frame) : State where
  vm := { classes := classes, interned := interned.toArray }
  heap := heap
  slotsUsed := slotsUsed
  threads := #[{ frames := .invoking theMethod args0 :: below }]
def below0 : List Frame := [.native { method := ⟨0, 0⟩, args := #[] }]
def about1 : State := aboutOver below0
def p0 : Program := .bare "" "" ""
def e0 : Env := launch0.env 0 0 0
theorem w_frames : about1.frames = Frame.invoking theMethod args0 :: below0 := rfl
set_option maxRecDepth 65536 in
theorem w_args : argsFit about1.vm theMethod args0 = true := by decide +kernel
set_option maxRecDepth 65536 in
theorem w_heap : heapFits about1 = true := by decide +kernel
set_option maxRecDepth 65536 in
theorem w_runnable : about1.curStatus? = some .runnable := by decide +kernel
set_option maxRecDepth 65536 in
theorem w_alone : about1.alone = true := by decide +kernel
set_option maxRecDepth 65536 in
theorem w_named : about1.methodNamed? x = some theMethod := by decide +kernel
set_option maxRecDepth 65536 in
theorem w_hears : about1.hears theMethod below0 = true := by decide +kernel
set_option maxRecDepth 65536 in
theorem w_ripe : about1.ripe theMethod args0 below0 = true := by decide +kernel
theorem w_running : about1.status = .running := rfl
set_option maxRecDepth 65536 in
theorem w_room : about1.hasRoom e0.platform room_1 = true :=
  launch0.hasRoom_least _ room_1 (by decide +kernel) (by decide +kernel) (by decide +kernel) (by decide +kernel) (by decide +kernel) (by decide +kernel)
theorem allAtoms_all (ts : List Jvm.Cond) (a : Array Jvm.Value) (st : Jvm.State) : (allAtoms ts).before a st = ts.all (fun c => c.before a st) := by
  induction ts with
  | nil => rfl
  | cons c t ih =>
    show (Jvm.Cond.and c (allAtoms t)).before a st = _
    rw [Jvm.Cond.before_and, ih, List.all_cons]
def words1 : List Jvm.Cond := Jvm.Cond.code x code maxLocals ret :: tables_1
/-- a 'code' word, met by the world's own term for the bytes: nothing is compared byte by byte -/
theorem code_word {y : MethodName} {bytes : ByteArray} {mx : Nat} {rt : Option FieldType} {a : Array Value} {s : State} {m : MethodId} {meth : Method} {c : Code} (h1 : s.methodNamed? y = some m) (h2 : s.vm.method? m = some meth) (h3 : meth.code = some c) (h4 : c.code = bytes)
    (h5 : (c.maxLocals == mx && c.exceptionTable.isEmpty && decide (c.maxStack ≤ mostOperands) && decide (meth.sig.returnType = rt) && !meth.locks && decide (parseMethodDescriptor y.desc = some meth.sig)) = true) : (Jvm.Cond.code y bytes mx rt).before a s = true := by
  simp only [Bool.and_eq_true, beq_iff_eq, Bool.not_eq_true', decide_eq_true_eq] at h5
  obtain ⟨⟨⟨⟨⟨g1, g2⟩, g3⟩, g4⟩, g5⟩, g6⟩ := h5
  simp [Cond.before, Cond.holds, Cond.value, h1, h2, h3, h4, g1, g2, g3, g4, g5, g6]
def isCode : Jvm.Cond → Bool
  | .code _ _ _ _ => true
  | _ => false
theorem all_split {L : List Jvm.Cond} {P : Jvm.Cond → Bool} (h1 : L.all (fun c => isCode c || P c) = true) (h2 : ∀ c ∈ L.filter isCode, P c = true) : L.all P = true := by
  refine List.all_eq_true.mpr fun c hc => ?_
  have h := List.all_eq_true.mp h1 c hc
  rcases Bool.eq_false_or_eq_true (isCode c) with hi | hi
  · exact h2 c (List.mem_filter.mpr ⟨hc, hi⟩)
  · simpa [hi] using h
set_option maxRecDepth 65536 in
theorem w_c0 : (Jvm.Cond.code x code maxLocals ret).before args0 about1 = true := code_word (m := ⟨1, 1⟩) (meth := k1m1) (c := k1c1) (by decide +kernel) rfl rfl rfl (by decide +kernel)
set_option maxRecDepth 65536 in
theorem w_c1 : (Jvm.Cond.code ({ cls := "com/example/cangdan/cangdan/model/DayKind", name := "needsSchedule", desc := "()Z" } : Jvm.MethodName) prog_49_method_6_code (1 : Nat) (Option.some Jvm.ClassFile.FieldType.boolean)).before args0 about1 = true := code_word (m := ⟨6, 0⟩) (meth := k6m0) (c := k6c0) (by decide +kernel) rfl rfl rfl (by decide +kernel)
def codes1 : List Jvm.Cond := [Jvm.Cond.code x code maxLocals ret, Jvm.Cond.code ({ cls := "com/example/cangdan/cangdan/model/DayKind", name := "needsSchedule", desc := "()Z" } : Jvm.MethodName) prog_49_method_6_code (1 : Nat) (Option.some Jvm.ClassFile.FieldType.boolean)]
set_option maxRecDepth 65536 in
theorem codes_eq : words1.filter isCode = codes1 := rfl
theorem w_codes : ∀ c ∈ words1.filter isCode, c.before args0 about1 = true := by
  rw [codes_eq]
  intro c hc
  simp only [codes1, List.mem_cons, List.not_mem_nil, or_false] at hc
  rcases hc with rfl | rfl
  · exact w_c0
  · exact w_c1
set_option maxRecDepth 65536 in
theorem w_t1 : words1.all (fun c => isCode c || c.before args0 about1) = true := by decide +kernel
theorem w_tables : (allAtoms (Jvm.Cond.code x code maxLocals ret :: tables_1)).before args0 about1 = true := by
  rw [allAtoms_all]
  show words1.all (fun c => c.before args0 about1) = true
  refine all_split ?_ w_codes
  rw [w_t1]
set_option maxRecDepth 65536 in
theorem w_case : (Jvm.Cond.and given_1 narrow_1).before args0 about1 = true := by decide +kernel
theorem w_applies : (headSpec (Jvm.Cond.code x code maxLocals ret :: tables_1) room_1).applies x e0.platform about1 = true :=
  (Spec.applies_iff w_frames).mpr ⟨w_running, w_runnable, w_alone, w_named, w_hears, w_ripe, w_room, w_tables⟩
theorem atStart : AtStart classFile x code maxLocals ret World_1 tables_1 room_1 Calls_1 rest_1 Pre_1 launch0 p0 e0 about1 theMethod args0 below0 :=
  ⟨lists_1, trivial, launch0.admits_env _ _ _, launch0.least_env, fairChoices_fair.cas, fairChoices_fair.clock, w_frames, w_args, w_heap, w_applies, trivial, trivial, w_case⟩
end start1
theorem witness_1 : WitnessClaimed_1 := ⟨start1.p0, start1.e0, start1.about1, start1.theMethod, start1.args0, start1.below0, start1.atStart⟩
end Jvm.Pilot.@@N@@
