import JvmDerived
import JvmDerived.Pilot.@@N@@Statement
import JvmDerived.Pilot.@@N@@Code
set_option linter.unusedVariables false
set_option linter.unusedSimpArgs false
namespace Jvm.RoadKit
open Sem ClassFile Op Lib Jvm.Stand Jvm.Free Jvm.LawKit
section New
variable {p : Program} {l : Launch} {e : Env} {R : Room} {s : State} {m : MethodId} {args : Array Value} {below : List Frame} {meth : Method} {c : Code} {T : State} {locs : List Loc} {cells slots : Nat}
theorem retI (X : Stand p l e R s m args below meth c T locs cells slots) (hx : p.tables.exec = Jvm.exec) {pc : Nat} {Ls : Array Slot} {z : Int32} {rest : List Value} (hret : meth.sig.returnType = some .int) (hd : decode c.code pc = .ok (.ireturn, 1)) {fs : List Frame}
    (hl : ∀ (f : JFrame) (acts : List Action), f.method = m → f.locked = none → f.entered = [] → (doReturn e (T.setTop f) acts (some (.int z))).1 = T.setFrames fs) : Steps p.tables e below (T.setTop (mkF m pc Ls (.int z :: rest))) (T.setFrames fs) := by
  have hm' : T.vm.method? m = some meth := X.method'
  have hn : narrow .int (.int z) = .int z := rfl
  show Steps p.tables e below (T.setTop { method := m, pc := pc, locals := Ls, stack := _ :: rest, locked := none }) _
  jvm_step X.here [X.here.top, hx, hd, hm', hret, hn]
  first | (intro acts; rw [hl _ acts rfl rfl rfl]) | rw [hl _ _ rfl rfl rfl]
  exact Steps.refl _
end New
end Jvm.RoadKit
namespace Jvm.Pilot.@@N@@
open Jvm Jvm.ClassFile Sem Op Lib Jvm.Free Jvm.Stand Jvm.LawKit Jvm.RoadKit Bundle Jvm.Pilot.@@N@@.Jvm.D
abbrev St (p : Program) (e : Env) (below : List Frame) (T : State) (g : JFrame) (t : State) : Prop := Steps p.tables e below (T.setTop g) t
theorem hwi {Z : State} {a0 : Array Value} (hw : ∀ d ∈ tables_1, d.before a0 Z = true) (i : Nat) {d : Jvm.Cond} (h : tables_1[i]? = some d) : d.before a0 Z = true := hw d (List.mem_of_getElem? h)
theorem own_w0 {n : Nat} : n ≤ n := Nat.le_refl n
theorem d2_0 : decode jdk_37_method_2_code 0 = .ok (.aload_n 0, 1) := by decide +kernel
theorem d2_1 : decode jdk_37_method_2_code 1 = .ok (.getfield 7, 3) := by decide +kernel
theorem d2_4 : decode jdk_37_method_2_code 4 = .ok (.ireturn, 1) := by decide +kernel
theorem pn_2 : plainName "java/lang/Enum" = true := by first | (simp [plainName, overriddenIn]; done) | decide +kernel
theorem ef_2_R (m : MethodId) (x0 : Addr) : entryFrame m #[(.ref x0)] 1 = mkF m 0 #[.val (.ref x0)] [] := by first | (simp [entryFrame, mkF, argsToLocals, Value.category]; done) | rfl
def Q_ordinal (Z : State) (a1 : Addr) (v_a1_ordinal : Int32) (h0 : Heap) (n0 : Nat) (v : Option Value) (h : Heap) (L : List Loc) : Prop := v = some (.int v_a1_ordinal) ∧ Fr n0 L ∧ h = h0
set_option maxRecDepth 65536 in
set_option maxHeartbeats 40000000 in
theorem rm_ordinal (l : Launch) (Z : State) (a0 : Array Value) (hw : ∀ d ∈ tables_1, d.before a0 Z = true) (ws : List Jvm.Cond) (a1 : Addr) (v_a1_ordinal : Int32) (h0 : Heap) (n0 : Nat) (Z0 : n0 ≤ h0.size) (F_a1_ordinal : Fld Z h0 a1 "java/lang/Enum" "ordinal" "I" (.int v_a1_ordinal)) :
    MetFree l (⟨"java/lang/Enum", "ordinal", "()I"⟩ : MethodName) (head1 (Jvm.Cond.code (⟨"java/lang/Enum", "ordinal", "()I"⟩ : MethodName) jdk_37_method_2_code 1 (some .int) :: ws) ({ frames := 0, cells := 0, slots := 0, locals := 0 } : Room)) (fun a U => a = #[(.ref a1)] ∧ Z.Warmed39 U.vm ∧ U.heap = h0) (fun _ _ _ _ _ => True) (fun _ U o U' => ∃ v L, o = .returned v ∧ Q_ordinal Z a1 v_a1_ordinal h0 n0 v U'.heap L ∧ FrameEnd U o U' L ({ frames := 0, cells := 0, slots := 0, locals := 0 } : Room).cells ({ frames := 0, cells := 0, slots := 0, locals := 0 } : Room).slots) := by
  refine MetFree.of_bodySF (plainFor_of_name pn_2) hisR ?_
  intro p e s m args below meth c s₁ Bd hml0 hP hK
  obtain ⟨rfl, hZ, hh⟩ := hP
  have hx := Bd.exec
  have hby := Bd.bytes
  have hml : c.maxLocals = 1 := hml0
  have hown : s.vm.findClass "java/lang/Enum" = some m.cls := findClass_of_methodNamed Bd.named
  have hnm := (name_of_methodNamed Bd.named Bd.method).1
  have X0 : Stand p l e ({ frames := 0, cells := 0, slots := 0, locals := 0 } : Room) s m #[(.ref a1)] below meth c s₁ [] 0 0 := Stand.of_body Bd
  have e0 : s₁.heap = h0 := by rw [← hh, Bd.state]; rfl
  have N0 := Fr.nil n0
  have pre0 : ∀ t, Steps p.tables e below (s₁.setTop (mkF m 0 #[.val (.ref a1)] [])) t → Steps p.tables e below (s₁.setTop (entryFrame m #[(.ref a1)] 1)) t := fun t k => castTop (ef_2_R m a1) k
  obtain ⟨T1, X1, e1, st1⟩ := getF X0 hx hZ hown (host := "") (Or.inl (hwi hw 15 rfl)) Via.refl e0 F_a1_ordinal (g := (mkF m 1 #[.val (.ref a1)] [(.ref a1)])) rfl rfl (hb hby d2_1)
  obtain ⟨fs, hr, hrun, hended, hW, hsame⟩ := X1.leave (v := some (.int v_a1_ordinal)) (fun h => by rw [Bd.returns] at h; cases h)
  refine ⟨_, _, pre0 _ ?_, hrun, hended, _, _, rfl, ?_, ⟨_, rfl⟩, hW, hsame.mono (by decide) (by decide)⟩
  · show St p e below s₁ (mkF m 0 #[.val (.ref a1)] []) _
    refine XS.aloadN X0.here hx rfl (hb hby d2_0) rfl rfl ?_
    show St p e below s₁ (mkF m 1 #[.val (.ref a1)] [(.ref a1)]) _
    refine st1 _ ?_
    show St p e below T1 (mkF m 4 #[.val (.ref a1)] [(.int v_a1_ordinal)]) _
    exact retI X1 hx Bd.returns (hb hby d2_4) hr
  · show Q_ordinal Z a1 v_a1_ordinal h0 n0 _ T1.heap _
    rw [e1]
    exact ⟨rfl, N0, rfl⟩
theorem pd_I_154 : parseMethodDescriptor "()I" = some ⟨[], some .int⟩ := by decide +kernel
theorem d1_0 : decode prog_30_method_5_code 0 = .ok (.aload_n 0, 1) := by decide +kernel
theorem d1_1 : decode prog_30_method_5_code 1 = .ok (.invokevirtual 45, 3) := by decide +kernel
theorem d1_4 : decode prog_30_method_5_code 4 = .ok (.tableswitch 118 0 5 #[40, 53, 66, 79, 92, 105], 40) := by decide +kernel
theorem d1_44 : decode prog_30_method_5_code 44 = .ok (.iload_n 1, 1) := by decide +kernel
theorem d1_45 : decode prog_30_method_5_code 45 = .ok (.ifCond .ne 7, 3) := by decide +kernel
theorem d1_52 : decode prog_30_method_5_code 52 = .ok (.iconst 0, 1) := by decide +kernel
theorem d1_53 : decode prog_30_method_5_code 53 = .ok (.istore_n 2, 1) := by decide +kernel
theorem d1_54 : decode prog_30_method_5_code 54 = .ok (.goto 77, 3) := by decide +kernel
theorem d1_131 : decode prog_30_method_5_code 131 = .ok (.iload_n 2, 1) := by decide +kernel
theorem d1_132 : decode prog_30_method_5_code 132 = .ok (.ireturn, 1) := by decide +kernel
theorem pn_1 : plainName "com/example/sunder/sunder/Operator" = true := by first | (simp [plainName, overriddenIn]; done) | decide +kernel
theorem ef_1_RI (m : MethodId) (x0 : Addr) (x1 : Int32) : entryFrame m #[(.ref x0), (.int x1)] 3 = mkF m 0 #[.val (.ref x0), .val (.int x1), .unset] [] := by first | (simp [entryFrame, mkF, argsToLocals, Value.category]; done) | rfl
def Q_holds_0_neg (Z : State) (a1 : Addr) (p2 : Int32) (h0 : Heap) (n0 : Nat) (v : Option Value) (h : Heap) (L : List Loc) : Prop := v = some (.int 0) ∧ Fr n0 L ∧ h = h0
set_option maxRecDepth 65536 in
set_option maxHeartbeats 40000000 in
theorem rm_holds_0_neg (l : Launch) (Z : State) (a0 : Array Value) (hw : ∀ d ∈ tables_1, d.before a0 Z = true) (ws : List Jvm.Cond) (a1 : Addr) (p2 : Int32) (h0 : Heap) (n0 : Nat) (Z0 : n0 ≤ h0.size) (F_a1_ordinal : Fld Z h0 a1 "java/lang/Enum" "ordinal" "I" (.int 0)) (hlt : p2 < (0 : Int32)) (heq : ¬ (p2 = (0 : Int32))) (hgt : ¬ ((0 : Int32) < p2)) (E_a1 : Exa Z h0 a1 "com/example/sunder/sunder/Operator") :
    MetFree l (⟨"com/example/sunder/sunder/Operator", "holds", "(I)Z"⟩ : MethodName) (head1 (Jvm.Cond.code (⟨"com/example/sunder/sunder/Operator", "holds", "(I)Z"⟩ : MethodName) prog_30_method_5_code 3 (some .boolean) :: ws) ({ frames := 1, cells := 0, slots := 0, locals := 12 } : Room)) (fun a U => a = #[(.ref a1), (.int p2)] ∧ Z.Warmed39 U.vm ∧ U.heap = h0) (fun _ _ _ _ _ => True) (fun _ U o U' => ∃ v L, o = .returned v ∧ Q_holds_0_neg Z a1 p2 h0 n0 v U'.heap L ∧ FrameEnd U o U' L ({ frames := 1, cells := 0, slots := 0, locals := 12 } : Room).cells ({ frames := 1, cells := 0, slots := 0, locals := 12 } : Room).slots) := by
  refine MetFree.of_bodySF (plainFor_of_name pn_1) hisR ?_
  intro p e s m args below meth c s₁ Bd hml0 hP hK
  obtain ⟨rfl, hZ, hh⟩ := hP
  have hx := Bd.exec
  have hby := Bd.bytes
  have hml : c.maxLocals = 3 := hml0
  have hown : s.vm.findClass "com/example/sunder/sunder/Operator" = some m.cls := findClass_of_methodNamed Bd.named
  have hnm := (name_of_methodNamed Bd.named Bd.method).1
  have X0 : Stand p l e ({ frames := 1, cells := 0, slots := 0, locals := 12 } : Room) s m #[(.ref a1), (.int p2)] below meth c s₁ [] 0 0 := Stand.of_body Bd
  have e0 : s₁.heap = h0 := by rw [← hh, Bd.state]; rfl
  have N0 := Fr.nil n0
  have pre0 : ∀ t, Steps p.tables e below (s₁.setTop (mkF m 0 #[.val (.ref a1), .val (.int p2), .unset] [])) t → Steps p.tables e below (s₁.setTop (entryFrame m #[(.ref a1), (.int p2)] 3)) t := fun t k => castTop (ef_1_RI m a1 p2) k
  obtain ⟨cq1, kq1, q1a, q1b, q1c⟩ := isOf hZ e0 E_a1
  obtain ⟨_, _, ⟨T1, L1, k1, n1⟩, -, X1, ⟨Lc1, hQ1, l1, y1, z1⟩, st1⟩ := X0.virtualBackUp hx (owner := "java/lang/Enum") (x := (⟨"com/example/sunder/sunder/Operator", "ordinal", "()I"⟩ : MethodName)) (y := (⟨"java/lang/Enum", "ordinal", "()I"⟩ : MethodName)) hown (mvT hZ (hwi hw 8 rfl)) (mvT hZ (hwi hw 9 rfl)) (mvT hZ (hwi hw 10 rfl)) (by decide) (mvT hZ (hwi hw 12 rfl)) (mvT hZ (hwi hw 11 rfl)) (backOf (W := 0) (rm_ordinal l Z a0 hw [] a1 (0 : Int32) h0 n0 Z0 F_a1_ordinal) hZ (hwi hw 14 rfl) (hwi hw 13 rfl) (by decide) (by decide)) q1a q1c (g := (mkF m 1 #[.val (.ref a1), .val (.int p2), .unset] [(.ref a1)])) rfl (by rw [hml]; rfl) (Steps.refl _) (argsL := []) (rest := []) (lenOf pd_I_154 rfl) rfl (by show 2 * 0 + _ ≤ _; exact Nat.le_of_eq rfl) (hb hby d1_1) (fun _ _ => ⟨rfl, e0, (by decide : 0 + 0 ≤ _), (by decide : 0 + 0 ≤ _)⟩)
  dsimp only [Pt.U, Pt.locs, Pt.cells, Pt.slots] at X1 l1 y1 z1 st1 hQ1
  subst l1 y1 z1
  obtain ⟨rfl, N1q, e1⟩ := hQ1
  have N1 := Fr.app N0 N1q
  obtain ⟨fs, hr, hrun, hended, hW, hsame⟩ := X1.leave (v := some (.int 0)) (fun h => by rw [Bd.returns] at h; cases h)
  refine ⟨_, _, pre0 _ ?_, hrun, hended, _, _, rfl, ?_, ⟨_, rfl⟩, hW, hsame.mono (by decide) (by decide)⟩
  · show St p e below s₁ (mkF m 0 #[.val (.ref a1), .val (.int p2), .unset] []) _
    refine XS.aloadN X0.here hx rfl (hb hby d1_0) rfl rfl ?_
    show St p e below s₁ (mkF m 1 #[.val (.ref a1), .val (.int p2), .unset] [(.ref a1)]) _
    refine st1.trans ?_
    show St p e below T1 (mkF m 4 #[.val (.ref a1), .val (.int p2), .unset] [(.int 0)]) _
    refine XS.tswIn X1.here hx rfl (pc0 := 4) (pc' := 44) (o := 40) rfl (hb hby d1_4) rfl (by decide) (by decide) (by decide) (by decide) ?_
    show St p e below T1 (mkF m 44 #[.val (.ref a1), .val (.int p2), .unset] []) _
    refine XS.iloadN X1.here hx rfl (hb hby d1_44) rfl ?_
    show St p e below T1 (mkF m 45 #[.val (.ref a1), .val (.int p2), .unset] [(.int p2)]) _
    refine XS.ifYes X1.here hx rfl (pc0 := 45) (pc' := 52) rfl (hb hby d1_45) rfl ((if0 _ _).trans (feq heq).2) (by decide) (by decide) ?_
    show St p e below T1 (mkF m 52 #[.val (.ref a1), .val (.int p2), .unset] []) _
    refine XS.iconst X1.here hx rfl (hb hby d1_52) ?_
    show St p e below T1 (mkF m 53 #[.val (.ref a1), .val (.int p2), .unset] [(.int 0)]) _
    refine XS.istoreN X1.here hx rfl (hb hby d1_53) rfl (l' := #[.val (.ref a1), .val (.int p2), .val (.int 0)]) rfl ?_
    show St p e below T1 (mkF m 54 #[.val (.ref a1), .val (.int p2), .val (.int 0)] []) _
    refine XS.goto X1.here hx rfl (pc0 := 54) (pc' := 131) rfl (hb hby d1_54) (by decide) (by decide) ?_
    show St p e below T1 (mkF m 131 #[.val (.ref a1), .val (.int p2), .val (.int 0)] []) _
    refine XS.iloadN X1.here hx rfl (hb hby d1_131) rfl ?_
    show St p e below T1 (mkF m 132 #[.val (.ref a1), .val (.int p2), .val (.int 0)] [(.int 0)]) _
    exact retN X1 hx (t := .boolean) Bd.returns (by simp) (hb hby d1_132) hr
  · show Q_holds_0_neg Z a1 p2 h0 n0 _ T1.heap _
    rw [e1]
    exact ⟨rfl, N1, rfl⟩
theorem d1_48 : decode prog_30_method_5_code 48 = .ok (.iconst 1, 1) := by decide +kernel
theorem d1_49 : decode prog_30_method_5_code 49 = .ok (.goto 4, 3) := by decide +kernel
def Q_holds_0_zero (Z : State) (a1 : Addr) (p2 : Int32) (h0 : Heap) (n0 : Nat) (v : Option Value) (h : Heap) (L : List Loc) : Prop := v = some (.int 1) ∧ Fr n0 L ∧ h = h0
set_option maxRecDepth 65536 in
set_option maxHeartbeats 40000000 in
theorem rm_holds_0_zero (l : Launch) (Z : State) (a0 : Array Value) (hw : ∀ d ∈ tables_1, d.before a0 Z = true) (ws : List Jvm.Cond) (a1 : Addr) (p2 : Int32) (h0 : Heap) (n0 : Nat) (Z0 : n0 ≤ h0.size) (F_a1_ordinal : Fld Z h0 a1 "java/lang/Enum" "ordinal" "I" (.int 0)) (hlt : ¬ (p2 < (0 : Int32))) (heq : p2 = (0 : Int32)) (hgt : ¬ ((0 : Int32) < p2)) (E_a1 : Exa Z h0 a1 "com/example/sunder/sunder/Operator") :
    MetFree l (⟨"com/example/sunder/sunder/Operator", "holds", "(I)Z"⟩ : MethodName) (head1 (Jvm.Cond.code (⟨"com/example/sunder/sunder/Operator", "holds", "(I)Z"⟩ : MethodName) prog_30_method_5_code 3 (some .boolean) :: ws) ({ frames := 1, cells := 0, slots := 0, locals := 12 } : Room)) (fun a U => a = #[(.ref a1), (.int p2)] ∧ Z.Warmed39 U.vm ∧ U.heap = h0) (fun _ _ _ _ _ => True) (fun _ U o U' => ∃ v L, o = .returned v ∧ Q_holds_0_zero Z a1 p2 h0 n0 v U'.heap L ∧ FrameEnd U o U' L ({ frames := 1, cells := 0, slots := 0, locals := 12 } : Room).cells ({ frames := 1, cells := 0, slots := 0, locals := 12 } : Room).slots) := by
  refine MetFree.of_bodySF (plainFor_of_name pn_1) hisR ?_
  intro p e s m args below meth c s₁ Bd hml0 hP hK
  obtain ⟨rfl, hZ, hh⟩ := hP
  have hx := Bd.exec
  have hby := Bd.bytes
  have hml : c.maxLocals = 3 := hml0
  have hown : s.vm.findClass "com/example/sunder/sunder/Operator" = some m.cls := findClass_of_methodNamed Bd.named
  have hnm := (name_of_methodNamed Bd.named Bd.method).1
  have X0 : Stand p l e ({ frames := 1, cells := 0, slots := 0, locals := 12 } : Room) s m #[(.ref a1), (.int p2)] below meth c s₁ [] 0 0 := Stand.of_body Bd
  have e0 : s₁.heap = h0 := by rw [← hh, Bd.state]; rfl
  have N0 := Fr.nil n0
  have pre0 : ∀ t, Steps p.tables e below (s₁.setTop (mkF m 0 #[.val (.ref a1), .val (.int p2), .unset] [])) t → Steps p.tables e below (s₁.setTop (entryFrame m #[(.ref a1), (.int p2)] 3)) t := fun t k => castTop (ef_1_RI m a1 p2) k
  obtain ⟨cq1, kq1, q1a, q1b, q1c⟩ := isOf hZ e0 E_a1
  obtain ⟨_, _, ⟨T1, L1, k1, n1⟩, -, X1, ⟨Lc1, hQ1, l1, y1, z1⟩, st1⟩ := X0.virtualBackUp hx (owner := "java/lang/Enum") (x := (⟨"com/example/sunder/sunder/Operator", "ordinal", "()I"⟩ : MethodName)) (y := (⟨"java/lang/Enum", "ordinal", "()I"⟩ : MethodName)) hown (mvT hZ (hwi hw 8 rfl)) (mvT hZ (hwi hw 9 rfl)) (mvT hZ (hwi hw 10 rfl)) (by decide) (mvT hZ (hwi hw 12 rfl)) (mvT hZ (hwi hw 11 rfl)) (backOf (W := 0) (rm_ordinal l Z a0 hw [] a1 (0 : Int32) h0 n0 Z0 F_a1_ordinal) hZ (hwi hw 14 rfl) (hwi hw 13 rfl) (by decide) (by decide)) q1a q1c (g := (mkF m 1 #[.val (.ref a1), .val (.int p2), .unset] [(.ref a1)])) rfl (by rw [hml]; rfl) (Steps.refl _) (argsL := []) (rest := []) (lenOf pd_I_154 rfl) rfl (by show 2 * 0 + _ ≤ _; exact Nat.le_of_eq rfl) (hb hby d1_1) (fun _ _ => ⟨rfl, e0, (by decide : 0 + 0 ≤ _), (by decide : 0 + 0 ≤ _)⟩)
  dsimp only [Pt.U, Pt.locs, Pt.cells, Pt.slots] at X1 l1 y1 z1 st1 hQ1
  subst l1 y1 z1
  obtain ⟨rfl, N1q, e1⟩ := hQ1
  have N1 := Fr.app N0 N1q
  obtain ⟨fs, hr, hrun, hended, hW, hsame⟩ := X1.leave (v := some (.int 1)) (fun h => by rw [Bd.returns] at h; cases h)
  refine ⟨_, _, pre0 _ ?_, hrun, hended, _, _, rfl, ?_, ⟨_, rfl⟩, hW, hsame.mono (by decide) (by decide)⟩
  · show St p e below s₁ (mkF m 0 #[.val (.ref a1), .val (.int p2), .unset] []) _
    refine XS.aloadN X0.here hx rfl (hb hby d1_0) rfl rfl ?_
    show St p e below s₁ (mkF m 1 #[.val (.ref a1), .val (.int p2), .unset] [(.ref a1)]) _
    refine st1.trans ?_
    show St p e below T1 (mkF m 4 #[.val (.ref a1), .val (.int p2), .unset] [(.int 0)]) _
    refine XS.tswIn X1.here hx rfl (pc0 := 4) (pc' := 44) (o := 40) rfl (hb hby d1_4) rfl (by decide) (by decide) (by decide) (by decide) ?_
    show St p e below T1 (mkF m 44 #[.val (.ref a1), .val (.int p2), .unset] []) _
    refine XS.iloadN X1.here hx rfl (hb hby d1_44) rfl ?_
    show St p e below T1 (mkF m 45 #[.val (.ref a1), .val (.int p2), .unset] [(.int p2)]) _
    refine XS.ifNo X1.here hx rfl (hb hby d1_45) rfl ((if0 _ _).trans (teq heq).2) ?_
    show St p e below T1 (mkF m 48 #[.val (.ref a1), .val (.int p2), .unset] []) _
    refine XS.iconst X1.here hx rfl (hb hby d1_48) ?_
    show St p e below T1 (mkF m 49 #[.val (.ref a1), .val (.int p2), .unset] [(.int 1)]) _
    refine XS.goto X1.here hx rfl (pc0 := 49) (pc' := 53) rfl (hb hby d1_49) (by decide) (by decide) ?_
    show St p e below T1 (mkF m 53 #[.val (.ref a1), .val (.int p2), .unset] [(.int 1)]) _
    refine XS.istoreN X1.here hx rfl (hb hby d1_53) rfl (l' := #[.val (.ref a1), .val (.int p2), .val (.int 1)]) rfl ?_
    show St p e below T1 (mkF m 54 #[.val (.ref a1), .val (.int p2), .val (.int 1)] []) _
    refine XS.goto X1.here hx rfl (pc0 := 54) (pc' := 131) rfl (hb hby d1_54) (by decide) (by decide) ?_
    show St p e below T1 (mkF m 131 #[.val (.ref a1), .val (.int p2), .val (.int 1)] []) _
    refine XS.iloadN X1.here hx rfl (hb hby d1_131) rfl ?_
    show St p e below T1 (mkF m 132 #[.val (.ref a1), .val (.int p2), .val (.int 1)] [(.int 1)]) _
    exact retN X1 hx (t := .boolean) Bd.returns (by simp) (hb hby d1_132) hr
  · show Q_holds_0_zero Z a1 p2 h0 n0 _ T1.heap _
    rw [e1]
    exact ⟨rfl, N1, rfl⟩
def Q_holds_0_pos (Z : State) (a1 : Addr) (p2 : Int32) (h0 : Heap) (n0 : Nat) (v : Option Value) (h : Heap) (L : List Loc) : Prop := v = some (.int 0) ∧ Fr n0 L ∧ h = h0
set_option maxRecDepth 65536 in
set_option maxHeartbeats 40000000 in
theorem rm_holds_0_pos (l : Launch) (Z : State) (a0 : Array Value) (hw : ∀ d ∈ tables_1, d.before a0 Z = true) (ws : List Jvm.Cond) (a1 : Addr) (p2 : Int32) (h0 : Heap) (n0 : Nat) (Z0 : n0 ≤ h0.size) (F_a1_ordinal : Fld Z h0 a1 "java/lang/Enum" "ordinal" "I" (.int 0)) (hlt : ¬ (p2 < (0 : Int32))) (heq : ¬ (p2 = (0 : Int32))) (hgt : (0 : Int32) < p2) (E_a1 : Exa Z h0 a1 "com/example/sunder/sunder/Operator") :
    MetFree l (⟨"com/example/sunder/sunder/Operator", "holds", "(I)Z"⟩ : MethodName) (head1 (Jvm.Cond.code (⟨"com/example/sunder/sunder/Operator", "holds", "(I)Z"⟩ : MethodName) prog_30_method_5_code 3 (some .boolean) :: ws) ({ frames := 1, cells := 0, slots := 0, locals := 12 } : Room)) (fun a U => a = #[(.ref a1), (.int p2)] ∧ Z.Warmed39 U.vm ∧ U.heap = h0) (fun _ _ _ _ _ => True) (fun _ U o U' => ∃ v L, o = .returned v ∧ Q_holds_0_pos Z a1 p2 h0 n0 v U'.heap L ∧ FrameEnd U o U' L ({ frames := 1, cells := 0, slots := 0, locals := 12 } : Room).cells ({ frames := 1, cells := 0, slots := 0, locals := 12 } : Room).slots) := by
  refine MetFree.of_bodySF (plainFor_of_name pn_1) hisR ?_
  intro p e s m args below meth c s₁ Bd hml0 hP hK
  obtain ⟨rfl, hZ, hh⟩ := hP
  have hx := Bd.exec
  have hby := Bd.bytes
  have hml : c.maxLocals = 3 := hml0
  have hown : s.vm.findClass "com/example/sunder/sunder/Operator" = some m.cls := findClass_of_methodNamed Bd.named
  have hnm := (name_of_methodNamed Bd.named Bd.method).1
  have X0 : Stand p l e ({ frames := 1, cells := 0, slots := 0, locals := 12 } : Room) s m #[(.ref a1), (.int p2)] below meth c s₁ [] 0 0 := Stand.of_body Bd
  have e0 : s₁.heap = h0 := by rw [← hh, Bd.state]; rfl
  have N0 := Fr.nil n0
  have pre0 : ∀ t, Steps p.tables e below (s₁.setTop (mkF m 0 #[.val (.ref a1), .val (.int p2), .unset] [])) t → Steps p.tables e below (s₁.setTop (entryFrame m #[(.ref a1), (.int p2)] 3)) t := fun t k => castTop (ef_1_RI m a1 p2) k
  obtain ⟨cq1, kq1, q1a, q1b, q1c⟩ := isOf hZ e0 E_a1
  obtain ⟨_, _, ⟨T1, L1, k1, n1⟩, -, X1, ⟨Lc1, hQ1, l1, y1, z1⟩, st1⟩ := X0.virtualBackUp hx (owner := "java/lang/Enum") (x := (⟨"com/example/sunder/sunder/Operator", "ordinal", "()I"⟩ : MethodName)) (y := (⟨"java/lang/Enum", "ordinal", "()I"⟩ : MethodName)) hown (mvT hZ (hwi hw 8 rfl)) (mvT hZ (hwi hw 9 rfl)) (mvT hZ (hwi hw 10 rfl)) (by decide) (mvT hZ (hwi hw 12 rfl)) (mvT hZ (hwi hw 11 rfl)) (backOf (W := 0) (rm_ordinal l Z a0 hw [] a1 (0 : Int32) h0 n0 Z0 F_a1_ordinal) hZ (hwi hw 14 rfl) (hwi hw 13 rfl) (by decide) (by decide)) q1a q1c (g := (mkF m 1 #[.val (.ref a1), .val (.int p2), .unset] [(.ref a1)])) rfl (by rw [hml]; rfl) (Steps.refl _) (argsL := []) (rest := []) (lenOf pd_I_154 rfl) rfl (by show 2 * 0 + _ ≤ _; exact Nat.le_of_eq rfl) (hb hby d1_1) (fun _ _ => ⟨rfl, e0, (by decide : 0 + 0 ≤ _), (by decide : 0 + 0 ≤ _)⟩)
  dsimp only [Pt.U, Pt.locs, Pt.cells, Pt.slots] at X1 l1 y1 z1 st1 hQ1
  subst l1 y1 z1
  obtain ⟨rfl, N1q, e1⟩ := hQ1
  have N1 := Fr.app N0 N1q
  obtain ⟨fs, hr, hrun, hended, hW, hsame⟩ := X1.leave (v := some (.int 0)) (fun h => by rw [Bd.returns] at h; cases h)
  refine ⟨_, _, pre0 _ ?_, hrun, hended, _, _, rfl, ?_, ⟨_, rfl⟩, hW, hsame.mono (by decide) (by decide)⟩
  · show St p e below s₁ (mkF m 0 #[.val (.ref a1), .val (.int p2), .unset] []) _
    refine XS.aloadN X0.here hx rfl (hb hby d1_0) rfl rfl ?_
    show St p e below s₁ (mkF m 1 #[.val (.ref a1), .val (.int p2), .unset] [(.ref a1)]) _
    refine st1.trans ?_
    show St p e below T1 (mkF m 4 #[.val (.ref a1), .val (.int p2), .unset] [(.int 0)]) _
    refine XS.tswIn X1.here hx rfl (pc0 := 4) (pc' := 44) (o := 40) rfl (hb hby d1_4) rfl (by decide) (by decide) (by decide) (by decide) ?_
    show St p e below T1 (mkF m 44 #[.val (.ref a1), .val (.int p2), .unset] []) _
    refine XS.iloadN X1.here hx rfl (hb hby d1_44) rfl ?_
    show St p e below T1 (mkF m 45 #[.val (.ref a1), .val (.int p2), .unset] [(.int p2)]) _
    refine XS.ifYes X1.here hx rfl (pc0 := 45) (pc' := 52) rfl (hb hby d1_45) rfl ((if0 _ _).trans (feq heq).2) (by decide) (by decide) ?_
    show St p e below T1 (mkF m 52 #[.val (.ref a1), .val (.int p2), .unset] []) _
    refine XS.iconst X1.here hx rfl (hb hby d1_52) ?_
    show St p e below T1 (mkF m 53 #[.val (.ref a1), .val (.int p2), .unset] [(.int 0)]) _
    refine XS.istoreN X1.here hx rfl (hb hby d1_53) rfl (l' := #[.val (.ref a1), .val (.int p2), .val (.int 0)]) rfl ?_
    show St p e below T1 (mkF m 54 #[.val (.ref a1), .val (.int p2), .val (.int 0)] []) _
    refine XS.goto X1.here hx rfl (pc0 := 54) (pc' := 131) rfl (hb hby d1_54) (by decide) (by decide) ?_
    show St p e below T1 (mkF m 131 #[.val (.ref a1), .val (.int p2), .val (.int 0)] []) _
    refine XS.iloadN X1.here hx rfl (hb hby d1_131) rfl ?_
    show St p e below T1 (mkF m 132 #[.val (.ref a1), .val (.int p2), .val (.int 0)] [(.int 0)]) _
    exact retN X1 hx (t := .boolean) Bd.returns (by simp) (hb hby d1_132) hr
  · show Q_holds_0_pos Z a1 p2 h0 n0 _ T1.heap _
    rw [e1]
    exact ⟨rfl, N1, rfl⟩
theorem d1_57 : decode prog_30_method_5_code 57 = .ok (.iload_n 1, 1) := by decide +kernel
theorem d1_58 : decode prog_30_method_5_code 58 = .ok (.ifCond .eq 7, 3) := by decide +kernel
theorem d1_61 : decode prog_30_method_5_code 61 = .ok (.iconst 1, 1) := by decide +kernel
theorem d1_62 : decode prog_30_method_5_code 62 = .ok (.goto 4, 3) := by decide +kernel
theorem d1_66 : decode prog_30_method_5_code 66 = .ok (.istore_n 2, 1) := by decide +kernel
theorem d1_67 : decode prog_30_method_5_code 67 = .ok (.goto 64, 3) := by decide +kernel
def Q_holds_1_neg (Z : State) (a1 : Addr) (p2 : Int32) (h0 : Heap) (n0 : Nat) (v : Option Value) (h : Heap) (L : List Loc) : Prop := v = some (.int 1) ∧ Fr n0 L ∧ h = h0
set_option maxRecDepth 65536 in
set_option maxHeartbeats 40000000 in
theorem rm_holds_1_neg (l : Launch) (Z : State) (a0 : Array Value) (hw : ∀ d ∈ tables_1, d.before a0 Z = true) (ws : List Jvm.Cond) (a1 : Addr) (p2 : Int32) (h0 : Heap) (n0 : Nat) (Z0 : n0 ≤ h0.size) (F_a1_ordinal : Fld Z h0 a1 "java/lang/Enum" "ordinal" "I" (.int 1)) (hlt : p2 < (0 : Int32)) (heq : ¬ (p2 = (0 : Int32))) (hgt : ¬ ((0 : Int32) < p2)) (E_a1 : Exa Z h0 a1 "com/example/sunder/sunder/Operator") :
    MetFree l (⟨"com/example/sunder/sunder/Operator", "holds", "(I)Z"⟩ : MethodName) (head1 (Jvm.Cond.code (⟨"com/example/sunder/sunder/Operator", "holds", "(I)Z"⟩ : MethodName) prog_30_method_5_code 3 (some .boolean) :: ws) ({ frames := 1, cells := 0, slots := 0, locals := 12 } : Room)) (fun a U => a = #[(.ref a1), (.int p2)] ∧ Z.Warmed39 U.vm ∧ U.heap = h0) (fun _ _ _ _ _ => True) (fun _ U o U' => ∃ v L, o = .returned v ∧ Q_holds_1_neg Z a1 p2 h0 n0 v U'.heap L ∧ FrameEnd U o U' L ({ frames := 1, cells := 0, slots := 0, locals := 12 } : Room).cells ({ frames := 1, cells := 0, slots := 0, locals := 12 } : Room).slots) := by
  refine MetFree.of_bodySF (plainFor_of_name pn_1) hisR ?_
  intro p e s m args below meth c s₁ Bd hml0 hP hK
  obtain ⟨rfl, hZ, hh⟩ := hP
  have hx := Bd.exec
  have hby := Bd.bytes
  have hml : c.maxLocals = 3 := hml0
  have hown : s.vm.findClass "com/example/sunder/sunder/Operator" = some m.cls := findClass_of_methodNamed Bd.named
  have hnm := (name_of_methodNamed Bd.named Bd.method).1
  have X0 : Stand p l e ({ frames := 1, cells := 0, slots := 0, locals := 12 } : Room) s m #[(.ref a1), (.int p2)] below meth c s₁ [] 0 0 := Stand.of_body Bd
  have e0 : s₁.heap = h0 := by rw [← hh, Bd.state]; rfl
  have N0 := Fr.nil n0
  have pre0 : ∀ t, Steps p.tables e below (s₁.setTop (mkF m 0 #[.val (.ref a1), .val (.int p2), .unset] [])) t → Steps p.tables e below (s₁.setTop (entryFrame m #[(.ref a1), (.int p2)] 3)) t := fun t k => castTop (ef_1_RI m a1 p2) k
  obtain ⟨cq1, kq1, q1a, q1b, q1c⟩ := isOf hZ e0 E_a1
  obtain ⟨_, _, ⟨T1, L1, k1, n1⟩, -, X1, ⟨Lc1, hQ1, l1, y1, z1⟩, st1⟩ := X0.virtualBackUp hx (owner := "java/lang/Enum") (x := (⟨"com/example/sunder/sunder/Operator", "ordinal", "()I"⟩ : MethodName)) (y := (⟨"java/lang/Enum", "ordinal", "()I"⟩ : MethodName)) hown (mvT hZ (hwi hw 8 rfl)) (mvT hZ (hwi hw 9 rfl)) (mvT hZ (hwi hw 10 rfl)) (by decide) (mvT hZ (hwi hw 12 rfl)) (mvT hZ (hwi hw 11 rfl)) (backOf (W := 0) (rm_ordinal l Z a0 hw [] a1 (1 : Int32) h0 n0 Z0 F_a1_ordinal) hZ (hwi hw 14 rfl) (hwi hw 13 rfl) (by decide) (by decide)) q1a q1c (g := (mkF m 1 #[.val (.ref a1), .val (.int p2), .unset] [(.ref a1)])) rfl (by rw [hml]; rfl) (Steps.refl _) (argsL := []) (rest := []) (lenOf pd_I_154 rfl) rfl (by show 2 * 0 + _ ≤ _; exact Nat.le_of_eq rfl) (hb hby d1_1) (fun _ _ => ⟨rfl, e0, (by decide : 0 + 0 ≤ _), (by decide : 0 + 0 ≤ _)⟩)
  dsimp only [Pt.U, Pt.locs, Pt.cells, Pt.slots] at X1 l1 y1 z1 st1 hQ1
  subst l1 y1 z1
  obtain ⟨rfl, N1q, e1⟩ := hQ1
  have N1 := Fr.app N0 N1q
  obtain ⟨fs, hr, hrun, hended, hW, hsame⟩ := X1.leave (v := some (.int 1)) (fun h => by rw [Bd.returns] at h; cases h)
  refine ⟨_, _, pre0 _ ?_, hrun, hended, _, _, rfl, ?_, ⟨_, rfl⟩, hW, hsame.mono (by decide) (by decide)⟩
  · show St p e below s₁ (mkF m 0 #[.val (.ref a1), .val (.int p2), .unset] []) _
    refine XS.aloadN X0.here hx rfl (hb hby d1_0) rfl rfl ?_
    show St p e below s₁ (mkF m 1 #[.val (.ref a1), .val (.int p2), .unset] [(.ref a1)]) _
    refine st1.trans ?_
    show St p e below T1 (mkF m 4 #[.val (.ref a1), .val (.int p2), .unset] [(.int 1)]) _
    refine XS.tswIn X1.here hx rfl (pc0 := 4) (pc' := 57) (o := 53) rfl (hb hby d1_4) rfl (by decide) (by decide) (by decide) (by decide) ?_
    show St p e below T1 (mkF m 57 #[.val (.ref a1), .val (.int p2), .unset] []) _
    refine XS.iloadN X1.here hx rfl (hb hby d1_57) rfl ?_
    show St p e below T1 (mkF m 58 #[.val (.ref a1), .val (.int p2), .unset] [(.int p2)]) _
    refine XS.ifNo X1.here hx rfl (hb hby d1_58) rfl ((if0 _ _).trans (feq heq).1) ?_
    show St p e below T1 (mkF m 61 #[.val (.ref a1), .val (.int p2), .unset] []) _
    refine XS.iconst X1.here hx rfl (hb hby d1_61) ?_
    show St p e below T1 (mkF m 62 #[.val (.ref a1), .val (.int p2), .unset] [(.int 1)]) _
    refine XS.goto X1.here hx rfl (pc0 := 62) (pc' := 66) rfl (hb hby d1_62) (by decide) (by decide) ?_
    show St p e below T1 (mkF m 66 #[.val (.ref a1), .val (.int p2), .unset] [(.int 1)]) _
    refine XS.istoreN X1.here hx rfl (hb hby d1_66) rfl (l' := #[.val (.ref a1), .val (.int p2), .val (.int 1)]) rfl ?_
    show St p e below T1 (mkF m 67 #[.val (.ref a1), .val (.int p2), .val (.int 1)] []) _
    refine XS.goto X1.here hx rfl (pc0 := 67) (pc' := 131) rfl (hb hby d1_67) (by decide) (by decide) ?_
    show St p e below T1 (mkF m 131 #[.val (.ref a1), .val (.int p2), .val (.int 1)] []) _
    refine XS.iloadN X1.here hx rfl (hb hby d1_131) rfl ?_
    show St p e below T1 (mkF m 132 #[.val (.ref a1), .val (.int p2), .val (.int 1)] [(.int 1)]) _
    exact retN X1 hx (t := .boolean) Bd.returns (by simp) (hb hby d1_132) hr
  · show Q_holds_1_neg Z a1 p2 h0 n0 _ T1.heap _
    rw [e1]
    exact ⟨rfl, N1, rfl⟩
theorem d1_65 : decode prog_30_method_5_code 65 = .ok (.iconst 0, 1) := by decide +kernel
def Q_holds_1_zero (Z : State) (a1 : Addr) (p2 : Int32) (h0 : Heap) (n0 : Nat) (v : Option Value) (h : Heap) (L : List Loc) : Prop := v = some (.int 0) ∧ Fr n0 L ∧ h = h0
set_option maxRecDepth 65536 in
set_option maxHeartbeats 40000000 in
theorem rm_holds_1_zero (l : Launch) (Z : State) (a0 : Array Value) (hw : ∀ d ∈ tables_1, d.before a0 Z = true) (ws : List Jvm.Cond) (a1 : Addr) (p2 : Int32) (h0 : Heap) (n0 : Nat) (Z0 : n0 ≤ h0.size) (F_a1_ordinal : Fld Z h0 a1 "java/lang/Enum" "ordinal" "I" (.int 1)) (hlt : ¬ (p2 < (0 : Int32))) (heq : p2 = (0 : Int32)) (hgt : ¬ ((0 : Int32) < p2)) (E_a1 : Exa Z h0 a1 "com/example/sunder/sunder/Operator") :
    MetFree l (⟨"com/example/sunder/sunder/Operator", "holds", "(I)Z"⟩ : MethodName) (head1 (Jvm.Cond.code (⟨"com/example/sunder/sunder/Operator", "holds", "(I)Z"⟩ : MethodName) prog_30_method_5_code 3 (some .boolean) :: ws) ({ frames := 1, cells := 0, slots := 0, locals := 12 } : Room)) (fun a U => a = #[(.ref a1), (.int p2)] ∧ Z.Warmed39 U.vm ∧ U.heap = h0) (fun _ _ _ _ _ => True) (fun _ U o U' => ∃ v L, o = .returned v ∧ Q_holds_1_zero Z a1 p2 h0 n0 v U'.heap L ∧ FrameEnd U o U' L ({ frames := 1, cells := 0, slots := 0, locals := 12 } : Room).cells ({ frames := 1, cells := 0, slots := 0, locals := 12 } : Room).slots) := by
  refine MetFree.of_bodySF (plainFor_of_name pn_1) hisR ?_
  intro p e s m args below meth c s₁ Bd hml0 hP hK
  obtain ⟨rfl, hZ, hh⟩ := hP
  have hx := Bd.exec
  have hby := Bd.bytes
  have hml : c.maxLocals = 3 := hml0
  have hown : s.vm.findClass "com/example/sunder/sunder/Operator" = some m.cls := findClass_of_methodNamed Bd.named
  have hnm := (name_of_methodNamed Bd.named Bd.method).1
  have X0 : Stand p l e ({ frames := 1, cells := 0, slots := 0, locals := 12 } : Room) s m #[(.ref a1), (.int p2)] below meth c s₁ [] 0 0 := Stand.of_body Bd
  have e0 : s₁.heap = h0 := by rw [← hh, Bd.state]; rfl
  have N0 := Fr.nil n0
  have pre0 : ∀ t, Steps p.tables e below (s₁.setTop (mkF m 0 #[.val (.ref a1), .val (.int p2), .unset] [])) t → Steps p.tables e below (s₁.setTop (entryFrame m #[(.ref a1), (.int p2)] 3)) t := fun t k => castTop (ef_1_RI m a1 p2) k
  obtain ⟨cq1, kq1, q1a, q1b, q1c⟩ := isOf hZ e0 E_a1
  obtain ⟨_, _, ⟨T1, L1, k1, n1⟩, -, X1, ⟨Lc1, hQ1, l1, y1, z1⟩, st1⟩ := X0.virtualBackUp hx (owner := "java/lang/Enum") (x := (⟨"com/example/sunder/sunder/Operator", "ordinal", "()I"⟩ : MethodName)) (y := (⟨"java/lang/Enum", "ordinal", "()I"⟩ : MethodName)) hown (mvT hZ (hwi hw 8 rfl)) (mvT hZ (hwi hw 9 rfl)) (mvT hZ (hwi hw 10 rfl)) (by decide) (mvT hZ (hwi hw 12 rfl)) (mvT hZ (hwi hw 11 rfl)) (backOf (W := 0) (rm_ordinal l Z a0 hw [] a1 (1 : Int32) h0 n0 Z0 F_a1_ordinal) hZ (hwi hw 14 rfl) (hwi hw 13 rfl) (by decide) (by decide)) q1a q1c (g := (mkF m 1 #[.val (.ref a1), .val (.int p2), .unset] [(.ref a1)])) rfl (by rw [hml]; rfl) (Steps.refl _) (argsL := []) (rest := []) (lenOf pd_I_154 rfl) rfl (by show 2 * 0 + _ ≤ _; exact Nat.le_of_eq rfl) (hb hby d1_1) (fun _ _ => ⟨rfl, e0, (by decide : 0 + 0 ≤ _), (by decide : 0 + 0 ≤ _)⟩)
  dsimp only [Pt.U, Pt.locs, Pt.cells, Pt.slots] at X1 l1 y1 z1 st1 hQ1
  subst l1 y1 z1
  obtain ⟨rfl, N1q, e1⟩ := hQ1
  have N1 := Fr.app N0 N1q
  obtain ⟨fs, hr, hrun, hended, hW, hsame⟩ := X1.leave (v := some (.int 0)) (fun h => by rw [Bd.returns] at h; cases h)
  refine ⟨_, _, pre0 _ ?_, hrun, hended, _, _, rfl, ?_, ⟨_, rfl⟩, hW, hsame.mono (by decide) (by decide)⟩
  · show St p e below s₁ (mkF m 0 #[.val (.ref a1), .val (.int p2), .unset] []) _
    refine XS.aloadN X0.here hx rfl (hb hby d1_0) rfl rfl ?_
    show St p e below s₁ (mkF m 1 #[.val (.ref a1), .val (.int p2), .unset] [(.ref a1)]) _
    refine st1.trans ?_
    show St p e below T1 (mkF m 4 #[.val (.ref a1), .val (.int p2), .unset] [(.int 1)]) _
    refine XS.tswIn X1.here hx rfl (pc0 := 4) (pc' := 57) (o := 53) rfl (hb hby d1_4) rfl (by decide) (by decide) (by decide) (by decide) ?_
    show St p e below T1 (mkF m 57 #[.val (.ref a1), .val (.int p2), .unset] []) _
    refine XS.iloadN X1.here hx rfl (hb hby d1_57) rfl ?_
    show St p e below T1 (mkF m 58 #[.val (.ref a1), .val (.int p2), .unset] [(.int p2)]) _
    refine XS.ifYes X1.here hx rfl (pc0 := 58) (pc' := 65) rfl (hb hby d1_58) rfl ((if0 _ _).trans (teq heq).1) (by decide) (by decide) ?_
    show St p e below T1 (mkF m 65 #[.val (.ref a1), .val (.int p2), .unset] []) _
    refine XS.iconst X1.here hx rfl (hb hby d1_65) ?_
    show St p e below T1 (mkF m 66 #[.val (.ref a1), .val (.int p2), .unset] [(.int 0)]) _
    refine XS.istoreN X1.here hx rfl (hb hby d1_66) rfl (l' := #[.val (.ref a1), .val (.int p2), .val (.int 0)]) rfl ?_
    show St p e below T1 (mkF m 67 #[.val (.ref a1), .val (.int p2), .val (.int 0)] []) _
    refine XS.goto X1.here hx rfl (pc0 := 67) (pc' := 131) rfl (hb hby d1_67) (by decide) (by decide) ?_
    show St p e below T1 (mkF m 131 #[.val (.ref a1), .val (.int p2), .val (.int 0)] []) _
    refine XS.iloadN X1.here hx rfl (hb hby d1_131) rfl ?_
    show St p e below T1 (mkF m 132 #[.val (.ref a1), .val (.int p2), .val (.int 0)] [(.int 0)]) _
    exact retN X1 hx (t := .boolean) Bd.returns (by simp) (hb hby d1_132) hr
  · show Q_holds_1_zero Z a1 p2 h0 n0 _ T1.heap _
    rw [e1]
    exact ⟨rfl, N1, rfl⟩
def Q_holds_1_pos (Z : State) (a1 : Addr) (p2 : Int32) (h0 : Heap) (n0 : Nat) (v : Option Value) (h : Heap) (L : List Loc) : Prop := v = some (.int 1) ∧ Fr n0 L ∧ h = h0
set_option maxRecDepth 65536 in
set_option maxHeartbeats 40000000 in
theorem rm_holds_1_pos (l : Launch) (Z : State) (a0 : Array Value) (hw : ∀ d ∈ tables_1, d.before a0 Z = true) (ws : List Jvm.Cond) (a1 : Addr) (p2 : Int32) (h0 : Heap) (n0 : Nat) (Z0 : n0 ≤ h0.size) (F_a1_ordinal : Fld Z h0 a1 "java/lang/Enum" "ordinal" "I" (.int 1)) (hlt : ¬ (p2 < (0 : Int32))) (heq : ¬ (p2 = (0 : Int32))) (hgt : (0 : Int32) < p2) (E_a1 : Exa Z h0 a1 "com/example/sunder/sunder/Operator") :
    MetFree l (⟨"com/example/sunder/sunder/Operator", "holds", "(I)Z"⟩ : MethodName) (head1 (Jvm.Cond.code (⟨"com/example/sunder/sunder/Operator", "holds", "(I)Z"⟩ : MethodName) prog_30_method_5_code 3 (some .boolean) :: ws) ({ frames := 1, cells := 0, slots := 0, locals := 12 } : Room)) (fun a U => a = #[(.ref a1), (.int p2)] ∧ Z.Warmed39 U.vm ∧ U.heap = h0) (fun _ _ _ _ _ => True) (fun _ U o U' => ∃ v L, o = .returned v ∧ Q_holds_1_pos Z a1 p2 h0 n0 v U'.heap L ∧ FrameEnd U o U' L ({ frames := 1, cells := 0, slots := 0, locals := 12 } : Room).cells ({ frames := 1, cells := 0, slots := 0, locals := 12 } : Room).slots) := by
  refine MetFree.of_bodySF (plainFor_of_name pn_1) hisR ?_
  intro p e s m args below meth c s₁ Bd hml0 hP hK
  obtain ⟨rfl, hZ, hh⟩ := hP
  have hx := Bd.exec
  have hby := Bd.bytes
  have hml : c.maxLocals = 3 := hml0
  have hown : s.vm.findClass "com/example/sunder/sunder/Operator" = some m.cls := findClass_of_methodNamed Bd.named
  have hnm := (name_of_methodNamed Bd.named Bd.method).1
  have X0 : Stand p l e ({ frames := 1, cells := 0, slots := 0, locals := 12 } : Room) s m #[(.ref a1), (.int p2)] below meth c s₁ [] 0 0 := Stand.of_body Bd
  have e0 : s₁.heap = h0 := by rw [← hh, Bd.state]; rfl
  have N0 := Fr.nil n0
  have pre0 : ∀ t, Steps p.tables e below (s₁.setTop (mkF m 0 #[.val (.ref a1), .val (.int p2), .unset] [])) t → Steps p.tables e below (s₁.setTop (entryFrame m #[(.ref a1), (.int p2)] 3)) t := fun t k => castTop (ef_1_RI m a1 p2) k
  obtain ⟨cq1, kq1, q1a, q1b, q1c⟩ := isOf hZ e0 E_a1
  obtain ⟨_, _, ⟨T1, L1, k1, n1⟩, -, X1, ⟨Lc1, hQ1, l1, y1, z1⟩, st1⟩ := X0.virtualBackUp hx (owner := "java/lang/Enum") (x := (⟨"com/example/sunder/sunder/Operator", "ordinal", "()I"⟩ : MethodName)) (y := (⟨"java/lang/Enum", "ordinal", "()I"⟩ : MethodName)) hown (mvT hZ (hwi hw 8 rfl)) (mvT hZ (hwi hw 9 rfl)) (mvT hZ (hwi hw 10 rfl)) (by decide) (mvT hZ (hwi hw 12 rfl)) (mvT hZ (hwi hw 11 rfl)) (backOf (W := 0) (rm_ordinal l Z a0 hw [] a1 (1 : Int32) h0 n0 Z0 F_a1_ordinal) hZ (hwi hw 14 rfl) (hwi hw 13 rfl) (by decide) (by decide)) q1a q1c (g := (mkF m 1 #[.val (.ref a1), .val (.int p2), .unset] [(.ref a1)])) rfl (by rw [hml]; rfl) (Steps.refl _) (argsL := []) (rest := []) (lenOf pd_I_154 rfl) rfl (by show 2 * 0 + _ ≤ _; exact Nat.le_of_eq rfl) (hb hby d1_1) (fun _ _ => ⟨rfl, e0, (by decide : 0 + 0 ≤ _), (by decide : 0 + 0 ≤ _)⟩)
  dsimp only [Pt.U, Pt.locs, Pt.cells, Pt.slots] at X1 l1 y1 z1 st1 hQ1
  subst l1 y1 z1
  obtain ⟨rfl, N1q, e1⟩ := hQ1
  have N1 := Fr.app N0 N1q
  obtain ⟨fs, hr, hrun, hended, hW, hsame⟩ := X1.leave (v := some (.int 1)) (fun h => by rw [Bd.returns] at h; cases h)
  refine ⟨_, _, pre0 _ ?_, hrun, hended, _, _, rfl, ?_, ⟨_, rfl⟩, hW, hsame.mono (by decide) (by decide)⟩
  · show St p e below s₁ (mkF m 0 #[.val (.ref a1), .val (.int p2), .unset] []) _
    refine XS.aloadN X0.here hx rfl (hb hby d1_0) rfl rfl ?_
    show St p e below s₁ (mkF m 1 #[.val (.ref a1), .val (.int p2), .unset] [(.ref a1)]) _
    refine st1.trans ?_
    show St p e below T1 (mkF m 4 #[.val (.ref a1), .val (.int p2), .unset] [(.int 1)]) _
    refine XS.tswIn X1.here hx rfl (pc0 := 4) (pc' := 57) (o := 53) rfl (hb hby d1_4) rfl (by decide) (by decide) (by decide) (by decide) ?_
    show St p e below T1 (mkF m 57 #[.val (.ref a1), .val (.int p2), .unset] []) _
    refine XS.iloadN X1.here hx rfl (hb hby d1_57) rfl ?_
    show St p e below T1 (mkF m 58 #[.val (.ref a1), .val (.int p2), .unset] [(.int p2)]) _
    refine XS.ifNo X1.here hx rfl (hb hby d1_58) rfl ((if0 _ _).trans (feq heq).1) ?_
    show St p e below T1 (mkF m 61 #[.val (.ref a1), .val (.int p2), .unset] []) _
    refine XS.iconst X1.here hx rfl (hb hby d1_61) ?_
    show St p e below T1 (mkF m 62 #[.val (.ref a1), .val (.int p2), .unset] [(.int 1)]) _
    refine XS.goto X1.here hx rfl (pc0 := 62) (pc' := 66) rfl (hb hby d1_62) (by decide) (by decide) ?_
    show St p e below T1 (mkF m 66 #[.val (.ref a1), .val (.int p2), .unset] [(.int 1)]) _
    refine XS.istoreN X1.here hx rfl (hb hby d1_66) rfl (l' := #[.val (.ref a1), .val (.int p2), .val (.int 1)]) rfl ?_
    show St p e below T1 (mkF m 67 #[.val (.ref a1), .val (.int p2), .val (.int 1)] []) _
    refine XS.goto X1.here hx rfl (pc0 := 67) (pc' := 131) rfl (hb hby d1_67) (by decide) (by decide) ?_
    show St p e below T1 (mkF m 131 #[.val (.ref a1), .val (.int p2), .val (.int 1)] []) _
    refine XS.iloadN X1.here hx rfl (hb hby d1_131) rfl ?_
    show St p e below T1 (mkF m 132 #[.val (.ref a1), .val (.int p2), .val (.int 1)] [(.int 1)]) _
    exact retN X1 hx (t := .boolean) Bd.returns (by simp) (hb hby d1_132) hr
  · show Q_holds_1_pos Z a1 p2 h0 n0 _ T1.heap _
    rw [e1]
    exact ⟨rfl, N1, rfl⟩
theorem d1_70 : decode prog_30_method_5_code 70 = .ok (.iload_n 1, 1) := by decide +kernel
theorem d1_71 : decode prog_30_method_5_code 71 = .ok (.ifCond .ge 7, 3) := by decide +kernel
theorem d1_74 : decode prog_30_method_5_code 74 = .ok (.iconst 1, 1) := by decide +kernel
theorem d1_75 : decode prog_30_method_5_code 75 = .ok (.goto 4, 3) := by decide +kernel
theorem d1_79 : decode prog_30_method_5_code 79 = .ok (.istore_n 2, 1) := by decide +kernel
theorem d1_80 : decode prog_30_method_5_code 80 = .ok (.goto 51, 3) := by decide +kernel
def Q_holds_2_neg (Z : State) (a1 : Addr) (p2 : Int32) (h0 : Heap) (n0 : Nat) (v : Option Value) (h : Heap) (L : List Loc) : Prop := v = some (.int 1) ∧ Fr n0 L ∧ h = h0
set_option maxRecDepth 65536 in
set_option maxHeartbeats 40000000 in
theorem rm_holds_2_neg (l : Launch) (Z : State) (a0 : Array Value) (hw : ∀ d ∈ tables_1, d.before a0 Z = true) (ws : List Jvm.Cond) (a1 : Addr) (p2 : Int32) (h0 : Heap) (n0 : Nat) (Z0 : n0 ≤ h0.size) (F_a1_ordinal : Fld Z h0 a1 "java/lang/Enum" "ordinal" "I" (.int 2)) (hlt : p2 < (0 : Int32)) (heq : ¬ (p2 = (0 : Int32))) (hgt : ¬ ((0 : Int32) < p2)) (E_a1 : Exa Z h0 a1 "com/example/sunder/sunder/Operator") :
    MetFree l (⟨"com/example/sunder/sunder/Operator", "holds", "(I)Z"⟩ : MethodName) (head1 (Jvm.Cond.code (⟨"com/example/sunder/sunder/Operator", "holds", "(I)Z"⟩ : MethodName) prog_30_method_5_code 3 (some .boolean) :: ws) ({ frames := 1, cells := 0, slots := 0, locals := 12 } : Room)) (fun a U => a = #[(.ref a1), (.int p2)] ∧ Z.Warmed39 U.vm ∧ U.heap = h0) (fun _ _ _ _ _ => True) (fun _ U o U' => ∃ v L, o = .returned v ∧ Q_holds_2_neg Z a1 p2 h0 n0 v U'.heap L ∧ FrameEnd U o U' L ({ frames := 1, cells := 0, slots := 0, locals := 12 } : Room).cells ({ frames := 1, cells := 0, slots := 0, locals := 12 } : Room).slots) := by
  refine MetFree.of_bodySF (plainFor_of_name pn_1) hisR ?_
  intro p e s m args below meth c s₁ Bd hml0 hP hK
  obtain ⟨rfl, hZ, hh⟩ := hP
  have hx := Bd.exec
  have hby := Bd.bytes
  have hml : c.maxLocals = 3 := hml0
  have hown : s.vm.findClass "com/example/sunder/sunder/Operator" = some m.cls := findClass_of_methodNamed Bd.named
  have hnm := (name_of_methodNamed Bd.named Bd.method).1
  have X0 : Stand p l e ({ frames := 1, cells := 0, slots := 0, locals := 12 } : Room) s m #[(.ref a1), (.int p2)] below meth c s₁ [] 0 0 := Stand.of_body Bd
  have e0 : s₁.heap = h0 := by rw [← hh, Bd.state]; rfl
  have N0 := Fr.nil n0
  have pre0 : ∀ t, Steps p.tables e below (s₁.setTop (mkF m 0 #[.val (.ref a1), .val (.int p2), .unset] [])) t → Steps p.tables e below (s₁.setTop (entryFrame m #[(.ref a1), (.int p2)] 3)) t := fun t k => castTop (ef_1_RI m a1 p2) k
  obtain ⟨cq1, kq1, q1a, q1b, q1c⟩ := isOf hZ e0 E_a1
  obtain ⟨_, _, ⟨T1, L1, k1, n1⟩, -, X1, ⟨Lc1, hQ1, l1, y1, z1⟩, st1⟩ := X0.virtualBackUp hx (owner := "java/lang/Enum") (x := (⟨"com/example/sunder/sunder/Operator", "ordinal", "()I"⟩ : MethodName)) (y := (⟨"java/lang/Enum", "ordinal", "()I"⟩ : MethodName)) hown (mvT hZ (hwi hw 8 rfl)) (mvT hZ (hwi hw 9 rfl)) (mvT hZ (hwi hw 10 rfl)) (by decide) (mvT hZ (hwi hw 12 rfl)) (mvT hZ (hwi hw 11 rfl)) (backOf (W := 0) (rm_ordinal l Z a0 hw [] a1 (2 : Int32) h0 n0 Z0 F_a1_ordinal) hZ (hwi hw 14 rfl) (hwi hw 13 rfl) (by decide) (by decide)) q1a q1c (g := (mkF m 1 #[.val (.ref a1), .val (.int p2), .unset] [(.ref a1)])) rfl (by rw [hml]; rfl) (Steps.refl _) (argsL := []) (rest := []) (lenOf pd_I_154 rfl) rfl (by show 2 * 0 + _ ≤ _; exact Nat.le_of_eq rfl) (hb hby d1_1) (fun _ _ => ⟨rfl, e0, (by decide : 0 + 0 ≤ _), (by decide : 0 + 0 ≤ _)⟩)
  dsimp only [Pt.U, Pt.locs, Pt.cells, Pt.slots] at X1 l1 y1 z1 st1 hQ1
  subst l1 y1 z1
  obtain ⟨rfl, N1q, e1⟩ := hQ1
  have N1 := Fr.app N0 N1q
  obtain ⟨fs, hr, hrun, hended, hW, hsame⟩ := X1.leave (v := some (.int 1)) (fun h => by rw [Bd.returns] at h; cases h)
  refine ⟨_, _, pre0 _ ?_, hrun, hended, _, _, rfl, ?_, ⟨_, rfl⟩, hW, hsame.mono (by decide) (by decide)⟩
  · show St p e below s₁ (mkF m 0 #[.val (.ref a1), .val (.int p2), .unset] []) _
    refine XS.aloadN X0.here hx rfl (hb hby d1_0) rfl rfl ?_
    show St p e below s₁ (mkF m 1 #[.val (.ref a1), .val (.int p2), .unset] [(.ref a1)]) _
    refine st1.trans ?_
    show St p e below T1 (mkF m 4 #[.val (.ref a1), .val (.int p2), .unset] [(.int 2)]) _
    refine XS.tswIn X1.here hx rfl (pc0 := 4) (pc' := 70) (o := 66) rfl (hb hby d1_4) rfl (by decide) (by decide) (by decide) (by decide) ?_
    show St p e below T1 (mkF m 70 #[.val (.ref a1), .val (.int p2), .unset] []) _
    refine XS.iloadN X1.here hx rfl (hb hby d1_70) rfl ?_
    show St p e below T1 (mkF m 71 #[.val (.ref a1), .val (.int p2), .unset] [(.int p2)]) _
    refine XS.ifNo X1.here hx rfl (hb hby d1_71) rfl ((if0 _ _).trans (tlt hlt).2.1) ?_
    show St p e below T1 (mkF m 74 #[.val (.ref a1), .val (.int p2), .unset] []) _
    refine XS.iconst X1.here hx rfl (hb hby d1_74) ?_
    show St p e below T1 (mkF m 75 #[.val (.ref a1), .val (.int p2), .unset] [(.int 1)]) _
    refine XS.goto X1.here hx rfl (pc0 := 75) (pc' := 79) rfl (hb hby d1_75) (by decide) (by decide) ?_
    show St p e below T1 (mkF m 79 #[.val (.ref a1), .val (.int p2), .unset] [(.int 1)]) _
    refine XS.istoreN X1.here hx rfl (hb hby d1_79) rfl (l' := #[.val (.ref a1), .val (.int p2), .val (.int 1)]) rfl ?_
    show St p e below T1 (mkF m 80 #[.val (.ref a1), .val (.int p2), .val (.int 1)] []) _
    refine XS.goto X1.here hx rfl (pc0 := 80) (pc' := 131) rfl (hb hby d1_80) (by decide) (by decide) ?_
    show St p e below T1 (mkF m 131 #[.val (.ref a1), .val (.int p2), .val (.int 1)] []) _
    refine XS.iloadN X1.here hx rfl (hb hby d1_131) rfl ?_
    show St p e below T1 (mkF m 132 #[.val (.ref a1), .val (.int p2), .val (.int 1)] [(.int 1)]) _
    exact retN X1 hx (t := .boolean) Bd.returns (by simp) (hb hby d1_132) hr
  · show Q_holds_2_neg Z a1 p2 h0 n0 _ T1.heap _
    rw [e1]
    exact ⟨rfl, N1, rfl⟩
theorem d1_78 : decode prog_30_method_5_code 78 = .ok (.iconst 0, 1) := by decide +kernel
def Q_holds_2_zero (Z : State) (a1 : Addr) (p2 : Int32) (h0 : Heap) (n0 : Nat) (v : Option Value) (h : Heap) (L : List Loc) : Prop := v = some (.int 0) ∧ Fr n0 L ∧ h = h0
set_option maxRecDepth 65536 in
set_option maxHeartbeats 40000000 in
theorem rm_holds_2_zero (l : Launch) (Z : State) (a0 : Array Value) (hw : ∀ d ∈ tables_1, d.before a0 Z = true) (ws : List Jvm.Cond) (a1 : Addr) (p2 : Int32) (h0 : Heap) (n0 : Nat) (Z0 : n0 ≤ h0.size) (F_a1_ordinal : Fld Z h0 a1 "java/lang/Enum" "ordinal" "I" (.int 2)) (hlt : ¬ (p2 < (0 : Int32))) (heq : p2 = (0 : Int32)) (hgt : ¬ ((0 : Int32) < p2)) (E_a1 : Exa Z h0 a1 "com/example/sunder/sunder/Operator") :
    MetFree l (⟨"com/example/sunder/sunder/Operator", "holds", "(I)Z"⟩ : MethodName) (head1 (Jvm.Cond.code (⟨"com/example/sunder/sunder/Operator", "holds", "(I)Z"⟩ : MethodName) prog_30_method_5_code 3 (some .boolean) :: ws) ({ frames := 1, cells := 0, slots := 0, locals := 12 } : Room)) (fun a U => a = #[(.ref a1), (.int p2)] ∧ Z.Warmed39 U.vm ∧ U.heap = h0) (fun _ _ _ _ _ => True) (fun _ U o U' => ∃ v L, o = .returned v ∧ Q_holds_2_zero Z a1 p2 h0 n0 v U'.heap L ∧ FrameEnd U o U' L ({ frames := 1, cells := 0, slots := 0, locals := 12 } : Room).cells ({ frames := 1, cells := 0, slots := 0, locals := 12 } : Room).slots) := by
  refine MetFree.of_bodySF (plainFor_of_name pn_1) hisR ?_
  intro p e s m args below meth c s₁ Bd hml0 hP hK
  obtain ⟨rfl, hZ, hh⟩ := hP
  have hx := Bd.exec
  have hby := Bd.bytes
  have hml : c.maxLocals = 3 := hml0
  have hown : s.vm.findClass "com/example/sunder/sunder/Operator" = some m.cls := findClass_of_methodNamed Bd.named
  have hnm := (name_of_methodNamed Bd.named Bd.method).1
  have X0 : Stand p l e ({ frames := 1, cells := 0, slots := 0, locals := 12 } : Room) s m #[(.ref a1), (.int p2)] below meth c s₁ [] 0 0 := Stand.of_body Bd
  have e0 : s₁.heap = h0 := by rw [← hh, Bd.state]; rfl
  have N0 := Fr.nil n0
  have pre0 : ∀ t, Steps p.tables e below (s₁.setTop (mkF m 0 #[.val (.ref a1), .val (.int p2), .unset] [])) t → Steps p.tables e below (s₁.setTop (entryFrame m #[(.ref a1), (.int p2)] 3)) t := fun t k => castTop (ef_1_RI m a1 p2) k
  obtain ⟨cq1, kq1, q1a, q1b, q1c⟩ := isOf hZ e0 E_a1
  obtain ⟨_, _, ⟨T1, L1, k1, n1⟩, -, X1, ⟨Lc1, hQ1, l1, y1, z1⟩, st1⟩ := X0.virtualBackUp hx (owner := "java/lang/Enum") (x := (⟨"com/example/sunder/sunder/Operator", "ordinal", "()I"⟩ : MethodName)) (y := (⟨"java/lang/Enum", "ordinal", "()I"⟩ : MethodName)) hown (mvT hZ (hwi hw 8 rfl)) (mvT hZ (hwi hw 9 rfl)) (mvT hZ (hwi hw 10 rfl)) (by decide) (mvT hZ (hwi hw 12 rfl)) (mvT hZ (hwi hw 11 rfl)) (backOf (W := 0) (rm_ordinal l Z a0 hw [] a1 (2 : Int32) h0 n0 Z0 F_a1_ordinal) hZ (hwi hw 14 rfl) (hwi hw 13 rfl) (by decide) (by decide)) q1a q1c (g := (mkF m 1 #[.val (.ref a1), .val (.int p2), .unset] [(.ref a1)])) rfl (by rw [hml]; rfl) (Steps.refl _) (argsL := []) (rest := []) (lenOf pd_I_154 rfl) rfl (by show 2 * 0 + _ ≤ _; exact Nat.le_of_eq rfl) (hb hby d1_1) (fun _ _ => ⟨rfl, e0, (by decide : 0 + 0 ≤ _), (by decide : 0 + 0 ≤ _)⟩)
  dsimp only [Pt.U, Pt.locs, Pt.cells, Pt.slots] at X1 l1 y1 z1 st1 hQ1
  subst l1 y1 z1
  obtain ⟨rfl, N1q, e1⟩ := hQ1
  have N1 := Fr.app N0 N1q
  obtain ⟨fs, hr, hrun, hended, hW, hsame⟩ := X1.leave (v := some (.int 0)) (fun h => by rw [Bd.returns] at h; cases h)
  refine ⟨_, _, pre0 _ ?_, hrun, hended, _, _, rfl, ?_, ⟨_, rfl⟩, hW, hsame.mono (by decide) (by decide)⟩
  · show St p e below s₁ (mkF m 0 #[.val (.ref a1), .val (.int p2), .unset] []) _
    refine XS.aloadN X0.here hx rfl (hb hby d1_0) rfl rfl ?_
    show St p e below s₁ (mkF m 1 #[.val (.ref a1), .val (.int p2), .unset] [(.ref a1)]) _
    refine st1.trans ?_
    show St p e below T1 (mkF m 4 #[.val (.ref a1), .val (.int p2), .unset] [(.int 2)]) _
    refine XS.tswIn X1.here hx rfl (pc0 := 4) (pc' := 70) (o := 66) rfl (hb hby d1_4) rfl (by decide) (by decide) (by decide) (by decide) ?_
    show St p e below T1 (mkF m 70 #[.val (.ref a1), .val (.int p2), .unset] []) _
    refine XS.iloadN X1.here hx rfl (hb hby d1_70) rfl ?_
    show St p e below T1 (mkF m 71 #[.val (.ref a1), .val (.int p2), .unset] [(.int p2)]) _
    refine XS.ifYes X1.here hx rfl (pc0 := 71) (pc' := 78) rfl (hb hby d1_71) rfl ((if0 _ _).trans (flt hlt).2.1) (by decide) (by decide) ?_
    show St p e below T1 (mkF m 78 #[.val (.ref a1), .val (.int p2), .unset] []) _
    refine XS.iconst X1.here hx rfl (hb hby d1_78) ?_
    show St p e below T1 (mkF m 79 #[.val (.ref a1), .val (.int p2), .unset] [(.int 0)]) _
    refine XS.istoreN X1.here hx rfl (hb hby d1_79) rfl (l' := #[.val (.ref a1), .val (.int p2), .val (.int 0)]) rfl ?_
    show St p e below T1 (mkF m 80 #[.val (.ref a1), .val (.int p2), .val (.int 0)] []) _
    refine XS.goto X1.here hx rfl (pc0 := 80) (pc' := 131) rfl (hb hby d1_80) (by decide) (by decide) ?_
    show St p e below T1 (mkF m 131 #[.val (.ref a1), .val (.int p2), .val (.int 0)] []) _
    refine XS.iloadN X1.here hx rfl (hb hby d1_131) rfl ?_
    show St p e below T1 (mkF m 132 #[.val (.ref a1), .val (.int p2), .val (.int 0)] [(.int 0)]) _
    exact retN X1 hx (t := .boolean) Bd.returns (by simp) (hb hby d1_132) hr
  · show Q_holds_2_zero Z a1 p2 h0 n0 _ T1.heap _
    rw [e1]
    exact ⟨rfl, N1, rfl⟩
def Q_holds_2_pos (Z : State) (a1 : Addr) (p2 : Int32) (h0 : Heap) (n0 : Nat) (v : Option Value) (h : Heap) (L : List Loc) : Prop := v = some (.int 0) ∧ Fr n0 L ∧ h = h0
set_option maxRecDepth 65536 in
set_option maxHeartbeats 40000000 in
theorem rm_holds_2_pos (l : Launch) (Z : State) (a0 : Array Value) (hw : ∀ d ∈ tables_1, d.before a0 Z = true) (ws : List Jvm.Cond) (a1 : Addr) (p2 : Int32) (h0 : Heap) (n0 : Nat) (Z0 : n0 ≤ h0.size) (F_a1_ordinal : Fld Z h0 a1 "java/lang/Enum" "ordinal" "I" (.int 2)) (hlt : ¬ (p2 < (0 : Int32))) (heq : ¬ (p2 = (0 : Int32))) (hgt : (0 : Int32) < p2) (E_a1 : Exa Z h0 a1 "com/example/sunder/sunder/Operator") :
    MetFree l (⟨"com/example/sunder/sunder/Operator", "holds", "(I)Z"⟩ : MethodName) (head1 (Jvm.Cond.code (⟨"com/example/sunder/sunder/Operator", "holds", "(I)Z"⟩ : MethodName) prog_30_method_5_code 3 (some .boolean) :: ws) ({ frames := 1, cells := 0, slots := 0, locals := 12 } : Room)) (fun a U => a = #[(.ref a1), (.int p2)] ∧ Z.Warmed39 U.vm ∧ U.heap = h0) (fun _ _ _ _ _ => True) (fun _ U o U' => ∃ v L, o = .returned v ∧ Q_holds_2_pos Z a1 p2 h0 n0 v U'.heap L ∧ FrameEnd U o U' L ({ frames := 1, cells := 0, slots := 0, locals := 12 } : Room).cells ({ frames := 1, cells := 0, slots := 0, locals := 12 } : Room).slots) := by
  refine MetFree.of_bodySF (plainFor_of_name pn_1) hisR ?_
  intro p e s m args below meth c s₁ Bd hml0 hP hK
  obtain ⟨rfl, hZ, hh⟩ := hP
  have hx := Bd.exec
  have hby := Bd.bytes
  have hml : c.maxLocals = 3 := hml0
  have hown : s.vm.findClass "com/example/sunder/sunder/Operator" = some m.cls := findClass_of_methodNamed Bd.named
  have hnm := (name_of_methodNamed Bd.named Bd.method).1
  have X0 : Stand p l e ({ frames := 1, cells := 0, slots := 0, locals := 12 } : Room) s m #[(.ref a1), (.int p2)] below meth c s₁ [] 0 0 := Stand.of_body Bd
  have e0 : s₁.heap = h0 := by rw [← hh, Bd.state]; rfl
  have N0 := Fr.nil n0
  have pre0 : ∀ t, Steps p.tables e below (s₁.setTop (mkF m 0 #[.val (.ref a1), .val (.int p2), .unset] [])) t → Steps p.tables e below (s₁.setTop (entryFrame m #[(.ref a1), (.int p2)] 3)) t := fun t k => castTop (ef_1_RI m a1 p2) k
  obtain ⟨cq1, kq1, q1a, q1b, q1c⟩ := isOf hZ e0 E_a1
  obtain ⟨_, _, ⟨T1, L1, k1, n1⟩, -, X1, ⟨Lc1, hQ1, l1, y1, z1⟩, st1⟩ := X0.virtualBackUp hx (owner := "java/lang/Enum") (x := (⟨"com/example/sunder/sunder/Operator", "ordinal", "()I"⟩ : MethodName)) (y := (⟨"java/lang/Enum", "ordinal", "()I"⟩ : MethodName)) hown (mvT hZ (hwi hw 8 rfl)) (mvT hZ (hwi hw 9 rfl)) (mvT hZ (hwi hw 10 rfl)) (by decide) (mvT hZ (hwi hw 12 rfl)) (mvT hZ (hwi hw 11 rfl)) (backOf (W := 0) (rm_ordinal l Z a0 hw [] a1 (2 : Int32) h0 n0 Z0 F_a1_ordinal) hZ (hwi hw 14 rfl) (hwi hw 13 rfl) (by decide) (by decide)) q1a q1c (g := (mkF m 1 #[.val (.ref a1), .val (.int p2), .unset] [(.ref a1)])) rfl (by rw [hml]; rfl) (Steps.refl _) (argsL := []) (rest := []) (lenOf pd_I_154 rfl) rfl (by show 2 * 0 + _ ≤ _; exact Nat.le_of_eq rfl) (hb hby d1_1) (fun _ _ => ⟨rfl, e0, (by decide : 0 + 0 ≤ _), (by decide : 0 + 0 ≤ _)⟩)
  dsimp only [Pt.U, Pt.locs, Pt.cells, Pt.slots] at X1 l1 y1 z1 st1 hQ1
  subst l1 y1 z1
  obtain ⟨rfl, N1q, e1⟩ := hQ1
  have N1 := Fr.app N0 N1q
  obtain ⟨fs, hr, hrun, hended, hW, hsame⟩ := X1.leave (v := some (.int 0)) (fun h => by rw [Bd.returns] at h; cases h)
  refine ⟨_, _, pre0 _ ?_, hrun, hended, _, _, rfl, ?_, ⟨_, rfl⟩, hW, hsame.mono (by decide) (by decide)⟩
  · show St p e below s₁ (mkF m 0 #[.val (.ref a1), .val (.int p2), .unset] []) _
    refine XS.aloadN X0.here hx rfl (hb hby d1_0) rfl rfl ?_
    show St p e below s₁ (mkF m 1 #[.val (.ref a1), .val (.int p2), .unset] [(.ref a1)]) _
    refine st1.trans ?_
    show St p e below T1 (mkF m 4 #[.val (.ref a1), .val (.int p2), .unset] [(.int 2)]) _
    refine XS.tswIn X1.here hx rfl (pc0 := 4) (pc' := 70) (o := 66) rfl (hb hby d1_4) rfl (by decide) (by decide) (by decide) (by decide) ?_
    show St p e below T1 (mkF m 70 #[.val (.ref a1), .val (.int p2), .unset] []) _
    refine XS.iloadN X1.here hx rfl (hb hby d1_70) rfl ?_
    show St p e below T1 (mkF m 71 #[.val (.ref a1), .val (.int p2), .unset] [(.int p2)]) _
    refine XS.ifYes X1.here hx rfl (pc0 := 71) (pc' := 78) rfl (hb hby d1_71) rfl ((if0 _ _).trans (flt hlt).2.1) (by decide) (by decide) ?_
    show St p e below T1 (mkF m 78 #[.val (.ref a1), .val (.int p2), .unset] []) _
    refine XS.iconst X1.here hx rfl (hb hby d1_78) ?_
    show St p e below T1 (mkF m 79 #[.val (.ref a1), .val (.int p2), .unset] [(.int 0)]) _
    refine XS.istoreN X1.here hx rfl (hb hby d1_79) rfl (l' := #[.val (.ref a1), .val (.int p2), .val (.int 0)]) rfl ?_
    show St p e below T1 (mkF m 80 #[.val (.ref a1), .val (.int p2), .val (.int 0)] []) _
    refine XS.goto X1.here hx rfl (pc0 := 80) (pc' := 131) rfl (hb hby d1_80) (by decide) (by decide) ?_
    show St p e below T1 (mkF m 131 #[.val (.ref a1), .val (.int p2), .val (.int 0)] []) _
    refine XS.iloadN X1.here hx rfl (hb hby d1_131) rfl ?_
    show St p e below T1 (mkF m 132 #[.val (.ref a1), .val (.int p2), .val (.int 0)] [(.int 0)]) _
    exact retN X1 hx (t := .boolean) Bd.returns (by simp) (hb hby d1_132) hr
  · show Q_holds_2_pos Z a1 p2 h0 n0 _ T1.heap _
    rw [e1]
    exact ⟨rfl, N1, rfl⟩
theorem d1_83 : decode prog_30_method_5_code 83 = .ok (.iload_n 1, 1) := by decide +kernel
theorem d1_84 : decode prog_30_method_5_code 84 = .ok (.ifCond .gt 7, 3) := by decide +kernel
theorem d1_87 : decode prog_30_method_5_code 87 = .ok (.iconst 1, 1) := by decide +kernel
theorem d1_88 : decode prog_30_method_5_code 88 = .ok (.goto 4, 3) := by decide +kernel
theorem d1_92 : decode prog_30_method_5_code 92 = .ok (.istore_n 2, 1) := by decide +kernel
theorem d1_93 : decode prog_30_method_5_code 93 = .ok (.goto 38, 3) := by decide +kernel
def Q_holds_3_neg (Z : State) (a1 : Addr) (p2 : Int32) (h0 : Heap) (n0 : Nat) (v : Option Value) (h : Heap) (L : List Loc) : Prop := v = some (.int 1) ∧ Fr n0 L ∧ h = h0
set_option maxRecDepth 65536 in
set_option maxHeartbeats 40000000 in
theorem rm_holds_3_neg (l : Launch) (Z : State) (a0 : Array Value) (hw : ∀ d ∈ tables_1, d.before a0 Z = true) (ws : List Jvm.Cond) (a1 : Addr) (p2 : Int32) (h0 : Heap) (n0 : Nat) (Z0 : n0 ≤ h0.size) (F_a1_ordinal : Fld Z h0 a1 "java/lang/Enum" "ordinal" "I" (.int 3)) (hlt : p2 < (0 : Int32)) (heq : ¬ (p2 = (0 : Int32))) (hgt : ¬ ((0 : Int32) < p2)) (E_a1 : Exa Z h0 a1 "com/example/sunder/sunder/Operator") :
    MetFree l (⟨"com/example/sunder/sunder/Operator", "holds", "(I)Z"⟩ : MethodName) (head1 (Jvm.Cond.code (⟨"com/example/sunder/sunder/Operator", "holds", "(I)Z"⟩ : MethodName) prog_30_method_5_code 3 (some .boolean) :: ws) ({ frames := 1, cells := 0, slots := 0, locals := 12 } : Room)) (fun a U => a = #[(.ref a1), (.int p2)] ∧ Z.Warmed39 U.vm ∧ U.heap = h0) (fun _ _ _ _ _ => True) (fun _ U o U' => ∃ v L, o = .returned v ∧ Q_holds_3_neg Z a1 p2 h0 n0 v U'.heap L ∧ FrameEnd U o U' L ({ frames := 1, cells := 0, slots := 0, locals := 12 } : Room).cells ({ frames := 1, cells := 0, slots := 0, locals := 12 } : Room).slots) := by
  refine MetFree.of_bodySF (plainFor_of_name pn_1) hisR ?_
  intro p e s m args below meth c s₁ Bd hml0 hP hK
  obtain ⟨rfl, hZ, hh⟩ := hP
  have hx := Bd.exec
  have hby := Bd.bytes
  have hml : c.maxLocals = 3 := hml0
  have hown : s.vm.findClass "com/example/sunder/sunder/Operator" = some m.cls := findClass_of_methodNamed Bd.named
  have hnm := (name_of_methodNamed Bd.named Bd.method).1
  have X0 : Stand p l e ({ frames := 1, cells := 0, slots := 0, locals := 12 } : Room) s m #[(.ref a1), (.int p2)] below meth c s₁ [] 0 0 := Stand.of_body Bd
  have e0 : s₁.heap = h0 := by rw [← hh, Bd.state]; rfl
  have N0 := Fr.nil n0
  have pre0 : ∀ t, Steps p.tables e below (s₁.setTop (mkF m 0 #[.val (.ref a1), .val (.int p2), .unset] [])) t → Steps p.tables e below (s₁.setTop (entryFrame m #[(.ref a1), (.int p2)] 3)) t := fun t k => castTop (ef_1_RI m a1 p2) k
  obtain ⟨cq1, kq1, q1a, q1b, q1c⟩ := isOf hZ e0 E_a1
  obtain ⟨_, _, ⟨T1, L1, k1, n1⟩, -, X1, ⟨Lc1, hQ1, l1, y1, z1⟩, st1⟩ := X0.virtualBackUp hx (owner := "java/lang/Enum") (x := (⟨"com/example/sunder/sunder/Operator", "ordinal", "()I"⟩ : MethodName)) (y := (⟨"java/lang/Enum", "ordinal", "()I"⟩ : MethodName)) hown (mvT hZ (hwi hw 8 rfl)) (mvT hZ (hwi hw 9 rfl)) (mvT hZ (hwi hw 10 rfl)) (by decide) (mvT hZ (hwi hw 12 rfl)) (mvT hZ (hwi hw 11 rfl)) (backOf (W := 0) (rm_ordinal l Z a0 hw [] a1 (3 : Int32) h0 n0 Z0 F_a1_ordinal) hZ (hwi hw 14 rfl) (hwi hw 13 rfl) (by decide) (by decide)) q1a q1c (g := (mkF m 1 #[.val (.ref a1), .val (.int p2), .unset] [(.ref a1)])) rfl (by rw [hml]; rfl) (Steps.refl _) (argsL := []) (rest := []) (lenOf pd_I_154 rfl) rfl (by show 2 * 0 + _ ≤ _; exact Nat.le_of_eq rfl) (hb hby d1_1) (fun _ _ => ⟨rfl, e0, (by decide : 0 + 0 ≤ _), (by decide : 0 + 0 ≤ _)⟩)
  dsimp only [Pt.U, Pt.locs, Pt.cells, Pt.slots] at X1 l1 y1 z1 st1 hQ1
  subst l1 y1 z1
  obtain ⟨rfl, N1q, e1⟩ := hQ1
  have N1 := Fr.app N0 N1q
  obtain ⟨fs, hr, hrun, hended, hW, hsame⟩ := X1.leave (v := some (.int 1)) (fun h => by rw [Bd.returns] at h; cases h)
  refine ⟨_, _, pre0 _ ?_, hrun, hended, _, _, rfl, ?_, ⟨_, rfl⟩, hW, hsame.mono (by decide) (by decide)⟩
  · show St p e below s₁ (mkF m 0 #[.val (.ref a1), .val (.int p2), .unset] []) _
    refine XS.aloadN X0.here hx rfl (hb hby d1_0) rfl rfl ?_
    show St p e below s₁ (mkF m 1 #[.val (.ref a1), .val (.int p2), .unset] [(.ref a1)]) _
    refine st1.trans ?_
    show St p e below T1 (mkF m 4 #[.val (.ref a1), .val (.int p2), .unset] [(.int 3)]) _
    refine XS.tswIn X1.here hx rfl (pc0 := 4) (pc' := 83) (o := 79) rfl (hb hby d1_4) rfl (by decide) (by decide) (by decide) (by decide) ?_
    show St p e below T1 (mkF m 83 #[.val (.ref a1), .val (.int p2), .unset] []) _
    refine XS.iloadN X1.here hx rfl (hb hby d1_83) rfl ?_
    show St p e below T1 (mkF m 84 #[.val (.ref a1), .val (.int p2), .unset] [(.int p2)]) _
    refine XS.ifNo X1.here hx rfl (hb hby d1_84) rfl ((if0 _ _).trans (flt hgt).2.2.1) ?_
    show St p e below T1 (mkF m 87 #[.val (.ref a1), .val (.int p2), .unset] []) _
    refine XS.iconst X1.here hx rfl (hb hby d1_87) ?_
    show St p e below T1 (mkF m 88 #[.val (.ref a1), .val (.int p2), .unset] [(.int 1)]) _
    refine XS.goto X1.here hx rfl (pc0 := 88) (pc' := 92) rfl (hb hby d1_88) (by decide) (by decide) ?_
    show St p e below T1 (mkF m 92 #[.val (.ref a1), .val (.int p2), .unset] [(.int 1)]) _
    refine XS.istoreN X1.here hx rfl (hb hby d1_92) rfl (l' := #[.val (.ref a1), .val (.int p2), .val (.int 1)]) rfl ?_
    show St p e below T1 (mkF m 93 #[.val (.ref a1), .val (.int p2), .val (.int 1)] []) _
    refine XS.goto X1.here hx rfl (pc0 := 93) (pc' := 131) rfl (hb hby d1_93) (by decide) (by decide) ?_
    show St p e below T1 (mkF m 131 #[.val (.ref a1), .val (.int p2), .val (.int 1)] []) _
    refine XS.iloadN X1.here hx rfl (hb hby d1_131) rfl ?_
    show St p e below T1 (mkF m 132 #[.val (.ref a1), .val (.int p2), .val (.int 1)] [(.int 1)]) _
    exact retN X1 hx (t := .boolean) Bd.returns (by simp) (hb hby d1_132) hr
  · show Q_holds_3_neg Z a1 p2 h0 n0 _ T1.heap _
    rw [e1]
    exact ⟨rfl, N1, rfl⟩
def Q_holds_3_zero (Z : State) (a1 : Addr) (p2 : Int32) (h0 : Heap) (n0 : Nat) (v : Option Value) (h : Heap) (L : List Loc) : Prop := v = some (.int 1) ∧ Fr n0 L ∧ h = h0
set_option maxRecDepth 65536 in
set_option maxHeartbeats 40000000 in
theorem rm_holds_3_zero (l : Launch) (Z : State) (a0 : Array Value) (hw : ∀ d ∈ tables_1, d.before a0 Z = true) (ws : List Jvm.Cond) (a1 : Addr) (p2 : Int32) (h0 : Heap) (n0 : Nat) (Z0 : n0 ≤ h0.size) (F_a1_ordinal : Fld Z h0 a1 "java/lang/Enum" "ordinal" "I" (.int 3)) (hlt : ¬ (p2 < (0 : Int32))) (heq : p2 = (0 : Int32)) (hgt : ¬ ((0 : Int32) < p2)) (E_a1 : Exa Z h0 a1 "com/example/sunder/sunder/Operator") :
    MetFree l (⟨"com/example/sunder/sunder/Operator", "holds", "(I)Z"⟩ : MethodName) (head1 (Jvm.Cond.code (⟨"com/example/sunder/sunder/Operator", "holds", "(I)Z"⟩ : MethodName) prog_30_method_5_code 3 (some .boolean) :: ws) ({ frames := 1, cells := 0, slots := 0, locals := 12 } : Room)) (fun a U => a = #[(.ref a1), (.int p2)] ∧ Z.Warmed39 U.vm ∧ U.heap = h0) (fun _ _ _ _ _ => True) (fun _ U o U' => ∃ v L, o = .returned v ∧ Q_holds_3_zero Z a1 p2 h0 n0 v U'.heap L ∧ FrameEnd U o U' L ({ frames := 1, cells := 0, slots := 0, locals := 12 } : Room).cells ({ frames := 1, cells := 0, slots := 0, locals := 12 } : Room).slots) := by
  refine MetFree.of_bodySF (plainFor_of_name pn_1) hisR ?_
  intro p e s m args below meth c s₁ Bd hml0 hP hK
  obtain ⟨rfl, hZ, hh⟩ := hP
  have hx := Bd.exec
  have hby := Bd.bytes
  have hml : c.maxLocals = 3 := hml0
  have hown : s.vm.findClass "com/example/sunder/sunder/Operator" = some m.cls := findClass_of_methodNamed Bd.named
  have hnm := (name_of_methodNamed Bd.named Bd.method).1
  have X0 : Stand p l e ({ frames := 1, cells := 0, slots := 0, locals := 12 } : Room) s m #[(.ref a1), (.int p2)] below meth c s₁ [] 0 0 := Stand.of_body Bd
  have e0 : s₁.heap = h0 := by rw [← hh, Bd.state]; rfl
  have N0 := Fr.nil n0
  have pre0 : ∀ t, Steps p.tables e below (s₁.setTop (mkF m 0 #[.val (.ref a1), .val (.int p2), .unset] [])) t → Steps p.tables e below (s₁.setTop (entryFrame m #[(.ref a1), (.int p2)] 3)) t := fun t k => castTop (ef_1_RI m a1 p2) k
  obtain ⟨cq1, kq1, q1a, q1b, q1c⟩ := isOf hZ e0 E_a1
  obtain ⟨_, _, ⟨T1, L1, k1, n1⟩, -, X1, ⟨Lc1, hQ1, l1, y1, z1⟩, st1⟩ := X0.virtualBackUp hx (owner := "java/lang/Enum") (x := (⟨"com/example/sunder/sunder/Operator", "ordinal", "()I"⟩ : MethodName)) (y := (⟨"java/lang/Enum", "ordinal", "()I"⟩ : MethodName)) hown (mvT hZ (hwi hw 8 rfl)) (mvT hZ (hwi hw 9 rfl)) (mvT hZ (hwi hw 10 rfl)) (by decide) (mvT hZ (hwi hw 12 rfl)) (mvT hZ (hwi hw 11 rfl)) (backOf (W := 0) (rm_ordinal l Z a0 hw [] a1 (3 : Int32) h0 n0 Z0 F_a1_ordinal) hZ (hwi hw 14 rfl) (hwi hw 13 rfl) (by decide) (by decide)) q1a q1c (g := (mkF m 1 #[.val (.ref a1), .val (.int p2), .unset] [(.ref a1)])) rfl (by rw [hml]; rfl) (Steps.refl _) (argsL := []) (rest := []) (lenOf pd_I_154 rfl) rfl (by show 2 * 0 + _ ≤ _; exact Nat.le_of_eq rfl) (hb hby d1_1) (fun _ _ => ⟨rfl, e0, (by decide : 0 + 0 ≤ _), (by decide : 0 + 0 ≤ _)⟩)
  dsimp only [Pt.U, Pt.locs, Pt.cells, Pt.slots] at X1 l1 y1 z1 st1 hQ1
  subst l1 y1 z1
  obtain ⟨rfl, N1q, e1⟩ := hQ1
  have N1 := Fr.app N0 N1q
  obtain ⟨fs, hr, hrun, hended, hW, hsame⟩ := X1.leave (v := some (.int 1)) (fun h => by rw [Bd.returns] at h; cases h)
  refine ⟨_, _, pre0 _ ?_, hrun, hended, _, _, rfl, ?_, ⟨_, rfl⟩, hW, hsame.mono (by decide) (by decide)⟩
  · show St p e below s₁ (mkF m 0 #[.val (.ref a1), .val (.int p2), .unset] []) _
    refine XS.aloadN X0.here hx rfl (hb hby d1_0) rfl rfl ?_
    show St p e below s₁ (mkF m 1 #[.val (.ref a1), .val (.int p2), .unset] [(.ref a1)]) _
    refine st1.trans ?_
    show St p e below T1 (mkF m 4 #[.val (.ref a1), .val (.int p2), .unset] [(.int 3)]) _
    refine XS.tswIn X1.here hx rfl (pc0 := 4) (pc' := 83) (o := 79) rfl (hb hby d1_4) rfl (by decide) (by decide) (by decide) (by decide) ?_
    show St p e below T1 (mkF m 83 #[.val (.ref a1), .val (.int p2), .unset] []) _
    refine XS.iloadN X1.here hx rfl (hb hby d1_83) rfl ?_
    show St p e below T1 (mkF m 84 #[.val (.ref a1), .val (.int p2), .unset] [(.int p2)]) _
    refine XS.ifNo X1.here hx rfl (hb hby d1_84) rfl ((if0 _ _).trans (flt hgt).2.2.1) ?_
    show St p e below T1 (mkF m 87 #[.val (.ref a1), .val (.int p2), .unset] []) _
    refine XS.iconst X1.here hx rfl (hb hby d1_87) ?_
    show St p e below T1 (mkF m 88 #[.val (.ref a1), .val (.int p2), .unset] [(.int 1)]) _
    refine XS.goto X1.here hx rfl (pc0 := 88) (pc' := 92) rfl (hb hby d1_88) (by decide) (by decide) ?_
    show St p e below T1 (mkF m 92 #[.val (.ref a1), .val (.int p2), .unset] [(.int 1)]) _
    refine XS.istoreN X1.here hx rfl (hb hby d1_92) rfl (l' := #[.val (.ref a1), .val (.int p2), .val (.int 1)]) rfl ?_
    show St p e below T1 (mkF m 93 #[.val (.ref a1), .val (.int p2), .val (.int 1)] []) _
    refine XS.goto X1.here hx rfl (pc0 := 93) (pc' := 131) rfl (hb hby d1_93) (by decide) (by decide) ?_
    show St p e below T1 (mkF m 131 #[.val (.ref a1), .val (.int p2), .val (.int 1)] []) _
    refine XS.iloadN X1.here hx rfl (hb hby d1_131) rfl ?_
    show St p e below T1 (mkF m 132 #[.val (.ref a1), .val (.int p2), .val (.int 1)] [(.int 1)]) _
    exact retN X1 hx (t := .boolean) Bd.returns (by simp) (hb hby d1_132) hr
  · show Q_holds_3_zero Z a1 p2 h0 n0 _ T1.heap _
    rw [e1]
    exact ⟨rfl, N1, rfl⟩
theorem d1_91 : decode prog_30_method_5_code 91 = .ok (.iconst 0, 1) := by decide +kernel
def Q_holds_3_pos (Z : State) (a1 : Addr) (p2 : Int32) (h0 : Heap) (n0 : Nat) (v : Option Value) (h : Heap) (L : List Loc) : Prop := v = some (.int 0) ∧ Fr n0 L ∧ h = h0
set_option maxRecDepth 65536 in
set_option maxHeartbeats 40000000 in
theorem rm_holds_3_pos (l : Launch) (Z : State) (a0 : Array Value) (hw : ∀ d ∈ tables_1, d.before a0 Z = true) (ws : List Jvm.Cond) (a1 : Addr) (p2 : Int32) (h0 : Heap) (n0 : Nat) (Z0 : n0 ≤ h0.size) (F_a1_ordinal : Fld Z h0 a1 "java/lang/Enum" "ordinal" "I" (.int 3)) (hlt : ¬ (p2 < (0 : Int32))) (heq : ¬ (p2 = (0 : Int32))) (hgt : (0 : Int32) < p2) (E_a1 : Exa Z h0 a1 "com/example/sunder/sunder/Operator") :
    MetFree l (⟨"com/example/sunder/sunder/Operator", "holds", "(I)Z"⟩ : MethodName) (head1 (Jvm.Cond.code (⟨"com/example/sunder/sunder/Operator", "holds", "(I)Z"⟩ : MethodName) prog_30_method_5_code 3 (some .boolean) :: ws) ({ frames := 1, cells := 0, slots := 0, locals := 12 } : Room)) (fun a U => a = #[(.ref a1), (.int p2)] ∧ Z.Warmed39 U.vm ∧ U.heap = h0) (fun _ _ _ _ _ => True) (fun _ U o U' => ∃ v L, o = .returned v ∧ Q_holds_3_pos Z a1 p2 h0 n0 v U'.heap L ∧ FrameEnd U o U' L ({ frames := 1, cells := 0, slots := 0, locals := 12 } : Room).cells ({ frames := 1, cells := 0, slots := 0, locals := 12 } : Room).slots) := by
  refine MetFree.of_bodySF (plainFor_of_name pn_1) hisR ?_
  intro p e s m args below meth c s₁ Bd hml0 hP hK
  obtain ⟨rfl, hZ, hh⟩ := hP
  have hx := Bd.exec
  have hby := Bd.bytes
  have hml : c.maxLocals = 3 := hml0
  have hown : s.vm.findClass "com/example/sunder/sunder/Operator" = some m.cls := findClass_of_methodNamed Bd.named
  have hnm := (name_of_methodNamed Bd.named Bd.method).1
  have X0 : Stand p l e ({ frames := 1, cells := 0, slots := 0, locals := 12 } : Room) s m #[(.ref a1), (.int p2)] below meth c s₁ [] 0 0 := Stand.of_body Bd
  have e0 : s₁.heap = h0 := by rw [← hh, Bd.state]; rfl
  have N0 := Fr.nil n0
  have pre0 : ∀ t, Steps p.tables e below (s₁.setTop (mkF m 0 #[.val (.ref a1), .val (.int p2), .unset] [])) t → Steps p.tables e below (s₁.setTop (entryFrame m #[(.ref a1), (.int p2)] 3)) t := fun t k => castTop (ef_1_RI m a1 p2) k
  obtain ⟨cq1, kq1, q1a, q1b, q1c⟩ := isOf hZ e0 E_a1
  obtain ⟨_, _, ⟨T1, L1, k1, n1⟩, -, X1, ⟨Lc1, hQ1, l1, y1, z1⟩, st1⟩ := X0.virtualBackUp hx (owner := "java/lang/Enum") (x := (⟨"com/example/sunder/sunder/Operator", "ordinal", "()I"⟩ : MethodName)) (y := (⟨"java/lang/Enum", "ordinal", "()I"⟩ : MethodName)) hown (mvT hZ (hwi hw 8 rfl)) (mvT hZ (hwi hw 9 rfl)) (mvT hZ (hwi hw 10 rfl)) (by decide) (mvT hZ (hwi hw 12 rfl)) (mvT hZ (hwi hw 11 rfl)) (backOf (W := 0) (rm_ordinal l Z a0 hw [] a1 (3 : Int32) h0 n0 Z0 F_a1_ordinal) hZ (hwi hw 14 rfl) (hwi hw 13 rfl) (by decide) (by decide)) q1a q1c (g := (mkF m 1 #[.val (.ref a1), .val (.int p2), .unset] [(.ref a1)])) rfl (by rw [hml]; rfl) (Steps.refl _) (argsL := []) (rest := []) (lenOf pd_I_154 rfl) rfl (by show 2 * 0 + _ ≤ _; exact Nat.le_of_eq rfl) (hb hby d1_1) (fun _ _ => ⟨rfl, e0, (by decide : 0 + 0 ≤ _), (by decide : 0 + 0 ≤ _)⟩)
  dsimp only [Pt.U, Pt.locs, Pt.cells, Pt.slots] at X1 l1 y1 z1 st1 hQ1
  subst l1 y1 z1
  obtain ⟨rfl, N1q, e1⟩ := hQ1
  have N1 := Fr.app N0 N1q
  obtain ⟨fs, hr, hrun, hended, hW, hsame⟩ := X1.leave (v := some (.int 0)) (fun h => by rw [Bd.returns] at h; cases h)
  refine ⟨_, _, pre0 _ ?_, hrun, hended, _, _, rfl, ?_, ⟨_, rfl⟩, hW, hsame.mono (by decide) (by decide)⟩
  · show St p e below s₁ (mkF m 0 #[.val (.ref a1), .val (.int p2), .unset] []) _
    refine XS.aloadN X0.here hx rfl (hb hby d1_0) rfl rfl ?_
    show St p e below s₁ (mkF m 1 #[.val (.ref a1), .val (.int p2), .unset] [(.ref a1)]) _
    refine st1.trans ?_
    show St p e below T1 (mkF m 4 #[.val (.ref a1), .val (.int p2), .unset] [(.int 3)]) _
    refine XS.tswIn X1.here hx rfl (pc0 := 4) (pc' := 83) (o := 79) rfl (hb hby d1_4) rfl (by decide) (by decide) (by decide) (by decide) ?_
    show St p e below T1 (mkF m 83 #[.val (.ref a1), .val (.int p2), .unset] []) _
    refine XS.iloadN X1.here hx rfl (hb hby d1_83) rfl ?_
    show St p e below T1 (mkF m 84 #[.val (.ref a1), .val (.int p2), .unset] [(.int p2)]) _
    refine XS.ifYes X1.here hx rfl (pc0 := 84) (pc' := 91) rfl (hb hby d1_84) rfl ((if0 _ _).trans (tlt hgt).2.2.1) (by decide) (by decide) ?_
    show St p e below T1 (mkF m 91 #[.val (.ref a1), .val (.int p2), .unset] []) _
    refine XS.iconst X1.here hx rfl (hb hby d1_91) ?_
    show St p e below T1 (mkF m 92 #[.val (.ref a1), .val (.int p2), .unset] [(.int 0)]) _
    refine XS.istoreN X1.here hx rfl (hb hby d1_92) rfl (l' := #[.val (.ref a1), .val (.int p2), .val (.int 0)]) rfl ?_
    show St p e below T1 (mkF m 93 #[.val (.ref a1), .val (.int p2), .val (.int 0)] []) _
    refine XS.goto X1.here hx rfl (pc0 := 93) (pc' := 131) rfl (hb hby d1_93) (by decide) (by decide) ?_
    show St p e below T1 (mkF m 131 #[.val (.ref a1), .val (.int p2), .val (.int 0)] []) _
    refine XS.iloadN X1.here hx rfl (hb hby d1_131) rfl ?_
    show St p e below T1 (mkF m 132 #[.val (.ref a1), .val (.int p2), .val (.int 0)] [(.int 0)]) _
    exact retN X1 hx (t := .boolean) Bd.returns (by simp) (hb hby d1_132) hr
  · show Q_holds_3_pos Z a1 p2 h0 n0 _ T1.heap _
    rw [e1]
    exact ⟨rfl, N1, rfl⟩
theorem d1_96 : decode prog_30_method_5_code 96 = .ok (.iload_n 1, 1) := by decide +kernel
theorem d1_97 : decode prog_30_method_5_code 97 = .ok (.ifCond .le 7, 3) := by decide +kernel
theorem d1_104 : decode prog_30_method_5_code 104 = .ok (.iconst 0, 1) := by decide +kernel
theorem d1_105 : decode prog_30_method_5_code 105 = .ok (.istore_n 2, 1) := by decide +kernel
theorem d1_106 : decode prog_30_method_5_code 106 = .ok (.goto 25, 3) := by decide +kernel
def Q_holds_4_neg (Z : State) (a1 : Addr) (p2 : Int32) (h0 : Heap) (n0 : Nat) (v : Option Value) (h : Heap) (L : List Loc) : Prop := v = some (.int 0) ∧ Fr n0 L ∧ h = h0
set_option maxRecDepth 65536 in
set_option maxHeartbeats 40000000 in
theorem rm_holds_4_neg (l : Launch) (Z : State) (a0 : Array Value) (hw : ∀ d ∈ tables_1, d.before a0 Z = true) (ws : List Jvm.Cond) (a1 : Addr) (p2 : Int32) (h0 : Heap) (n0 : Nat) (Z0 : n0 ≤ h0.size) (F_a1_ordinal : Fld Z h0 a1 "java/lang/Enum" "ordinal" "I" (.int 4)) (hlt : p2 < (0 : Int32)) (heq : ¬ (p2 = (0 : Int32))) (hgt : ¬ ((0 : Int32) < p2)) (E_a1 : Exa Z h0 a1 "com/example/sunder/sunder/Operator") :
    MetFree l (⟨"com/example/sunder/sunder/Operator", "holds", "(I)Z"⟩ : MethodName) (head1 (Jvm.Cond.code (⟨"com/example/sunder/sunder/Operator", "holds", "(I)Z"⟩ : MethodName) prog_30_method_5_code 3 (some .boolean) :: ws) ({ frames := 1, cells := 0, slots := 0, locals := 12 } : Room)) (fun a U => a = #[(.ref a1), (.int p2)] ∧ Z.Warmed39 U.vm ∧ U.heap = h0) (fun _ _ _ _ _ => True) (fun _ U o U' => ∃ v L, o = .returned v ∧ Q_holds_4_neg Z a1 p2 h0 n0 v U'.heap L ∧ FrameEnd U o U' L ({ frames := 1, cells := 0, slots := 0, locals := 12 } : Room).cells ({ frames := 1, cells := 0, slots := 0, locals := 12 } : Room).slots) := by
  refine MetFree.of_bodySF (plainFor_of_name pn_1) hisR ?_
  intro p e s m args below meth c s₁ Bd hml0 hP hK
  obtain ⟨rfl, hZ, hh⟩ := hP
  have hx := Bd.exec
  have hby := Bd.bytes
  have hml : c.maxLocals = 3 := hml0
  have hown : s.vm.findClass "com/example/sunder/sunder/Operator" = some m.cls := findClass_of_methodNamed Bd.named
  have hnm := (name_of_methodNamed Bd.named Bd.method).1
  have X0 : Stand p l e ({ frames := 1, cells := 0, slots := 0, locals := 12 } : Room) s m #[(.ref a1), (.int p2)] below meth c s₁ [] 0 0 := Stand.of_body Bd
  have e0 : s₁.heap = h0 := by rw [← hh, Bd.state]; rfl
  have N0 := Fr.nil n0
  have pre0 : ∀ t, Steps p.tables e below (s₁.setTop (mkF m 0 #[.val (.ref a1), .val (.int p2), .unset] [])) t → Steps p.tables e below (s₁.setTop (entryFrame m #[(.ref a1), (.int p2)] 3)) t := fun t k => castTop (ef_1_RI m a1 p2) k
  obtain ⟨cq1, kq1, q1a, q1b, q1c⟩ := isOf hZ e0 E_a1
  obtain ⟨_, _, ⟨T1, L1, k1, n1⟩, -, X1, ⟨Lc1, hQ1, l1, y1, z1⟩, st1⟩ := X0.virtualBackUp hx (owner := "java/lang/Enum") (x := (⟨"com/example/sunder/sunder/Operator", "ordinal", "()I"⟩ : MethodName)) (y := (⟨"java/lang/Enum", "ordinal", "()I"⟩ : MethodName)) hown (mvT hZ (hwi hw 8 rfl)) (mvT hZ (hwi hw 9 rfl)) (mvT hZ (hwi hw 10 rfl)) (by decide) (mvT hZ (hwi hw 12 rfl)) (mvT hZ (hwi hw 11 rfl)) (backOf (W := 0) (rm_ordinal l Z a0 hw [] a1 (4 : Int32) h0 n0 Z0 F_a1_ordinal) hZ (hwi hw 14 rfl) (hwi hw 13 rfl) (by decide) (by decide)) q1a q1c (g := (mkF m 1 #[.val (.ref a1), .val (.int p2), .unset] [(.ref a1)])) rfl (by rw [hml]; rfl) (Steps.refl _) (argsL := []) (rest := []) (lenOf pd_I_154 rfl) rfl (by show 2 * 0 + _ ≤ _; exact Nat.le_of_eq rfl) (hb hby d1_1) (fun _ _ => ⟨rfl, e0, (by decide : 0 + 0 ≤ _), (by decide : 0 + 0 ≤ _)⟩)
  dsimp only [Pt.U, Pt.locs, Pt.cells, Pt.slots] at X1 l1 y1 z1 st1 hQ1
  subst l1 y1 z1
  obtain ⟨rfl, N1q, e1⟩ := hQ1
  have N1 := Fr.app N0 N1q
  obtain ⟨fs, hr, hrun, hended, hW, hsame⟩ := X1.leave (v := some (.int 0)) (fun h => by rw [Bd.returns] at h; cases h)
  refine ⟨_, _, pre0 _ ?_, hrun, hended, _, _, rfl, ?_, ⟨_, rfl⟩, hW, hsame.mono (by decide) (by decide)⟩
  · show St p e below s₁ (mkF m 0 #[.val (.ref a1), .val (.int p2), .unset] []) _
    refine XS.aloadN X0.here hx rfl (hb hby d1_0) rfl rfl ?_
    show St p e below s₁ (mkF m 1 #[.val (.ref a1), .val (.int p2), .unset] [(.ref a1)]) _
    refine st1.trans ?_
    show St p e below T1 (mkF m 4 #[.val (.ref a1), .val (.int p2), .unset] [(.int 4)]) _
    refine XS.tswIn X1.here hx rfl (pc0 := 4) (pc' := 96) (o := 92) rfl (hb hby d1_4) rfl (by decide) (by decide) (by decide) (by decide) ?_
    show St p e below T1 (mkF m 96 #[.val (.ref a1), .val (.int p2), .unset] []) _
    refine XS.iloadN X1.here hx rfl (hb hby d1_96) rfl ?_
    show St p e below T1 (mkF m 97 #[.val (.ref a1), .val (.int p2), .unset] [(.int p2)]) _
    refine XS.ifYes X1.here hx rfl (pc0 := 97) (pc' := 104) rfl (hb hby d1_97) rfl ((if0 _ _).trans (flt hgt).2.2.2) (by decide) (by decide) ?_
    show St p e below T1 (mkF m 104 #[.val (.ref a1), .val (.int p2), .unset] []) _
    refine XS.iconst X1.here hx rfl (hb hby d1_104) ?_
    show St p e below T1 (mkF m 105 #[.val (.ref a1), .val (.int p2), .unset] [(.int 0)]) _
    refine XS.istoreN X1.here hx rfl (hb hby d1_105) rfl (l' := #[.val (.ref a1), .val (.int p2), .val (.int 0)]) rfl ?_
    show St p e below T1 (mkF m 106 #[.val (.ref a1), .val (.int p2), .val (.int 0)] []) _
    refine XS.goto X1.here hx rfl (pc0 := 106) (pc' := 131) rfl (hb hby d1_106) (by decide) (by decide) ?_
    show St p e below T1 (mkF m 131 #[.val (.ref a1), .val (.int p2), .val (.int 0)] []) _
    refine XS.iloadN X1.here hx rfl (hb hby d1_131) rfl ?_
    show St p e below T1 (mkF m 132 #[.val (.ref a1), .val (.int p2), .val (.int 0)] [(.int 0)]) _
    exact retN X1 hx (t := .boolean) Bd.returns (by simp) (hb hby d1_132) hr
  · show Q_holds_4_neg Z a1 p2 h0 n0 _ T1.heap _
    rw [e1]
    exact ⟨rfl, N1, rfl⟩
def Q_holds_4_zero (Z : State) (a1 : Addr) (p2 : Int32) (h0 : Heap) (n0 : Nat) (v : Option Value) (h : Heap) (L : List Loc) : Prop := v = some (.int 0) ∧ Fr n0 L ∧ h = h0
set_option maxRecDepth 65536 in
set_option maxHeartbeats 40000000 in
theorem rm_holds_4_zero (l : Launch) (Z : State) (a0 : Array Value) (hw : ∀ d ∈ tables_1, d.before a0 Z = true) (ws : List Jvm.Cond) (a1 : Addr) (p2 : Int32) (h0 : Heap) (n0 : Nat) (Z0 : n0 ≤ h0.size) (F_a1_ordinal : Fld Z h0 a1 "java/lang/Enum" "ordinal" "I" (.int 4)) (hlt : ¬ (p2 < (0 : Int32))) (heq : p2 = (0 : Int32)) (hgt : ¬ ((0 : Int32) < p2)) (E_a1 : Exa Z h0 a1 "com/example/sunder/sunder/Operator") :
    MetFree l (⟨"com/example/sunder/sunder/Operator", "holds", "(I)Z"⟩ : MethodName) (head1 (Jvm.Cond.code (⟨"com/example/sunder/sunder/Operator", "holds", "(I)Z"⟩ : MethodName) prog_30_method_5_code 3 (some .boolean) :: ws) ({ frames := 1, cells := 0, slots := 0, locals := 12 } : Room)) (fun a U => a = #[(.ref a1), (.int p2)] ∧ Z.Warmed39 U.vm ∧ U.heap = h0) (fun _ _ _ _ _ => True) (fun _ U o U' => ∃ v L, o = .returned v ∧ Q_holds_4_zero Z a1 p2 h0 n0 v U'.heap L ∧ FrameEnd U o U' L ({ frames := 1, cells := 0, slots := 0, locals := 12 } : Room).cells ({ frames := 1, cells := 0, slots := 0, locals := 12 } : Room).slots) := by
  refine MetFree.of_bodySF (plainFor_of_name pn_1) hisR ?_
  intro p e s m args below meth c s₁ Bd hml0 hP hK
  obtain ⟨rfl, hZ, hh⟩ := hP
  have hx := Bd.exec
  have hby := Bd.bytes
  have hml : c.maxLocals = 3 := hml0
  have hown : s.vm.findClass "com/example/sunder/sunder/Operator" = some m.cls := findClass_of_methodNamed Bd.named
  have hnm := (name_of_methodNamed Bd.named Bd.method).1
  have X0 : Stand p l e ({ frames := 1, cells := 0, slots := 0, locals := 12 } : Room) s m #[(.ref a1), (.int p2)] below meth c s₁ [] 0 0 := Stand.of_body Bd
  have e0 : s₁.heap = h0 := by rw [← hh, Bd.state]; rfl
  have N0 := Fr.nil n0
  have pre0 : ∀ t, Steps p.tables e below (s₁.setTop (mkF m 0 #[.val (.ref a1), .val (.int p2), .unset] [])) t → Steps p.tables e below (s₁.setTop (entryFrame m #[(.ref a1), (.int p2)] 3)) t := fun t k => castTop (ef_1_RI m a1 p2) k
  obtain ⟨cq1, kq1, q1a, q1b, q1c⟩ := isOf hZ e0 E_a1
  obtain ⟨_, _, ⟨T1, L1, k1, n1⟩, -, X1, ⟨Lc1, hQ1, l1, y1, z1⟩, st1⟩ := X0.virtualBackUp hx (owner := "java/lang/Enum") (x := (⟨"com/example/sunder/sunder/Operator", "ordinal", "()I"⟩ : MethodName)) (y := (⟨"java/lang/Enum", "ordinal", "()I"⟩ : MethodName)) hown (mvT hZ (hwi hw 8 rfl)) (mvT hZ (hwi hw 9 rfl)) (mvT hZ (hwi hw 10 rfl)) (by decide) (mvT hZ (hwi hw 12 rfl)) (mvT hZ (hwi hw 11 rfl)) (backOf (W := 0) (rm_ordinal l Z a0 hw [] a1 (4 : Int32) h0 n0 Z0 F_a1_ordinal) hZ (hwi hw 14 rfl) (hwi hw 13 rfl) (by decide) (by decide)) q1a q1c (g := (mkF m 1 #[.val (.ref a1), .val (.int p2), .unset] [(.ref a1)])) rfl (by rw [hml]; rfl) (Steps.refl _) (argsL := []) (rest := []) (lenOf pd_I_154 rfl) rfl (by show 2 * 0 + _ ≤ _; exact Nat.le_of_eq rfl) (hb hby d1_1) (fun _ _ => ⟨rfl, e0, (by decide : 0 + 0 ≤ _), (by decide : 0 + 0 ≤ _)⟩)
  dsimp only [Pt.U, Pt.locs, Pt.cells, Pt.slots] at X1 l1 y1 z1 st1 hQ1
  subst l1 y1 z1
  obtain ⟨rfl, N1q, e1⟩ := hQ1
  have N1 := Fr.app N0 N1q
  obtain ⟨fs, hr, hrun, hended, hW, hsame⟩ := X1.leave (v := some (.int 0)) (fun h => by rw [Bd.returns] at h; cases h)
  refine ⟨_, _, pre0 _ ?_, hrun, hended, _, _, rfl, ?_, ⟨_, rfl⟩, hW, hsame.mono (by decide) (by decide)⟩
  · show St p e below s₁ (mkF m 0 #[.val (.ref a1), .val (.int p2), .unset] []) _
    refine XS.aloadN X0.here hx rfl (hb hby d1_0) rfl rfl ?_
    show St p e below s₁ (mkF m 1 #[.val (.ref a1), .val (.int p2), .unset] [(.ref a1)]) _
    refine st1.trans ?_
    show St p e below T1 (mkF m 4 #[.val (.ref a1), .val (.int p2), .unset] [(.int 4)]) _
    refine XS.tswIn X1.here hx rfl (pc0 := 4) (pc' := 96) (o := 92) rfl (hb hby d1_4) rfl (by decide) (by decide) (by decide) (by decide) ?_
    show St p e below T1 (mkF m 96 #[.val (.ref a1), .val (.int p2), .unset] []) _
    refine XS.iloadN X1.here hx rfl (hb hby d1_96) rfl ?_
    show St p e below T1 (mkF m 97 #[.val (.ref a1), .val (.int p2), .unset] [(.int p2)]) _
    refine XS.ifYes X1.here hx rfl (pc0 := 97) (pc' := 104) rfl (hb hby d1_97) rfl ((if0 _ _).trans (flt hgt).2.2.2) (by decide) (by decide) ?_
    show St p e below T1 (mkF m 104 #[.val (.ref a1), .val (.int p2), .unset] []) _
    refine XS.iconst X1.here hx rfl (hb hby d1_104) ?_
    show St p e below T1 (mkF m 105 #[.val (.ref a1), .val (.int p2), .unset] [(.int 0)]) _
    refine XS.istoreN X1.here hx rfl (hb hby d1_105) rfl (l' := #[.val (.ref a1), .val (.int p2), .val (.int 0)]) rfl ?_
    show St p e below T1 (mkF m 106 #[.val (.ref a1), .val (.int p2), .val (.int 0)] []) _
    refine XS.goto X1.here hx rfl (pc0 := 106) (pc' := 131) rfl (hb hby d1_106) (by decide) (by decide) ?_
    show St p e below T1 (mkF m 131 #[.val (.ref a1), .val (.int p2), .val (.int 0)] []) _
    refine XS.iloadN X1.here hx rfl (hb hby d1_131) rfl ?_
    show St p e below T1 (mkF m 132 #[.val (.ref a1), .val (.int p2), .val (.int 0)] [(.int 0)]) _
    exact retN X1 hx (t := .boolean) Bd.returns (by simp) (hb hby d1_132) hr
  · show Q_holds_4_zero Z a1 p2 h0 n0 _ T1.heap _
    rw [e1]
    exact ⟨rfl, N1, rfl⟩
theorem d1_100 : decode prog_30_method_5_code 100 = .ok (.iconst 1, 1) := by decide +kernel
theorem d1_101 : decode prog_30_method_5_code 101 = .ok (.goto 4, 3) := by decide +kernel
def Q_holds_4_pos (Z : State) (a1 : Addr) (p2 : Int32) (h0 : Heap) (n0 : Nat) (v : Option Value) (h : Heap) (L : List Loc) : Prop := v = some (.int 1) ∧ Fr n0 L ∧ h = h0
set_option maxRecDepth 65536 in
set_option maxHeartbeats 40000000 in
theorem rm_holds_4_pos (l : Launch) (Z : State) (a0 : Array Value) (hw : ∀ d ∈ tables_1, d.before a0 Z = true) (ws : List Jvm.Cond) (a1 : Addr) (p2 : Int32) (h0 : Heap) (n0 : Nat) (Z0 : n0 ≤ h0.size) (F_a1_ordinal : Fld Z h0 a1 "java/lang/Enum" "ordinal" "I" (.int 4)) (hlt : ¬ (p2 < (0 : Int32))) (heq : ¬ (p2 = (0 : Int32))) (hgt : (0 : Int32) < p2) (E_a1 : Exa Z h0 a1 "com/example/sunder/sunder/Operator") :
    MetFree l (⟨"com/example/sunder/sunder/Operator", "holds", "(I)Z"⟩ : MethodName) (head1 (Jvm.Cond.code (⟨"com/example/sunder/sunder/Operator", "holds", "(I)Z"⟩ : MethodName) prog_30_method_5_code 3 (some .boolean) :: ws) ({ frames := 1, cells := 0, slots := 0, locals := 12 } : Room)) (fun a U => a = #[(.ref a1), (.int p2)] ∧ Z.Warmed39 U.vm ∧ U.heap = h0) (fun _ _ _ _ _ => True) (fun _ U o U' => ∃ v L, o = .returned v ∧ Q_holds_4_pos Z a1 p2 h0 n0 v U'.heap L ∧ FrameEnd U o U' L ({ frames := 1, cells := 0, slots := 0, locals := 12 } : Room).cells ({ frames := 1, cells := 0, slots := 0, locals := 12 } : Room).slots) := by
  refine MetFree.of_bodySF (plainFor_of_name pn_1) hisR ?_
  intro p e s m args below meth c s₁ Bd hml0 hP hK
  obtain ⟨rfl, hZ, hh⟩ := hP
  have hx := Bd.exec
  have hby := Bd.bytes
  have hml : c.maxLocals = 3 := hml0
  have hown : s.vm.findClass "com/example/sunder/sunder/Operator" = some m.cls := findClass_of_methodNamed Bd.named
  have hnm := (name_of_methodNamed Bd.named Bd.method).1
  have X0 : Stand p l e ({ frames := 1, cells := 0, slots := 0, locals := 12 } : Room) s m #[(.ref a1), (.int p2)] below meth c s₁ [] 0 0 := Stand.of_body Bd
  have e0 : s₁.heap = h0 := by rw [← hh, Bd.state]; rfl
  have N0 := Fr.nil n0
  have pre0 : ∀ t, Steps p.tables e below (s₁.setTop (mkF m 0 #[.val (.ref a1), .val (.int p2), .unset] [])) t → Steps p.tables e below (s₁.setTop (entryFrame m #[(.ref a1), (.int p2)] 3)) t := fun t k => castTop (ef_1_RI m a1 p2) k
  obtain ⟨cq1, kq1, q1a, q1b, q1c⟩ := isOf hZ e0 E_a1
  obtain ⟨_, _, ⟨T1, L1, k1, n1⟩, -, X1, ⟨Lc1, hQ1, l1, y1, z1⟩, st1⟩ := X0.virtualBackUp hx (owner := "java/lang/Enum") (x := (⟨"com/example/sunder/sunder/Operator", "ordinal", "()I"⟩ : MethodName)) (y := (⟨"java/lang/Enum", "ordinal", "()I"⟩ : MethodName)) hown (mvT hZ (hwi hw 8 rfl)) (mvT hZ (hwi hw 9 rfl)) (mvT hZ (hwi hw 10 rfl)) (by decide) (mvT hZ (hwi hw 12 rfl)) (mvT hZ (hwi hw 11 rfl)) (backOf (W := 0) (rm_ordinal l Z a0 hw [] a1 (4 : Int32) h0 n0 Z0 F_a1_ordinal) hZ (hwi hw 14 rfl) (hwi hw 13 rfl) (by decide) (by decide)) q1a q1c (g := (mkF m 1 #[.val (.ref a1), .val (.int p2), .unset] [(.ref a1)])) rfl (by rw [hml]; rfl) (Steps.refl _) (argsL := []) (rest := []) (lenOf pd_I_154 rfl) rfl (by show 2 * 0 + _ ≤ _; exact Nat.le_of_eq rfl) (hb hby d1_1) (fun _ _ => ⟨rfl, e0, (by decide : 0 + 0 ≤ _), (by decide : 0 + 0 ≤ _)⟩)
  dsimp only [Pt.U, Pt.locs, Pt.cells, Pt.slots] at X1 l1 y1 z1 st1 hQ1
  subst l1 y1 z1
  obtain ⟨rfl, N1q, e1⟩ := hQ1
  have N1 := Fr.app N0 N1q
  obtain ⟨fs, hr, hrun, hended, hW, hsame⟩ := X1.leave (v := some (.int 1)) (fun h => by rw [Bd.returns] at h; cases h)
  refine ⟨_, _, pre0 _ ?_, hrun, hended, _, _, rfl, ?_, ⟨_, rfl⟩, hW, hsame.mono (by decide) (by decide)⟩
  · show St p e below s₁ (mkF m 0 #[.val (.ref a1), .val (.int p2), .unset] []) _
    refine XS.aloadN X0.here hx rfl (hb hby d1_0) rfl rfl ?_
    show St p e below s₁ (mkF m 1 #[.val (.ref a1), .val (.int p2), .unset] [(.ref a1)]) _
    refine st1.trans ?_
    show St p e below T1 (mkF m 4 #[.val (.ref a1), .val (.int p2), .unset] [(.int 4)]) _
    refine XS.tswIn X1.here hx rfl (pc0 := 4) (pc' := 96) (o := 92) rfl (hb hby d1_4) rfl (by decide) (by decide) (by decide) (by decide) ?_
    show St p e below T1 (mkF m 96 #[.val (.ref a1), .val (.int p2), .unset] []) _
    refine XS.iloadN X1.here hx rfl (hb hby d1_96) rfl ?_
    show St p e below T1 (mkF m 97 #[.val (.ref a1), .val (.int p2), .unset] [(.int p2)]) _
    refine XS.ifNo X1.here hx rfl (hb hby d1_97) rfl ((if0 _ _).trans (tlt hgt).2.2.2) ?_
    show St p e below T1 (mkF m 100 #[.val (.ref a1), .val (.int p2), .unset] []) _
    refine XS.iconst X1.here hx rfl (hb hby d1_100) ?_
    show St p e below T1 (mkF m 101 #[.val (.ref a1), .val (.int p2), .unset] [(.int 1)]) _
    refine XS.goto X1.here hx rfl (pc0 := 101) (pc' := 105) rfl (hb hby d1_101) (by decide) (by decide) ?_
    show St p e below T1 (mkF m 105 #[.val (.ref a1), .val (.int p2), .unset] [(.int 1)]) _
    refine XS.istoreN X1.here hx rfl (hb hby d1_105) rfl (l' := #[.val (.ref a1), .val (.int p2), .val (.int 1)]) rfl ?_
    show St p e below T1 (mkF m 106 #[.val (.ref a1), .val (.int p2), .val (.int 1)] []) _
    refine XS.goto X1.here hx rfl (pc0 := 106) (pc' := 131) rfl (hb hby d1_106) (by decide) (by decide) ?_
    show St p e below T1 (mkF m 131 #[.val (.ref a1), .val (.int p2), .val (.int 1)] []) _
    refine XS.iloadN X1.here hx rfl (hb hby d1_131) rfl ?_
    show St p e below T1 (mkF m 132 #[.val (.ref a1), .val (.int p2), .val (.int 1)] [(.int 1)]) _
    exact retN X1 hx (t := .boolean) Bd.returns (by simp) (hb hby d1_132) hr
  · show Q_holds_4_pos Z a1 p2 h0 n0 _ T1.heap _
    rw [e1]
    exact ⟨rfl, N1, rfl⟩
theorem d1_109 : decode prog_30_method_5_code 109 = .ok (.iload_n 1, 1) := by decide +kernel
theorem d1_110 : decode prog_30_method_5_code 110 = .ok (.ifCond .lt 7, 3) := by decide +kernel
theorem d1_117 : decode prog_30_method_5_code 117 = .ok (.iconst 0, 1) := by decide +kernel
theorem d1_118 : decode prog_30_method_5_code 118 = .ok (.istore_n 2, 1) := by decide +kernel
theorem d1_119 : decode prog_30_method_5_code 119 = .ok (.goto 12, 3) := by decide +kernel
def Q_holds_5_neg (Z : State) (a1 : Addr) (p2 : Int32) (h0 : Heap) (n0 : Nat) (v : Option Value) (h : Heap) (L : List Loc) : Prop := v = some (.int 0) ∧ Fr n0 L ∧ h = h0
set_option maxRecDepth 65536 in
set_option maxHeartbeats 40000000 in
theorem rm_holds_5_neg (l : Launch) (Z : State) (a0 : Array Value) (hw : ∀ d ∈ tables_1, d.before a0 Z = true) (ws : List Jvm.Cond) (a1 : Addr) (p2 : Int32) (h0 : Heap) (n0 : Nat) (Z0 : n0 ≤ h0.size) (F_a1_ordinal : Fld Z h0 a1 "java/lang/Enum" "ordinal" "I" (.int 5)) (hlt : p2 < (0 : Int32)) (heq : ¬ (p2 = (0 : Int32))) (hgt : ¬ ((0 : Int32) < p2)) (E_a1 : Exa Z h0 a1 "com/example/sunder/sunder/Operator") :
    MetFree l (⟨"com/example/sunder/sunder/Operator", "holds", "(I)Z"⟩ : MethodName) (head1 (Jvm.Cond.code (⟨"com/example/sunder/sunder/Operator", "holds", "(I)Z"⟩ : MethodName) prog_30_method_5_code 3 (some .boolean) :: ws) ({ frames := 1, cells := 0, slots := 0, locals := 12 } : Room)) (fun a U => a = #[(.ref a1), (.int p2)] ∧ Z.Warmed39 U.vm ∧ U.heap = h0) (fun _ _ _ _ _ => True) (fun _ U o U' => ∃ v L, o = .returned v ∧ Q_holds_5_neg Z a1 p2 h0 n0 v U'.heap L ∧ FrameEnd U o U' L ({ frames := 1, cells := 0, slots := 0, locals := 12 } : Room).cells ({ frames := 1, cells := 0, slots := 0, locals := 12 } : Room).slots) := by
  refine MetFree.of_bodySF (plainFor_of_name pn_1) hisR ?_
  intro p e s m args below meth c s₁ Bd hml0 hP hK
  obtain ⟨rfl, hZ, hh⟩ := hP
  have hx := Bd.exec
  have hby := Bd.bytes
  have hml : c.maxLocals = 3 := hml0
  have hown : s.vm.findClass "com/example/sunder/sunder/Operator" = some m.cls := findClass_of_methodNamed Bd.named
  have hnm := (name_of_methodNamed Bd.named Bd.method).1
  have X0 : Stand p l e ({ frames := 1, cells := 0, slots := 0, locals := 12 } : Room) s m #[(.ref a1), (.int p2)] below meth c s₁ [] 0 0 := Stand.of_body Bd
  have e0 : s₁.heap = h0 := by rw [← hh, Bd.state]; rfl
  have N0 := Fr.nil n0
  have pre0 : ∀ t, Steps p.tables e below (s₁.setTop (mkF m 0 #[.val (.ref a1), .val (.int p2), .unset] [])) t → Steps p.tables e below (s₁.setTop (entryFrame m #[(.ref a1), (.int p2)] 3)) t := fun t k => castTop (ef_1_RI m a1 p2) k
  obtain ⟨cq1, kq1, q1a, q1b, q1c⟩ := isOf hZ e0 E_a1
  obtain ⟨_, _, ⟨T1, L1, k1, n1⟩, -, X1, ⟨Lc1, hQ1, l1, y1, z1⟩, st1⟩ := X0.virtualBackUp hx (owner := "java/lang/Enum") (x := (⟨"com/example/sunder/sunder/Operator", "ordinal", "()I"⟩ : MethodName)) (y := (⟨"java/lang/Enum", "ordinal", "()I"⟩ : MethodName)) hown (mvT hZ (hwi hw 8 rfl)) (mvT hZ (hwi hw 9 rfl)) (mvT hZ (hwi hw 10 rfl)) (by decide) (mvT hZ (hwi hw 12 rfl)) (mvT hZ (hwi hw 11 rfl)) (backOf (W := 0) (rm_ordinal l Z a0 hw [] a1 (5 : Int32) h0 n0 Z0 F_a1_ordinal) hZ (hwi hw 14 rfl) (hwi hw 13 rfl) (by decide) (by decide)) q1a q1c (g := (mkF m 1 #[.val (.ref a1), .val (.int p2), .unset] [(.ref a1)])) rfl (by rw [hml]; rfl) (Steps.refl _) (argsL := []) (rest := []) (lenOf pd_I_154 rfl) rfl (by show 2 * 0 + _ ≤ _; exact Nat.le_of_eq rfl) (hb hby d1_1) (fun _ _ => ⟨rfl, e0, (by decide : 0 + 0 ≤ _), (by decide : 0 + 0 ≤ _)⟩)
  dsimp only [Pt.U, Pt.locs, Pt.cells, Pt.slots] at X1 l1 y1 z1 st1 hQ1
  subst l1 y1 z1
  obtain ⟨rfl, N1q, e1⟩ := hQ1
  have N1 := Fr.app N0 N1q
  obtain ⟨fs, hr, hrun, hended, hW, hsame⟩ := X1.leave (v := some (.int 0)) (fun h => by rw [Bd.returns] at h; cases h)
  refine ⟨_, _, pre0 _ ?_, hrun, hended, _, _, rfl, ?_, ⟨_, rfl⟩, hW, hsame.mono (by decide) (by decide)⟩
  · show St p e below s₁ (mkF m 0 #[.val (.ref a1), .val (.int p2), .unset] []) _
    refine XS.aloadN X0.here hx rfl (hb hby d1_0) rfl rfl ?_
    show St p e below s₁ (mkF m 1 #[.val (.ref a1), .val (.int p2), .unset] [(.ref a1)]) _
    refine st1.trans ?_
    show St p e below T1 (mkF m 4 #[.val (.ref a1), .val (.int p2), .unset] [(.int 5)]) _
    refine XS.tswIn X1.here hx rfl (pc0 := 4) (pc' := 109) (o := 105) rfl (hb hby d1_4) rfl (by decide) (by decide) (by decide) (by decide) ?_
    show St p e below T1 (mkF m 109 #[.val (.ref a1), .val (.int p2), .unset] []) _
    refine XS.iloadN X1.here hx rfl (hb hby d1_109) rfl ?_
    show St p e below T1 (mkF m 110 #[.val (.ref a1), .val (.int p2), .unset] [(.int p2)]) _
    refine XS.ifYes X1.here hx rfl (pc0 := 110) (pc' := 117) rfl (hb hby d1_110) rfl ((if0 _ _).trans (tlt hlt).1) (by decide) (by decide) ?_
    show St p e below T1 (mkF m 117 #[.val (.ref a1), .val (.int p2), .unset] []) _
    refine XS.iconst X1.here hx rfl (hb hby d1_117) ?_
    show St p e below T1 (mkF m 118 #[.val (.ref a1), .val (.int p2), .unset] [(.int 0)]) _
    refine XS.istoreN X1.here hx rfl (hb hby d1_118) rfl (l' := #[.val (.ref a1), .val (.int p2), .val (.int 0)]) rfl ?_
    show St p e below T1 (mkF m 119 #[.val (.ref a1), .val (.int p2), .val (.int 0)] []) _
    refine XS.goto X1.here hx rfl (pc0 := 119) (pc' := 131) rfl (hb hby d1_119) (by decide) (by decide) ?_
    show St p e below T1 (mkF m 131 #[.val (.ref a1), .val (.int p2), .val (.int 0)] []) _
    refine XS.iloadN X1.here hx rfl (hb hby d1_131) rfl ?_
    show St p e below T1 (mkF m 132 #[.val (.ref a1), .val (.int p2), .val (.int 0)] [(.int 0)]) _
    exact retN X1 hx (t := .boolean) Bd.returns (by simp) (hb hby d1_132) hr
  · show Q_holds_5_neg Z a1 p2 h0 n0 _ T1.heap _
    rw [e1]
    exact ⟨rfl, N1, rfl⟩
theorem d1_113 : decode prog_30_method_5_code 113 = .ok (.iconst 1, 1) := by decide +kernel
theorem d1_114 : decode prog_30_method_5_code 114 = .ok (.goto 4, 3) := by decide +kernel
def Q_holds_5_zero (Z : State) (a1 : Addr) (p2 : Int32) (h0 : Heap) (n0 : Nat) (v : Option Value) (h : Heap) (L : List Loc) : Prop := v = some (.int 1) ∧ Fr n0 L ∧ h = h0
set_option maxRecDepth 65536 in
set_option maxHeartbeats 40000000 in
theorem rm_holds_5_zero (l : Launch) (Z : State) (a0 : Array Value) (hw : ∀ d ∈ tables_1, d.before a0 Z = true) (ws : List Jvm.Cond) (a1 : Addr) (p2 : Int32) (h0 : Heap) (n0 : Nat) (Z0 : n0 ≤ h0.size) (F_a1_ordinal : Fld Z h0 a1 "java/lang/Enum" "ordinal" "I" (.int 5)) (hlt : ¬ (p2 < (0 : Int32))) (heq : p2 = (0 : Int32)) (hgt : ¬ ((0 : Int32) < p2)) (E_a1 : Exa Z h0 a1 "com/example/sunder/sunder/Operator") :
    MetFree l (⟨"com/example/sunder/sunder/Operator", "holds", "(I)Z"⟩ : MethodName) (head1 (Jvm.Cond.code (⟨"com/example/sunder/sunder/Operator", "holds", "(I)Z"⟩ : MethodName) prog_30_method_5_code 3 (some .boolean) :: ws) ({ frames := 1, cells := 0, slots := 0, locals := 12 } : Room)) (fun a U => a = #[(.ref a1), (.int p2)] ∧ Z.Warmed39 U.vm ∧ U.heap = h0) (fun _ _ _ _ _ => True) (fun _ U o U' => ∃ v L, o = .returned v ∧ Q_holds_5_zero Z a1 p2 h0 n0 v U'.heap L ∧ FrameEnd U o U' L ({ frames := 1, cells := 0, slots := 0, locals := 12 } : Room).cells ({ frames := 1, cells := 0, slots := 0, locals := 12 } : Room).slots) := by
  refine MetFree.of_bodySF (plainFor_of_name pn_1) hisR ?_
  intro p e s m args below meth c s₁ Bd hml0 hP hK
  obtain ⟨rfl, hZ, hh⟩ := hP
  have hx := Bd.exec
  have hby := Bd.bytes
  have hml : c.maxLocals = 3 := hml0
  have hown : s.vm.findClass "com/example/sunder/sunder/Operator" = some m.cls := findClass_of_methodNamed Bd.named
  have hnm := (name_of_methodNamed Bd.named Bd.method).1
  have X0 : Stand p l e ({ frames := 1, cells := 0, slots := 0, locals := 12 } : Room) s m #[(.ref a1), (.int p2)] below meth c s₁ [] 0 0 := Stand.of_body Bd
  have e0 : s₁.heap = h0 := by rw [← hh, Bd.state]; rfl
  have N0 := Fr.nil n0
  have pre0 : ∀ t, Steps p.tables e below (s₁.setTop (mkF m 0 #[.val (.ref a1), .val (.int p2), .unset] [])) t → Steps p.tables e below (s₁.setTop (entryFrame m #[(.ref a1), (.int p2)] 3)) t := fun t k => castTop (ef_1_RI m a1 p2) k
  obtain ⟨cq1, kq1, q1a, q1b, q1c⟩ := isOf hZ e0 E_a1
  obtain ⟨_, _, ⟨T1, L1, k1, n1⟩, -, X1, ⟨Lc1, hQ1, l1, y1, z1⟩, st1⟩ := X0.virtualBackUp hx (owner := "java/lang/Enum") (x := (⟨"com/example/sunder/sunder/Operator", "ordinal", "()I"⟩ : MethodName)) (y := (⟨"java/lang/Enum", "ordinal", "()I"⟩ : MethodName)) hown (mvT hZ (hwi hw 8 rfl)) (mvT hZ (hwi hw 9 rfl)) (mvT hZ (hwi hw 10 rfl)) (by decide) (mvT hZ (hwi hw 12 rfl)) (mvT hZ (hwi hw 11 rfl)) (backOf (W := 0) (rm_ordinal l Z a0 hw [] a1 (5 : Int32) h0 n0 Z0 F_a1_ordinal) hZ (hwi hw 14 rfl) (hwi hw 13 rfl) (by decide) (by decide)) q1a q1c (g := (mkF m 1 #[.val (.ref a1), .val (.int p2), .unset] [(.ref a1)])) rfl (by rw [hml]; rfl) (Steps.refl _) (argsL := []) (rest := []) (lenOf pd_I_154 rfl) rfl (by show 2 * 0 + _ ≤ _; exact Nat.le_of_eq rfl) (hb hby d1_1) (fun _ _ => ⟨rfl, e0, (by decide : 0 + 0 ≤ _), (by decide : 0 + 0 ≤ _)⟩)
  dsimp only [Pt.U, Pt.locs, Pt.cells, Pt.slots] at X1 l1 y1 z1 st1 hQ1
  subst l1 y1 z1
  obtain ⟨rfl, N1q, e1⟩ := hQ1
  have N1 := Fr.app N0 N1q
  obtain ⟨fs, hr, hrun, hended, hW, hsame⟩ := X1.leave (v := some (.int 1)) (fun h => by rw [Bd.returns] at h; cases h)
  refine ⟨_, _, pre0 _ ?_, hrun, hended, _, _, rfl, ?_, ⟨_, rfl⟩, hW, hsame.mono (by decide) (by decide)⟩
  · show St p e below s₁ (mkF m 0 #[.val (.ref a1), .val (.int p2), .unset] []) _
    refine XS.aloadN X0.here hx rfl (hb hby d1_0) rfl rfl ?_
    show St p e below s₁ (mkF m 1 #[.val (.ref a1), .val (.int p2), .unset] [(.ref a1)]) _
    refine st1.trans ?_
    show St p e below T1 (mkF m 4 #[.val (.ref a1), .val (.int p2), .unset] [(.int 5)]) _
    refine XS.tswIn X1.here hx rfl (pc0 := 4) (pc' := 109) (o := 105) rfl (hb hby d1_4) rfl (by decide) (by decide) (by decide) (by decide) ?_
    show St p e below T1 (mkF m 109 #[.val (.ref a1), .val (.int p2), .unset] []) _
    refine XS.iloadN X1.here hx rfl (hb hby d1_109) rfl ?_
    show St p e below T1 (mkF m 110 #[.val (.ref a1), .val (.int p2), .unset] [(.int p2)]) _
    refine XS.ifNo X1.here hx rfl (hb hby d1_110) rfl ((if0 _ _).trans (flt hlt).1) ?_
    show St p e below T1 (mkF m 113 #[.val (.ref a1), .val (.int p2), .unset] []) _
    refine XS.iconst X1.here hx rfl (hb hby d1_113) ?_
    show St p e below T1 (mkF m 114 #[.val (.ref a1), .val (.int p2), .unset] [(.int 1)]) _
    refine XS.goto X1.here hx rfl (pc0 := 114) (pc' := 118) rfl (hb hby d1_114) (by decide) (by decide) ?_
    show St p e below T1 (mkF m 118 #[.val (.ref a1), .val (.int p2), .unset] [(.int 1)]) _
    refine XS.istoreN X1.here hx rfl (hb hby d1_118) rfl (l' := #[.val (.ref a1), .val (.int p2), .val (.int 1)]) rfl ?_
    show St p e below T1 (mkF m 119 #[.val (.ref a1), .val (.int p2), .val (.int 1)] []) _
    refine XS.goto X1.here hx rfl (pc0 := 119) (pc' := 131) rfl (hb hby d1_119) (by decide) (by decide) ?_
    show St p e below T1 (mkF m 131 #[.val (.ref a1), .val (.int p2), .val (.int 1)] []) _
    refine XS.iloadN X1.here hx rfl (hb hby d1_131) rfl ?_
    show St p e below T1 (mkF m 132 #[.val (.ref a1), .val (.int p2), .val (.int 1)] [(.int 1)]) _
    exact retN X1 hx (t := .boolean) Bd.returns (by simp) (hb hby d1_132) hr
  · show Q_holds_5_zero Z a1 p2 h0 n0 _ T1.heap _
    rw [e1]
    exact ⟨rfl, N1, rfl⟩
def Q_holds_5_pos (Z : State) (a1 : Addr) (p2 : Int32) (h0 : Heap) (n0 : Nat) (v : Option Value) (h : Heap) (L : List Loc) : Prop := v = some (.int 1) ∧ Fr n0 L ∧ h = h0
set_option maxRecDepth 65536 in
set_option maxHeartbeats 40000000 in
theorem rm_holds_5_pos (l : Launch) (Z : State) (a0 : Array Value) (hw : ∀ d ∈ tables_1, d.before a0 Z = true) (ws : List Jvm.Cond) (a1 : Addr) (p2 : Int32) (h0 : Heap) (n0 : Nat) (Z0 : n0 ≤ h0.size) (F_a1_ordinal : Fld Z h0 a1 "java/lang/Enum" "ordinal" "I" (.int 5)) (hlt : ¬ (p2 < (0 : Int32))) (heq : ¬ (p2 = (0 : Int32))) (hgt : (0 : Int32) < p2) (E_a1 : Exa Z h0 a1 "com/example/sunder/sunder/Operator") :
    MetFree l (⟨"com/example/sunder/sunder/Operator", "holds", "(I)Z"⟩ : MethodName) (head1 (Jvm.Cond.code (⟨"com/example/sunder/sunder/Operator", "holds", "(I)Z"⟩ : MethodName) prog_30_method_5_code 3 (some .boolean) :: ws) ({ frames := 1, cells := 0, slots := 0, locals := 12 } : Room)) (fun a U => a = #[(.ref a1), (.int p2)] ∧ Z.Warmed39 U.vm ∧ U.heap = h0) (fun _ _ _ _ _ => True) (fun _ U o U' => ∃ v L, o = .returned v ∧ Q_holds_5_pos Z a1 p2 h0 n0 v U'.heap L ∧ FrameEnd U o U' L ({ frames := 1, cells := 0, slots := 0, locals := 12 } : Room).cells ({ frames := 1, cells := 0, slots := 0, locals := 12 } : Room).slots) := by
  refine MetFree.of_bodySF (plainFor_of_name pn_1) hisR ?_
  intro p e s m args below meth c s₁ Bd hml0 hP hK
  obtain ⟨rfl, hZ, hh⟩ := hP
  have hx := Bd.exec
  have hby := Bd.bytes
  have hml : c.maxLocals = 3 := hml0
  have hown : s.vm.findClass "com/example/sunder/sunder/Operator" = some m.cls := findClass_of_methodNamed Bd.named
  have hnm := (name_of_methodNamed Bd.named Bd.method).1
  have X0 : Stand p l e ({ frames := 1, cells := 0, slots := 0, locals := 12 } : Room) s m #[(.ref a1), (.int p2)] below meth c s₁ [] 0 0 := Stand.of_body Bd
  have e0 : s₁.heap = h0 := by rw [← hh, Bd.state]; rfl
  have N0 := Fr.nil n0
  have pre0 : ∀ t, Steps p.tables e below (s₁.setTop (mkF m 0 #[.val (.ref a1), .val (.int p2), .unset] [])) t → Steps p.tables e below (s₁.setTop (entryFrame m #[(.ref a1), (.int p2)] 3)) t := fun t k => castTop (ef_1_RI m a1 p2) k
  obtain ⟨cq1, kq1, q1a, q1b, q1c⟩ := isOf hZ e0 E_a1
  obtain ⟨_, _, ⟨T1, L1, k1, n1⟩, -, X1, ⟨Lc1, hQ1, l1, y1, z1⟩, st1⟩ := X0.virtualBackUp hx (owner := "java/lang/Enum") (x := (⟨"com/example/sunder/sunder/Operator", "ordinal", "()I"⟩ : MethodName)) (y := (⟨"java/lang/Enum", "ordinal", "()I"⟩ : MethodName)) hown (mvT hZ (hwi hw 8 rfl)) (mvT hZ (hwi hw 9 rfl)) (mvT hZ (hwi hw 10 rfl)) (by decide) (mvT hZ (hwi hw 12 rfl)) (mvT hZ (hwi hw 11 rfl)) (backOf (W := 0) (rm_ordinal l Z a0 hw [] a1 (5 : Int32) h0 n0 Z0 F_a1_ordinal) hZ (hwi hw 14 rfl) (hwi hw 13 rfl) (by decide) (by decide)) q1a q1c (g := (mkF m 1 #[.val (.ref a1), .val (.int p2), .unset] [(.ref a1)])) rfl (by rw [hml]; rfl) (Steps.refl _) (argsL := []) (rest := []) (lenOf pd_I_154 rfl) rfl (by show 2 * 0 + _ ≤ _; exact Nat.le_of_eq rfl) (hb hby d1_1) (fun _ _ => ⟨rfl, e0, (by decide : 0 + 0 ≤ _), (by decide : 0 + 0 ≤ _)⟩)
  dsimp only [Pt.U, Pt.locs, Pt.cells, Pt.slots] at X1 l1 y1 z1 st1 hQ1
  subst l1 y1 z1
  obtain ⟨rfl, N1q, e1⟩ := hQ1
  have N1 := Fr.app N0 N1q
  obtain ⟨fs, hr, hrun, hended, hW, hsame⟩ := X1.leave (v := some (.int 1)) (fun h => by rw [Bd.returns] at h; cases h)
  refine ⟨_, _, pre0 _ ?_, hrun, hended, _, _, rfl, ?_, ⟨_, rfl⟩, hW, hsame.mono (by decide) (by decide)⟩
  · show St p e below s₁ (mkF m 0 #[.val (.ref a1), .val (.int p2), .unset] []) _
    refine XS.aloadN X0.here hx rfl (hb hby d1_0) rfl rfl ?_
    show St p e below s₁ (mkF m 1 #[.val (.ref a1), .val (.int p2), .unset] [(.ref a1)]) _
    refine st1.trans ?_
    show St p e below T1 (mkF m 4 #[.val (.ref a1), .val (.int p2), .unset] [(.int 5)]) _
    refine XS.tswIn X1.here hx rfl (pc0 := 4) (pc' := 109) (o := 105) rfl (hb hby d1_4) rfl (by decide) (by decide) (by decide) (by decide) ?_
    show St p e below T1 (mkF m 109 #[.val (.ref a1), .val (.int p2), .unset] []) _
    refine XS.iloadN X1.here hx rfl (hb hby d1_109) rfl ?_
    show St p e below T1 (mkF m 110 #[.val (.ref a1), .val (.int p2), .unset] [(.int p2)]) _
    refine XS.ifNo X1.here hx rfl (hb hby d1_110) rfl ((if0 _ _).trans (flt hlt).1) ?_
    show St p e below T1 (mkF m 113 #[.val (.ref a1), .val (.int p2), .unset] []) _
    refine XS.iconst X1.here hx rfl (hb hby d1_113) ?_
    show St p e below T1 (mkF m 114 #[.val (.ref a1), .val (.int p2), .unset] [(.int 1)]) _
    refine XS.goto X1.here hx rfl (pc0 := 114) (pc' := 118) rfl (hb hby d1_114) (by decide) (by decide) ?_
    show St p e below T1 (mkF m 118 #[.val (.ref a1), .val (.int p2), .unset] [(.int 1)]) _
    refine XS.istoreN X1.here hx rfl (hb hby d1_118) rfl (l' := #[.val (.ref a1), .val (.int p2), .val (.int 1)]) rfl ?_
    show St p e below T1 (mkF m 119 #[.val (.ref a1), .val (.int p2), .val (.int 1)] []) _
    refine XS.goto X1.here hx rfl (pc0 := 119) (pc' := 131) rfl (hb hby d1_119) (by decide) (by decide) ?_
    show St p e below T1 (mkF m 131 #[.val (.ref a1), .val (.int p2), .val (.int 1)] []) _
    refine XS.iloadN X1.here hx rfl (hb hby d1_131) rfl ?_
    show St p e below T1 (mkF m 132 #[.val (.ref a1), .val (.int p2), .val (.int 1)] [(.int 1)]) _
    exact retN X1 hx (t := .boolean) Bd.returns (by simp) (hb hby d1_132) hr
  · show Q_holds_5_pos Z a1 p2 h0 n0 _ T1.heap _
    rw [e1]
    exact ⟨rfl, N1, rfl⟩
theorem pd_I_Z_244 : parseMethodDescriptor "(I)Z" = some ⟨[.int], some .boolean⟩ := by decide +kernel
theorem pn_0 : plainName "com/example/sunder/sunder/OperatorHoldsPinLaw" = true := by first | (simp [plainName, overriddenIn]; done) | decide +kernel
theorem ef_0_I (m : MethodId) (x0 : Int32) : entryFrame m #[(.int x0)] maxLocals = mkF m 0 #[.val (.int x0), .unset, .unset, .unset, .unset, .unset, .unset, .unset, .unset, .unset, .unset, .unset] [] := by first | (simp [entryFrame, mkF, argsToLocals, Value.category, maxLocals]; done) | rfl
def Q_law (n0 : Nat) (v : Option Value) (L : List Loc) : Prop := v = some (.int 1) ∧ Fr n0 L
set_option maxRecDepth 65536 in
set_option maxHeartbeats 40000000 in
theorem rm_law_neg (l : Launch) (Z : State) (a0 : Array Value) (hw : ∀ d ∈ tables_1, d.before a0 Z = true) (ws : List Jvm.Cond) (p1 : Int32) (w_EQ : Addr) (w_NE : Addr) (w_LT : Addr) (w_LE : Addr) (w_GT : Addr) (w_GE : Addr) (h0 : Heap) (n0 : Nat) (Z0 : n0 ≤ h0.size) (hlt : p1 < (0 : Int32)) (heq : ¬ (p1 = (0 : Int32))) (hgt : ¬ ((0 : Int32) < p1)) (S_EQ : Sta Z Z.heap "com/example/sunder/sunder/Operator" "EQ" "Lcom/example/sunder/sunder/Operator;" (.ref w_EQ)) (O0 : Old Z n0 h0) (E_w_EQ : Exa Z Z.heap w_EQ "com/example/sunder/sunder/Operator") (F_w_EQ_ordinal : Fld Z Z.heap w_EQ "java/lang/Enum" "ordinal" "I" (.int 0)) (S_NE : Sta Z Z.heap "com/example/sunder/sunder/Operator" "NE" "Lcom/example/sunder/sunder/Operator;" (.ref w_NE)) (E_w_NE : Exa Z Z.heap w_NE "com/example/sunder/sunder/Operator") (F_w_NE_ordinal : Fld Z Z.heap w_NE "java/lang/Enum" "ordinal" "I" (.int 1)) (S_LT : Sta Z Z.heap "com/example/sunder/sunder/Operator" "LT" "Lcom/example/sunder/sunder/Operator;" (.ref w_LT)) (E_w_LT : Exa Z Z.heap w_LT "com/example/sunder/sunder/Operator") (F_w_LT_ordinal : Fld Z Z.heap w_LT "java/lang/Enum" "ordinal" "I" (.int 2)) (S_LE : Sta Z Z.heap "com/example/sunder/sunder/Operator" "LE" "Lcom/example/sunder/sunder/Operator;" (.ref w_LE)) (E_w_LE : Exa Z Z.heap w_LE "com/example/sunder/sunder/Operator") (F_w_LE_ordinal : Fld Z Z.heap w_LE "java/lang/Enum" "ordinal" "I" (.int 3)) (S_GT : Sta Z Z.heap "com/example/sunder/sunder/Operator" "GT" "Lcom/example/sunder/sunder/Operator;" (.ref w_GT)) (E_w_GT : Exa Z Z.heap w_GT "com/example/sunder/sunder/Operator") (F_w_GT_ordinal : Fld Z Z.heap w_GT "java/lang/Enum" "ordinal" "I" (.int 4)) (S_GE : Sta Z Z.heap "com/example/sunder/sunder/Operator" "GE" "Lcom/example/sunder/sunder/Operator;" (.ref w_GE)) (E_w_GE : Exa Z Z.heap w_GE "com/example/sunder/sunder/Operator") (F_w_GE_ordinal : Fld Z Z.heap w_GE "java/lang/Enum" "ordinal" "I" (.int 5)) :
    MetFree l x (head1 (Jvm.Cond.code x code maxLocals ret :: ws) room_1) (fun a U => a = #[(.int p1)] ∧ Z.Warmed39 U.vm ∧ U.heap = h0) (fun _ _ _ _ _ => True) (fun _ U o U' => ∃ v L, o = .returned v ∧ Q_law n0 v L ∧ FrameEnd U o U' L room_1.cells room_1.slots) := by
  refine MetFree.of_bodySF (plainFor_of_name pn_0) hisR ?_
  intro p e s m args below meth c s₁ Bd hml0 hP hK
  obtain ⟨rfl, hZ, hh⟩ := hP
  have hx := Bd.exec
  have hby := Bd.bytes
  have hml : c.maxLocals = 12 := hml0
  have hown : s.vm.findClass "com/example/sunder/sunder/OperatorHoldsPinLaw" = some m.cls := findClass_of_methodNamed Bd.named
  have hnm := (name_of_methodNamed Bd.named Bd.method).1
  have X0 : Stand p l e room_1 s m #[(.int p1)] below meth c s₁ [] 0 0 := Stand.of_body Bd
  have e0 : s₁.heap = h0 := by rw [← hh, Bd.state]; rfl
  have N0 := Fr.nil n0
  have pre0 : ∀ t, Steps p.tables e below (s₁.setTop (mkF m 0 #[.val (.int p1), .unset, .unset, .unset, .unset, .unset, .unset, .unset, .unset, .unset, .unset, .unset] [])) t → Steps p.tables e below (s₁.setTop (entryFrame m #[(.int p1)] maxLocals)) t := fun t k => castTop (ef_0_I m p1) k
  obtain ⟨T1, X1, e1, st1⟩ := getS2 X0 hx hZ hown (host := "") (Or.inl (hwi hw 0 rfl)) Via.refl e0 (S_EQ.ext O0.2) (g := (mkF m 34 #[.val (.int p1), .val (.int 1), .val (.int 0), .val (.int 0), .unset, .unset, .unset, .unset, .unset, .unset, .unset, .unset] [])) rfl (hb hby at_34)
  obtain ⟨cq2, kq2, q2a, q2b, q2c⟩ := isOf hZ e1 (E_w_EQ.ext O0.2)
  obtain ⟨_, _, ⟨T2, L2, k2, n2⟩, -, X2, ⟨Lc2, hQ2, l2, y2, z2⟩, st2⟩ := X1.virtualBack hx (y := (⟨"com/example/sunder/sunder/Operator", "holds", "(I)Z"⟩ : MethodName)) (z := (⟨"com/example/sunder/sunder/Operator", "holds", "(I)Z"⟩ : MethodName)) hown (mvT hZ (hwi hw 3 rfl)) (mvT hZ (hwi hw 4 rfl)) (notFace_of_selects (args := #[]) (mvT hZ (hwi hw 6 rfl))) (mvT hZ (hwi hw 6 rfl)) (mvT hZ (hwi hw 5 rfl)) (by decide) (backOf (W := 0) (rm_holds_0_neg l Z a0 hw [] w_EQ p1 h0 n0 Z0 (F_w_EQ_ordinal.ext O0.2) hlt heq hgt (E_w_EQ.ext O0.2)) hZ (hwi hw 7 rfl) (hwi hw 1 rfl) (by decide) (by decide)) q2a q2c (g := (mkF m 38 #[.val (.int p1), .val (.int 1), .val (.int 0), .val (.int 0), .unset, .unset, .unset, .unset, .unset, .unset, .unset, .unset] [(.int p1), (.ref w_EQ)])) rfl (by rw [hml]; rfl) (Steps.refl _) (argsL := [(.int p1)]) (rest := []) (lenOf pd_I_Z_244 rfl) rfl (by show 2 * 0 + _ ≤ _; exact Nat.le_of_eq rfl) (hb hby at_38) (fun _ _ => ⟨rfl, e1, (by decide : 0 + 0 ≤ _), (by decide : 0 + 0 ≤ _)⟩)
  dsimp only [Pt.U, Pt.locs, Pt.cells, Pt.slots] at X2 l2 y2 z2 st2 hQ2
  subst l2 y2 z2
  obtain ⟨rfl, N2q, e2⟩ := hQ2
  have N2 := Fr.app N0 N2q
  obtain ⟨T3, X3, e3, st3⟩ := getS2 X2 hx hZ hown (host := "") (Or.inl (hwi hw 17 rfl)) Via.refl e2 (S_NE.ext O0.2) (g := (mkF m 43 #[.val (.int p1), .val (.int 1), .val (.int 0), .val (.int 0), .val (.int 0), .unset, .unset, .unset, .unset, .unset, .unset, .unset] [])) rfl (hb hby at_43)
  obtain ⟨cq4, kq4, q4a, q4b, q4c⟩ := isOf hZ e3 (E_w_NE.ext O0.2)
  obtain ⟨_, _, ⟨T4, L4, k4, n4⟩, -, X4, ⟨Lc4, hQ4, l4, y4, z4⟩, st4⟩ := X3.virtualBack hx (y := (⟨"com/example/sunder/sunder/Operator", "holds", "(I)Z"⟩ : MethodName)) (z := (⟨"com/example/sunder/sunder/Operator", "holds", "(I)Z"⟩ : MethodName)) hown (mvT hZ (hwi hw 3 rfl)) (mvT hZ (hwi hw 4 rfl)) (notFace_of_selects (args := #[]) (mvT hZ (hwi hw 6 rfl))) (mvT hZ (hwi hw 6 rfl)) (mvT hZ (hwi hw 5 rfl)) (by decide) (backOf (W := 0) (rm_holds_1_neg l Z a0 hw [] w_NE p1 h0 n0 Z0 (F_w_NE_ordinal.ext O0.2) hlt heq hgt (E_w_NE.ext O0.2)) hZ (hwi hw 7 rfl) (hwi hw 1 rfl) (by decide) (by decide)) q4a q4c (g := (mkF m 47 #[.val (.int p1), .val (.int 1), .val (.int 0), .val (.int 0), .val (.int 0), .unset, .unset, .unset, .unset, .unset, .unset, .unset] [(.int p1), (.ref w_NE)])) rfl (by rw [hml]; rfl) (Steps.refl _) (argsL := [(.int p1)]) (rest := []) (lenOf pd_I_Z_244 rfl) rfl (by show 2 * 0 + _ ≤ _; exact Nat.le_of_eq rfl) (hb hby at_47) (fun _ _ => ⟨rfl, e3, (by decide : 0 + 0 ≤ _), (by decide : 0 + 0 ≤ _)⟩)
  dsimp only [Pt.U, Pt.locs, Pt.cells, Pt.slots] at X4 l4 y4 z4 st4 hQ4
  subst l4 y4 z4
  obtain ⟨rfl, N4q, e4⟩ := hQ4
  have N4 := Fr.app N2 N4q
  obtain ⟨T5, X5, e5, st5⟩ := getS2 X4 hx hZ hown (host := "") (Or.inl (hwi hw 19 rfl)) Via.refl e4 (S_LT.ext O0.2) (g := (mkF m 52 #[.val (.int p1), .val (.int 1), .val (.int 0), .val (.int 0), .val (.int 0), .val (.int 1), .unset, .unset, .unset, .unset, .unset, .unset] [])) rfl (hb hby at_52)
  obtain ⟨cq6, kq6, q6a, q6b, q6c⟩ := isOf hZ e5 (E_w_LT.ext O0.2)
  obtain ⟨_, _, ⟨T6, L6, k6, n6⟩, -, X6, ⟨Lc6, hQ6, l6, y6, z6⟩, st6⟩ := X5.virtualBack hx (y := (⟨"com/example/sunder/sunder/Operator", "holds", "(I)Z"⟩ : MethodName)) (z := (⟨"com/example/sunder/sunder/Operator", "holds", "(I)Z"⟩ : MethodName)) hown (mvT hZ (hwi hw 3 rfl)) (mvT hZ (hwi hw 4 rfl)) (notFace_of_selects (args := #[]) (mvT hZ (hwi hw 6 rfl))) (mvT hZ (hwi hw 6 rfl)) (mvT hZ (hwi hw 5 rfl)) (by decide) (backOf (W := 0) (rm_holds_2_neg l Z a0 hw [] w_LT p1 h0 n0 Z0 (F_w_LT_ordinal.ext O0.2) hlt heq hgt (E_w_LT.ext O0.2)) hZ (hwi hw 7 rfl) (hwi hw 1 rfl) (by decide) (by decide)) q6a q6c (g := (mkF m 56 #[.val (.int p1), .val (.int 1), .val (.int 0), .val (.int 0), .val (.int 0), .val (.int 1), .unset, .unset, .unset, .unset, .unset, .unset] [(.int p1), (.ref w_LT)])) rfl (by rw [hml]; rfl) (Steps.refl _) (argsL := [(.int p1)]) (rest := []) (lenOf pd_I_Z_244 rfl) rfl (by show 2 * 0 + _ ≤ _; exact Nat.le_of_eq rfl) (hb hby at_56) (fun _ _ => ⟨rfl, e5, (by decide : 0 + 0 ≤ _), (by decide : 0 + 0 ≤ _)⟩)
  dsimp only [Pt.U, Pt.locs, Pt.cells, Pt.slots] at X6 l6 y6 z6 st6 hQ6
  subst l6 y6 z6
  obtain ⟨rfl, N6q, e6⟩ := hQ6
  have N6 := Fr.app N4 N6q
  obtain ⟨T7, X7, e7, st7⟩ := getS2 X6 hx hZ hown (host := "") (Or.inl (hwi hw 21 rfl)) Via.refl e6 (S_LE.ext O0.2) (g := (mkF m 61 #[.val (.int p1), .val (.int 1), .val (.int 0), .val (.int 0), .val (.int 0), .val (.int 1), .val (.int 1), .unset, .unset, .unset, .unset, .unset] [])) rfl (hb hby at_61)
  obtain ⟨cq8, kq8, q8a, q8b, q8c⟩ := isOf hZ e7 (E_w_LE.ext O0.2)
  obtain ⟨_, _, ⟨T8, L8, k8, n8⟩, -, X8, ⟨Lc8, hQ8, l8, y8, z8⟩, st8⟩ := X7.virtualBack hx (y := (⟨"com/example/sunder/sunder/Operator", "holds", "(I)Z"⟩ : MethodName)) (z := (⟨"com/example/sunder/sunder/Operator", "holds", "(I)Z"⟩ : MethodName)) hown (mvT hZ (hwi hw 3 rfl)) (mvT hZ (hwi hw 4 rfl)) (notFace_of_selects (args := #[]) (mvT hZ (hwi hw 6 rfl))) (mvT hZ (hwi hw 6 rfl)) (mvT hZ (hwi hw 5 rfl)) (by decide) (backOf (W := 0) (rm_holds_3_neg l Z a0 hw [] w_LE p1 h0 n0 Z0 (F_w_LE_ordinal.ext O0.2) hlt heq hgt (E_w_LE.ext O0.2)) hZ (hwi hw 7 rfl) (hwi hw 1 rfl) (by decide) (by decide)) q8a q8c (g := (mkF m 65 #[.val (.int p1), .val (.int 1), .val (.int 0), .val (.int 0), .val (.int 0), .val (.int 1), .val (.int 1), .unset, .unset, .unset, .unset, .unset] [(.int p1), (.ref w_LE)])) rfl (by rw [hml]; rfl) (Steps.refl _) (argsL := [(.int p1)]) (rest := []) (lenOf pd_I_Z_244 rfl) rfl (by show 2 * 0 + _ ≤ _; exact Nat.le_of_eq rfl) (hb hby at_65) (fun _ _ => ⟨rfl, e7, (by decide : 0 + 0 ≤ _), (by decide : 0 + 0 ≤ _)⟩)
  dsimp only [Pt.U, Pt.locs, Pt.cells, Pt.slots] at X8 l8 y8 z8 st8 hQ8
  subst l8 y8 z8
  obtain ⟨rfl, N8q, e8⟩ := hQ8
  have N8 := Fr.app N6 N8q
  obtain ⟨T9, X9, e9, st9⟩ := getS2 X8 hx hZ hown (host := "") (Or.inl (hwi hw 23 rfl)) Via.refl e8 (S_GT.ext O0.2) (g := (mkF m 70 #[.val (.int p1), .val (.int 1), .val (.int 0), .val (.int 0), .val (.int 0), .val (.int 1), .val (.int 1), .val (.int 1), .unset, .unset, .unset, .unset] [])) rfl (hb hby at_70)
  obtain ⟨cq10, kq10, q10a, q10b, q10c⟩ := isOf hZ e9 (E_w_GT.ext O0.2)
  obtain ⟨_, _, ⟨T10, L10, k10, n10⟩, -, X10, ⟨Lc10, hQ10, l10, y10, z10⟩, st10⟩ := X9.virtualBack hx (y := (⟨"com/example/sunder/sunder/Operator", "holds", "(I)Z"⟩ : MethodName)) (z := (⟨"com/example/sunder/sunder/Operator", "holds", "(I)Z"⟩ : MethodName)) hown (mvT hZ (hwi hw 3 rfl)) (mvT hZ (hwi hw 4 rfl)) (notFace_of_selects (args := #[]) (mvT hZ (hwi hw 6 rfl))) (mvT hZ (hwi hw 6 rfl)) (mvT hZ (hwi hw 5 rfl)) (by decide) (backOf (W := 0) (rm_holds_4_neg l Z a0 hw [] w_GT p1 h0 n0 Z0 (F_w_GT_ordinal.ext O0.2) hlt heq hgt (E_w_GT.ext O0.2)) hZ (hwi hw 7 rfl) (hwi hw 1 rfl) (by decide) (by decide)) q10a q10c (g := (mkF m 74 #[.val (.int p1), .val (.int 1), .val (.int 0), .val (.int 0), .val (.int 0), .val (.int 1), .val (.int 1), .val (.int 1), .unset, .unset, .unset, .unset] [(.int p1), (.ref w_GT)])) rfl (by rw [hml]; rfl) (Steps.refl _) (argsL := [(.int p1)]) (rest := []) (lenOf pd_I_Z_244 rfl) rfl (by show 2 * 0 + _ ≤ _; exact Nat.le_of_eq rfl) (hb hby at_74) (fun _ _ => ⟨rfl, e9, (by decide : 0 + 0 ≤ _), (by decide : 0 + 0 ≤ _)⟩)
  dsimp only [Pt.U, Pt.locs, Pt.cells, Pt.slots] at X10 l10 y10 z10 st10 hQ10
  subst l10 y10 z10
  obtain ⟨rfl, N10q, e10⟩ := hQ10
  have N10 := Fr.app N8 N10q
  obtain ⟨T11, X11, e11, st11⟩ := getS2 X10 hx hZ hown (host := "") (Or.inl (hwi hw 25 rfl)) Via.refl e10 (S_GE.ext O0.2) (g := (mkF m 79 #[.val (.int p1), .val (.int 1), .val (.int 0), .val (.int 0), .val (.int 0), .val (.int 1), .val (.int 1), .val (.int 1), .val (.int 0), .unset, .unset, .unset] [])) rfl (hb hby at_79)
  obtain ⟨cq12, kq12, q12a, q12b, q12c⟩ := isOf hZ e11 (E_w_GE.ext O0.2)
  obtain ⟨_, _, ⟨T12, L12, k12, n12⟩, -, X12, ⟨Lc12, hQ12, l12, y12, z12⟩, st12⟩ := X11.virtualBack hx (y := (⟨"com/example/sunder/sunder/Operator", "holds", "(I)Z"⟩ : MethodName)) (z := (⟨"com/example/sunder/sunder/Operator", "holds", "(I)Z"⟩ : MethodName)) hown (mvT hZ (hwi hw 3 rfl)) (mvT hZ (hwi hw 4 rfl)) (notFace_of_selects (args := #[]) (mvT hZ (hwi hw 6 rfl))) (mvT hZ (hwi hw 6 rfl)) (mvT hZ (hwi hw 5 rfl)) (by decide) (backOf (W := 0) (rm_holds_5_neg l Z a0 hw [] w_GE p1 h0 n0 Z0 (F_w_GE_ordinal.ext O0.2) hlt heq hgt (E_w_GE.ext O0.2)) hZ (hwi hw 7 rfl) (hwi hw 1 rfl) (by decide) (by decide)) q12a q12c (g := (mkF m 83 #[.val (.int p1), .val (.int 1), .val (.int 0), .val (.int 0), .val (.int 0), .val (.int 1), .val (.int 1), .val (.int 1), .val (.int 0), .unset, .unset, .unset] [(.int p1), (.ref w_GE)])) rfl (by rw [hml]; rfl) (Steps.refl _) (argsL := [(.int p1)]) (rest := []) (lenOf pd_I_Z_244 rfl) rfl (by show 2 * 0 + _ ≤ _; exact Nat.le_of_eq rfl) (hb hby at_83) (fun _ _ => ⟨rfl, e11, (by decide : 0 + 0 ≤ _), (by decide : 0 + 0 ≤ _)⟩)
  dsimp only [Pt.U, Pt.locs, Pt.cells, Pt.slots] at X12 l12 y12 z12 st12 hQ12
  subst l12 y12 z12
  obtain ⟨rfl, N12q, e12⟩ := hQ12
  have N12 := Fr.app N10 N12q
  obtain ⟨fs, hr, hrun, hended, hW, hsame⟩ := X12.leave (v := some (.int 1)) (fun h => by rw [Bd.returns] at h; cases h)
  refine ⟨_, _, pre0 _ ?_, hrun, hended, _, _, rfl, ?_, ⟨_, rfl⟩, hW, hsame.mono (by decide) (by decide)⟩
  · show St p e below s₁ (mkF m 0 #[.val (.int p1), .unset, .unset, .unset, .unset, .unset, .unset, .unset, .unset, .unset, .unset, .unset] []) _
    refine XS.iloadN X0.here hx rfl (hb hby at_0) rfl ?_
    show St p e below s₁ (mkF m 1 #[.val (.int p1), .unset, .unset, .unset, .unset, .unset, .unset, .unset, .unset, .unset, .unset, .unset] [(.int p1)]) _
    refine XS.ifNo X0.here hx rfl (hb hby at_1) rfl ((if0 _ _).trans (tlt hlt).2.1) ?_
    show St p e below s₁ (mkF m 4 #[.val (.int p1), .unset, .unset, .unset, .unset, .unset, .unset, .unset, .unset, .unset, .unset, .unset] []) _
    refine XS.iconst X0.here hx rfl (hb hby at_4) ?_
    show St p e below s₁ (mkF m 5 #[.val (.int p1), .unset, .unset, .unset, .unset, .unset, .unset, .unset, .unset, .unset, .unset, .unset] [(.int 1)]) _
    refine XS.goto X0.here hx rfl (pc0 := 5) (pc' := 9) rfl (hb hby at_5) (by decide) (by decide) ?_
    show St p e below s₁ (mkF m 9 #[.val (.int p1), .unset, .unset, .unset, .unset, .unset, .unset, .unset, .unset, .unset, .unset, .unset] [(.int 1)]) _
    refine XS.istoreN X0.here hx rfl (hb hby at_9) rfl (l' := #[.val (.int p1), .val (.int 1), .unset, .unset, .unset, .unset, .unset, .unset, .unset, .unset, .unset, .unset]) rfl ?_
    show St p e below s₁ (mkF m 10 #[.val (.int p1), .val (.int 1), .unset, .unset, .unset, .unset, .unset, .unset, .unset, .unset, .unset, .unset] []) _
    refine XS.iloadN X0.here hx rfl (hb hby at_10) rfl ?_
    show St p e below s₁ (mkF m 11 #[.val (.int p1), .val (.int 1), .unset, .unset, .unset, .unset, .unset, .unset, .unset, .unset, .unset, .unset] [(.int p1)]) _
    refine XS.ifYes X0.here hx rfl (pc0 := 11) (pc' := 18) rfl (hb hby at_11) rfl ((if0 _ _).trans (feq heq).2) (by decide) (by decide) ?_
    show St p e below s₁ (mkF m 18 #[.val (.int p1), .val (.int 1), .unset, .unset, .unset, .unset, .unset, .unset, .unset, .unset, .unset, .unset] []) _
    refine XS.iconst X0.here hx rfl (hb hby at_18) ?_
    show St p e below s₁ (mkF m 19 #[.val (.int p1), .val (.int 1), .unset, .unset, .unset, .unset, .unset, .unset, .unset, .unset, .unset, .unset] [(.int 0)]) _
    refine XS.istoreN X0.here hx rfl (hb hby at_19) rfl (l' := #[.val (.int p1), .val (.int 1), .val (.int 0), .unset, .unset, .unset, .unset, .unset, .unset, .unset, .unset, .unset]) rfl ?_
    show St p e below s₁ (mkF m 20 #[.val (.int p1), .val (.int 1), .val (.int 0), .unset, .unset, .unset, .unset, .unset, .unset, .unset, .unset, .unset] []) _
    refine XS.iloadN X0.here hx rfl (hb hby at_20) rfl ?_
    show St p e below s₁ (mkF m 21 #[.val (.int p1), .val (.int 1), .val (.int 0), .unset, .unset, .unset, .unset, .unset, .unset, .unset, .unset, .unset] [(.int 1)]) _
    refine XS.ifYes X0.here hx rfl (pc0 := 21) (pc' := 32) rfl (hb hby at_21) rfl ((if0 _ _).trans (feq (by decide : ¬ ((1 : Int32) = (0 : Int32)))).2) (by decide) (by decide) ?_
    show St p e below s₁ (mkF m 32 #[.val (.int p1), .val (.int 1), .val (.int 0), .unset, .unset, .unset, .unset, .unset, .unset, .unset, .unset, .unset] []) _
    refine XS.iconst X0.here hx rfl (hb hby at_32) ?_
    show St p e below s₁ (mkF m 33 #[.val (.int p1), .val (.int 1), .val (.int 0), .unset, .unset, .unset, .unset, .unset, .unset, .unset, .unset, .unset] [(.int 0)]) _
    refine XS.istoreN X0.here hx rfl (hb hby at_33) rfl (l' := #[.val (.int p1), .val (.int 1), .val (.int 0), .val (.int 0), .unset, .unset, .unset, .unset, .unset, .unset, .unset, .unset]) rfl ?_
    show St p e below s₁ (mkF m 34 #[.val (.int p1), .val (.int 1), .val (.int 0), .val (.int 0), .unset, .unset, .unset, .unset, .unset, .unset, .unset, .unset] []) _
    refine st1 _ ?_
    show St p e below T1 (mkF m 37 #[.val (.int p1), .val (.int 1), .val (.int 0), .val (.int 0), .unset, .unset, .unset, .unset, .unset, .unset, .unset, .unset] [(.ref w_EQ)]) _
    refine XS.iloadN X1.here hx rfl (hb hby at_37) rfl ?_
    show St p e below T1 (mkF m 38 #[.val (.int p1), .val (.int 1), .val (.int 0), .val (.int 0), .unset, .unset, .unset, .unset, .unset, .unset, .unset, .unset] [(.int p1), (.ref w_EQ)]) _
    refine st2.trans ?_
    show St p e below T2 (mkF m 41 #[.val (.int p1), .val (.int 1), .val (.int 0), .val (.int 0), .unset, .unset, .unset, .unset, .unset, .unset, .unset, .unset] [(.int 0)]) _
    refine XS.istore X2.here hx rfl (hb hby at_41) rfl (l' := #[.val (.int p1), .val (.int 1), .val (.int 0), .val (.int 0), .val (.int 0), .unset, .unset, .unset, .unset, .unset, .unset, .unset]) rfl ?_
    show St p e below T2 (mkF m 43 #[.val (.int p1), .val (.int 1), .val (.int 0), .val (.int 0), .val (.int 0), .unset, .unset, .unset, .unset, .unset, .unset, .unset] []) _
    refine st3 _ ?_
    show St p e below T3 (mkF m 46 #[.val (.int p1), .val (.int 1), .val (.int 0), .val (.int 0), .val (.int 0), .unset, .unset, .unset, .unset, .unset, .unset, .unset] [(.ref w_NE)]) _
    refine XS.iloadN X3.here hx rfl (hb hby at_46) rfl ?_
    show St p e below T3 (mkF m 47 #[.val (.int p1), .val (.int 1), .val (.int 0), .val (.int 0), .val (.int 0), .unset, .unset, .unset, .unset, .unset, .unset, .unset] [(.int p1), (.ref w_NE)]) _
    refine st4.trans ?_
    show St p e below T4 (mkF m 50 #[.val (.int p1), .val (.int 1), .val (.int 0), .val (.int 0), .val (.int 0), .unset, .unset, .unset, .unset, .unset, .unset, .unset] [(.int 1)]) _
    refine XS.istore X4.here hx rfl (hb hby at_50) rfl (l' := #[.val (.int p1), .val (.int 1), .val (.int 0), .val (.int 0), .val (.int 0), .val (.int 1), .unset, .unset, .unset, .unset, .unset, .unset]) rfl ?_
    show St p e below T4 (mkF m 52 #[.val (.int p1), .val (.int 1), .val (.int 0), .val (.int 0), .val (.int 0), .val (.int 1), .unset, .unset, .unset, .unset, .unset, .unset] []) _
    refine st5 _ ?_
    show St p e below T5 (mkF m 55 #[.val (.int p1), .val (.int 1), .val (.int 0), .val (.int 0), .val (.int 0), .val (.int 1), .unset, .unset, .unset, .unset, .unset, .unset] [(.ref w_LT)]) _
    refine XS.iloadN X5.here hx rfl (hb hby at_55) rfl ?_
    show St p e below T5 (mkF m 56 #[.val (.int p1), .val (.int 1), .val (.int 0), .val (.int 0), .val (.int 0), .val (.int 1), .unset, .unset, .unset, .unset, .unset, .unset] [(.int p1), (.ref w_LT)]) _
    refine st6.trans ?_
    show St p e below T6 (mkF m 59 #[.val (.int p1), .val (.int 1), .val (.int 0), .val (.int 0), .val (.int 0), .val (.int 1), .unset, .unset, .unset, .unset, .unset, .unset] [(.int 1)]) _
    refine XS.istore X6.here hx rfl (hb hby at_59) rfl (l' := #[.val (.int p1), .val (.int 1), .val (.int 0), .val (.int 0), .val (.int 0), .val (.int 1), .val (.int 1), .unset, .unset, .unset, .unset, .unset]) rfl ?_
    show St p e below T6 (mkF m 61 #[.val (.int p1), .val (.int 1), .val (.int 0), .val (.int 0), .val (.int 0), .val (.int 1), .val (.int 1), .unset, .unset, .unset, .unset, .unset] []) _
    refine st7 _ ?_
    show St p e below T7 (mkF m 64 #[.val (.int p1), .val (.int 1), .val (.int 0), .val (.int 0), .val (.int 0), .val (.int 1), .val (.int 1), .unset, .unset, .unset, .unset, .unset] [(.ref w_LE)]) _
    refine XS.iloadN X7.here hx rfl (hb hby at_64) rfl ?_
    show St p e below T7 (mkF m 65 #[.val (.int p1), .val (.int 1), .val (.int 0), .val (.int 0), .val (.int 0), .val (.int 1), .val (.int 1), .unset, .unset, .unset, .unset, .unset] [(.int p1), (.ref w_LE)]) _
    refine st8.trans ?_
    show St p e below T8 (mkF m 68 #[.val (.int p1), .val (.int 1), .val (.int 0), .val (.int 0), .val (.int 0), .val (.int 1), .val (.int 1), .unset, .unset, .unset, .unset, .unset] [(.int 1)]) _
    refine XS.istore X8.here hx rfl (hb hby at_68) rfl (l' := #[.val (.int p1), .val (.int 1), .val (.int 0), .val (.int 0), .val (.int 0), .val (.int 1), .val (.int 1), .val (.int 1), .unset, .unset, .unset, .unset]) rfl ?_
    show St p e below T8 (mkF m 70 #[.val (.int p1), .val (.int 1), .val (.int 0), .val (.int 0), .val (.int 0), .val (.int 1), .val (.int 1), .val (.int 1), .unset, .unset, .unset, .unset] []) _
    refine st9 _ ?_
    show St p e below T9 (mkF m 73 #[.val (.int p1), .val (.int 1), .val (.int 0), .val (.int 0), .val (.int 0), .val (.int 1), .val (.int 1), .val (.int 1), .unset, .unset, .unset, .unset] [(.ref w_GT)]) _
    refine XS.iloadN X9.here hx rfl (hb hby at_73) rfl ?_
    show St p e below T9 (mkF m 74 #[.val (.int p1), .val (.int 1), .val (.int 0), .val (.int 0), .val (.int 0), .val (.int 1), .val (.int 1), .val (.int 1), .unset, .unset, .unset, .unset] [(.int p1), (.ref w_GT)]) _
    refine st10.trans ?_
    show St p e below T10 (mkF m 77 #[.val (.int p1), .val (.int 1), .val (.int 0), .val (.int 0), .val (.int 0), .val (.int 1), .val (.int 1), .val (.int 1), .unset, .unset, .unset, .unset] [(.int 0)]) _
    refine XS.istore X10.here hx rfl (hb hby at_77) rfl (l' := #[.val (.int p1), .val (.int 1), .val (.int 0), .val (.int 0), .val (.int 0), .val (.int 1), .val (.int 1), .val (.int 1), .val (.int 0), .unset, .unset, .unset]) rfl ?_
    show St p e below T10 (mkF m 79 #[.val (.int p1), .val (.int 1), .val (.int 0), .val (.int 0), .val (.int 0), .val (.int 1), .val (.int 1), .val (.int 1), .val (.int 0), .unset, .unset, .unset] []) _
    refine st11 _ ?_
    show St p e below T11 (mkF m 82 #[.val (.int p1), .val (.int 1), .val (.int 0), .val (.int 0), .val (.int 0), .val (.int 1), .val (.int 1), .val (.int 1), .val (.int 0), .unset, .unset, .unset] [(.ref w_GE)]) _
    refine XS.iloadN X11.here hx rfl (hb hby at_82) rfl ?_
    show St p e below T11 (mkF m 83 #[.val (.int p1), .val (.int 1), .val (.int 0), .val (.int 0), .val (.int 0), .val (.int 1), .val (.int 1), .val (.int 1), .val (.int 0), .unset, .unset, .unset] [(.int p1), (.ref w_GE)]) _
    refine st12.trans ?_
    show St p e below T12 (mkF m 86 #[.val (.int p1), .val (.int 1), .val (.int 0), .val (.int 0), .val (.int 0), .val (.int 1), .val (.int 1), .val (.int 1), .val (.int 0), .unset, .unset, .unset] [(.int 0)]) _
    refine XS.istore X12.here hx rfl (hb hby at_86) rfl (l' := #[.val (.int p1), .val (.int 1), .val (.int 0), .val (.int 0), .val (.int 0), .val (.int 1), .val (.int 1), .val (.int 1), .val (.int 0), .val (.int 0), .unset, .unset]) rfl ?_
    show St p e below T12 (mkF m 88 #[.val (.int p1), .val (.int 1), .val (.int 0), .val (.int 0), .val (.int 0), .val (.int 1), .val (.int 1), .val (.int 1), .val (.int 0), .val (.int 0), .unset, .unset] []) _
    refine XS.iload X12.here hx rfl (hb hby at_88) rfl ?_
    show St p e below T12 (mkF m 90 #[.val (.int p1), .val (.int 1), .val (.int 0), .val (.int 0), .val (.int 0), .val (.int 1), .val (.int 1), .val (.int 1), .val (.int 0), .val (.int 0), .unset, .unset] [(.int 0)]) _
    refine XS.iloadN X12.here hx rfl (hb hby at_90) rfl ?_
    show St p e below T12 (mkF m 91 #[.val (.int p1), .val (.int 1), .val (.int 0), .val (.int 0), .val (.int 0), .val (.int 1), .val (.int 1), .val (.int 1), .val (.int 0), .val (.int 0), .unset, .unset] [(.int 0), (.int 0)]) _
    refine XS.icmpNo X12.here hx rfl (hb hby at_91) rfl (teq (by decide : (0 : Int32) = (0 : Int32))).2 ?_
    show St p e below T12 (mkF m 94 #[.val (.int p1), .val (.int 1), .val (.int 0), .val (.int 0), .val (.int 0), .val (.int 1), .val (.int 1), .val (.int 1), .val (.int 0), .val (.int 0), .unset, .unset] []) _
    refine XS.iconst X12.here hx rfl (hb hby at_94) ?_
    show St p e below T12 (mkF m 95 #[.val (.int p1), .val (.int 1), .val (.int 0), .val (.int 0), .val (.int 0), .val (.int 1), .val (.int 1), .val (.int 1), .val (.int 0), .val (.int 0), .unset, .unset] [(.int 1)]) _
    refine XS.goto X12.here hx rfl (pc0 := 95) (pc' := 99) rfl (hb hby at_95) (by decide) (by decide) ?_
    show St p e below T12 (mkF m 99 #[.val (.int p1), .val (.int 1), .val (.int 0), .val (.int 0), .val (.int 0), .val (.int 1), .val (.int 1), .val (.int 1), .val (.int 0), .val (.int 0), .unset, .unset] [(.int 1)]) _
    refine XS.istore X12.here hx rfl (hb hby at_99) rfl (l' := #[.val (.int p1), .val (.int 1), .val (.int 0), .val (.int 0), .val (.int 0), .val (.int 1), .val (.int 1), .val (.int 1), .val (.int 0), .val (.int 0), .val (.int 1), .unset]) rfl ?_
    show St p e below T12 (mkF m 101 #[.val (.int p1), .val (.int 1), .val (.int 0), .val (.int 0), .val (.int 0), .val (.int 1), .val (.int 1), .val (.int 1), .val (.int 0), .val (.int 0), .val (.int 1), .unset] []) _
    refine XS.iload X12.here hx rfl (hb hby at_101) rfl ?_
    show St p e below T12 (mkF m 103 #[.val (.int p1), .val (.int 1), .val (.int 0), .val (.int 0), .val (.int 0), .val (.int 1), .val (.int 1), .val (.int 1), .val (.int 0), .val (.int 0), .val (.int 1), .unset] [(.int 1)]) _
    refine XS.ifNo X12.here hx rfl (hb hby at_103) rfl ((if0 _ _).trans (feq (by decide : ¬ ((1 : Int32) = (0 : Int32)))).1) ?_
    show St p e below T12 (mkF m 106 #[.val (.int p1), .val (.int 1), .val (.int 0), .val (.int 0), .val (.int 0), .val (.int 1), .val (.int 1), .val (.int 1), .val (.int 0), .val (.int 0), .val (.int 1), .unset] []) _
    refine XS.iload X12.here hx rfl (hb hby at_106) rfl ?_
    show St p e below T12 (mkF m 108 #[.val (.int p1), .val (.int 1), .val (.int 0), .val (.int 0), .val (.int 0), .val (.int 1), .val (.int 1), .val (.int 1), .val (.int 0), .val (.int 0), .val (.int 1), .unset] [(.int 1)]) _
    refine XS.iloadN X12.here hx rfl (hb hby at_108) rfl ?_
    show St p e below T12 (mkF m 109 #[.val (.int p1), .val (.int 1), .val (.int 0), .val (.int 0), .val (.int 0), .val (.int 1), .val (.int 1), .val (.int 1), .val (.int 0), .val (.int 0), .val (.int 1), .unset] [(.int 0), (.int 1)]) _
    refine XS.ifNo X12.here hx rfl (hb hby at_109) rfl ((if0 _ _).trans (teq (by decide : (0 : Int32) = (0 : Int32))).2) ?_
    show St p e below T12 (mkF m 112 #[.val (.int p1), .val (.int 1), .val (.int 0), .val (.int 0), .val (.int 0), .val (.int 1), .val (.int 1), .val (.int 1), .val (.int 0), .val (.int 0), .val (.int 1), .unset] [(.int 1)]) _
    refine XS.iconst X12.here hx rfl (hb hby at_112) ?_
    show St p e below T12 (mkF m 113 #[.val (.int p1), .val (.int 1), .val (.int 0), .val (.int 0), .val (.int 0), .val (.int 1), .val (.int 1), .val (.int 1), .val (.int 0), .val (.int 0), .val (.int 1), .unset] [(.int 1), (.int 1)]) _
    refine XS.goto X12.here hx rfl (pc0 := 113) (pc' := 117) rfl (hb hby at_113) (by decide) (by decide) ?_
    show St p e below T12 (mkF m 117 #[.val (.int p1), .val (.int 1), .val (.int 0), .val (.int 0), .val (.int 0), .val (.int 1), .val (.int 1), .val (.int 1), .val (.int 0), .val (.int 0), .val (.int 1), .unset] [(.int 1), (.int 1)]) _
    refine XS.icmpNo X12.here hx rfl (hb hby at_117) rfl (teq (by decide : (1 : Int32) = (1 : Int32))).2 ?_
    show St p e below T12 (mkF m 120 #[.val (.int p1), .val (.int 1), .val (.int 0), .val (.int 0), .val (.int 0), .val (.int 1), .val (.int 1), .val (.int 1), .val (.int 0), .val (.int 0), .val (.int 1), .unset] []) _
    refine XS.iconst X12.here hx rfl (hb hby at_120) ?_
    show St p e below T12 (mkF m 121 #[.val (.int p1), .val (.int 1), .val (.int 0), .val (.int 0), .val (.int 0), .val (.int 1), .val (.int 1), .val (.int 1), .val (.int 0), .val (.int 0), .val (.int 1), .unset] [(.int 1)]) _
    refine XS.goto X12.here hx rfl (pc0 := 121) (pc' := 125) rfl (hb hby at_121) (by decide) (by decide) ?_
    show St p e below T12 (mkF m 125 #[.val (.int p1), .val (.int 1), .val (.int 0), .val (.int 0), .val (.int 0), .val (.int 1), .val (.int 1), .val (.int 1), .val (.int 0), .val (.int 0), .val (.int 1), .unset] [(.int 1)]) _
    refine XS.istore X12.here hx rfl (hb hby at_125) rfl (l' := #[.val (.int p1), .val (.int 1), .val (.int 0), .val (.int 0), .val (.int 0), .val (.int 1), .val (.int 1), .val (.int 1), .val (.int 0), .val (.int 0), .val (.int 1), .unset]) rfl ?_
    show St p e below T12 (mkF m 127 #[.val (.int p1), .val (.int 1), .val (.int 0), .val (.int 0), .val (.int 0), .val (.int 1), .val (.int 1), .val (.int 1), .val (.int 0), .val (.int 0), .val (.int 1), .unset] []) _
    refine XS.iload X12.here hx rfl (hb hby at_127) rfl ?_
    show St p e below T12 (mkF m 129 #[.val (.int p1), .val (.int 1), .val (.int 0), .val (.int 0), .val (.int 0), .val (.int 1), .val (.int 1), .val (.int 1), .val (.int 0), .val (.int 0), .val (.int 1), .unset] [(.int 1)]) _
    refine XS.ifNo X12.here hx rfl (hb hby at_129) rfl ((if0 _ _).trans (feq (by decide : ¬ ((1 : Int32) = (0 : Int32)))).1) ?_
    show St p e below T12 (mkF m 132 #[.val (.int p1), .val (.int 1), .val (.int 0), .val (.int 0), .val (.int 0), .val (.int 1), .val (.int 1), .val (.int 1), .val (.int 0), .val (.int 0), .val (.int 1), .unset] []) _
    refine XS.iload X12.here hx rfl (hb hby at_132) rfl ?_
    show St p e below T12 (mkF m 134 #[.val (.int p1), .val (.int 1), .val (.int 0), .val (.int 0), .val (.int 0), .val (.int 1), .val (.int 1), .val (.int 1), .val (.int 0), .val (.int 0), .val (.int 1), .unset] [(.int 1)]) _
    refine XS.iloadN X12.here hx rfl (hb hby at_134) rfl ?_
    show St p e below T12 (mkF m 135 #[.val (.int p1), .val (.int 1), .val (.int 0), .val (.int 0), .val (.int 0), .val (.int 1), .val (.int 1), .val (.int 1), .val (.int 0), .val (.int 0), .val (.int 1), .unset] [(.int 1), (.int 1)]) _
    refine XS.icmpNo X12.here hx rfl (hb hby at_135) rfl (teq (by decide : (1 : Int32) = (1 : Int32))).2 ?_
    show St p e below T12 (mkF m 138 #[.val (.int p1), .val (.int 1), .val (.int 0), .val (.int 0), .val (.int 0), .val (.int 1), .val (.int 1), .val (.int 1), .val (.int 0), .val (.int 0), .val (.int 1), .unset] []) _
    refine XS.iconst X12.here hx rfl (hb hby at_138) ?_
    show St p e below T12 (mkF m 139 #[.val (.int p1), .val (.int 1), .val (.int 0), .val (.int 0), .val (.int 0), .val (.int 1), .val (.int 1), .val (.int 1), .val (.int 0), .val (.int 0), .val (.int 1), .unset] [(.int 1)]) _
    refine XS.goto X12.here hx rfl (pc0 := 139) (pc' := 143) rfl (hb hby at_139) (by decide) (by decide) ?_
    show St p e below T12 (mkF m 143 #[.val (.int p1), .val (.int 1), .val (.int 0), .val (.int 0), .val (.int 0), .val (.int 1), .val (.int 1), .val (.int 1), .val (.int 0), .val (.int 0), .val (.int 1), .unset] [(.int 1)]) _
    refine XS.istore X12.here hx rfl (hb hby at_143) rfl (l' := #[.val (.int p1), .val (.int 1), .val (.int 0), .val (.int 0), .val (.int 0), .val (.int 1), .val (.int 1), .val (.int 1), .val (.int 0), .val (.int 0), .val (.int 1), .unset]) rfl ?_
    show St p e below T12 (mkF m 145 #[.val (.int p1), .val (.int 1), .val (.int 0), .val (.int 0), .val (.int 0), .val (.int 1), .val (.int 1), .val (.int 1), .val (.int 0), .val (.int 0), .val (.int 1), .unset] []) _
    refine XS.iload X12.here hx rfl (hb hby at_145) rfl ?_
    show St p e below T12 (mkF m 147 #[.val (.int p1), .val (.int 1), .val (.int 0), .val (.int 0), .val (.int 0), .val (.int 1), .val (.int 1), .val (.int 1), .val (.int 0), .val (.int 0), .val (.int 1), .unset] [(.int 1)]) _
    refine XS.ifNo X12.here hx rfl (hb hby at_147) rfl ((if0 _ _).trans (feq (by decide : ¬ ((1 : Int32) = (0 : Int32)))).1) ?_
    show St p e below T12 (mkF m 150 #[.val (.int p1), .val (.int 1), .val (.int 0), .val (.int 0), .val (.int 0), .val (.int 1), .val (.int 1), .val (.int 1), .val (.int 0), .val (.int 0), .val (.int 1), .unset] []) _
    refine XS.iload X12.here hx rfl (hb hby at_150) rfl ?_
    show St p e below T12 (mkF m 152 #[.val (.int p1), .val (.int 1), .val (.int 0), .val (.int 0), .val (.int 0), .val (.int 1), .val (.int 1), .val (.int 1), .val (.int 0), .val (.int 0), .val (.int 1), .unset] [(.int 1)]) _
    refine XS.iloadN X12.here hx rfl (hb hby at_152) rfl ?_
    show St p e below T12 (mkF m 153 #[.val (.int p1), .val (.int 1), .val (.int 0), .val (.int 0), .val (.int 0), .val (.int 1), .val (.int 1), .val (.int 1), .val (.int 0), .val (.int 0), .val (.int 1), .unset] [(.int 1), (.int 1)]) _
    refine XS.ifYes X12.here hx rfl (pc0 := 153) (pc' := 160) rfl (hb hby at_153) rfl ((if0 _ _).trans (feq (by decide : ¬ ((1 : Int32) = (0 : Int32)))).2) (by decide) (by decide) ?_
    show St p e below T12 (mkF m 160 #[.val (.int p1), .val (.int 1), .val (.int 0), .val (.int 0), .val (.int 0), .val (.int 1), .val (.int 1), .val (.int 1), .val (.int 0), .val (.int 0), .val (.int 1), .unset] [(.int 1)]) _
    refine XS.iconst X12.here hx rfl (hb hby at_160) ?_
    show St p e below T12 (mkF m 161 #[.val (.int p1), .val (.int 1), .val (.int 0), .val (.int 0), .val (.int 0), .val (.int 1), .val (.int 1), .val (.int 1), .val (.int 0), .val (.int 0), .val (.int 1), .unset] [(.int 1), (.int 1)]) _
    refine XS.goto X12.here hx rfl (pc0 := 161) (pc' := 165) rfl (hb hby at_161) (by decide) (by decide) ?_
    show St p e below T12 (mkF m 165 #[.val (.int p1), .val (.int 1), .val (.int 0), .val (.int 0), .val (.int 0), .val (.int 1), .val (.int 1), .val (.int 1), .val (.int 0), .val (.int 0), .val (.int 1), .unset] [(.int 1), (.int 1)]) _
    refine XS.icmpNo X12.here hx rfl (hb hby at_165) rfl (teq (by decide : (1 : Int32) = (1 : Int32))).2 ?_
    show St p e below T12 (mkF m 168 #[.val (.int p1), .val (.int 1), .val (.int 0), .val (.int 0), .val (.int 0), .val (.int 1), .val (.int 1), .val (.int 1), .val (.int 0), .val (.int 0), .val (.int 1), .unset] []) _
    refine XS.iconst X12.here hx rfl (hb hby at_168) ?_
    show St p e below T12 (mkF m 169 #[.val (.int p1), .val (.int 1), .val (.int 0), .val (.int 0), .val (.int 0), .val (.int 1), .val (.int 1), .val (.int 1), .val (.int 0), .val (.int 0), .val (.int 1), .unset] [(.int 1)]) _
    refine XS.goto X12.here hx rfl (pc0 := 169) (pc' := 173) rfl (hb hby at_169) (by decide) (by decide) ?_
    show St p e below T12 (mkF m 173 #[.val (.int p1), .val (.int 1), .val (.int 0), .val (.int 0), .val (.int 0), .val (.int 1), .val (.int 1), .val (.int 1), .val (.int 0), .val (.int 0), .val (.int 1), .unset] [(.int 1)]) _
    refine XS.istore X12.here hx rfl (hb hby at_173) rfl (l' := #[.val (.int p1), .val (.int 1), .val (.int 0), .val (.int 0), .val (.int 0), .val (.int 1), .val (.int 1), .val (.int 1), .val (.int 0), .val (.int 0), .val (.int 1), .unset]) rfl ?_
    show St p e below T12 (mkF m 175 #[.val (.int p1), .val (.int 1), .val (.int 0), .val (.int 0), .val (.int 0), .val (.int 1), .val (.int 1), .val (.int 1), .val (.int 0), .val (.int 0), .val (.int 1), .unset] []) _
    refine XS.iload X12.here hx rfl (hb hby at_175) rfl ?_
    show St p e below T12 (mkF m 177 #[.val (.int p1), .val (.int 1), .val (.int 0), .val (.int 0), .val (.int 0), .val (.int 1), .val (.int 1), .val (.int 1), .val (.int 0), .val (.int 0), .val (.int 1), .unset] [(.int 1)]) _
    refine XS.ifNo X12.here hx rfl (hb hby at_177) rfl ((if0 _ _).trans (feq (by decide : ¬ ((1 : Int32) = (0 : Int32)))).1) ?_
    show St p e below T12 (mkF m 180 #[.val (.int p1), .val (.int 1), .val (.int 0), .val (.int 0), .val (.int 0), .val (.int 1), .val (.int 1), .val (.int 1), .val (.int 0), .val (.int 0), .val (.int 1), .unset] []) _
    refine XS.iload X12.here hx rfl (hb hby at_180) rfl ?_
    show St p e below T12 (mkF m 182 #[.val (.int p1), .val (.int 1), .val (.int 0), .val (.int 0), .val (.int 0), .val (.int 1), .val (.int 1), .val (.int 1), .val (.int 0), .val (.int 0), .val (.int 1), .unset] [(.int 0)]) _
    refine XS.iloadN X12.here hx rfl (hb hby at_182) rfl ?_
    show St p e below T12 (mkF m 183 #[.val (.int p1), .val (.int 1), .val (.int 0), .val (.int 0), .val (.int 0), .val (.int 1), .val (.int 1), .val (.int 1), .val (.int 0), .val (.int 0), .val (.int 1), .unset] [(.int 0), (.int 0)]) _
    refine XS.icmpNo X12.here hx rfl (hb hby at_183) rfl (teq (by decide : (0 : Int32) = (0 : Int32))).2 ?_
    show St p e below T12 (mkF m 186 #[.val (.int p1), .val (.int 1), .val (.int 0), .val (.int 0), .val (.int 0), .val (.int 1), .val (.int 1), .val (.int 1), .val (.int 0), .val (.int 0), .val (.int 1), .unset] []) _
    refine XS.iconst X12.here hx rfl (hb hby at_186) ?_
    show St p e below T12 (mkF m 187 #[.val (.int p1), .val (.int 1), .val (.int 0), .val (.int 0), .val (.int 0), .val (.int 1), .val (.int 1), .val (.int 1), .val (.int 0), .val (.int 0), .val (.int 1), .unset] [(.int 1)]) _
    refine XS.goto X12.here hx rfl (pc0 := 187) (pc' := 191) rfl (hb hby at_187) (by decide) (by decide) ?_
    show St p e below T12 (mkF m 191 #[.val (.int p1), .val (.int 1), .val (.int 0), .val (.int 0), .val (.int 0), .val (.int 1), .val (.int 1), .val (.int 1), .val (.int 0), .val (.int 0), .val (.int 1), .unset] [(.int 1)]) _
    refine XS.istore X12.here hx rfl (hb hby at_191) rfl (l' := #[.val (.int p1), .val (.int 1), .val (.int 0), .val (.int 0), .val (.int 0), .val (.int 1), .val (.int 1), .val (.int 1), .val (.int 0), .val (.int 0), .val (.int 1), .unset]) rfl ?_
    show St p e below T12 (mkF m 193 #[.val (.int p1), .val (.int 1), .val (.int 0), .val (.int 0), .val (.int 0), .val (.int 1), .val (.int 1), .val (.int 1), .val (.int 0), .val (.int 0), .val (.int 1), .unset] []) _
    refine XS.iload X12.here hx rfl (hb hby at_193) rfl ?_
    show St p e below T12 (mkF m 195 #[.val (.int p1), .val (.int 1), .val (.int 0), .val (.int 0), .val (.int 0), .val (.int 1), .val (.int 1), .val (.int 1), .val (.int 0), .val (.int 0), .val (.int 1), .unset] [(.int 1)]) _
    refine XS.ifNo X12.here hx rfl (hb hby at_195) rfl ((if0 _ _).trans (feq (by decide : ¬ ((1 : Int32) = (0 : Int32)))).1) ?_
    show St p e below T12 (mkF m 198 #[.val (.int p1), .val (.int 1), .val (.int 0), .val (.int 0), .val (.int 0), .val (.int 1), .val (.int 1), .val (.int 1), .val (.int 0), .val (.int 0), .val (.int 1), .unset] []) _
    refine XS.iload X12.here hx rfl (hb hby at_198) rfl ?_
    show St p e below T12 (mkF m 200 #[.val (.int p1), .val (.int 1), .val (.int 0), .val (.int 0), .val (.int 0), .val (.int 1), .val (.int 1), .val (.int 1), .val (.int 0), .val (.int 0), .val (.int 1), .unset] [(.int 0)]) _
    refine XS.iloadN X12.here hx rfl (hb hby at_200) rfl ?_
    show St p e below T12 (mkF m 201 #[.val (.int p1), .val (.int 1), .val (.int 0), .val (.int 0), .val (.int 0), .val (.int 1), .val (.int 1), .val (.int 1), .val (.int 0), .val (.int 0), .val (.int 1), .unset] [(.int 1), (.int 0)]) _
    refine XS.ifYes X12.here hx rfl (pc0 := 201) (pc' := 208) rfl (hb hby at_201) rfl ((if0 _ _).trans (feq (by decide : ¬ ((1 : Int32) = (0 : Int32)))).2) (by decide) (by decide) ?_
    show St p e below T12 (mkF m 208 #[.val (.int p1), .val (.int 1), .val (.int 0), .val (.int 0), .val (.int 0), .val (.int 1), .val (.int 1), .val (.int 1), .val (.int 0), .val (.int 0), .val (.int 1), .unset] [(.int 0)]) _
    refine XS.iconst X12.here hx rfl (hb hby at_208) ?_
    show St p e below T12 (mkF m 209 #[.val (.int p1), .val (.int 1), .val (.int 0), .val (.int 0), .val (.int 0), .val (.int 1), .val (.int 1), .val (.int 1), .val (.int 0), .val (.int 0), .val (.int 1), .unset] [(.int 0), (.int 0)]) _
    refine XS.icmpNo X12.here hx rfl (hb hby at_209) rfl (teq (by decide : (0 : Int32) = (0 : Int32))).2 ?_
    show St p e below T12 (mkF m 212 #[.val (.int p1), .val (.int 1), .val (.int 0), .val (.int 0), .val (.int 0), .val (.int 1), .val (.int 1), .val (.int 1), .val (.int 0), .val (.int 0), .val (.int 1), .unset] []) _
    refine XS.iconst X12.here hx rfl (hb hby at_212) ?_
    show St p e below T12 (mkF m 213 #[.val (.int p1), .val (.int 1), .val (.int 0), .val (.int 0), .val (.int 0), .val (.int 1), .val (.int 1), .val (.int 1), .val (.int 0), .val (.int 0), .val (.int 1), .unset] [(.int 1)]) _
    refine XS.goto X12.here hx rfl (pc0 := 213) (pc' := 217) rfl (hb hby at_213) (by decide) (by decide) ?_
    show St p e below T12 (mkF m 217 #[.val (.int p1), .val (.int 1), .val (.int 0), .val (.int 0), .val (.int 0), .val (.int 1), .val (.int 1), .val (.int 1), .val (.int 0), .val (.int 0), .val (.int 1), .unset] [(.int 1)]) _
    refine XS.istore X12.here hx rfl (hb hby at_217) rfl (l' := #[.val (.int p1), .val (.int 1), .val (.int 0), .val (.int 0), .val (.int 0), .val (.int 1), .val (.int 1), .val (.int 1), .val (.int 0), .val (.int 0), .val (.int 1), .unset]) rfl ?_
    show St p e below T12 (mkF m 219 #[.val (.int p1), .val (.int 1), .val (.int 0), .val (.int 0), .val (.int 0), .val (.int 1), .val (.int 1), .val (.int 1), .val (.int 0), .val (.int 0), .val (.int 1), .unset] []) _
    refine XS.iload X12.here hx rfl (hb hby at_219) rfl ?_
    show St p e below T12 (mkF m 221 #[.val (.int p1), .val (.int 1), .val (.int 0), .val (.int 0), .val (.int 0), .val (.int 1), .val (.int 1), .val (.int 1), .val (.int 0), .val (.int 0), .val (.int 1), .unset] [(.int 1)]) _
    refine XS.ifNo X12.here hx rfl (hb hby at_221) rfl ((if0 _ _).trans (feq (by decide : ¬ ((1 : Int32) = (0 : Int32)))).1) ?_
    show St p e below T12 (mkF m 224 #[.val (.int p1), .val (.int 1), .val (.int 0), .val (.int 0), .val (.int 0), .val (.int 1), .val (.int 1), .val (.int 1), .val (.int 0), .val (.int 0), .val (.int 1), .unset] []) _
    refine XS.iconst X12.here hx rfl (hb hby at_224) ?_
    show St p e below T12 (mkF m 225 #[.val (.int p1), .val (.int 1), .val (.int 0), .val (.int 0), .val (.int 0), .val (.int 1), .val (.int 1), .val (.int 1), .val (.int 0), .val (.int 0), .val (.int 1), .unset] [(.int 1)]) _
    refine XS.goto X12.here hx rfl (pc0 := 225) (pc' := 229) rfl (hb hby at_225) (by decide) (by decide) ?_
    show St p e below T12 (mkF m 229 #[.val (.int p1), .val (.int 1), .val (.int 0), .val (.int 0), .val (.int 0), .val (.int 1), .val (.int 1), .val (.int 1), .val (.int 0), .val (.int 0), .val (.int 1), .unset] [(.int 1)]) _
    refine XS.iload X12.here hx rfl (hb hby at_229) rfl ?_
    show St p e below T12 (mkF m 231 #[.val (.int p1), .val (.int 1), .val (.int 0), .val (.int 0), .val (.int 0), .val (.int 1), .val (.int 1), .val (.int 1), .val (.int 0), .val (.int 0), .val (.int 1), .unset] [(.int 0), (.int 1)]) _
    refine XS.ifYes X12.here hx rfl (pc0 := 231) (pc' := 238) rfl (hb hby at_231) rfl ((if0 _ _).trans (teq (by decide : (0 : Int32) = (0 : Int32))).1) (by decide) (by decide) ?_
    show St p e below T12 (mkF m 238 #[.val (.int p1), .val (.int 1), .val (.int 0), .val (.int 0), .val (.int 0), .val (.int 1), .val (.int 1), .val (.int 1), .val (.int 0), .val (.int 0), .val (.int 1), .unset] [(.int 1)]) _
    refine XS.iconst X12.here hx rfl (hb hby at_238) ?_
    show St p e below T12 (mkF m 239 #[.val (.int p1), .val (.int 1), .val (.int 0), .val (.int 0), .val (.int 0), .val (.int 1), .val (.int 1), .val (.int 1), .val (.int 0), .val (.int 0), .val (.int 1), .unset] [(.int 0), (.int 1)]) _
    refine XS.iadd X12.here hx rfl (hb hby at_239) rfl ?_
    show St p e below T12 (mkF m 240 #[.val (.int p1), .val (.int 1), .val (.int 0), .val (.int 0), .val (.int 0), .val (.int 1), .val (.int 1), .val (.int 1), .val (.int 0), .val (.int 0), .val (.int 1), .unset] [(.int ((1 : Int32) + (0 : Int32)))]) _
    rw [(by decide : ((1 : Int32) + (0 : Int32)) = (1 : Int32))]
    show St p e below T12 (mkF m 240 #[.val (.int p1), .val (.int 1), .val (.int 0), .val (.int 0), .val (.int 0), .val (.int 1), .val (.int 1), .val (.int 1), .val (.int 0), .val (.int 0), .val (.int 1), .unset] [(.int 1)]) _
    refine XS.iload X12.here hx rfl (hb hby at_240) rfl ?_
    show St p e below T12 (mkF m 242 #[.val (.int p1), .val (.int 1), .val (.int 0), .val (.int 0), .val (.int 0), .val (.int 1), .val (.int 1), .val (.int 1), .val (.int 0), .val (.int 0), .val (.int 1), .unset] [(.int 0), (.int 1)]) _
    refine XS.ifYes X12.here hx rfl (pc0 := 242) (pc' := 249) rfl (hb hby at_242) rfl ((if0 _ _).trans (teq (by decide : (0 : Int32) = (0 : Int32))).1) (by decide) (by decide) ?_
    show St p e below T12 (mkF m 249 #[.val (.int p1), .val (.int 1), .val (.int 0), .val (.int 0), .val (.int 0), .val (.int 1), .val (.int 1), .val (.int 1), .val (.int 0), .val (.int 0), .val (.int 1), .unset] [(.int 1)]) _
    refine XS.iconst X12.here hx rfl (hb hby at_249) ?_
    show St p e below T12 (mkF m 250 #[.val (.int p1), .val (.int 1), .val (.int 0), .val (.int 0), .val (.int 0), .val (.int 1), .val (.int 1), .val (.int 1), .val (.int 0), .val (.int 0), .val (.int 1), .unset] [(.int 0), (.int 1)]) _
    refine XS.iadd X12.here hx rfl (hb hby at_250) rfl ?_
    show St p e below T12 (mkF m 251 #[.val (.int p1), .val (.int 1), .val (.int 0), .val (.int 0), .val (.int 0), .val (.int 1), .val (.int 1), .val (.int 1), .val (.int 0), .val (.int 0), .val (.int 1), .unset] [(.int ((1 : Int32) + (0 : Int32)))]) _
    rw [(by decide : ((1 : Int32) + (0 : Int32)) = (1 : Int32))]
    show St p e below T12 (mkF m 251 #[.val (.int p1), .val (.int 1), .val (.int 0), .val (.int 0), .val (.int 0), .val (.int 1), .val (.int 1), .val (.int 1), .val (.int 0), .val (.int 0), .val (.int 1), .unset] [(.int 1)]) _
    refine XS.istore X12.here hx rfl (hb hby at_251) rfl (l' := #[.val (.int p1), .val (.int 1), .val (.int 0), .val (.int 0), .val (.int 0), .val (.int 1), .val (.int 1), .val (.int 1), .val (.int 0), .val (.int 0), .val (.int 1), .val (.int 1)]) rfl ?_
    show St p e below T12 (mkF m 253 #[.val (.int p1), .val (.int 1), .val (.int 0), .val (.int 0), .val (.int 0), .val (.int 1), .val (.int 1), .val (.int 1), .val (.int 0), .val (.int 0), .val (.int 1), .val (.int 1)] []) _
    refine XS.iload X12.here hx rfl (hb hby at_253) rfl ?_
    show St p e below T12 (mkF m 255 #[.val (.int p1), .val (.int 1), .val (.int 0), .val (.int 0), .val (.int 0), .val (.int 1), .val (.int 1), .val (.int 1), .val (.int 0), .val (.int 0), .val (.int 1), .val (.int 1)] [(.int 1)]) _
    refine XS.ifNo X12.here hx rfl (hb hby at_255) rfl ((if0 _ _).trans (feq (by decide : ¬ ((1 : Int32) = (0 : Int32)))).1) ?_
    show St p e below T12 (mkF m 258 #[.val (.int p1), .val (.int 1), .val (.int 0), .val (.int 0), .val (.int 0), .val (.int 1), .val (.int 1), .val (.int 1), .val (.int 0), .val (.int 0), .val (.int 1), .val (.int 1)] []) _
    refine XS.iload X12.here hx rfl (hb hby at_258) rfl ?_
    show St p e below T12 (mkF m 260 #[.val (.int p1), .val (.int 1), .val (.int 0), .val (.int 0), .val (.int 0), .val (.int 1), .val (.int 1), .val (.int 1), .val (.int 0), .val (.int 0), .val (.int 1), .val (.int 1)] [(.int 1)]) _
    refine XS.iconst X12.here hx rfl (hb hby at_260) ?_
    show St p e below T12 (mkF m 261 #[.val (.int p1), .val (.int 1), .val (.int 0), .val (.int 0), .val (.int 0), .val (.int 1), .val (.int 1), .val (.int 1), .val (.int 0), .val (.int 0), .val (.int 1), .val (.int 1)] [(.int 1), (.int 1)]) _
    refine XS.icmpNo X12.here hx rfl (hb hby at_261) rfl (teq (by decide : (1 : Int32) = (1 : Int32))).2 ?_
    show St p e below T12 (mkF m 264 #[.val (.int p1), .val (.int 1), .val (.int 0), .val (.int 0), .val (.int 0), .val (.int 1), .val (.int 1), .val (.int 1), .val (.int 0), .val (.int 0), .val (.int 1), .val (.int 1)] []) _
    refine XS.iconst X12.here hx rfl (hb hby at_264) ?_
    show St p e below T12 (mkF m 265 #[.val (.int p1), .val (.int 1), .val (.int 0), .val (.int 0), .val (.int 0), .val (.int 1), .val (.int 1), .val (.int 1), .val (.int 0), .val (.int 0), .val (.int 1), .val (.int 1)] [(.int 1)]) _
    refine XS.goto X12.here hx rfl (pc0 := 265) (pc' := 269) rfl (hb hby at_265) (by decide) (by decide) ?_
    show St p e below T12 (mkF m 269 #[.val (.int p1), .val (.int 1), .val (.int 0), .val (.int 0), .val (.int 0), .val (.int 1), .val (.int 1), .val (.int 1), .val (.int 0), .val (.int 0), .val (.int 1), .val (.int 1)] [(.int 1)]) _
    refine XS.istore X12.here hx rfl (hb hby at_269) rfl (l' := #[.val (.int p1), .val (.int 1), .val (.int 0), .val (.int 0), .val (.int 0), .val (.int 1), .val (.int 1), .val (.int 1), .val (.int 0), .val (.int 0), .val (.int 1), .val (.int 1)]) rfl ?_
    show St p e below T12 (mkF m 271 #[.val (.int p1), .val (.int 1), .val (.int 0), .val (.int 0), .val (.int 0), .val (.int 1), .val (.int 1), .val (.int 1), .val (.int 0), .val (.int 0), .val (.int 1), .val (.int 1)] []) _
    refine XS.iload X12.here hx rfl (hb hby at_271) rfl ?_
    show St p e below T12 (mkF m 273 #[.val (.int p1), .val (.int 1), .val (.int 0), .val (.int 0), .val (.int 0), .val (.int 1), .val (.int 1), .val (.int 1), .val (.int 0), .val (.int 0), .val (.int 1), .val (.int 1)] [(.int 1)]) _
    exact retN X12 hx (t := .boolean) Bd.returns (by simp) (hb hby at_273) hr
  · exact ⟨rfl, N12⟩
set_option maxRecDepth 65536 in
set_option maxHeartbeats 40000000 in
theorem rm_law_zero (l : Launch) (Z : State) (a0 : Array Value) (hw : ∀ d ∈ tables_1, d.before a0 Z = true) (ws : List Jvm.Cond) (p1 : Int32) (w_EQ : Addr) (w_NE : Addr) (w_LT : Addr) (w_LE : Addr) (w_GT : Addr) (w_GE : Addr) (h0 : Heap) (n0 : Nat) (Z0 : n0 ≤ h0.size) (hlt : ¬ (p1 < (0 : Int32))) (heq : p1 = (0 : Int32)) (hgt : ¬ ((0 : Int32) < p1)) (S_EQ : Sta Z Z.heap "com/example/sunder/sunder/Operator" "EQ" "Lcom/example/sunder/sunder/Operator;" (.ref w_EQ)) (O0 : Old Z n0 h0) (E_w_EQ : Exa Z Z.heap w_EQ "com/example/sunder/sunder/Operator") (F_w_EQ_ordinal : Fld Z Z.heap w_EQ "java/lang/Enum" "ordinal" "I" (.int 0)) (S_NE : Sta Z Z.heap "com/example/sunder/sunder/Operator" "NE" "Lcom/example/sunder/sunder/Operator;" (.ref w_NE)) (E_w_NE : Exa Z Z.heap w_NE "com/example/sunder/sunder/Operator") (F_w_NE_ordinal : Fld Z Z.heap w_NE "java/lang/Enum" "ordinal" "I" (.int 1)) (S_LT : Sta Z Z.heap "com/example/sunder/sunder/Operator" "LT" "Lcom/example/sunder/sunder/Operator;" (.ref w_LT)) (E_w_LT : Exa Z Z.heap w_LT "com/example/sunder/sunder/Operator") (F_w_LT_ordinal : Fld Z Z.heap w_LT "java/lang/Enum" "ordinal" "I" (.int 2)) (S_LE : Sta Z Z.heap "com/example/sunder/sunder/Operator" "LE" "Lcom/example/sunder/sunder/Operator;" (.ref w_LE)) (E_w_LE : Exa Z Z.heap w_LE "com/example/sunder/sunder/Operator") (F_w_LE_ordinal : Fld Z Z.heap w_LE "java/lang/Enum" "ordinal" "I" (.int 3)) (S_GT : Sta Z Z.heap "com/example/sunder/sunder/Operator" "GT" "Lcom/example/sunder/sunder/Operator;" (.ref w_GT)) (E_w_GT : Exa Z Z.heap w_GT "com/example/sunder/sunder/Operator") (F_w_GT_ordinal : Fld Z Z.heap w_GT "java/lang/Enum" "ordinal" "I" (.int 4)) (S_GE : Sta Z Z.heap "com/example/sunder/sunder/Operator" "GE" "Lcom/example/sunder/sunder/Operator;" (.ref w_GE)) (E_w_GE : Exa Z Z.heap w_GE "com/example/sunder/sunder/Operator") (F_w_GE_ordinal : Fld Z Z.heap w_GE "java/lang/Enum" "ordinal" "I" (.int 5)) :
    MetFree l x (head1 (Jvm.Cond.code x code maxLocals ret :: ws) room_1) (fun a U => a = #[(.int p1)] ∧ Z.Warmed39 U.vm ∧ U.heap = h0) (fun _ _ _ _ _ => True) (fun _ U o U' => ∃ v L, o = .returned v ∧ Q_law n0 v L ∧ FrameEnd U o U' L room_1.cells room_1.slots) := by
  refine MetFree.of_bodySF (plainFor_of_name pn_0) hisR ?_
  intro p e s m args below meth c s₁ Bd hml0 hP hK
  obtain ⟨rfl, hZ, hh⟩ := hP
  have hx := Bd.exec
  have hby := Bd.bytes
  have hml : c.maxLocals = 12 := hml0
  have hown : s.vm.findClass "com/example/sunder/sunder/OperatorHoldsPinLaw" = some m.cls := findClass_of_methodNamed Bd.named
  have hnm := (name_of_methodNamed Bd.named Bd.method).1
  have X0 : Stand p l e room_1 s m #[(.int p1)] below meth c s₁ [] 0 0 := Stand.of_body Bd
  have e0 : s₁.heap = h0 := by rw [← hh, Bd.state]; rfl
  have N0 := Fr.nil n0
  have pre0 : ∀ t, Steps p.tables e below (s₁.setTop (mkF m 0 #[.val (.int p1), .unset, .unset, .unset, .unset, .unset, .unset, .unset, .unset, .unset, .unset, .unset] [])) t → Steps p.tables e below (s₁.setTop (entryFrame m #[(.int p1)] maxLocals)) t := fun t k => castTop (ef_0_I m p1) k
  obtain ⟨T1, X1, e1, st1⟩ := getS2 X0 hx hZ hown (host := "") (Or.inl (hwi hw 0 rfl)) Via.refl e0 (S_EQ.ext O0.2) (g := (mkF m 34 #[.val (.int p1), .val (.int 0), .val (.int 1), .val (.int 0), .unset, .unset, .unset, .unset, .unset, .unset, .unset, .unset] [])) rfl (hb hby at_34)
  obtain ⟨cq2, kq2, q2a, q2b, q2c⟩ := isOf hZ e1 (E_w_EQ.ext O0.2)
  obtain ⟨_, _, ⟨T2, L2, k2, n2⟩, -, X2, ⟨Lc2, hQ2, l2, y2, z2⟩, st2⟩ := X1.virtualBack hx (y := (⟨"com/example/sunder/sunder/Operator", "holds", "(I)Z"⟩ : MethodName)) (z := (⟨"com/example/sunder/sunder/Operator", "holds", "(I)Z"⟩ : MethodName)) hown (mvT hZ (hwi hw 3 rfl)) (mvT hZ (hwi hw 4 rfl)) (notFace_of_selects (args := #[]) (mvT hZ (hwi hw 6 rfl))) (mvT hZ (hwi hw 6 rfl)) (mvT hZ (hwi hw 5 rfl)) (by decide) (backOf (W := 0) (rm_holds_0_zero l Z a0 hw [] w_EQ p1 h0 n0 Z0 (F_w_EQ_ordinal.ext O0.2) hlt heq hgt (E_w_EQ.ext O0.2)) hZ (hwi hw 7 rfl) (hwi hw 1 rfl) (by decide) (by decide)) q2a q2c (g := (mkF m 38 #[.val (.int p1), .val (.int 0), .val (.int 1), .val (.int 0), .unset, .unset, .unset, .unset, .unset, .unset, .unset, .unset] [(.int p1), (.ref w_EQ)])) rfl (by rw [hml]; rfl) (Steps.refl _) (argsL := [(.int p1)]) (rest := []) (lenOf pd_I_Z_244 rfl) rfl (by show 2 * 0 + _ ≤ _; exact Nat.le_of_eq rfl) (hb hby at_38) (fun _ _ => ⟨rfl, e1, (by decide : 0 + 0 ≤ _), (by decide : 0 + 0 ≤ _)⟩)
  dsimp only [Pt.U, Pt.locs, Pt.cells, Pt.slots] at X2 l2 y2 z2 st2 hQ2
  subst l2 y2 z2
  obtain ⟨rfl, N2q, e2⟩ := hQ2
  have N2 := Fr.app N0 N2q
  obtain ⟨T3, X3, e3, st3⟩ := getS2 X2 hx hZ hown (host := "") (Or.inl (hwi hw 17 rfl)) Via.refl e2 (S_NE.ext O0.2) (g := (mkF m 43 #[.val (.int p1), .val (.int 0), .val (.int 1), .val (.int 0), .val (.int 1), .unset, .unset, .unset, .unset, .unset, .unset, .unset] [])) rfl (hb hby at_43)
  obtain ⟨cq4, kq4, q4a, q4b, q4c⟩ := isOf hZ e3 (E_w_NE.ext O0.2)
  obtain ⟨_, _, ⟨T4, L4, k4, n4⟩, -, X4, ⟨Lc4, hQ4, l4, y4, z4⟩, st4⟩ := X3.virtualBack hx (y := (⟨"com/example/sunder/sunder/Operator", "holds", "(I)Z"⟩ : MethodName)) (z := (⟨"com/example/sunder/sunder/Operator", "holds", "(I)Z"⟩ : MethodName)) hown (mvT hZ (hwi hw 3 rfl)) (mvT hZ (hwi hw 4 rfl)) (notFace_of_selects (args := #[]) (mvT hZ (hwi hw 6 rfl))) (mvT hZ (hwi hw 6 rfl)) (mvT hZ (hwi hw 5 rfl)) (by decide) (backOf (W := 0) (rm_holds_1_zero l Z a0 hw [] w_NE p1 h0 n0 Z0 (F_w_NE_ordinal.ext O0.2) hlt heq hgt (E_w_NE.ext O0.2)) hZ (hwi hw 7 rfl) (hwi hw 1 rfl) (by decide) (by decide)) q4a q4c (g := (mkF m 47 #[.val (.int p1), .val (.int 0), .val (.int 1), .val (.int 0), .val (.int 1), .unset, .unset, .unset, .unset, .unset, .unset, .unset] [(.int p1), (.ref w_NE)])) rfl (by rw [hml]; rfl) (Steps.refl _) (argsL := [(.int p1)]) (rest := []) (lenOf pd_I_Z_244 rfl) rfl (by show 2 * 0 + _ ≤ _; exact Nat.le_of_eq rfl) (hb hby at_47) (fun _ _ => ⟨rfl, e3, (by decide : 0 + 0 ≤ _), (by decide : 0 + 0 ≤ _)⟩)
  dsimp only [Pt.U, Pt.locs, Pt.cells, Pt.slots] at X4 l4 y4 z4 st4 hQ4
  subst l4 y4 z4
  obtain ⟨rfl, N4q, e4⟩ := hQ4
  have N4 := Fr.app N2 N4q
  obtain ⟨T5, X5, e5, st5⟩ := getS2 X4 hx hZ hown (host := "") (Or.inl (hwi hw 19 rfl)) Via.refl e4 (S_LT.ext O0.2) (g := (mkF m 52 #[.val (.int p1), .val (.int 0), .val (.int 1), .val (.int 0), .val (.int 1), .val (.int 0), .unset, .unset, .unset, .unset, .unset, .unset] [])) rfl (hb hby at_52)
  obtain ⟨cq6, kq6, q6a, q6b, q6c⟩ := isOf hZ e5 (E_w_LT.ext O0.2)
  obtain ⟨_, _, ⟨T6, L6, k6, n6⟩, -, X6, ⟨Lc6, hQ6, l6, y6, z6⟩, st6⟩ := X5.virtualBack hx (y := (⟨"com/example/sunder/sunder/Operator", "holds", "(I)Z"⟩ : MethodName)) (z := (⟨"com/example/sunder/sunder/Operator", "holds", "(I)Z"⟩ : MethodName)) hown (mvT hZ (hwi hw 3 rfl)) (mvT hZ (hwi hw 4 rfl)) (notFace_of_selects (args := #[]) (mvT hZ (hwi hw 6 rfl))) (mvT hZ (hwi hw 6 rfl)) (mvT hZ (hwi hw 5 rfl)) (by decide) (backOf (W := 0) (rm_holds_2_zero l Z a0 hw [] w_LT p1 h0 n0 Z0 (F_w_LT_ordinal.ext O0.2) hlt heq hgt (E_w_LT.ext O0.2)) hZ (hwi hw 7 rfl) (hwi hw 1 rfl) (by decide) (by decide)) q6a q6c (g := (mkF m 56 #[.val (.int p1), .val (.int 0), .val (.int 1), .val (.int 0), .val (.int 1), .val (.int 0), .unset, .unset, .unset, .unset, .unset, .unset] [(.int p1), (.ref w_LT)])) rfl (by rw [hml]; rfl) (Steps.refl _) (argsL := [(.int p1)]) (rest := []) (lenOf pd_I_Z_244 rfl) rfl (by show 2 * 0 + _ ≤ _; exact Nat.le_of_eq rfl) (hb hby at_56) (fun _ _ => ⟨rfl, e5, (by decide : 0 + 0 ≤ _), (by decide : 0 + 0 ≤ _)⟩)
  dsimp only [Pt.U, Pt.locs, Pt.cells, Pt.slots] at X6 l6 y6 z6 st6 hQ6
  subst l6 y6 z6
  obtain ⟨rfl, N6q, e6⟩ := hQ6
  have N6 := Fr.app N4 N6q
  obtain ⟨T7, X7, e7, st7⟩ := getS2 X6 hx hZ hown (host := "") (Or.inl (hwi hw 21 rfl)) Via.refl e6 (S_LE.ext O0.2) (g := (mkF m 61 #[.val (.int p1), .val (.int 0), .val (.int 1), .val (.int 0), .val (.int 1), .val (.int 0), .val (.int 0), .unset, .unset, .unset, .unset, .unset] [])) rfl (hb hby at_61)
  obtain ⟨cq8, kq8, q8a, q8b, q8c⟩ := isOf hZ e7 (E_w_LE.ext O0.2)
  obtain ⟨_, _, ⟨T8, L8, k8, n8⟩, -, X8, ⟨Lc8, hQ8, l8, y8, z8⟩, st8⟩ := X7.virtualBack hx (y := (⟨"com/example/sunder/sunder/Operator", "holds", "(I)Z"⟩ : MethodName)) (z := (⟨"com/example/sunder/sunder/Operator", "holds", "(I)Z"⟩ : MethodName)) hown (mvT hZ (hwi hw 3 rfl)) (mvT hZ (hwi hw 4 rfl)) (notFace_of_selects (args := #[]) (mvT hZ (hwi hw 6 rfl))) (mvT hZ (hwi hw 6 rfl)) (mvT hZ (hwi hw 5 rfl)) (by decide) (backOf (W := 0) (rm_holds_3_zero l Z a0 hw [] w_LE p1 h0 n0 Z0 (F_w_LE_ordinal.ext O0.2) hlt heq hgt (E_w_LE.ext O0.2)) hZ (hwi hw 7 rfl) (hwi hw 1 rfl) (by decide) (by decide)) q8a q8c (g := (mkF m 65 #[.val (.int p1), .val (.int 0), .val (.int 1), .val (.int 0), .val (.int 1), .val (.int 0), .val (.int 0), .unset, .unset, .unset, .unset, .unset] [(.int p1), (.ref w_LE)])) rfl (by rw [hml]; rfl) (Steps.refl _) (argsL := [(.int p1)]) (rest := []) (lenOf pd_I_Z_244 rfl) rfl (by show 2 * 0 + _ ≤ _; exact Nat.le_of_eq rfl) (hb hby at_65) (fun _ _ => ⟨rfl, e7, (by decide : 0 + 0 ≤ _), (by decide : 0 + 0 ≤ _)⟩)
  dsimp only [Pt.U, Pt.locs, Pt.cells, Pt.slots] at X8 l8 y8 z8 st8 hQ8
  subst l8 y8 z8
  obtain ⟨rfl, N8q, e8⟩ := hQ8
  have N8 := Fr.app N6 N8q
  obtain ⟨T9, X9, e9, st9⟩ := getS2 X8 hx hZ hown (host := "") (Or.inl (hwi hw 23 rfl)) Via.refl e8 (S_GT.ext O0.2) (g := (mkF m 70 #[.val (.int p1), .val (.int 0), .val (.int 1), .val (.int 0), .val (.int 1), .val (.int 0), .val (.int 0), .val (.int 1), .unset, .unset, .unset, .unset] [])) rfl (hb hby at_70)
  obtain ⟨cq10, kq10, q10a, q10b, q10c⟩ := isOf hZ e9 (E_w_GT.ext O0.2)
  obtain ⟨_, _, ⟨T10, L10, k10, n10⟩, -, X10, ⟨Lc10, hQ10, l10, y10, z10⟩, st10⟩ := X9.virtualBack hx (y := (⟨"com/example/sunder/sunder/Operator", "holds", "(I)Z"⟩ : MethodName)) (z := (⟨"com/example/sunder/sunder/Operator", "holds", "(I)Z"⟩ : MethodName)) hown (mvT hZ (hwi hw 3 rfl)) (mvT hZ (hwi hw 4 rfl)) (notFace_of_selects (args := #[]) (mvT hZ (hwi hw 6 rfl))) (mvT hZ (hwi hw 6 rfl)) (mvT hZ (hwi hw 5 rfl)) (by decide) (backOf (W := 0) (rm_holds_4_zero l Z a0 hw [] w_GT p1 h0 n0 Z0 (F_w_GT_ordinal.ext O0.2) hlt heq hgt (E_w_GT.ext O0.2)) hZ (hwi hw 7 rfl) (hwi hw 1 rfl) (by decide) (by decide)) q10a q10c (g := (mkF m 74 #[.val (.int p1), .val (.int 0), .val (.int 1), .val (.int 0), .val (.int 1), .val (.int 0), .val (.int 0), .val (.int 1), .unset, .unset, .unset, .unset] [(.int p1), (.ref w_GT)])) rfl (by rw [hml]; rfl) (Steps.refl _) (argsL := [(.int p1)]) (rest := []) (lenOf pd_I_Z_244 rfl) rfl (by show 2 * 0 + _ ≤ _; exact Nat.le_of_eq rfl) (hb hby at_74) (fun _ _ => ⟨rfl, e9, (by decide : 0 + 0 ≤ _), (by decide : 0 + 0 ≤ _)⟩)
  dsimp only [Pt.U, Pt.locs, Pt.cells, Pt.slots] at X10 l10 y10 z10 st10 hQ10
  subst l10 y10 z10
  obtain ⟨rfl, N10q, e10⟩ := hQ10
  have N10 := Fr.app N8 N10q
  obtain ⟨T11, X11, e11, st11⟩ := getS2 X10 hx hZ hown (host := "") (Or.inl (hwi hw 25 rfl)) Via.refl e10 (S_GE.ext O0.2) (g := (mkF m 79 #[.val (.int p1), .val (.int 0), .val (.int 1), .val (.int 0), .val (.int 1), .val (.int 0), .val (.int 0), .val (.int 1), .val (.int 0), .unset, .unset, .unset] [])) rfl (hb hby at_79)
  obtain ⟨cq12, kq12, q12a, q12b, q12c⟩ := isOf hZ e11 (E_w_GE.ext O0.2)
  obtain ⟨_, _, ⟨T12, L12, k12, n12⟩, -, X12, ⟨Lc12, hQ12, l12, y12, z12⟩, st12⟩ := X11.virtualBack hx (y := (⟨"com/example/sunder/sunder/Operator", "holds", "(I)Z"⟩ : MethodName)) (z := (⟨"com/example/sunder/sunder/Operator", "holds", "(I)Z"⟩ : MethodName)) hown (mvT hZ (hwi hw 3 rfl)) (mvT hZ (hwi hw 4 rfl)) (notFace_of_selects (args := #[]) (mvT hZ (hwi hw 6 rfl))) (mvT hZ (hwi hw 6 rfl)) (mvT hZ (hwi hw 5 rfl)) (by decide) (backOf (W := 0) (rm_holds_5_zero l Z a0 hw [] w_GE p1 h0 n0 Z0 (F_w_GE_ordinal.ext O0.2) hlt heq hgt (E_w_GE.ext O0.2)) hZ (hwi hw 7 rfl) (hwi hw 1 rfl) (by decide) (by decide)) q12a q12c (g := (mkF m 83 #[.val (.int p1), .val (.int 0), .val (.int 1), .val (.int 0), .val (.int 1), .val (.int 0), .val (.int 0), .val (.int 1), .val (.int 0), .unset, .unset, .unset] [(.int p1), (.ref w_GE)])) rfl (by rw [hml]; rfl) (Steps.refl _) (argsL := [(.int p1)]) (rest := []) (lenOf pd_I_Z_244 rfl) rfl (by show 2 * 0 + _ ≤ _; exact Nat.le_of_eq rfl) (hb hby at_83) (fun _ _ => ⟨rfl, e11, (by decide : 0 + 0 ≤ _), (by decide : 0 + 0 ≤ _)⟩)
  dsimp only [Pt.U, Pt.locs, Pt.cells, Pt.slots] at X12 l12 y12 z12 st12 hQ12
  subst l12 y12 z12
  obtain ⟨rfl, N12q, e12⟩ := hQ12
  have N12 := Fr.app N10 N12q
  obtain ⟨fs, hr, hrun, hended, hW, hsame⟩ := X12.leave (v := some (.int 1)) (fun h => by rw [Bd.returns] at h; cases h)
  refine ⟨_, _, pre0 _ ?_, hrun, hended, _, _, rfl, ?_, ⟨_, rfl⟩, hW, hsame.mono (by decide) (by decide)⟩
  · show St p e below s₁ (mkF m 0 #[.val (.int p1), .unset, .unset, .unset, .unset, .unset, .unset, .unset, .unset, .unset, .unset, .unset] []) _
    refine XS.iloadN X0.here hx rfl (hb hby at_0) rfl ?_
    show St p e below s₁ (mkF m 1 #[.val (.int p1), .unset, .unset, .unset, .unset, .unset, .unset, .unset, .unset, .unset, .unset, .unset] [(.int p1)]) _
    refine XS.ifYes X0.here hx rfl (pc0 := 1) (pc' := 8) rfl (hb hby at_1) rfl ((if0 _ _).trans (flt hlt).2.1) (by decide) (by decide) ?_
    show St p e below s₁ (mkF m 8 #[.val (.int p1), .unset, .unset, .unset, .unset, .unset, .unset, .unset, .unset, .unset, .unset, .unset] []) _
    refine XS.iconst X0.here hx rfl (hb hby at_8) ?_
    show St p e below s₁ (mkF m 9 #[.val (.int p1), .unset, .unset, .unset, .unset, .unset, .unset, .unset, .unset, .unset, .unset, .unset] [(.int 0)]) _
    refine XS.istoreN X0.here hx rfl (hb hby at_9) rfl (l' := #[.val (.int p1), .val (.int 0), .unset, .unset, .unset, .unset, .unset, .unset, .unset, .unset, .unset, .unset]) rfl ?_
    show St p e below s₁ (mkF m 10 #[.val (.int p1), .val (.int 0), .unset, .unset, .unset, .unset, .unset, .unset, .unset, .unset, .unset, .unset] []) _
    refine XS.iloadN X0.here hx rfl (hb hby at_10) rfl ?_
    show St p e below s₁ (mkF m 11 #[.val (.int p1), .val (.int 0), .unset, .unset, .unset, .unset, .unset, .unset, .unset, .unset, .unset, .unset] [(.int p1)]) _
    refine XS.ifNo X0.here hx rfl (hb hby at_11) rfl ((if0 _ _).trans (teq heq).2) ?_
    show St p e below s₁ (mkF m 14 #[.val (.int p1), .val (.int 0), .unset, .unset, .unset, .unset, .unset, .unset, .unset, .unset, .unset, .unset] []) _
    refine XS.iconst X0.here hx rfl (hb hby at_14) ?_
    show St p e below s₁ (mkF m 15 #[.val (.int p1), .val (.int 0), .unset, .unset, .unset, .unset, .unset, .unset, .unset, .unset, .unset, .unset] [(.int 1)]) _
    refine XS.goto X0.here hx rfl (pc0 := 15) (pc' := 19) rfl (hb hby at_15) (by decide) (by decide) ?_
    show St p e below s₁ (mkF m 19 #[.val (.int p1), .val (.int 0), .unset, .unset, .unset, .unset, .unset, .unset, .unset, .unset, .unset, .unset] [(.int 1)]) _
    refine XS.istoreN X0.here hx rfl (hb hby at_19) rfl (l' := #[.val (.int p1), .val (.int 0), .val (.int 1), .unset, .unset, .unset, .unset, .unset, .unset, .unset, .unset, .unset]) rfl ?_
    show St p e below s₁ (mkF m 20 #[.val (.int p1), .val (.int 0), .val (.int 1), .unset, .unset, .unset, .unset, .unset, .unset, .unset, .unset, .unset] []) _
    refine XS.iloadN X0.here hx rfl (hb hby at_20) rfl ?_
    show St p e below s₁ (mkF m 21 #[.val (.int p1), .val (.int 0), .val (.int 1), .unset, .unset, .unset, .unset, .unset, .unset, .unset, .unset, .unset] [(.int 0)]) _
    refine XS.ifNo X0.here hx rfl (hb hby at_21) rfl ((if0 _ _).trans (teq (by decide : (0 : Int32) = (0 : Int32))).2) ?_
    show St p e below s₁ (mkF m 24 #[.val (.int p1), .val (.int 0), .val (.int 1), .unset, .unset, .unset, .unset, .unset, .unset, .unset, .unset, .unset] []) _
    refine XS.iloadN X0.here hx rfl (hb hby at_24) rfl ?_
    show St p e below s₁ (mkF m 25 #[.val (.int p1), .val (.int 0), .val (.int 1), .unset, .unset, .unset, .unset, .unset, .unset, .unset, .unset, .unset] [(.int 1)]) _
    refine XS.ifYes X0.here hx rfl (pc0 := 25) (pc' := 32) rfl (hb hby at_25) rfl ((if0 _ _).trans (feq (by decide : ¬ ((1 : Int32) = (0 : Int32)))).2) (by decide) (by decide) ?_
    show St p e below s₁ (mkF m 32 #[.val (.int p1), .val (.int 0), .val (.int 1), .unset, .unset, .unset, .unset, .unset, .unset, .unset, .unset, .unset] []) _
    refine XS.iconst X0.here hx rfl (hb hby at_32) ?_
    show St p e below s₁ (mkF m 33 #[.val (.int p1), .val (.int 0), .val (.int 1), .unset, .unset, .unset, .unset, .unset, .unset, .unset, .unset, .unset] [(.int 0)]) _
    refine XS.istoreN X0.here hx rfl (hb hby at_33) rfl (l' := #[.val (.int p1), .val (.int 0), .val (.int 1), .val (.int 0), .unset, .unset, .unset, .unset, .unset, .unset, .unset, .unset]) rfl ?_
    show St p e below s₁ (mkF m 34 #[.val (.int p1), .val (.int 0), .val (.int 1), .val (.int 0), .unset, .unset, .unset, .unset, .unset, .unset, .unset, .unset] []) _
    refine st1 _ ?_
    show St p e below T1 (mkF m 37 #[.val (.int p1), .val (.int 0), .val (.int 1), .val (.int 0), .unset, .unset, .unset, .unset, .unset, .unset, .unset, .unset] [(.ref w_EQ)]) _
    refine XS.iloadN X1.here hx rfl (hb hby at_37) rfl ?_
    show St p e below T1 (mkF m 38 #[.val (.int p1), .val (.int 0), .val (.int 1), .val (.int 0), .unset, .unset, .unset, .unset, .unset, .unset, .unset, .unset] [(.int p1), (.ref w_EQ)]) _
    refine st2.trans ?_
    show St p e below T2 (mkF m 41 #[.val (.int p1), .val (.int 0), .val (.int 1), .val (.int 0), .unset, .unset, .unset, .unset, .unset, .unset, .unset, .unset] [(.int 1)]) _
    refine XS.istore X2.here hx rfl (hb hby at_41) rfl (l' := #[.val (.int p1), .val (.int 0), .val (.int 1), .val (.int 0), .val (.int 1), .unset, .unset, .unset, .unset, .unset, .unset, .unset]) rfl ?_
    show St p e below T2 (mkF m 43 #[.val (.int p1), .val (.int 0), .val (.int 1), .val (.int 0), .val (.int 1), .unset, .unset, .unset, .unset, .unset, .unset, .unset] []) _
    refine st3 _ ?_
    show St p e below T3 (mkF m 46 #[.val (.int p1), .val (.int 0), .val (.int 1), .val (.int 0), .val (.int 1), .unset, .unset, .unset, .unset, .unset, .unset, .unset] [(.ref w_NE)]) _
    refine XS.iloadN X3.here hx rfl (hb hby at_46) rfl ?_
    show St p e below T3 (mkF m 47 #[.val (.int p1), .val (.int 0), .val (.int 1), .val (.int 0), .val (.int 1), .unset, .unset, .unset, .unset, .unset, .unset, .unset] [(.int p1), (.ref w_NE)]) _
    refine st4.trans ?_
    show St p e below T4 (mkF m 50 #[.val (.int p1), .val (.int 0), .val (.int 1), .val (.int 0), .val (.int 1), .unset, .unset, .unset, .unset, .unset, .unset, .unset] [(.int 0)]) _
    refine XS.istore X4.here hx rfl (hb hby at_50) rfl (l' := #[.val (.int p1), .val (.int 0), .val (.int 1), .val (.int 0), .val (.int 1), .val (.int 0), .unset, .unset, .unset, .unset, .unset, .unset]) rfl ?_
    show St p e below T4 (mkF m 52 #[.val (.int p1), .val (.int 0), .val (.int 1), .val (.int 0), .val (.int 1), .val (.int 0), .unset, .unset, .unset, .unset, .unset, .unset] []) _
    refine st5 _ ?_
    show St p e below T5 (mkF m 55 #[.val (.int p1), .val (.int 0), .val (.int 1), .val (.int 0), .val (.int 1), .val (.int 0), .unset, .unset, .unset, .unset, .unset, .unset] [(.ref w_LT)]) _
    refine XS.iloadN X5.here hx rfl (hb hby at_55) rfl ?_
    show St p e below T5 (mkF m 56 #[.val (.int p1), .val (.int 0), .val (.int 1), .val (.int 0), .val (.int 1), .val (.int 0), .unset, .unset, .unset, .unset, .unset, .unset] [(.int p1), (.ref w_LT)]) _
    refine st6.trans ?_
    show St p e below T6 (mkF m 59 #[.val (.int p1), .val (.int 0), .val (.int 1), .val (.int 0), .val (.int 1), .val (.int 0), .unset, .unset, .unset, .unset, .unset, .unset] [(.int 0)]) _
    refine XS.istore X6.here hx rfl (hb hby at_59) rfl (l' := #[.val (.int p1), .val (.int 0), .val (.int 1), .val (.int 0), .val (.int 1), .val (.int 0), .val (.int 0), .unset, .unset, .unset, .unset, .unset]) rfl ?_
    show St p e below T6 (mkF m 61 #[.val (.int p1), .val (.int 0), .val (.int 1), .val (.int 0), .val (.int 1), .val (.int 0), .val (.int 0), .unset, .unset, .unset, .unset, .unset] []) _
    refine st7 _ ?_
    show St p e below T7 (mkF m 64 #[.val (.int p1), .val (.int 0), .val (.int 1), .val (.int 0), .val (.int 1), .val (.int 0), .val (.int 0), .unset, .unset, .unset, .unset, .unset] [(.ref w_LE)]) _
    refine XS.iloadN X7.here hx rfl (hb hby at_64) rfl ?_
    show St p e below T7 (mkF m 65 #[.val (.int p1), .val (.int 0), .val (.int 1), .val (.int 0), .val (.int 1), .val (.int 0), .val (.int 0), .unset, .unset, .unset, .unset, .unset] [(.int p1), (.ref w_LE)]) _
    refine st8.trans ?_
    show St p e below T8 (mkF m 68 #[.val (.int p1), .val (.int 0), .val (.int 1), .val (.int 0), .val (.int 1), .val (.int 0), .val (.int 0), .unset, .unset, .unset, .unset, .unset] [(.int 1)]) _
    refine XS.istore X8.here hx rfl (hb hby at_68) rfl (l' := #[.val (.int p1), .val (.int 0), .val (.int 1), .val (.int 0), .val (.int 1), .val (.int 0), .val (.int 0), .val (.int 1), .unset, .unset, .unset, .unset]) rfl ?_
    show St p e below T8 (mkF m 70 #[.val (.int p1), .val (.int 0), .val (.int 1), .val (.int 0), .val (.int 1), .val (.int 0), .val (.int 0), .val (.int 1), .unset, .unset, .unset, .unset] []) _
    refine st9 _ ?_
    show St p e below T9 (mkF m 73 #[.val (.int p1), .val (.int 0), .val (.int 1), .val (.int 0), .val (.int 1), .val (.int 0), .val (.int 0), .val (.int 1), .unset, .unset, .unset, .unset] [(.ref w_GT)]) _
    refine XS.iloadN X9.here hx rfl (hb hby at_73) rfl ?_
    show St p e below T9 (mkF m 74 #[.val (.int p1), .val (.int 0), .val (.int 1), .val (.int 0), .val (.int 1), .val (.int 0), .val (.int 0), .val (.int 1), .unset, .unset, .unset, .unset] [(.int p1), (.ref w_GT)]) _
    refine st10.trans ?_
    show St p e below T10 (mkF m 77 #[.val (.int p1), .val (.int 0), .val (.int 1), .val (.int 0), .val (.int 1), .val (.int 0), .val (.int 0), .val (.int 1), .unset, .unset, .unset, .unset] [(.int 0)]) _
    refine XS.istore X10.here hx rfl (hb hby at_77) rfl (l' := #[.val (.int p1), .val (.int 0), .val (.int 1), .val (.int 0), .val (.int 1), .val (.int 0), .val (.int 0), .val (.int 1), .val (.int 0), .unset, .unset, .unset]) rfl ?_
    show St p e below T10 (mkF m 79 #[.val (.int p1), .val (.int 0), .val (.int 1), .val (.int 0), .val (.int 1), .val (.int 0), .val (.int 0), .val (.int 1), .val (.int 0), .unset, .unset, .unset] []) _
    refine st11 _ ?_
    show St p e below T11 (mkF m 82 #[.val (.int p1), .val (.int 0), .val (.int 1), .val (.int 0), .val (.int 1), .val (.int 0), .val (.int 0), .val (.int 1), .val (.int 0), .unset, .unset, .unset] [(.ref w_GE)]) _
    refine XS.iloadN X11.here hx rfl (hb hby at_82) rfl ?_
    show St p e below T11 (mkF m 83 #[.val (.int p1), .val (.int 0), .val (.int 1), .val (.int 0), .val (.int 1), .val (.int 0), .val (.int 0), .val (.int 1), .val (.int 0), .unset, .unset, .unset] [(.int p1), (.ref w_GE)]) _
    refine st12.trans ?_
    show St p e below T12 (mkF m 86 #[.val (.int p1), .val (.int 0), .val (.int 1), .val (.int 0), .val (.int 1), .val (.int 0), .val (.int 0), .val (.int 1), .val (.int 0), .unset, .unset, .unset] [(.int 1)]) _
    refine XS.istore X12.here hx rfl (hb hby at_86) rfl (l' := #[.val (.int p1), .val (.int 0), .val (.int 1), .val (.int 0), .val (.int 1), .val (.int 0), .val (.int 0), .val (.int 1), .val (.int 0), .val (.int 1), .unset, .unset]) rfl ?_
    show St p e below T12 (mkF m 88 #[.val (.int p1), .val (.int 0), .val (.int 1), .val (.int 0), .val (.int 1), .val (.int 0), .val (.int 0), .val (.int 1), .val (.int 0), .val (.int 1), .unset, .unset] []) _
    refine XS.iload X12.here hx rfl (hb hby at_88) rfl ?_
    show St p e below T12 (mkF m 90 #[.val (.int p1), .val (.int 0), .val (.int 1), .val (.int 0), .val (.int 1), .val (.int 0), .val (.int 0), .val (.int 1), .val (.int 0), .val (.int 1), .unset, .unset] [(.int 1)]) _
    refine XS.iloadN X12.here hx rfl (hb hby at_90) rfl ?_
    show St p e below T12 (mkF m 91 #[.val (.int p1), .val (.int 0), .val (.int 1), .val (.int 0), .val (.int 1), .val (.int 0), .val (.int 0), .val (.int 1), .val (.int 0), .val (.int 1), .unset, .unset] [(.int 1), (.int 1)]) _
    refine XS.icmpNo X12.here hx rfl (hb hby at_91) rfl (teq (by decide : (1 : Int32) = (1 : Int32))).2 ?_
    show St p e below T12 (mkF m 94 #[.val (.int p1), .val (.int 0), .val (.int 1), .val (.int 0), .val (.int 1), .val (.int 0), .val (.int 0), .val (.int 1), .val (.int 0), .val (.int 1), .unset, .unset] []) _
    refine XS.iconst X12.here hx rfl (hb hby at_94) ?_
    show St p e below T12 (mkF m 95 #[.val (.int p1), .val (.int 0), .val (.int 1), .val (.int 0), .val (.int 1), .val (.int 0), .val (.int 0), .val (.int 1), .val (.int 0), .val (.int 1), .unset, .unset] [(.int 1)]) _
    refine XS.goto X12.here hx rfl (pc0 := 95) (pc' := 99) rfl (hb hby at_95) (by decide) (by decide) ?_
    show St p e below T12 (mkF m 99 #[.val (.int p1), .val (.int 0), .val (.int 1), .val (.int 0), .val (.int 1), .val (.int 0), .val (.int 0), .val (.int 1), .val (.int 0), .val (.int 1), .unset, .unset] [(.int 1)]) _
    refine XS.istore X12.here hx rfl (hb hby at_99) rfl (l' := #[.val (.int p1), .val (.int 0), .val (.int 1), .val (.int 0), .val (.int 1), .val (.int 0), .val (.int 0), .val (.int 1), .val (.int 0), .val (.int 1), .val (.int 1), .unset]) rfl ?_
    show St p e below T12 (mkF m 101 #[.val (.int p1), .val (.int 0), .val (.int 1), .val (.int 0), .val (.int 1), .val (.int 0), .val (.int 0), .val (.int 1), .val (.int 0), .val (.int 1), .val (.int 1), .unset] []) _
    refine XS.iload X12.here hx rfl (hb hby at_101) rfl ?_
    show St p e below T12 (mkF m 103 #[.val (.int p1), .val (.int 0), .val (.int 1), .val (.int 0), .val (.int 1), .val (.int 0), .val (.int 0), .val (.int 1), .val (.int 0), .val (.int 1), .val (.int 1), .unset] [(.int 1)]) _
    refine XS.ifNo X12.here hx rfl (hb hby at_103) rfl ((if0 _ _).trans (feq (by decide : ¬ ((1 : Int32) = (0 : Int32)))).1) ?_
    show St p e below T12 (mkF m 106 #[.val (.int p1), .val (.int 0), .val (.int 1), .val (.int 0), .val (.int 1), .val (.int 0), .val (.int 0), .val (.int 1), .val (.int 0), .val (.int 1), .val (.int 1), .unset] []) _
    refine XS.iload X12.here hx rfl (hb hby at_106) rfl ?_
    show St p e below T12 (mkF m 108 #[.val (.int p1), .val (.int 0), .val (.int 1), .val (.int 0), .val (.int 1), .val (.int 0), .val (.int 0), .val (.int 1), .val (.int 0), .val (.int 1), .val (.int 1), .unset] [(.int 0)]) _
    refine XS.iloadN X12.here hx rfl (hb hby at_108) rfl ?_
    show St p e below T12 (mkF m 109 #[.val (.int p1), .val (.int 0), .val (.int 1), .val (.int 0), .val (.int 1), .val (.int 0), .val (.int 0), .val (.int 1), .val (.int 0), .val (.int 1), .val (.int 1), .unset] [(.int 1), (.int 0)]) _
    refine XS.ifYes X12.here hx rfl (pc0 := 109) (pc' := 116) rfl (hb hby at_109) rfl ((if0 _ _).trans (feq (by decide : ¬ ((1 : Int32) = (0 : Int32)))).2) (by decide) (by decide) ?_
    show St p e below T12 (mkF m 116 #[.val (.int p1), .val (.int 0), .val (.int 1), .val (.int 0), .val (.int 1), .val (.int 0), .val (.int 0), .val (.int 1), .val (.int 0), .val (.int 1), .val (.int 1), .unset] [(.int 0)]) _
    refine XS.iconst X12.here hx rfl (hb hby at_116) ?_
    show St p e below T12 (mkF m 117 #[.val (.int p1), .val (.int 0), .val (.int 1), .val (.int 0), .val (.int 1), .val (.int 0), .val (.int 0), .val (.int 1), .val (.int 0), .val (.int 1), .val (.int 1), .unset] [(.int 0), (.int 0)]) _
    refine XS.icmpNo X12.here hx rfl (hb hby at_117) rfl (teq (by decide : (0 : Int32) = (0 : Int32))).2 ?_
    show St p e below T12 (mkF m 120 #[.val (.int p1), .val (.int 0), .val (.int 1), .val (.int 0), .val (.int 1), .val (.int 0), .val (.int 0), .val (.int 1), .val (.int 0), .val (.int 1), .val (.int 1), .unset] []) _
    refine XS.iconst X12.here hx rfl (hb hby at_120) ?_
    show St p e below T12 (mkF m 121 #[.val (.int p1), .val (.int 0), .val (.int 1), .val (.int 0), .val (.int 1), .val (.int 0), .val (.int 0), .val (.int 1), .val (.int 0), .val (.int 1), .val (.int 1), .unset] [(.int 1)]) _
    refine XS.goto X12.here hx rfl (pc0 := 121) (pc' := 125) rfl (hb hby at_121) (by decide) (by decide) ?_
    show St p e below T12 (mkF m 125 #[.val (.int p1), .val (.int 0), .val (.int 1), .val (.int 0), .val (.int 1), .val (.int 0), .val (.int 0), .val (.int 1), .val (.int 0), .val (.int 1), .val (.int 1), .unset] [(.int 1)]) _
    refine XS.istore X12.here hx rfl (hb hby at_125) rfl (l' := #[.val (.int p1), .val (.int 0), .val (.int 1), .val (.int 0), .val (.int 1), .val (.int 0), .val (.int 0), .val (.int 1), .val (.int 0), .val (.int 1), .val (.int 1), .unset]) rfl ?_
    show St p e below T12 (mkF m 127 #[.val (.int p1), .val (.int 0), .val (.int 1), .val (.int 0), .val (.int 1), .val (.int 0), .val (.int 0), .val (.int 1), .val (.int 0), .val (.int 1), .val (.int 1), .unset] []) _
    refine XS.iload X12.here hx rfl (hb hby at_127) rfl ?_
    show St p e below T12 (mkF m 129 #[.val (.int p1), .val (.int 0), .val (.int 1), .val (.int 0), .val (.int 1), .val (.int 0), .val (.int 0), .val (.int 1), .val (.int 0), .val (.int 1), .val (.int 1), .unset] [(.int 1)]) _
    refine XS.ifNo X12.here hx rfl (hb hby at_129) rfl ((if0 _ _).trans (feq (by decide : ¬ ((1 : Int32) = (0 : Int32)))).1) ?_
    show St p e below T12 (mkF m 132 #[.val (.int p1), .val (.int 0), .val (.int 1), .val (.int 0), .val (.int 1), .val (.int 0), .val (.int 0), .val (.int 1), .val (.int 0), .val (.int 1), .val (.int 1), .unset] []) _
    refine XS.iload X12.here hx rfl (hb hby at_132) rfl ?_
    show St p e below T12 (mkF m 134 #[.val (.int p1), .val (.int 0), .val (.int 1), .val (.int 0), .val (.int 1), .val (.int 0), .val (.int 0), .val (.int 1), .val (.int 0), .val (.int 1), .val (.int 1), .unset] [(.int 0)]) _
    refine XS.iloadN X12.here hx rfl (hb hby at_134) rfl ?_
    show St p e below T12 (mkF m 135 #[.val (.int p1), .val (.int 0), .val (.int 1), .val (.int 0), .val (.int 1), .val (.int 0), .val (.int 0), .val (.int 1), .val (.int 0), .val (.int 1), .val (.int 1), .unset] [(.int 0), (.int 0)]) _
    refine XS.icmpNo X12.here hx rfl (hb hby at_135) rfl (teq (by decide : (0 : Int32) = (0 : Int32))).2 ?_
    show St p e below T12 (mkF m 138 #[.val (.int p1), .val (.int 0), .val (.int 1), .val (.int 0), .val (.int 1), .val (.int 0), .val (.int 0), .val (.int 1), .val (.int 0), .val (.int 1), .val (.int 1), .unset] []) _
    refine XS.iconst X12.here hx rfl (hb hby at_138) ?_
    show St p e below T12 (mkF m 139 #[.val (.int p1), .val (.int 0), .val (.int 1), .val (.int 0), .val (.int 1), .val (.int 0), .val (.int 0), .val (.int 1), .val (.int 0), .val (.int 1), .val (.int 1), .unset] [(.int 1)]) _
    refine XS.goto X12.here hx rfl (pc0 := 139) (pc' := 143) rfl (hb hby at_139) (by decide) (by decide) ?_
    show St p e below T12 (mkF m 143 #[.val (.int p1), .val (.int 0), .val (.int 1), .val (.int 0), .val (.int 1), .val (.int 0), .val (.int 0), .val (.int 1), .val (.int 0), .val (.int 1), .val (.int 1), .unset] [(.int 1)]) _
    refine XS.istore X12.here hx rfl (hb hby at_143) rfl (l' := #[.val (.int p1), .val (.int 0), .val (.int 1), .val (.int 0), .val (.int 1), .val (.int 0), .val (.int 0), .val (.int 1), .val (.int 0), .val (.int 1), .val (.int 1), .unset]) rfl ?_
    show St p e below T12 (mkF m 145 #[.val (.int p1), .val (.int 0), .val (.int 1), .val (.int 0), .val (.int 1), .val (.int 0), .val (.int 0), .val (.int 1), .val (.int 0), .val (.int 1), .val (.int 1), .unset] []) _
    refine XS.iload X12.here hx rfl (hb hby at_145) rfl ?_
    show St p e below T12 (mkF m 147 #[.val (.int p1), .val (.int 0), .val (.int 1), .val (.int 0), .val (.int 1), .val (.int 0), .val (.int 0), .val (.int 1), .val (.int 0), .val (.int 1), .val (.int 1), .unset] [(.int 1)]) _
    refine XS.ifNo X12.here hx rfl (hb hby at_147) rfl ((if0 _ _).trans (feq (by decide : ¬ ((1 : Int32) = (0 : Int32)))).1) ?_
    show St p e below T12 (mkF m 150 #[.val (.int p1), .val (.int 0), .val (.int 1), .val (.int 0), .val (.int 1), .val (.int 0), .val (.int 0), .val (.int 1), .val (.int 0), .val (.int 1), .val (.int 1), .unset] []) _
    refine XS.iload X12.here hx rfl (hb hby at_150) rfl ?_
    show St p e below T12 (mkF m 152 #[.val (.int p1), .val (.int 0), .val (.int 1), .val (.int 0), .val (.int 1), .val (.int 0), .val (.int 0), .val (.int 1), .val (.int 0), .val (.int 1), .val (.int 1), .unset] [(.int 1)]) _
    refine XS.iloadN X12.here hx rfl (hb hby at_152) rfl ?_
    show St p e below T12 (mkF m 153 #[.val (.int p1), .val (.int 0), .val (.int 1), .val (.int 0), .val (.int 1), .val (.int 0), .val (.int 0), .val (.int 1), .val (.int 0), .val (.int 1), .val (.int 1), .unset] [(.int 0), (.int 1)]) _
    refine XS.ifNo X12.here hx rfl (hb hby at_153) rfl ((if0 _ _).trans (teq (by decide : (0 : Int32) = (0 : Int32))).2) ?_
    show St p e below T12 (mkF m 156 #[.val (.int p1), .val (.int 0), .val (.int 1), .val (.int 0), .val (.int 1), .val (.int 0), .val (.int 0), .val (.int 1), .val (.int 0), .val (.int 1), .val (.int 1), .unset] [(.int 1)]) _
    refine XS.iloadN X12.here hx rfl (hb hby at_156) rfl ?_
    show St p e below T12 (mkF m 157 #[.val (.int p1), .val (.int 0), .val (.int 1), .val (.int 0), .val (.int 1), .val (.int 0), .val (.int 0), .val (.int 1), .val (.int 0), .val (.int 1), .val (.int 1), .unset] [(.int 1), (.int 1)]) _
    refine XS.ifNo X12.here hx rfl (hb hby at_157) rfl ((if0 _ _).trans (feq (by decide : ¬ ((1 : Int32) = (0 : Int32)))).1) ?_
    show St p e below T12 (mkF m 160 #[.val (.int p1), .val (.int 0), .val (.int 1), .val (.int 0), .val (.int 1), .val (.int 0), .val (.int 0), .val (.int 1), .val (.int 0), .val (.int 1), .val (.int 1), .unset] [(.int 1)]) _
    refine XS.iconst X12.here hx rfl (hb hby at_160) ?_
    show St p e below T12 (mkF m 161 #[.val (.int p1), .val (.int 0), .val (.int 1), .val (.int 0), .val (.int 1), .val (.int 0), .val (.int 0), .val (.int 1), .val (.int 0), .val (.int 1), .val (.int 1), .unset] [(.int 1), (.int 1)]) _
    refine XS.goto X12.here hx rfl (pc0 := 161) (pc' := 165) rfl (hb hby at_161) (by decide) (by decide) ?_
    show St p e below T12 (mkF m 165 #[.val (.int p1), .val (.int 0), .val (.int 1), .val (.int 0), .val (.int 1), .val (.int 0), .val (.int 0), .val (.int 1), .val (.int 0), .val (.int 1), .val (.int 1), .unset] [(.int 1), (.int 1)]) _
    refine XS.icmpNo X12.here hx rfl (hb hby at_165) rfl (teq (by decide : (1 : Int32) = (1 : Int32))).2 ?_
    show St p e below T12 (mkF m 168 #[.val (.int p1), .val (.int 0), .val (.int 1), .val (.int 0), .val (.int 1), .val (.int 0), .val (.int 0), .val (.int 1), .val (.int 0), .val (.int 1), .val (.int 1), .unset] []) _
    refine XS.iconst X12.here hx rfl (hb hby at_168) ?_
    show St p e below T12 (mkF m 169 #[.val (.int p1), .val (.int 0), .val (.int 1), .val (.int 0), .val (.int 1), .val (.int 0), .val (.int 0), .val (.int 1), .val (.int 0), .val (.int 1), .val (.int 1), .unset] [(.int 1)]) _
    refine XS.goto X12.here hx rfl (pc0 := 169) (pc' := 173) rfl (hb hby at_169) (by decide) (by decide) ?_
    show St p e below T12 (mkF m 173 #[.val (.int p1), .val (.int 0), .val (.int 1), .val (.int 0), .val (.int 1), .val (.int 0), .val (.int 0), .val (.int 1), .val (.int 0), .val (.int 1), .val (.int 1), .unset] [(.int 1)]) _
    refine XS.istore X12.here hx rfl (hb hby at_173) rfl (l' := #[.val (.int p1), .val (.int 0), .val (.int 1), .val (.int 0), .val (.int 1), .val (.int 0), .val (.int 0), .val (.int 1), .val (.int 0), .val (.int 1), .val (.int 1), .unset]) rfl ?_
    show St p e below T12 (mkF m 175 #[.val (.int p1), .val (.int 0), .val (.int 1), .val (.int 0), .val (.int 1), .val (.int 0), .val (.int 0), .val (.int 1), .val (.int 0), .val (.int 1), .val (.int 1), .unset] []) _
    refine XS.iload X12.here hx rfl (hb hby at_175) rfl ?_
    show St p e below T12 (mkF m 177 #[.val (.int p1), .val (.int 0), .val (.int 1), .val (.int 0), .val (.int 1), .val (.int 0), .val (.int 0), .val (.int 1), .val (.int 0), .val (.int 1), .val (.int 1), .unset] [(.int 1)]) _
    refine XS.ifNo X12.here hx rfl (hb hby at_177) rfl ((if0 _ _).trans (feq (by decide : ¬ ((1 : Int32) = (0 : Int32)))).1) ?_
    show St p e below T12 (mkF m 180 #[.val (.int p1), .val (.int 0), .val (.int 1), .val (.int 0), .val (.int 1), .val (.int 0), .val (.int 0), .val (.int 1), .val (.int 0), .val (.int 1), .val (.int 1), .unset] []) _
    refine XS.iload X12.here hx rfl (hb hby at_180) rfl ?_
    show St p e below T12 (mkF m 182 #[.val (.int p1), .val (.int 0), .val (.int 1), .val (.int 0), .val (.int 1), .val (.int 0), .val (.int 0), .val (.int 1), .val (.int 0), .val (.int 1), .val (.int 1), .unset] [(.int 0)]) _
    refine XS.iloadN X12.here hx rfl (hb hby at_182) rfl ?_
    show St p e below T12 (mkF m 183 #[.val (.int p1), .val (.int 0), .val (.int 1), .val (.int 0), .val (.int 1), .val (.int 0), .val (.int 0), .val (.int 1), .val (.int 0), .val (.int 1), .val (.int 1), .unset] [(.int 0), (.int 0)]) _
    refine XS.icmpNo X12.here hx rfl (hb hby at_183) rfl (teq (by decide : (0 : Int32) = (0 : Int32))).2 ?_
    show St p e below T12 (mkF m 186 #[.val (.int p1), .val (.int 0), .val (.int 1), .val (.int 0), .val (.int 1), .val (.int 0), .val (.int 0), .val (.int 1), .val (.int 0), .val (.int 1), .val (.int 1), .unset] []) _
    refine XS.iconst X12.here hx rfl (hb hby at_186) ?_
    show St p e below T12 (mkF m 187 #[.val (.int p1), .val (.int 0), .val (.int 1), .val (.int 0), .val (.int 1), .val (.int 0), .val (.int 0), .val (.int 1), .val (.int 0), .val (.int 1), .val (.int 1), .unset] [(.int 1)]) _
    refine XS.goto X12.here hx rfl (pc0 := 187) (pc' := 191) rfl (hb hby at_187) (by decide) (by decide) ?_
    show St p e below T12 (mkF m 191 #[.val (.int p1), .val (.int 0), .val (.int 1), .val (.int 0), .val (.int 1), .val (.int 0), .val (.int 0), .val (.int 1), .val (.int 0), .val (.int 1), .val (.int 1), .unset] [(.int 1)]) _
    refine XS.istore X12.here hx rfl (hb hby at_191) rfl (l' := #[.val (.int p1), .val (.int 0), .val (.int 1), .val (.int 0), .val (.int 1), .val (.int 0), .val (.int 0), .val (.int 1), .val (.int 0), .val (.int 1), .val (.int 1), .unset]) rfl ?_
    show St p e below T12 (mkF m 193 #[.val (.int p1), .val (.int 0), .val (.int 1), .val (.int 0), .val (.int 1), .val (.int 0), .val (.int 0), .val (.int 1), .val (.int 0), .val (.int 1), .val (.int 1), .unset] []) _
    refine XS.iload X12.here hx rfl (hb hby at_193) rfl ?_
    show St p e below T12 (mkF m 195 #[.val (.int p1), .val (.int 0), .val (.int 1), .val (.int 0), .val (.int 1), .val (.int 0), .val (.int 0), .val (.int 1), .val (.int 0), .val (.int 1), .val (.int 1), .unset] [(.int 1)]) _
    refine XS.ifNo X12.here hx rfl (hb hby at_195) rfl ((if0 _ _).trans (feq (by decide : ¬ ((1 : Int32) = (0 : Int32)))).1) ?_
    show St p e below T12 (mkF m 198 #[.val (.int p1), .val (.int 0), .val (.int 1), .val (.int 0), .val (.int 1), .val (.int 0), .val (.int 0), .val (.int 1), .val (.int 0), .val (.int 1), .val (.int 1), .unset] []) _
    refine XS.iload X12.here hx rfl (hb hby at_198) rfl ?_
    show St p e below T12 (mkF m 200 #[.val (.int p1), .val (.int 0), .val (.int 1), .val (.int 0), .val (.int 1), .val (.int 0), .val (.int 0), .val (.int 1), .val (.int 0), .val (.int 1), .val (.int 1), .unset] [(.int 1)]) _
    refine XS.iloadN X12.here hx rfl (hb hby at_200) rfl ?_
    show St p e below T12 (mkF m 201 #[.val (.int p1), .val (.int 0), .val (.int 1), .val (.int 0), .val (.int 1), .val (.int 0), .val (.int 0), .val (.int 1), .val (.int 0), .val (.int 1), .val (.int 1), .unset] [(.int 0), (.int 1)]) _
    refine XS.ifNo X12.here hx rfl (hb hby at_201) rfl ((if0 _ _).trans (teq (by decide : (0 : Int32) = (0 : Int32))).2) ?_
    show St p e below T12 (mkF m 204 #[.val (.int p1), .val (.int 0), .val (.int 1), .val (.int 0), .val (.int 1), .val (.int 0), .val (.int 0), .val (.int 1), .val (.int 0), .val (.int 1), .val (.int 1), .unset] [(.int 1)]) _
    refine XS.iconst X12.here hx rfl (hb hby at_204) ?_
    show St p e below T12 (mkF m 205 #[.val (.int p1), .val (.int 0), .val (.int 1), .val (.int 0), .val (.int 1), .val (.int 0), .val (.int 0), .val (.int 1), .val (.int 0), .val (.int 1), .val (.int 1), .unset] [(.int 1), (.int 1)]) _
    refine XS.goto X12.here hx rfl (pc0 := 205) (pc' := 209) rfl (hb hby at_205) (by decide) (by decide) ?_
    show St p e below T12 (mkF m 209 #[.val (.int p1), .val (.int 0), .val (.int 1), .val (.int 0), .val (.int 1), .val (.int 0), .val (.int 0), .val (.int 1), .val (.int 0), .val (.int 1), .val (.int 1), .unset] [(.int 1), (.int 1)]) _
    refine XS.icmpNo X12.here hx rfl (hb hby at_209) rfl (teq (by decide : (1 : Int32) = (1 : Int32))).2 ?_
    show St p e below T12 (mkF m 212 #[.val (.int p1), .val (.int 0), .val (.int 1), .val (.int 0), .val (.int 1), .val (.int 0), .val (.int 0), .val (.int 1), .val (.int 0), .val (.int 1), .val (.int 1), .unset] []) _
    refine XS.iconst X12.here hx rfl (hb hby at_212) ?_
    show St p e below T12 (mkF m 213 #[.val (.int p1), .val (.int 0), .val (.int 1), .val (.int 0), .val (.int 1), .val (.int 0), .val (.int 0), .val (.int 1), .val (.int 0), .val (.int 1), .val (.int 1), .unset] [(.int 1)]) _
    refine XS.goto X12.here hx rfl (pc0 := 213) (pc' := 217) rfl (hb hby at_213) (by decide) (by decide) ?_
    show St p e below T12 (mkF m 217 #[.val (.int p1), .val (.int 0), .val (.int 1), .val (.int 0), .val (.int 1), .val (.int 0), .val (.int 0), .val (.int 1), .val (.int 0), .val (.int 1), .val (.int 1), .unset] [(.int 1)]) _
    refine XS.istore X12.here hx rfl (hb hby at_217) rfl (l' := #[.val (.int p1), .val (.int 0), .val (.int 1), .val (.int 0), .val (.int 1), .val (.int 0), .val (.int 0), .val (.int 1), .val (.int 0), .val (.int 1), .val (.int 1), .unset]) rfl ?_
    show St p e below T12 (mkF m 219 #[.val (.int p1), .val (.int 0), .val (.int 1), .val (.int 0), .val (.int 1), .val (.int 0), .val (.int 0), .val (.int 1), .val (.int 0), .val (.int 1), .val (.int 1), .unset] []) _
    refine XS.iload X12.here hx rfl (hb hby at_219) rfl ?_
    show St p e below T12 (mkF m 221 #[.val (.int p1), .val (.int 0), .val (.int 1), .val (.int 0), .val (.int 1), .val (.int 0), .val (.int 0), .val (.int 1), .val (.int 0), .val (.int 1), .val (.int 1), .unset] [(.int 0)]) _
    refine XS.ifYes X12.here hx rfl (pc0 := 221) (pc' := 228) rfl (hb hby at_221) rfl ((if0 _ _).trans (teq (by decide : (0 : Int32) = (0 : Int32))).1) (by decide) (by decide) ?_
    show St p e below T12 (mkF m 228 #[.val (.int p1), .val (.int 0), .val (.int 1), .val (.int 0), .val (.int 1), .val (.int 0), .val (.int 0), .val (.int 1), .val (.int 0), .val (.int 1), .val (.int 1), .unset] []) _
    refine XS.iconst X12.here hx rfl (hb hby at_228) ?_
    show St p e below T12 (mkF m 229 #[.val (.int p1), .val (.int 0), .val (.int 1), .val (.int 0), .val (.int 1), .val (.int 0), .val (.int 0), .val (.int 1), .val (.int 0), .val (.int 1), .val (.int 1), .unset] [(.int 0)]) _
    refine XS.iload X12.here hx rfl (hb hby at_229) rfl ?_
    show St p e below T12 (mkF m 231 #[.val (.int p1), .val (.int 0), .val (.int 1), .val (.int 0), .val (.int 1), .val (.int 0), .val (.int 0), .val (.int 1), .val (.int 0), .val (.int 1), .val (.int 1), .unset] [(.int 1), (.int 0)]) _
    refine XS.ifNo X12.here hx rfl (hb hby at_231) rfl ((if0 _ _).trans (feq (by decide : ¬ ((1 : Int32) = (0 : Int32)))).1) ?_
    show St p e below T12 (mkF m 234 #[.val (.int p1), .val (.int 0), .val (.int 1), .val (.int 0), .val (.int 1), .val (.int 0), .val (.int 0), .val (.int 1), .val (.int 0), .val (.int 1), .val (.int 1), .unset] [(.int 0)]) _
    refine XS.iconst X12.here hx rfl (hb hby at_234) ?_
    show St p e below T12 (mkF m 235 #[.val (.int p1), .val (.int 0), .val (.int 1), .val (.int 0), .val (.int 1), .val (.int 0), .val (.int 0), .val (.int 1), .val (.int 0), .val (.int 1), .val (.int 1), .unset] [(.int 1), (.int 0)]) _
    refine XS.goto X12.here hx rfl (pc0 := 235) (pc' := 239) rfl (hb hby at_235) (by decide) (by decide) ?_
    show St p e below T12 (mkF m 239 #[.val (.int p1), .val (.int 0), .val (.int 1), .val (.int 0), .val (.int 1), .val (.int 0), .val (.int 0), .val (.int 1), .val (.int 0), .val (.int 1), .val (.int 1), .unset] [(.int 1), (.int 0)]) _
    refine XS.iadd X12.here hx rfl (hb hby at_239) rfl ?_
    show St p e below T12 (mkF m 240 #[.val (.int p1), .val (.int 0), .val (.int 1), .val (.int 0), .val (.int 1), .val (.int 0), .val (.int 0), .val (.int 1), .val (.int 0), .val (.int 1), .val (.int 1), .unset] [(.int ((0 : Int32) + (1 : Int32)))]) _
    rw [(by decide : ((0 : Int32) + (1 : Int32)) = (1 : Int32))]
    show St p e below T12 (mkF m 240 #[.val (.int p1), .val (.int 0), .val (.int 1), .val (.int 0), .val (.int 1), .val (.int 0), .val (.int 0), .val (.int 1), .val (.int 0), .val (.int 1), .val (.int 1), .unset] [(.int 1)]) _
    refine XS.iload X12.here hx rfl (hb hby at_240) rfl ?_
    show St p e below T12 (mkF m 242 #[.val (.int p1), .val (.int 0), .val (.int 1), .val (.int 0), .val (.int 1), .val (.int 0), .val (.int 0), .val (.int 1), .val (.int 0), .val (.int 1), .val (.int 1), .unset] [(.int 0), (.int 1)]) _
    refine XS.ifYes X12.here hx rfl (pc0 := 242) (pc' := 249) rfl (hb hby at_242) rfl ((if0 _ _).trans (teq (by decide : (0 : Int32) = (0 : Int32))).1) (by decide) (by decide) ?_
    show St p e below T12 (mkF m 249 #[.val (.int p1), .val (.int 0), .val (.int 1), .val (.int 0), .val (.int 1), .val (.int 0), .val (.int 0), .val (.int 1), .val (.int 0), .val (.int 1), .val (.int 1), .unset] [(.int 1)]) _
    refine XS.iconst X12.here hx rfl (hb hby at_249) ?_
    show St p e below T12 (mkF m 250 #[.val (.int p1), .val (.int 0), .val (.int 1), .val (.int 0), .val (.int 1), .val (.int 0), .val (.int 0), .val (.int 1), .val (.int 0), .val (.int 1), .val (.int 1), .unset] [(.int 0), (.int 1)]) _
    refine XS.iadd X12.here hx rfl (hb hby at_250) rfl ?_
    show St p e below T12 (mkF m 251 #[.val (.int p1), .val (.int 0), .val (.int 1), .val (.int 0), .val (.int 1), .val (.int 0), .val (.int 0), .val (.int 1), .val (.int 0), .val (.int 1), .val (.int 1), .unset] [(.int ((1 : Int32) + (0 : Int32)))]) _
    rw [(by decide : ((1 : Int32) + (0 : Int32)) = (1 : Int32))]
    show St p e below T12 (mkF m 251 #[.val (.int p1), .val (.int 0), .val (.int 1), .val (.int 0), .val (.int 1), .val (.int 0), .val (.int 0), .val (.int 1), .val (.int 0), .val (.int 1), .val (.int 1), .unset] [(.int 1)]) _
    refine XS.istore X12.here hx rfl (hb hby at_251) rfl (l' := #[.val (.int p1), .val (.int 0), .val (.int 1), .val (.int 0), .val (.int 1), .val (.int 0), .val (.int 0), .val (.int 1), .val (.int 0), .val (.int 1), .val (.int 1), .val (.int 1)]) rfl ?_
    show St p e below T12 (mkF m 253 #[.val (.int p1), .val (.int 0), .val (.int 1), .val (.int 0), .val (.int 1), .val (.int 0), .val (.int 0), .val (.int 1), .val (.int 0), .val (.int 1), .val (.int 1), .val (.int 1)] []) _
    refine XS.iload X12.here hx rfl (hb hby at_253) rfl ?_
    show St p e below T12 (mkF m 255 #[.val (.int p1), .val (.int 0), .val (.int 1), .val (.int 0), .val (.int 1), .val (.int 0), .val (.int 0), .val (.int 1), .val (.int 0), .val (.int 1), .val (.int 1), .val (.int 1)] [(.int 1)]) _
    refine XS.ifNo X12.here hx rfl (hb hby at_255) rfl ((if0 _ _).trans (feq (by decide : ¬ ((1 : Int32) = (0 : Int32)))).1) ?_
    show St p e below T12 (mkF m 258 #[.val (.int p1), .val (.int 0), .val (.int 1), .val (.int 0), .val (.int 1), .val (.int 0), .val (.int 0), .val (.int 1), .val (.int 0), .val (.int 1), .val (.int 1), .val (.int 1)] []) _
    refine XS.iload X12.here hx rfl (hb hby at_258) rfl ?_
    show St p e below T12 (mkF m 260 #[.val (.int p1), .val (.int 0), .val (.int 1), .val (.int 0), .val (.int 1), .val (.int 0), .val (.int 0), .val (.int 1), .val (.int 0), .val (.int 1), .val (.int 1), .val (.int 1)] [(.int 1)]) _
    refine XS.iconst X12.here hx rfl (hb hby at_260) ?_
    show St p e below T12 (mkF m 261 #[.val (.int p1), .val (.int 0), .val (.int 1), .val (.int 0), .val (.int 1), .val (.int 0), .val (.int 0), .val (.int 1), .val (.int 0), .val (.int 1), .val (.int 1), .val (.int 1)] [(.int 1), (.int 1)]) _
    refine XS.icmpNo X12.here hx rfl (hb hby at_261) rfl (teq (by decide : (1 : Int32) = (1 : Int32))).2 ?_
    show St p e below T12 (mkF m 264 #[.val (.int p1), .val (.int 0), .val (.int 1), .val (.int 0), .val (.int 1), .val (.int 0), .val (.int 0), .val (.int 1), .val (.int 0), .val (.int 1), .val (.int 1), .val (.int 1)] []) _
    refine XS.iconst X12.here hx rfl (hb hby at_264) ?_
    show St p e below T12 (mkF m 265 #[.val (.int p1), .val (.int 0), .val (.int 1), .val (.int 0), .val (.int 1), .val (.int 0), .val (.int 0), .val (.int 1), .val (.int 0), .val (.int 1), .val (.int 1), .val (.int 1)] [(.int 1)]) _
    refine XS.goto X12.here hx rfl (pc0 := 265) (pc' := 269) rfl (hb hby at_265) (by decide) (by decide) ?_
    show St p e below T12 (mkF m 269 #[.val (.int p1), .val (.int 0), .val (.int 1), .val (.int 0), .val (.int 1), .val (.int 0), .val (.int 0), .val (.int 1), .val (.int 0), .val (.int 1), .val (.int 1), .val (.int 1)] [(.int 1)]) _
    refine XS.istore X12.here hx rfl (hb hby at_269) rfl (l' := #[.val (.int p1), .val (.int 0), .val (.int 1), .val (.int 0), .val (.int 1), .val (.int 0), .val (.int 0), .val (.int 1), .val (.int 0), .val (.int 1), .val (.int 1), .val (.int 1)]) rfl ?_
    show St p e below T12 (mkF m 271 #[.val (.int p1), .val (.int 0), .val (.int 1), .val (.int 0), .val (.int 1), .val (.int 0), .val (.int 0), .val (.int 1), .val (.int 0), .val (.int 1), .val (.int 1), .val (.int 1)] []) _
    refine XS.iload X12.here hx rfl (hb hby at_271) rfl ?_
    show St p e below T12 (mkF m 273 #[.val (.int p1), .val (.int 0), .val (.int 1), .val (.int 0), .val (.int 1), .val (.int 0), .val (.int 0), .val (.int 1), .val (.int 0), .val (.int 1), .val (.int 1), .val (.int 1)] [(.int 1)]) _
    exact retN X12 hx (t := .boolean) Bd.returns (by simp) (hb hby at_273) hr
  · exact ⟨rfl, N12⟩
set_option maxRecDepth 65536 in
set_option maxHeartbeats 40000000 in
theorem rm_law_pos (l : Launch) (Z : State) (a0 : Array Value) (hw : ∀ d ∈ tables_1, d.before a0 Z = true) (ws : List Jvm.Cond) (p1 : Int32) (w_EQ : Addr) (w_NE : Addr) (w_LT : Addr) (w_LE : Addr) (w_GT : Addr) (w_GE : Addr) (h0 : Heap) (n0 : Nat) (Z0 : n0 ≤ h0.size) (hlt : ¬ (p1 < (0 : Int32))) (heq : ¬ (p1 = (0 : Int32))) (hgt : (0 : Int32) < p1) (S_EQ : Sta Z Z.heap "com/example/sunder/sunder/Operator" "EQ" "Lcom/example/sunder/sunder/Operator;" (.ref w_EQ)) (O0 : Old Z n0 h0) (E_w_EQ : Exa Z Z.heap w_EQ "com/example/sunder/sunder/Operator") (F_w_EQ_ordinal : Fld Z Z.heap w_EQ "java/lang/Enum" "ordinal" "I" (.int 0)) (S_NE : Sta Z Z.heap "com/example/sunder/sunder/Operator" "NE" "Lcom/example/sunder/sunder/Operator;" (.ref w_NE)) (E_w_NE : Exa Z Z.heap w_NE "com/example/sunder/sunder/Operator") (F_w_NE_ordinal : Fld Z Z.heap w_NE "java/lang/Enum" "ordinal" "I" (.int 1)) (S_LT : Sta Z Z.heap "com/example/sunder/sunder/Operator" "LT" "Lcom/example/sunder/sunder/Operator;" (.ref w_LT)) (E_w_LT : Exa Z Z.heap w_LT "com/example/sunder/sunder/Operator") (F_w_LT_ordinal : Fld Z Z.heap w_LT "java/lang/Enum" "ordinal" "I" (.int 2)) (S_LE : Sta Z Z.heap "com/example/sunder/sunder/Operator" "LE" "Lcom/example/sunder/sunder/Operator;" (.ref w_LE)) (E_w_LE : Exa Z Z.heap w_LE "com/example/sunder/sunder/Operator") (F_w_LE_ordinal : Fld Z Z.heap w_LE "java/lang/Enum" "ordinal" "I" (.int 3)) (S_GT : Sta Z Z.heap "com/example/sunder/sunder/Operator" "GT" "Lcom/example/sunder/sunder/Operator;" (.ref w_GT)) (E_w_GT : Exa Z Z.heap w_GT "com/example/sunder/sunder/Operator") (F_w_GT_ordinal : Fld Z Z.heap w_GT "java/lang/Enum" "ordinal" "I" (.int 4)) (S_GE : Sta Z Z.heap "com/example/sunder/sunder/Operator" "GE" "Lcom/example/sunder/sunder/Operator;" (.ref w_GE)) (E_w_GE : Exa Z Z.heap w_GE "com/example/sunder/sunder/Operator") (F_w_GE_ordinal : Fld Z Z.heap w_GE "java/lang/Enum" "ordinal" "I" (.int 5)) :
    MetFree l x (head1 (Jvm.Cond.code x code maxLocals ret :: ws) room_1) (fun a U => a = #[(.int p1)] ∧ Z.Warmed39 U.vm ∧ U.heap = h0) (fun _ _ _ _ _ => True) (fun _ U o U' => ∃ v L, o = .returned v ∧ Q_law n0 v L ∧ FrameEnd U o U' L room_1.cells room_1.slots) := by
  refine MetFree.of_bodySF (plainFor_of_name pn_0) hisR ?_
  intro p e s m args below meth c s₁ Bd hml0 hP hK
  obtain ⟨rfl, hZ, hh⟩ := hP
  have hx := Bd.exec
  have hby := Bd.bytes
  have hml : c.maxLocals = 12 := hml0
  have hown : s.vm.findClass "com/example/sunder/sunder/OperatorHoldsPinLaw" = some m.cls := findClass_of_methodNamed Bd.named
  have hnm := (name_of_methodNamed Bd.named Bd.method).1
  have X0 : Stand p l e room_1 s m #[(.int p1)] below meth c s₁ [] 0 0 := Stand.of_body Bd
  have e0 : s₁.heap = h0 := by rw [← hh, Bd.state]; rfl
  have N0 := Fr.nil n0
  have pre0 : ∀ t, Steps p.tables e below (s₁.setTop (mkF m 0 #[.val (.int p1), .unset, .unset, .unset, .unset, .unset, .unset, .unset, .unset, .unset, .unset, .unset] [])) t → Steps p.tables e below (s₁.setTop (entryFrame m #[(.int p1)] maxLocals)) t := fun t k => castTop (ef_0_I m p1) k
  obtain ⟨T1, X1, e1, st1⟩ := getS2 X0 hx hZ hown (host := "") (Or.inl (hwi hw 0 rfl)) Via.refl e0 (S_EQ.ext O0.2) (g := (mkF m 34 #[.val (.int p1), .val (.int 0), .val (.int 0), .val (.int 1), .unset, .unset, .unset, .unset, .unset, .unset, .unset, .unset] [])) rfl (hb hby at_34)
  obtain ⟨cq2, kq2, q2a, q2b, q2c⟩ := isOf hZ e1 (E_w_EQ.ext O0.2)
  obtain ⟨_, _, ⟨T2, L2, k2, n2⟩, -, X2, ⟨Lc2, hQ2, l2, y2, z2⟩, st2⟩ := X1.virtualBack hx (y := (⟨"com/example/sunder/sunder/Operator", "holds", "(I)Z"⟩ : MethodName)) (z := (⟨"com/example/sunder/sunder/Operator", "holds", "(I)Z"⟩ : MethodName)) hown (mvT hZ (hwi hw 3 rfl)) (mvT hZ (hwi hw 4 rfl)) (notFace_of_selects (args := #[]) (mvT hZ (hwi hw 6 rfl))) (mvT hZ (hwi hw 6 rfl)) (mvT hZ (hwi hw 5 rfl)) (by decide) (backOf (W := 0) (rm_holds_0_pos l Z a0 hw [] w_EQ p1 h0 n0 Z0 (F_w_EQ_ordinal.ext O0.2) hlt heq hgt (E_w_EQ.ext O0.2)) hZ (hwi hw 7 rfl) (hwi hw 1 rfl) (by decide) (by decide)) q2a q2c (g := (mkF m 38 #[.val (.int p1), .val (.int 0), .val (.int 0), .val (.int 1), .unset, .unset, .unset, .unset, .unset, .unset, .unset, .unset] [(.int p1), (.ref w_EQ)])) rfl (by rw [hml]; rfl) (Steps.refl _) (argsL := [(.int p1)]) (rest := []) (lenOf pd_I_Z_244 rfl) rfl (by show 2 * 0 + _ ≤ _; exact Nat.le_of_eq rfl) (hb hby at_38) (fun _ _ => ⟨rfl, e1, (by decide : 0 + 0 ≤ _), (by decide : 0 + 0 ≤ _)⟩)
  dsimp only [Pt.U, Pt.locs, Pt.cells, Pt.slots] at X2 l2 y2 z2 st2 hQ2
  subst l2 y2 z2
  obtain ⟨rfl, N2q, e2⟩ := hQ2
  have N2 := Fr.app N0 N2q
  obtain ⟨T3, X3, e3, st3⟩ := getS2 X2 hx hZ hown (host := "") (Or.inl (hwi hw 17 rfl)) Via.refl e2 (S_NE.ext O0.2) (g := (mkF m 43 #[.val (.int p1), .val (.int 0), .val (.int 0), .val (.int 1), .val (.int 0), .unset, .unset, .unset, .unset, .unset, .unset, .unset] [])) rfl (hb hby at_43)
  obtain ⟨cq4, kq4, q4a, q4b, q4c⟩ := isOf hZ e3 (E_w_NE.ext O0.2)
  obtain ⟨_, _, ⟨T4, L4, k4, n4⟩, -, X4, ⟨Lc4, hQ4, l4, y4, z4⟩, st4⟩ := X3.virtualBack hx (y := (⟨"com/example/sunder/sunder/Operator", "holds", "(I)Z"⟩ : MethodName)) (z := (⟨"com/example/sunder/sunder/Operator", "holds", "(I)Z"⟩ : MethodName)) hown (mvT hZ (hwi hw 3 rfl)) (mvT hZ (hwi hw 4 rfl)) (notFace_of_selects (args := #[]) (mvT hZ (hwi hw 6 rfl))) (mvT hZ (hwi hw 6 rfl)) (mvT hZ (hwi hw 5 rfl)) (by decide) (backOf (W := 0) (rm_holds_1_pos l Z a0 hw [] w_NE p1 h0 n0 Z0 (F_w_NE_ordinal.ext O0.2) hlt heq hgt (E_w_NE.ext O0.2)) hZ (hwi hw 7 rfl) (hwi hw 1 rfl) (by decide) (by decide)) q4a q4c (g := (mkF m 47 #[.val (.int p1), .val (.int 0), .val (.int 0), .val (.int 1), .val (.int 0), .unset, .unset, .unset, .unset, .unset, .unset, .unset] [(.int p1), (.ref w_NE)])) rfl (by rw [hml]; rfl) (Steps.refl _) (argsL := [(.int p1)]) (rest := []) (lenOf pd_I_Z_244 rfl) rfl (by show 2 * 0 + _ ≤ _; exact Nat.le_of_eq rfl) (hb hby at_47) (fun _ _ => ⟨rfl, e3, (by decide : 0 + 0 ≤ _), (by decide : 0 + 0 ≤ _)⟩)
  dsimp only [Pt.U, Pt.locs, Pt.cells, Pt.slots] at X4 l4 y4 z4 st4 hQ4
  subst l4 y4 z4
  obtain ⟨rfl, N4q, e4⟩ := hQ4
  have N4 := Fr.app N2 N4q
  obtain ⟨T5, X5, e5, st5⟩ := getS2 X4 hx hZ hown (host := "") (Or.inl (hwi hw 19 rfl)) Via.refl e4 (S_LT.ext O0.2) (g := (mkF m 52 #[.val (.int p1), .val (.int 0), .val (.int 0), .val (.int 1), .val (.int 0), .val (.int 1), .unset, .unset, .unset, .unset, .unset, .unset] [])) rfl (hb hby at_52)
  obtain ⟨cq6, kq6, q6a, q6b, q6c⟩ := isOf hZ e5 (E_w_LT.ext O0.2)
  obtain ⟨_, _, ⟨T6, L6, k6, n6⟩, -, X6, ⟨Lc6, hQ6, l6, y6, z6⟩, st6⟩ := X5.virtualBack hx (y := (⟨"com/example/sunder/sunder/Operator", "holds", "(I)Z"⟩ : MethodName)) (z := (⟨"com/example/sunder/sunder/Operator", "holds", "(I)Z"⟩ : MethodName)) hown (mvT hZ (hwi hw 3 rfl)) (mvT hZ (hwi hw 4 rfl)) (notFace_of_selects (args := #[]) (mvT hZ (hwi hw 6 rfl))) (mvT hZ (hwi hw 6 rfl)) (mvT hZ (hwi hw 5 rfl)) (by decide) (backOf (W := 0) (rm_holds_2_pos l Z a0 hw [] w_LT p1 h0 n0 Z0 (F_w_LT_ordinal.ext O0.2) hlt heq hgt (E_w_LT.ext O0.2)) hZ (hwi hw 7 rfl) (hwi hw 1 rfl) (by decide) (by decide)) q6a q6c (g := (mkF m 56 #[.val (.int p1), .val (.int 0), .val (.int 0), .val (.int 1), .val (.int 0), .val (.int 1), .unset, .unset, .unset, .unset, .unset, .unset] [(.int p1), (.ref w_LT)])) rfl (by rw [hml]; rfl) (Steps.refl _) (argsL := [(.int p1)]) (rest := []) (lenOf pd_I_Z_244 rfl) rfl (by show 2 * 0 + _ ≤ _; exact Nat.le_of_eq rfl) (hb hby at_56) (fun _ _ => ⟨rfl, e5, (by decide : 0 + 0 ≤ _), (by decide : 0 + 0 ≤ _)⟩)
  dsimp only [Pt.U, Pt.locs, Pt.cells, Pt.slots] at X6 l6 y6 z6 st6 hQ6
  subst l6 y6 z6
  obtain ⟨rfl, N6q, e6⟩ := hQ6
  have N6 := Fr.app N4 N6q
  obtain ⟨T7, X7, e7, st7⟩ := getS2 X6 hx hZ hown (host := "") (Or.inl (hwi hw 21 rfl)) Via.refl e6 (S_LE.ext O0.2) (g := (mkF m 61 #[.val (.int p1), .val (.int 0), .val (.int 0), .val (.int 1), .val (.int 0), .val (.int 1), .val (.int 0), .unset, .unset, .unset, .unset, .unset] [])) rfl (hb hby at_61)
  obtain ⟨cq8, kq8, q8a, q8b, q8c⟩ := isOf hZ e7 (E_w_LE.ext O0.2)
  obtain ⟨_, _, ⟨T8, L8, k8, n8⟩, -, X8, ⟨Lc8, hQ8, l8, y8, z8⟩, st8⟩ := X7.virtualBack hx (y := (⟨"com/example/sunder/sunder/Operator", "holds", "(I)Z"⟩ : MethodName)) (z := (⟨"com/example/sunder/sunder/Operator", "holds", "(I)Z"⟩ : MethodName)) hown (mvT hZ (hwi hw 3 rfl)) (mvT hZ (hwi hw 4 rfl)) (notFace_of_selects (args := #[]) (mvT hZ (hwi hw 6 rfl))) (mvT hZ (hwi hw 6 rfl)) (mvT hZ (hwi hw 5 rfl)) (by decide) (backOf (W := 0) (rm_holds_3_pos l Z a0 hw [] w_LE p1 h0 n0 Z0 (F_w_LE_ordinal.ext O0.2) hlt heq hgt (E_w_LE.ext O0.2)) hZ (hwi hw 7 rfl) (hwi hw 1 rfl) (by decide) (by decide)) q8a q8c (g := (mkF m 65 #[.val (.int p1), .val (.int 0), .val (.int 0), .val (.int 1), .val (.int 0), .val (.int 1), .val (.int 0), .unset, .unset, .unset, .unset, .unset] [(.int p1), (.ref w_LE)])) rfl (by rw [hml]; rfl) (Steps.refl _) (argsL := [(.int p1)]) (rest := []) (lenOf pd_I_Z_244 rfl) rfl (by show 2 * 0 + _ ≤ _; exact Nat.le_of_eq rfl) (hb hby at_65) (fun _ _ => ⟨rfl, e7, (by decide : 0 + 0 ≤ _), (by decide : 0 + 0 ≤ _)⟩)
  dsimp only [Pt.U, Pt.locs, Pt.cells, Pt.slots] at X8 l8 y8 z8 st8 hQ8
  subst l8 y8 z8
  obtain ⟨rfl, N8q, e8⟩ := hQ8
  have N8 := Fr.app N6 N8q
  obtain ⟨T9, X9, e9, st9⟩ := getS2 X8 hx hZ hown (host := "") (Or.inl (hwi hw 23 rfl)) Via.refl e8 (S_GT.ext O0.2) (g := (mkF m 70 #[.val (.int p1), .val (.int 0), .val (.int 0), .val (.int 1), .val (.int 0), .val (.int 1), .val (.int 0), .val (.int 0), .unset, .unset, .unset, .unset] [])) rfl (hb hby at_70)
  obtain ⟨cq10, kq10, q10a, q10b, q10c⟩ := isOf hZ e9 (E_w_GT.ext O0.2)
  obtain ⟨_, _, ⟨T10, L10, k10, n10⟩, -, X10, ⟨Lc10, hQ10, l10, y10, z10⟩, st10⟩ := X9.virtualBack hx (y := (⟨"com/example/sunder/sunder/Operator", "holds", "(I)Z"⟩ : MethodName)) (z := (⟨"com/example/sunder/sunder/Operator", "holds", "(I)Z"⟩ : MethodName)) hown (mvT hZ (hwi hw 3 rfl)) (mvT hZ (hwi hw 4 rfl)) (notFace_of_selects (args := #[]) (mvT hZ (hwi hw 6 rfl))) (mvT hZ (hwi hw 6 rfl)) (mvT hZ (hwi hw 5 rfl)) (by decide) (backOf (W := 0) (rm_holds_4_pos l Z a0 hw [] w_GT p1 h0 n0 Z0 (F_w_GT_ordinal.ext O0.2) hlt heq hgt (E_w_GT.ext O0.2)) hZ (hwi hw 7 rfl) (hwi hw 1 rfl) (by decide) (by decide)) q10a q10c (g := (mkF m 74 #[.val (.int p1), .val (.int 0), .val (.int 0), .val (.int 1), .val (.int 0), .val (.int 1), .val (.int 0), .val (.int 0), .unset, .unset, .unset, .unset] [(.int p1), (.ref w_GT)])) rfl (by rw [hml]; rfl) (Steps.refl _) (argsL := [(.int p1)]) (rest := []) (lenOf pd_I_Z_244 rfl) rfl (by show 2 * 0 + _ ≤ _; exact Nat.le_of_eq rfl) (hb hby at_74) (fun _ _ => ⟨rfl, e9, (by decide : 0 + 0 ≤ _), (by decide : 0 + 0 ≤ _)⟩)
  dsimp only [Pt.U, Pt.locs, Pt.cells, Pt.slots] at X10 l10 y10 z10 st10 hQ10
  subst l10 y10 z10
  obtain ⟨rfl, N10q, e10⟩ := hQ10
  have N10 := Fr.app N8 N10q
  obtain ⟨T11, X11, e11, st11⟩ := getS2 X10 hx hZ hown (host := "") (Or.inl (hwi hw 25 rfl)) Via.refl e10 (S_GE.ext O0.2) (g := (mkF m 79 #[.val (.int p1), .val (.int 0), .val (.int 0), .val (.int 1), .val (.int 0), .val (.int 1), .val (.int 0), .val (.int 0), .val (.int 1), .unset, .unset, .unset] [])) rfl (hb hby at_79)
  obtain ⟨cq12, kq12, q12a, q12b, q12c⟩ := isOf hZ e11 (E_w_GE.ext O0.2)
  obtain ⟨_, _, ⟨T12, L12, k12, n12⟩, -, X12, ⟨Lc12, hQ12, l12, y12, z12⟩, st12⟩ := X11.virtualBack hx (y := (⟨"com/example/sunder/sunder/Operator", "holds", "(I)Z"⟩ : MethodName)) (z := (⟨"com/example/sunder/sunder/Operator", "holds", "(I)Z"⟩ : MethodName)) hown (mvT hZ (hwi hw 3 rfl)) (mvT hZ (hwi hw 4 rfl)) (notFace_of_selects (args := #[]) (mvT hZ (hwi hw 6 rfl))) (mvT hZ (hwi hw 6 rfl)) (mvT hZ (hwi hw 5 rfl)) (by decide) (backOf (W := 0) (rm_holds_5_pos l Z a0 hw [] w_GE p1 h0 n0 Z0 (F_w_GE_ordinal.ext O0.2) hlt heq hgt (E_w_GE.ext O0.2)) hZ (hwi hw 7 rfl) (hwi hw 1 rfl) (by decide) (by decide)) q12a q12c (g := (mkF m 83 #[.val (.int p1), .val (.int 0), .val (.int 0), .val (.int 1), .val (.int 0), .val (.int 1), .val (.int 0), .val (.int 0), .val (.int 1), .unset, .unset, .unset] [(.int p1), (.ref w_GE)])) rfl (by rw [hml]; rfl) (Steps.refl _) (argsL := [(.int p1)]) (rest := []) (lenOf pd_I_Z_244 rfl) rfl (by show 2 * 0 + _ ≤ _; exact Nat.le_of_eq rfl) (hb hby at_83) (fun _ _ => ⟨rfl, e11, (by decide : 0 + 0 ≤ _), (by decide : 0 + 0 ≤ _)⟩)
  dsimp only [Pt.U, Pt.locs, Pt.cells, Pt.slots] at X12 l12 y12 z12 st12 hQ12
  subst l12 y12 z12
  obtain ⟨rfl, N12q, e12⟩ := hQ12
  have N12 := Fr.app N10 N12q
  obtain ⟨fs, hr, hrun, hended, hW, hsame⟩ := X12.leave (v := some (.int 1)) (fun h => by rw [Bd.returns] at h; cases h)
  refine ⟨_, _, pre0 _ ?_, hrun, hended, _, _, rfl, ?_, ⟨_, rfl⟩, hW, hsame.mono (by decide) (by decide)⟩
  · show St p e below s₁ (mkF m 0 #[.val (.int p1), .unset, .unset, .unset, .unset, .unset, .unset, .unset, .unset, .unset, .unset, .unset] []) _
    refine XS.iloadN X0.here hx rfl (hb hby at_0) rfl ?_
    show St p e below s₁ (mkF m 1 #[.val (.int p1), .unset, .unset, .unset, .unset, .unset, .unset, .unset, .unset, .unset, .unset, .unset] [(.int p1)]) _
    refine XS.ifYes X0.here hx rfl (pc0 := 1) (pc' := 8) rfl (hb hby at_1) rfl ((if0 _ _).trans (flt hlt).2.1) (by decide) (by decide) ?_
    show St p e below s₁ (mkF m 8 #[.val (.int p1), .unset, .unset, .unset, .unset, .unset, .unset, .unset, .unset, .unset, .unset, .unset] []) _
    refine XS.iconst X0.here hx rfl (hb hby at_8) ?_
    show St p e below s₁ (mkF m 9 #[.val (.int p1), .unset, .unset, .unset, .unset, .unset, .unset, .unset, .unset, .unset, .unset, .unset] [(.int 0)]) _
    refine XS.istoreN X0.here hx rfl (hb hby at_9) rfl (l' := #[.val (.int p1), .val (.int 0), .unset, .unset, .unset, .unset, .unset, .unset, .unset, .unset, .unset, .unset]) rfl ?_
    show St p e below s₁ (mkF m 10 #[.val (.int p1), .val (.int 0), .unset, .unset, .unset, .unset, .unset, .unset, .unset, .unset, .unset, .unset] []) _
    refine XS.iloadN X0.here hx rfl (hb hby at_10) rfl ?_
    show St p e below s₁ (mkF m 11 #[.val (.int p1), .val (.int 0), .unset, .unset, .unset, .unset, .unset, .unset, .unset, .unset, .unset, .unset] [(.int p1)]) _
    refine XS.ifYes X0.here hx rfl (pc0 := 11) (pc' := 18) rfl (hb hby at_11) rfl ((if0 _ _).trans (feq heq).2) (by decide) (by decide) ?_
    show St p e below s₁ (mkF m 18 #[.val (.int p1), .val (.int 0), .unset, .unset, .unset, .unset, .unset, .unset, .unset, .unset, .unset, .unset] []) _
    refine XS.iconst X0.here hx rfl (hb hby at_18) ?_
    show St p e below s₁ (mkF m 19 #[.val (.int p1), .val (.int 0), .unset, .unset, .unset, .unset, .unset, .unset, .unset, .unset, .unset, .unset] [(.int 0)]) _
    refine XS.istoreN X0.here hx rfl (hb hby at_19) rfl (l' := #[.val (.int p1), .val (.int 0), .val (.int 0), .unset, .unset, .unset, .unset, .unset, .unset, .unset, .unset, .unset]) rfl ?_
    show St p e below s₁ (mkF m 20 #[.val (.int p1), .val (.int 0), .val (.int 0), .unset, .unset, .unset, .unset, .unset, .unset, .unset, .unset, .unset] []) _
    refine XS.iloadN X0.here hx rfl (hb hby at_20) rfl ?_
    show St p e below s₁ (mkF m 21 #[.val (.int p1), .val (.int 0), .val (.int 0), .unset, .unset, .unset, .unset, .unset, .unset, .unset, .unset, .unset] [(.int 0)]) _
    refine XS.ifNo X0.here hx rfl (hb hby at_21) rfl ((if0 _ _).trans (teq (by decide : (0 : Int32) = (0 : Int32))).2) ?_
    show St p e below s₁ (mkF m 24 #[.val (.int p1), .val (.int 0), .val (.int 0), .unset, .unset, .unset, .unset, .unset, .unset, .unset, .unset, .unset] []) _
    refine XS.iloadN X0.here hx rfl (hb hby at_24) rfl ?_
    show St p e below s₁ (mkF m 25 #[.val (.int p1), .val (.int 0), .val (.int 0), .unset, .unset, .unset, .unset, .unset, .unset, .unset, .unset, .unset] [(.int 0)]) _
    refine XS.ifNo X0.here hx rfl (hb hby at_25) rfl ((if0 _ _).trans (teq (by decide : (0 : Int32) = (0 : Int32))).2) ?_
    show St p e below s₁ (mkF m 28 #[.val (.int p1), .val (.int 0), .val (.int 0), .unset, .unset, .unset, .unset, .unset, .unset, .unset, .unset, .unset] []) _
    refine XS.iconst X0.here hx rfl (hb hby at_28) ?_
    show St p e below s₁ (mkF m 29 #[.val (.int p1), .val (.int 0), .val (.int 0), .unset, .unset, .unset, .unset, .unset, .unset, .unset, .unset, .unset] [(.int 1)]) _
    refine XS.goto X0.here hx rfl (pc0 := 29) (pc' := 33) rfl (hb hby at_29) (by decide) (by decide) ?_
    show St p e below s₁ (mkF m 33 #[.val (.int p1), .val (.int 0), .val (.int 0), .unset, .unset, .unset, .unset, .unset, .unset, .unset, .unset, .unset] [(.int 1)]) _
    refine XS.istoreN X0.here hx rfl (hb hby at_33) rfl (l' := #[.val (.int p1), .val (.int 0), .val (.int 0), .val (.int 1), .unset, .unset, .unset, .unset, .unset, .unset, .unset, .unset]) rfl ?_
    show St p e below s₁ (mkF m 34 #[.val (.int p1), .val (.int 0), .val (.int 0), .val (.int 1), .unset, .unset, .unset, .unset, .unset, .unset, .unset, .unset] []) _
    refine st1 _ ?_
    show St p e below T1 (mkF m 37 #[.val (.int p1), .val (.int 0), .val (.int 0), .val (.int 1), .unset, .unset, .unset, .unset, .unset, .unset, .unset, .unset] [(.ref w_EQ)]) _
    refine XS.iloadN X1.here hx rfl (hb hby at_37) rfl ?_
    show St p e below T1 (mkF m 38 #[.val (.int p1), .val (.int 0), .val (.int 0), .val (.int 1), .unset, .unset, .unset, .unset, .unset, .unset, .unset, .unset] [(.int p1), (.ref w_EQ)]) _
    refine st2.trans ?_
    show St p e below T2 (mkF m 41 #[.val (.int p1), .val (.int 0), .val (.int 0), .val (.int 1), .unset, .unset, .unset, .unset, .unset, .unset, .unset, .unset] [(.int 0)]) _
    refine XS.istore X2.here hx rfl (hb hby at_41) rfl (l' := #[.val (.int p1), .val (.int 0), .val (.int 0), .val (.int 1), .val (.int 0), .unset, .unset, .unset, .unset, .unset, .unset, .unset]) rfl ?_
    show St p e below T2 (mkF m 43 #[.val (.int p1), .val (.int 0), .val (.int 0), .val (.int 1), .val (.int 0), .unset, .unset, .unset, .unset, .unset, .unset, .unset] []) _
    refine st3 _ ?_
    show St p e below T3 (mkF m 46 #[.val (.int p1), .val (.int 0), .val (.int 0), .val (.int 1), .val (.int 0), .unset, .unset, .unset, .unset, .unset, .unset, .unset] [(.ref w_NE)]) _
    refine XS.iloadN X3.here hx rfl (hb hby at_46) rfl ?_
    show St p e below T3 (mkF m 47 #[.val (.int p1), .val (.int 0), .val (.int 0), .val (.int 1), .val (.int 0), .unset, .unset, .unset, .unset, .unset, .unset, .unset] [(.int p1), (.ref w_NE)]) _
    refine st4.trans ?_
    show St p e below T4 (mkF m 50 #[.val (.int p1), .val (.int 0), .val (.int 0), .val (.int 1), .val (.int 0), .unset, .unset, .unset, .unset, .unset, .unset, .unset] [(.int 1)]) _
    refine XS.istore X4.here hx rfl (hb hby at_50) rfl (l' := #[.val (.int p1), .val (.int 0), .val (.int 0), .val (.int 1), .val (.int 0), .val (.int 1), .unset, .unset, .unset, .unset, .unset, .unset]) rfl ?_
    show St p e below T4 (mkF m 52 #[.val (.int p1), .val (.int 0), .val (.int 0), .val (.int 1), .val (.int 0), .val (.int 1), .unset, .unset, .unset, .unset, .unset, .unset] []) _
    refine st5 _ ?_
    show St p e below T5 (mkF m 55 #[.val (.int p1), .val (.int 0), .val (.int 0), .val (.int 1), .val (.int 0), .val (.int 1), .unset, .unset, .unset, .unset, .unset, .unset] [(.ref w_LT)]) _
    refine XS.iloadN X5.here hx rfl (hb hby at_55) rfl ?_
    show St p e below T5 (mkF m 56 #[.val (.int p1), .val (.int 0), .val (.int 0), .val (.int 1), .val (.int 0), .val (.int 1), .unset, .unset, .unset, .unset, .unset, .unset] [(.int p1), (.ref w_LT)]) _
    refine st6.trans ?_
    show St p e below T6 (mkF m 59 #[.val (.int p1), .val (.int 0), .val (.int 0), .val (.int 1), .val (.int 0), .val (.int 1), .unset, .unset, .unset, .unset, .unset, .unset] [(.int 0)]) _
    refine XS.istore X6.here hx rfl (hb hby at_59) rfl (l' := #[.val (.int p1), .val (.int 0), .val (.int 0), .val (.int 1), .val (.int 0), .val (.int 1), .val (.int 0), .unset, .unset, .unset, .unset, .unset]) rfl ?_
    show St p e below T6 (mkF m 61 #[.val (.int p1), .val (.int 0), .val (.int 0), .val (.int 1), .val (.int 0), .val (.int 1), .val (.int 0), .unset, .unset, .unset, .unset, .unset] []) _
    refine st7 _ ?_
    show St p e below T7 (mkF m 64 #[.val (.int p1), .val (.int 0), .val (.int 0), .val (.int 1), .val (.int 0), .val (.int 1), .val (.int 0), .unset, .unset, .unset, .unset, .unset] [(.ref w_LE)]) _
    refine XS.iloadN X7.here hx rfl (hb hby at_64) rfl ?_
    show St p e below T7 (mkF m 65 #[.val (.int p1), .val (.int 0), .val (.int 0), .val (.int 1), .val (.int 0), .val (.int 1), .val (.int 0), .unset, .unset, .unset, .unset, .unset] [(.int p1), (.ref w_LE)]) _
    refine st8.trans ?_
    show St p e below T8 (mkF m 68 #[.val (.int p1), .val (.int 0), .val (.int 0), .val (.int 1), .val (.int 0), .val (.int 1), .val (.int 0), .unset, .unset, .unset, .unset, .unset] [(.int 0)]) _
    refine XS.istore X8.here hx rfl (hb hby at_68) rfl (l' := #[.val (.int p1), .val (.int 0), .val (.int 0), .val (.int 1), .val (.int 0), .val (.int 1), .val (.int 0), .val (.int 0), .unset, .unset, .unset, .unset]) rfl ?_
    show St p e below T8 (mkF m 70 #[.val (.int p1), .val (.int 0), .val (.int 0), .val (.int 1), .val (.int 0), .val (.int 1), .val (.int 0), .val (.int 0), .unset, .unset, .unset, .unset] []) _
    refine st9 _ ?_
    show St p e below T9 (mkF m 73 #[.val (.int p1), .val (.int 0), .val (.int 0), .val (.int 1), .val (.int 0), .val (.int 1), .val (.int 0), .val (.int 0), .unset, .unset, .unset, .unset] [(.ref w_GT)]) _
    refine XS.iloadN X9.here hx rfl (hb hby at_73) rfl ?_
    show St p e below T9 (mkF m 74 #[.val (.int p1), .val (.int 0), .val (.int 0), .val (.int 1), .val (.int 0), .val (.int 1), .val (.int 0), .val (.int 0), .unset, .unset, .unset, .unset] [(.int p1), (.ref w_GT)]) _
    refine st10.trans ?_
    show St p e below T10 (mkF m 77 #[.val (.int p1), .val (.int 0), .val (.int 0), .val (.int 1), .val (.int 0), .val (.int 1), .val (.int 0), .val (.int 0), .unset, .unset, .unset, .unset] [(.int 1)]) _
    refine XS.istore X10.here hx rfl (hb hby at_77) rfl (l' := #[.val (.int p1), .val (.int 0), .val (.int 0), .val (.int 1), .val (.int 0), .val (.int 1), .val (.int 0), .val (.int 0), .val (.int 1), .unset, .unset, .unset]) rfl ?_
    show St p e below T10 (mkF m 79 #[.val (.int p1), .val (.int 0), .val (.int 0), .val (.int 1), .val (.int 0), .val (.int 1), .val (.int 0), .val (.int 0), .val (.int 1), .unset, .unset, .unset] []) _
    refine st11 _ ?_
    show St p e below T11 (mkF m 82 #[.val (.int p1), .val (.int 0), .val (.int 0), .val (.int 1), .val (.int 0), .val (.int 1), .val (.int 0), .val (.int 0), .val (.int 1), .unset, .unset, .unset] [(.ref w_GE)]) _
    refine XS.iloadN X11.here hx rfl (hb hby at_82) rfl ?_
    show St p e below T11 (mkF m 83 #[.val (.int p1), .val (.int 0), .val (.int 0), .val (.int 1), .val (.int 0), .val (.int 1), .val (.int 0), .val (.int 0), .val (.int 1), .unset, .unset, .unset] [(.int p1), (.ref w_GE)]) _
    refine st12.trans ?_
    show St p e below T12 (mkF m 86 #[.val (.int p1), .val (.int 0), .val (.int 0), .val (.int 1), .val (.int 0), .val (.int 1), .val (.int 0), .val (.int 0), .val (.int 1), .unset, .unset, .unset] [(.int 1)]) _
    refine XS.istore X12.here hx rfl (hb hby at_86) rfl (l' := #[.val (.int p1), .val (.int 0), .val (.int 0), .val (.int 1), .val (.int 0), .val (.int 1), .val (.int 0), .val (.int 0), .val (.int 1), .val (.int 1), .unset, .unset]) rfl ?_
    show St p e below T12 (mkF m 88 #[.val (.int p1), .val (.int 0), .val (.int 0), .val (.int 1), .val (.int 0), .val (.int 1), .val (.int 0), .val (.int 0), .val (.int 1), .val (.int 1), .unset, .unset] []) _
    refine XS.iload X12.here hx rfl (hb hby at_88) rfl ?_
    show St p e below T12 (mkF m 90 #[.val (.int p1), .val (.int 0), .val (.int 0), .val (.int 1), .val (.int 0), .val (.int 1), .val (.int 0), .val (.int 0), .val (.int 1), .val (.int 1), .unset, .unset] [(.int 0)]) _
    refine XS.iloadN X12.here hx rfl (hb hby at_90) rfl ?_
    show St p e below T12 (mkF m 91 #[.val (.int p1), .val (.int 0), .val (.int 0), .val (.int 1), .val (.int 0), .val (.int 1), .val (.int 0), .val (.int 0), .val (.int 1), .val (.int 1), .unset, .unset] [(.int 0), (.int 0)]) _
    refine XS.icmpNo X12.here hx rfl (hb hby at_91) rfl (teq (by decide : (0 : Int32) = (0 : Int32))).2 ?_
    show St p e below T12 (mkF m 94 #[.val (.int p1), .val (.int 0), .val (.int 0), .val (.int 1), .val (.int 0), .val (.int 1), .val (.int 0), .val (.int 0), .val (.int 1), .val (.int 1), .unset, .unset] []) _
    refine XS.iconst X12.here hx rfl (hb hby at_94) ?_
    show St p e below T12 (mkF m 95 #[.val (.int p1), .val (.int 0), .val (.int 0), .val (.int 1), .val (.int 0), .val (.int 1), .val (.int 0), .val (.int 0), .val (.int 1), .val (.int 1), .unset, .unset] [(.int 1)]) _
    refine XS.goto X12.here hx rfl (pc0 := 95) (pc' := 99) rfl (hb hby at_95) (by decide) (by decide) ?_
    show St p e below T12 (mkF m 99 #[.val (.int p1), .val (.int 0), .val (.int 0), .val (.int 1), .val (.int 0), .val (.int 1), .val (.int 0), .val (.int 0), .val (.int 1), .val (.int 1), .unset, .unset] [(.int 1)]) _
    refine XS.istore X12.here hx rfl (hb hby at_99) rfl (l' := #[.val (.int p1), .val (.int 0), .val (.int 0), .val (.int 1), .val (.int 0), .val (.int 1), .val (.int 0), .val (.int 0), .val (.int 1), .val (.int 1), .val (.int 1), .unset]) rfl ?_
    show St p e below T12 (mkF m 101 #[.val (.int p1), .val (.int 0), .val (.int 0), .val (.int 1), .val (.int 0), .val (.int 1), .val (.int 0), .val (.int 0), .val (.int 1), .val (.int 1), .val (.int 1), .unset] []) _
    refine XS.iload X12.here hx rfl (hb hby at_101) rfl ?_
    show St p e below T12 (mkF m 103 #[.val (.int p1), .val (.int 0), .val (.int 0), .val (.int 1), .val (.int 0), .val (.int 1), .val (.int 0), .val (.int 0), .val (.int 1), .val (.int 1), .val (.int 1), .unset] [(.int 1)]) _
    refine XS.ifNo X12.here hx rfl (hb hby at_103) rfl ((if0 _ _).trans (feq (by decide : ¬ ((1 : Int32) = (0 : Int32)))).1) ?_
    show St p e below T12 (mkF m 106 #[.val (.int p1), .val (.int 0), .val (.int 0), .val (.int 1), .val (.int 0), .val (.int 1), .val (.int 0), .val (.int 0), .val (.int 1), .val (.int 1), .val (.int 1), .unset] []) _
    refine XS.iload X12.here hx rfl (hb hby at_106) rfl ?_
    show St p e below T12 (mkF m 108 #[.val (.int p1), .val (.int 0), .val (.int 0), .val (.int 1), .val (.int 0), .val (.int 1), .val (.int 0), .val (.int 0), .val (.int 1), .val (.int 1), .val (.int 1), .unset] [(.int 1)]) _
    refine XS.iloadN X12.here hx rfl (hb hby at_108) rfl ?_
    show St p e below T12 (mkF m 109 #[.val (.int p1), .val (.int 0), .val (.int 0), .val (.int 1), .val (.int 0), .val (.int 1), .val (.int 0), .val (.int 0), .val (.int 1), .val (.int 1), .val (.int 1), .unset] [(.int 0), (.int 1)]) _
    refine XS.ifNo X12.here hx rfl (hb hby at_109) rfl ((if0 _ _).trans (teq (by decide : (0 : Int32) = (0 : Int32))).2) ?_
    show St p e below T12 (mkF m 112 #[.val (.int p1), .val (.int 0), .val (.int 0), .val (.int 1), .val (.int 0), .val (.int 1), .val (.int 0), .val (.int 0), .val (.int 1), .val (.int 1), .val (.int 1), .unset] [(.int 1)]) _
    refine XS.iconst X12.here hx rfl (hb hby at_112) ?_
    show St p e below T12 (mkF m 113 #[.val (.int p1), .val (.int 0), .val (.int 0), .val (.int 1), .val (.int 0), .val (.int 1), .val (.int 0), .val (.int 0), .val (.int 1), .val (.int 1), .val (.int 1), .unset] [(.int 1), (.int 1)]) _
    refine XS.goto X12.here hx rfl (pc0 := 113) (pc' := 117) rfl (hb hby at_113) (by decide) (by decide) ?_
    show St p e below T12 (mkF m 117 #[.val (.int p1), .val (.int 0), .val (.int 0), .val (.int 1), .val (.int 0), .val (.int 1), .val (.int 0), .val (.int 0), .val (.int 1), .val (.int 1), .val (.int 1), .unset] [(.int 1), (.int 1)]) _
    refine XS.icmpNo X12.here hx rfl (hb hby at_117) rfl (teq (by decide : (1 : Int32) = (1 : Int32))).2 ?_
    show St p e below T12 (mkF m 120 #[.val (.int p1), .val (.int 0), .val (.int 0), .val (.int 1), .val (.int 0), .val (.int 1), .val (.int 0), .val (.int 0), .val (.int 1), .val (.int 1), .val (.int 1), .unset] []) _
    refine XS.iconst X12.here hx rfl (hb hby at_120) ?_
    show St p e below T12 (mkF m 121 #[.val (.int p1), .val (.int 0), .val (.int 0), .val (.int 1), .val (.int 0), .val (.int 1), .val (.int 0), .val (.int 0), .val (.int 1), .val (.int 1), .val (.int 1), .unset] [(.int 1)]) _
    refine XS.goto X12.here hx rfl (pc0 := 121) (pc' := 125) rfl (hb hby at_121) (by decide) (by decide) ?_
    show St p e below T12 (mkF m 125 #[.val (.int p1), .val (.int 0), .val (.int 0), .val (.int 1), .val (.int 0), .val (.int 1), .val (.int 0), .val (.int 0), .val (.int 1), .val (.int 1), .val (.int 1), .unset] [(.int 1)]) _
    refine XS.istore X12.here hx rfl (hb hby at_125) rfl (l' := #[.val (.int p1), .val (.int 0), .val (.int 0), .val (.int 1), .val (.int 0), .val (.int 1), .val (.int 0), .val (.int 0), .val (.int 1), .val (.int 1), .val (.int 1), .unset]) rfl ?_
    show St p e below T12 (mkF m 127 #[.val (.int p1), .val (.int 0), .val (.int 0), .val (.int 1), .val (.int 0), .val (.int 1), .val (.int 0), .val (.int 0), .val (.int 1), .val (.int 1), .val (.int 1), .unset] []) _
    refine XS.iload X12.here hx rfl (hb hby at_127) rfl ?_
    show St p e below T12 (mkF m 129 #[.val (.int p1), .val (.int 0), .val (.int 0), .val (.int 1), .val (.int 0), .val (.int 1), .val (.int 0), .val (.int 0), .val (.int 1), .val (.int 1), .val (.int 1), .unset] [(.int 1)]) _
    refine XS.ifNo X12.here hx rfl (hb hby at_129) rfl ((if0 _ _).trans (feq (by decide : ¬ ((1 : Int32) = (0 : Int32)))).1) ?_
    show St p e below T12 (mkF m 132 #[.val (.int p1), .val (.int 0), .val (.int 0), .val (.int 1), .val (.int 0), .val (.int 1), .val (.int 0), .val (.int 0), .val (.int 1), .val (.int 1), .val (.int 1), .unset] []) _
    refine XS.iload X12.here hx rfl (hb hby at_132) rfl ?_
    show St p e below T12 (mkF m 134 #[.val (.int p1), .val (.int 0), .val (.int 0), .val (.int 1), .val (.int 0), .val (.int 1), .val (.int 0), .val (.int 0), .val (.int 1), .val (.int 1), .val (.int 1), .unset] [(.int 0)]) _
    refine XS.iloadN X12.here hx rfl (hb hby at_134) rfl ?_
    show St p e below T12 (mkF m 135 #[.val (.int p1), .val (.int 0), .val (.int 0), .val (.int 1), .val (.int 0), .val (.int 1), .val (.int 0), .val (.int 0), .val (.int 1), .val (.int 1), .val (.int 1), .unset] [(.int 0), (.int 0)]) _
    refine XS.icmpNo X12.here hx rfl (hb hby at_135) rfl (teq (by decide : (0 : Int32) = (0 : Int32))).2 ?_
    show St p e below T12 (mkF m 138 #[.val (.int p1), .val (.int 0), .val (.int 0), .val (.int 1), .val (.int 0), .val (.int 1), .val (.int 0), .val (.int 0), .val (.int 1), .val (.int 1), .val (.int 1), .unset] []) _
    refine XS.iconst X12.here hx rfl (hb hby at_138) ?_
    show St p e below T12 (mkF m 139 #[.val (.int p1), .val (.int 0), .val (.int 0), .val (.int 1), .val (.int 0), .val (.int 1), .val (.int 0), .val (.int 0), .val (.int 1), .val (.int 1), .val (.int 1), .unset] [(.int 1)]) _
    refine XS.goto X12.here hx rfl (pc0 := 139) (pc' := 143) rfl (hb hby at_139) (by decide) (by decide) ?_
    show St p e below T12 (mkF m 143 #[.val (.int p1), .val (.int 0), .val (.int 0), .val (.int 1), .val (.int 0), .val (.int 1), .val (.int 0), .val (.int 0), .val (.int 1), .val (.int 1), .val (.int 1), .unset] [(.int 1)]) _
    refine XS.istore X12.here hx rfl (hb hby at_143) rfl (l' := #[.val (.int p1), .val (.int 0), .val (.int 0), .val (.int 1), .val (.int 0), .val (.int 1), .val (.int 0), .val (.int 0), .val (.int 1), .val (.int 1), .val (.int 1), .unset]) rfl ?_
    show St p e below T12 (mkF m 145 #[.val (.int p1), .val (.int 0), .val (.int 0), .val (.int 1), .val (.int 0), .val (.int 1), .val (.int 0), .val (.int 0), .val (.int 1), .val (.int 1), .val (.int 1), .unset] []) _
    refine XS.iload X12.here hx rfl (hb hby at_145) rfl ?_
    show St p e below T12 (mkF m 147 #[.val (.int p1), .val (.int 0), .val (.int 0), .val (.int 1), .val (.int 0), .val (.int 1), .val (.int 0), .val (.int 0), .val (.int 1), .val (.int 1), .val (.int 1), .unset] [(.int 1)]) _
    refine XS.ifNo X12.here hx rfl (hb hby at_147) rfl ((if0 _ _).trans (feq (by decide : ¬ ((1 : Int32) = (0 : Int32)))).1) ?_
    show St p e below T12 (mkF m 150 #[.val (.int p1), .val (.int 0), .val (.int 0), .val (.int 1), .val (.int 0), .val (.int 1), .val (.int 0), .val (.int 0), .val (.int 1), .val (.int 1), .val (.int 1), .unset] []) _
    refine XS.iload X12.here hx rfl (hb hby at_150) rfl ?_
    show St p e below T12 (mkF m 152 #[.val (.int p1), .val (.int 0), .val (.int 0), .val (.int 1), .val (.int 0), .val (.int 1), .val (.int 0), .val (.int 0), .val (.int 1), .val (.int 1), .val (.int 1), .unset] [(.int 0)]) _
    refine XS.iloadN X12.here hx rfl (hb hby at_152) rfl ?_
    show St p e below T12 (mkF m 153 #[.val (.int p1), .val (.int 0), .val (.int 0), .val (.int 1), .val (.int 0), .val (.int 1), .val (.int 0), .val (.int 0), .val (.int 1), .val (.int 1), .val (.int 1), .unset] [(.int 0), (.int 0)]) _
    refine XS.ifNo X12.here hx rfl (hb hby at_153) rfl ((if0 _ _).trans (teq (by decide : (0 : Int32) = (0 : Int32))).2) ?_
    show St p e below T12 (mkF m 156 #[.val (.int p1), .val (.int 0), .val (.int 0), .val (.int 1), .val (.int 0), .val (.int 1), .val (.int 0), .val (.int 0), .val (.int 1), .val (.int 1), .val (.int 1), .unset] [(.int 0)]) _
    refine XS.iloadN X12.here hx rfl (hb hby at_156) rfl ?_
    show St p e below T12 (mkF m 157 #[.val (.int p1), .val (.int 0), .val (.int 0), .val (.int 1), .val (.int 0), .val (.int 1), .val (.int 0), .val (.int 0), .val (.int 1), .val (.int 1), .val (.int 1), .unset] [(.int 0), (.int 0)]) _
    refine XS.ifYes X12.here hx rfl (pc0 := 157) (pc' := 164) rfl (hb hby at_157) rfl ((if0 _ _).trans (teq (by decide : (0 : Int32) = (0 : Int32))).1) (by decide) (by decide) ?_
    show St p e below T12 (mkF m 164 #[.val (.int p1), .val (.int 0), .val (.int 0), .val (.int 1), .val (.int 0), .val (.int 1), .val (.int 0), .val (.int 0), .val (.int 1), .val (.int 1), .val (.int 1), .unset] [(.int 0)]) _
    refine XS.iconst X12.here hx rfl (hb hby at_164) ?_
    show St p e below T12 (mkF m 165 #[.val (.int p1), .val (.int 0), .val (.int 0), .val (.int 1), .val (.int 0), .val (.int 1), .val (.int 0), .val (.int 0), .val (.int 1), .val (.int 1), .val (.int 1), .unset] [(.int 0), (.int 0)]) _
    refine XS.icmpNo X12.here hx rfl (hb hby at_165) rfl (teq (by decide : (0 : Int32) = (0 : Int32))).2 ?_
    show St p e below T12 (mkF m 168 #[.val (.int p1), .val (.int 0), .val (.int 0), .val (.int 1), .val (.int 0), .val (.int 1), .val (.int 0), .val (.int 0), .val (.int 1), .val (.int 1), .val (.int 1), .unset] []) _
    refine XS.iconst X12.here hx rfl (hb hby at_168) ?_
    show St p e below T12 (mkF m 169 #[.val (.int p1), .val (.int 0), .val (.int 0), .val (.int 1), .val (.int 0), .val (.int 1), .val (.int 0), .val (.int 0), .val (.int 1), .val (.int 1), .val (.int 1), .unset] [(.int 1)]) _
    refine XS.goto X12.here hx rfl (pc0 := 169) (pc' := 173) rfl (hb hby at_169) (by decide) (by decide) ?_
    show St p e below T12 (mkF m 173 #[.val (.int p1), .val (.int 0), .val (.int 0), .val (.int 1), .val (.int 0), .val (.int 1), .val (.int 0), .val (.int 0), .val (.int 1), .val (.int 1), .val (.int 1), .unset] [(.int 1)]) _
    refine XS.istore X12.here hx rfl (hb hby at_173) rfl (l' := #[.val (.int p1), .val (.int 0), .val (.int 0), .val (.int 1), .val (.int 0), .val (.int 1), .val (.int 0), .val (.int 0), .val (.int 1), .val (.int 1), .val (.int 1), .unset]) rfl ?_
    show St p e below T12 (mkF m 175 #[.val (.int p1), .val (.int 0), .val (.int 0), .val (.int 1), .val (.int 0), .val (.int 1), .val (.int 0), .val (.int 0), .val (.int 1), .val (.int 1), .val (.int 1), .unset] []) _
    refine XS.iload X12.here hx rfl (hb hby at_175) rfl ?_
    show St p e below T12 (mkF m 177 #[.val (.int p1), .val (.int 0), .val (.int 0), .val (.int 1), .val (.int 0), .val (.int 1), .val (.int 0), .val (.int 0), .val (.int 1), .val (.int 1), .val (.int 1), .unset] [(.int 1)]) _
    refine XS.ifNo X12.here hx rfl (hb hby at_177) rfl ((if0 _ _).trans (feq (by decide : ¬ ((1 : Int32) = (0 : Int32)))).1) ?_
    show St p e below T12 (mkF m 180 #[.val (.int p1), .val (.int 0), .val (.int 0), .val (.int 1), .val (.int 0), .val (.int 1), .val (.int 0), .val (.int 0), .val (.int 1), .val (.int 1), .val (.int 1), .unset] []) _
    refine XS.iload X12.here hx rfl (hb hby at_180) rfl ?_
    show St p e below T12 (mkF m 182 #[.val (.int p1), .val (.int 0), .val (.int 0), .val (.int 1), .val (.int 0), .val (.int 1), .val (.int 0), .val (.int 0), .val (.int 1), .val (.int 1), .val (.int 1), .unset] [(.int 1)]) _
    refine XS.iloadN X12.here hx rfl (hb hby at_182) rfl ?_
    show St p e below T12 (mkF m 183 #[.val (.int p1), .val (.int 0), .val (.int 0), .val (.int 1), .val (.int 0), .val (.int 1), .val (.int 0), .val (.int 0), .val (.int 1), .val (.int 1), .val (.int 1), .unset] [(.int 1), (.int 1)]) _
    refine XS.icmpNo X12.here hx rfl (hb hby at_183) rfl (teq (by decide : (1 : Int32) = (1 : Int32))).2 ?_
    show St p e below T12 (mkF m 186 #[.val (.int p1), .val (.int 0), .val (.int 0), .val (.int 1), .val (.int 0), .val (.int 1), .val (.int 0), .val (.int 0), .val (.int 1), .val (.int 1), .val (.int 1), .unset] []) _
    refine XS.iconst X12.here hx rfl (hb hby at_186) ?_
    show St p e below T12 (mkF m 187 #[.val (.int p1), .val (.int 0), .val (.int 0), .val (.int 1), .val (.int 0), .val (.int 1), .val (.int 0), .val (.int 0), .val (.int 1), .val (.int 1), .val (.int 1), .unset] [(.int 1)]) _
    refine XS.goto X12.here hx rfl (pc0 := 187) (pc' := 191) rfl (hb hby at_187) (by decide) (by decide) ?_
    show St p e below T12 (mkF m 191 #[.val (.int p1), .val (.int 0), .val (.int 0), .val (.int 1), .val (.int 0), .val (.int 1), .val (.int 0), .val (.int 0), .val (.int 1), .val (.int 1), .val (.int 1), .unset] [(.int 1)]) _
    refine XS.istore X12.here hx rfl (hb hby at_191) rfl (l' := #[.val (.int p1), .val (.int 0), .val (.int 0), .val (.int 1), .val (.int 0), .val (.int 1), .val (.int 0), .val (.int 0), .val (.int 1), .val (.int 1), .val (.int 1), .unset]) rfl ?_
    show St p e below T12 (mkF m 193 #[.val (.int p1), .val (.int 0), .val (.int 0), .val (.int 1), .val (.int 0), .val (.int 1), .val (.int 0), .val (.int 0), .val (.int 1), .val (.int 1), .val (.int 1), .unset] []) _
    refine XS.iload X12.here hx rfl (hb hby at_193) rfl ?_
    show St p e below T12 (mkF m 195 #[.val (.int p1), .val (.int 0), .val (.int 0), .val (.int 1), .val (.int 0), .val (.int 1), .val (.int 0), .val (.int 0), .val (.int 1), .val (.int 1), .val (.int 1), .unset] [(.int 1)]) _
    refine XS.ifNo X12.here hx rfl (hb hby at_195) rfl ((if0 _ _).trans (feq (by decide : ¬ ((1 : Int32) = (0 : Int32)))).1) ?_
    show St p e below T12 (mkF m 198 #[.val (.int p1), .val (.int 0), .val (.int 0), .val (.int 1), .val (.int 0), .val (.int 1), .val (.int 0), .val (.int 0), .val (.int 1), .val (.int 1), .val (.int 1), .unset] []) _
    refine XS.iload X12.here hx rfl (hb hby at_198) rfl ?_
    show St p e below T12 (mkF m 200 #[.val (.int p1), .val (.int 0), .val (.int 0), .val (.int 1), .val (.int 0), .val (.int 1), .val (.int 0), .val (.int 0), .val (.int 1), .val (.int 1), .val (.int 1), .unset] [(.int 1)]) _
    refine XS.iloadN X12.here hx rfl (hb hby at_200) rfl ?_
    show St p e below T12 (mkF m 201 #[.val (.int p1), .val (.int 0), .val (.int 0), .val (.int 1), .val (.int 0), .val (.int 1), .val (.int 0), .val (.int 0), .val (.int 1), .val (.int 1), .val (.int 1), .unset] [(.int 0), (.int 1)]) _
    refine XS.ifNo X12.here hx rfl (hb hby at_201) rfl ((if0 _ _).trans (teq (by decide : (0 : Int32) = (0 : Int32))).2) ?_
    show St p e below T12 (mkF m 204 #[.val (.int p1), .val (.int 0), .val (.int 0), .val (.int 1), .val (.int 0), .val (.int 1), .val (.int 0), .val (.int 0), .val (.int 1), .val (.int 1), .val (.int 1), .unset] [(.int 1)]) _
    refine XS.iconst X12.here hx rfl (hb hby at_204) ?_
    show St p e below T12 (mkF m 205 #[.val (.int p1), .val (.int 0), .val (.int 0), .val (.int 1), .val (.int 0), .val (.int 1), .val (.int 0), .val (.int 0), .val (.int 1), .val (.int 1), .val (.int 1), .unset] [(.int 1), (.int 1)]) _
    refine XS.goto X12.here hx rfl (pc0 := 205) (pc' := 209) rfl (hb hby at_205) (by decide) (by decide) ?_
    show St p e below T12 (mkF m 209 #[.val (.int p1), .val (.int 0), .val (.int 0), .val (.int 1), .val (.int 0), .val (.int 1), .val (.int 0), .val (.int 0), .val (.int 1), .val (.int 1), .val (.int 1), .unset] [(.int 1), (.int 1)]) _
    refine XS.icmpNo X12.here hx rfl (hb hby at_209) rfl (teq (by decide : (1 : Int32) = (1 : Int32))).2 ?_
    show St p e below T12 (mkF m 212 #[.val (.int p1), .val (.int 0), .val (.int 0), .val (.int 1), .val (.int 0), .val (.int 1), .val (.int 0), .val (.int 0), .val (.int 1), .val (.int 1), .val (.int 1), .unset] []) _
    refine XS.iconst X12.here hx rfl (hb hby at_212) ?_
    show St p e below T12 (mkF m 213 #[.val (.int p1), .val (.int 0), .val (.int 0), .val (.int 1), .val (.int 0), .val (.int 1), .val (.int 0), .val (.int 0), .val (.int 1), .val (.int 1), .val (.int 1), .unset] [(.int 1)]) _
    refine XS.goto X12.here hx rfl (pc0 := 213) (pc' := 217) rfl (hb hby at_213) (by decide) (by decide) ?_
    show St p e below T12 (mkF m 217 #[.val (.int p1), .val (.int 0), .val (.int 0), .val (.int 1), .val (.int 0), .val (.int 1), .val (.int 0), .val (.int 0), .val (.int 1), .val (.int 1), .val (.int 1), .unset] [(.int 1)]) _
    refine XS.istore X12.here hx rfl (hb hby at_217) rfl (l' := #[.val (.int p1), .val (.int 0), .val (.int 0), .val (.int 1), .val (.int 0), .val (.int 1), .val (.int 0), .val (.int 0), .val (.int 1), .val (.int 1), .val (.int 1), .unset]) rfl ?_
    show St p e below T12 (mkF m 219 #[.val (.int p1), .val (.int 0), .val (.int 0), .val (.int 1), .val (.int 0), .val (.int 1), .val (.int 0), .val (.int 0), .val (.int 1), .val (.int 1), .val (.int 1), .unset] []) _
    refine XS.iload X12.here hx rfl (hb hby at_219) rfl ?_
    show St p e below T12 (mkF m 221 #[.val (.int p1), .val (.int 0), .val (.int 0), .val (.int 1), .val (.int 0), .val (.int 1), .val (.int 0), .val (.int 0), .val (.int 1), .val (.int 1), .val (.int 1), .unset] [(.int 0)]) _
    refine XS.ifYes X12.here hx rfl (pc0 := 221) (pc' := 228) rfl (hb hby at_221) rfl ((if0 _ _).trans (teq (by decide : (0 : Int32) = (0 : Int32))).1) (by decide) (by decide) ?_
    show St p e below T12 (mkF m 228 #[.val (.int p1), .val (.int 0), .val (.int 0), .val (.int 1), .val (.int 0), .val (.int 1), .val (.int 0), .val (.int 0), .val (.int 1), .val (.int 1), .val (.int 1), .unset] []) _
    refine XS.iconst X12.here hx rfl (hb hby at_228) ?_
    show St p e below T12 (mkF m 229 #[.val (.int p1), .val (.int 0), .val (.int 0), .val (.int 1), .val (.int 0), .val (.int 1), .val (.int 0), .val (.int 0), .val (.int 1), .val (.int 1), .val (.int 1), .unset] [(.int 0)]) _
    refine XS.iload X12.here hx rfl (hb hby at_229) rfl ?_
    show St p e below T12 (mkF m 231 #[.val (.int p1), .val (.int 0), .val (.int 0), .val (.int 1), .val (.int 0), .val (.int 1), .val (.int 0), .val (.int 0), .val (.int 1), .val (.int 1), .val (.int 1), .unset] [(.int 0), (.int 0)]) _
    refine XS.ifYes X12.here hx rfl (pc0 := 231) (pc' := 238) rfl (hb hby at_231) rfl ((if0 _ _).trans (teq (by decide : (0 : Int32) = (0 : Int32))).1) (by decide) (by decide) ?_
    show St p e below T12 (mkF m 238 #[.val (.int p1), .val (.int 0), .val (.int 0), .val (.int 1), .val (.int 0), .val (.int 1), .val (.int 0), .val (.int 0), .val (.int 1), .val (.int 1), .val (.int 1), .unset] [(.int 0)]) _
    refine XS.iconst X12.here hx rfl (hb hby at_238) ?_
    show St p e below T12 (mkF m 239 #[.val (.int p1), .val (.int 0), .val (.int 0), .val (.int 1), .val (.int 0), .val (.int 1), .val (.int 0), .val (.int 0), .val (.int 1), .val (.int 1), .val (.int 1), .unset] [(.int 0), (.int 0)]) _
    refine XS.iadd X12.here hx rfl (hb hby at_239) rfl ?_
    show St p e below T12 (mkF m 240 #[.val (.int p1), .val (.int 0), .val (.int 0), .val (.int 1), .val (.int 0), .val (.int 1), .val (.int 0), .val (.int 0), .val (.int 1), .val (.int 1), .val (.int 1), .unset] [(.int ((0 : Int32) + (0 : Int32)))]) _
    rw [(by decide : ((0 : Int32) + (0 : Int32)) = (0 : Int32))]
    show St p e below T12 (mkF m 240 #[.val (.int p1), .val (.int 0), .val (.int 0), .val (.int 1), .val (.int 0), .val (.int 1), .val (.int 0), .val (.int 0), .val (.int 1), .val (.int 1), .val (.int 1), .unset] [(.int 0)]) _
    refine XS.iload X12.here hx rfl (hb hby at_240) rfl ?_
    show St p e below T12 (mkF m 242 #[.val (.int p1), .val (.int 0), .val (.int 0), .val (.int 1), .val (.int 0), .val (.int 1), .val (.int 0), .val (.int 0), .val (.int 1), .val (.int 1), .val (.int 1), .unset] [(.int 1), (.int 0)]) _
    refine XS.ifNo X12.here hx rfl (hb hby at_242) rfl ((if0 _ _).trans (feq (by decide : ¬ ((1 : Int32) = (0 : Int32)))).1) ?_
    show St p e below T12 (mkF m 245 #[.val (.int p1), .val (.int 0), .val (.int 0), .val (.int 1), .val (.int 0), .val (.int 1), .val (.int 0), .val (.int 0), .val (.int 1), .val (.int 1), .val (.int 1), .unset] [(.int 0)]) _
    refine XS.iconst X12.here hx rfl (hb hby at_245) ?_
    show St p e below T12 (mkF m 246 #[.val (.int p1), .val (.int 0), .val (.int 0), .val (.int 1), .val (.int 0), .val (.int 1), .val (.int 0), .val (.int 0), .val (.int 1), .val (.int 1), .val (.int 1), .unset] [(.int 1), (.int 0)]) _
    refine XS.goto X12.here hx rfl (pc0 := 246) (pc' := 250) rfl (hb hby at_246) (by decide) (by decide) ?_
    show St p e below T12 (mkF m 250 #[.val (.int p1), .val (.int 0), .val (.int 0), .val (.int 1), .val (.int 0), .val (.int 1), .val (.int 0), .val (.int 0), .val (.int 1), .val (.int 1), .val (.int 1), .unset] [(.int 1), (.int 0)]) _
    refine XS.iadd X12.here hx rfl (hb hby at_250) rfl ?_
    show St p e below T12 (mkF m 251 #[.val (.int p1), .val (.int 0), .val (.int 0), .val (.int 1), .val (.int 0), .val (.int 1), .val (.int 0), .val (.int 0), .val (.int 1), .val (.int 1), .val (.int 1), .unset] [(.int ((0 : Int32) + (1 : Int32)))]) _
    rw [(by decide : ((0 : Int32) + (1 : Int32)) = (1 : Int32))]
    show St p e below T12 (mkF m 251 #[.val (.int p1), .val (.int 0), .val (.int 0), .val (.int 1), .val (.int 0), .val (.int 1), .val (.int 0), .val (.int 0), .val (.int 1), .val (.int 1), .val (.int 1), .unset] [(.int 1)]) _
    refine XS.istore X12.here hx rfl (hb hby at_251) rfl (l' := #[.val (.int p1), .val (.int 0), .val (.int 0), .val (.int 1), .val (.int 0), .val (.int 1), .val (.int 0), .val (.int 0), .val (.int 1), .val (.int 1), .val (.int 1), .val (.int 1)]) rfl ?_
    show St p e below T12 (mkF m 253 #[.val (.int p1), .val (.int 0), .val (.int 0), .val (.int 1), .val (.int 0), .val (.int 1), .val (.int 0), .val (.int 0), .val (.int 1), .val (.int 1), .val (.int 1), .val (.int 1)] []) _
    refine XS.iload X12.here hx rfl (hb hby at_253) rfl ?_
    show St p e below T12 (mkF m 255 #[.val (.int p1), .val (.int 0), .val (.int 0), .val (.int 1), .val (.int 0), .val (.int 1), .val (.int 0), .val (.int 0), .val (.int 1), .val (.int 1), .val (.int 1), .val (.int 1)] [(.int 1)]) _
    refine XS.ifNo X12.here hx rfl (hb hby at_255) rfl ((if0 _ _).trans (feq (by decide : ¬ ((1 : Int32) = (0 : Int32)))).1) ?_
    show St p e below T12 (mkF m 258 #[.val (.int p1), .val (.int 0), .val (.int 0), .val (.int 1), .val (.int 0), .val (.int 1), .val (.int 0), .val (.int 0), .val (.int 1), .val (.int 1), .val (.int 1), .val (.int 1)] []) _
    refine XS.iload X12.here hx rfl (hb hby at_258) rfl ?_
    show St p e below T12 (mkF m 260 #[.val (.int p1), .val (.int 0), .val (.int 0), .val (.int 1), .val (.int 0), .val (.int 1), .val (.int 0), .val (.int 0), .val (.int 1), .val (.int 1), .val (.int 1), .val (.int 1)] [(.int 1)]) _
    refine XS.iconst X12.here hx rfl (hb hby at_260) ?_
    show St p e below T12 (mkF m 261 #[.val (.int p1), .val (.int 0), .val (.int 0), .val (.int 1), .val (.int 0), .val (.int 1), .val (.int 0), .val (.int 0), .val (.int 1), .val (.int 1), .val (.int 1), .val (.int 1)] [(.int 1), (.int 1)]) _
    refine XS.icmpNo X12.here hx rfl (hb hby at_261) rfl (teq (by decide : (1 : Int32) = (1 : Int32))).2 ?_
    show St p e below T12 (mkF m 264 #[.val (.int p1), .val (.int 0), .val (.int 0), .val (.int 1), .val (.int 0), .val (.int 1), .val (.int 0), .val (.int 0), .val (.int 1), .val (.int 1), .val (.int 1), .val (.int 1)] []) _
    refine XS.iconst X12.here hx rfl (hb hby at_264) ?_
    show St p e below T12 (mkF m 265 #[.val (.int p1), .val (.int 0), .val (.int 0), .val (.int 1), .val (.int 0), .val (.int 1), .val (.int 0), .val (.int 0), .val (.int 1), .val (.int 1), .val (.int 1), .val (.int 1)] [(.int 1)]) _
    refine XS.goto X12.here hx rfl (pc0 := 265) (pc' := 269) rfl (hb hby at_265) (by decide) (by decide) ?_
    show St p e below T12 (mkF m 269 #[.val (.int p1), .val (.int 0), .val (.int 0), .val (.int 1), .val (.int 0), .val (.int 1), .val (.int 0), .val (.int 0), .val (.int 1), .val (.int 1), .val (.int 1), .val (.int 1)] [(.int 1)]) _
    refine XS.istore X12.here hx rfl (hb hby at_269) rfl (l' := #[.val (.int p1), .val (.int 0), .val (.int 0), .val (.int 1), .val (.int 0), .val (.int 1), .val (.int 0), .val (.int 0), .val (.int 1), .val (.int 1), .val (.int 1), .val (.int 1)]) rfl ?_
    show St p e below T12 (mkF m 271 #[.val (.int p1), .val (.int 0), .val (.int 0), .val (.int 1), .val (.int 0), .val (.int 1), .val (.int 0), .val (.int 0), .val (.int 1), .val (.int 1), .val (.int 1), .val (.int 1)] []) _
    refine XS.iload X12.here hx rfl (hb hby at_271) rfl ?_
    show St p e below T12 (mkF m 273 #[.val (.int p1), .val (.int 0), .val (.int 0), .val (.int 1), .val (.int 0), .val (.int 1), .val (.int 0), .val (.int 0), .val (.int 1), .val (.int 1), .val (.int 1), .val (.int 1)] [(.int 1)]) _
    exact retN X12 hx (t := .boolean) Bd.returns (by simp) (hb hby at_273) hr
  · exact ⟨rfl, N12⟩
theorem own_sign (x : Int32) : (x < (0 : Int32) ∧ ¬ (x = (0 : Int32)) ∧ ¬ ((0 : Int32) < x)) ∨ (¬ (x < (0 : Int32)) ∧ x = (0 : Int32) ∧ ¬ ((0 : Int32) < x)) ∨ (¬ (x < (0 : Int32)) ∧ ¬ (x = (0 : Int32)) ∧ (0 : Int32) < x) := by
  simp only [Int32.lt_iff_toInt_lt, ← Int32.toInt_inj, show (0 : Int32).toInt = 0 by decide]
  omega
theorem own_fi {s : State} {args : Array Value} {t : Term} {C n d : String} {k : Int32} {a : Addr} (ev : t.eval args s none [] s = some (.ref a)) (h : (Jvm.Cond.eq (Term.field t C n d) (Term.int k)).value args s none s [] = some true) : Fld s s.heap a C n d (.int k) := by
  obtain ⟨x, y, h1, h2, h3, h4⟩ := cmp_v (Or.inl h)
  have e2 : y = .int k := (Option.some.inj (h2.symm.trans (Term.int_eval k)))
  subst e2
  obtain ⟨z, rfl⟩ := h4
  have e3 : z = k := gotT (Cond.eq_ints h1 h2) h
  subst e3
  exact Fld.start ((fld_at ev).symm.trans h1)
theorem own_fr {s : State} {args : Array Value} {t u : Term} {C n d : String} {a b : Addr} (ev : t.eval args s none [] s = some (.ref a)) (ev2 : u.eval args s none [] s = some (.ref b)) (h : (Jvm.Cond.eq (Term.field t C n d) u).value args s none s [] = some true) : Fld s s.heap a C n d (.ref b) := by
  obtain ⟨x, y, h1, h2, h3, h4⟩ := cmp_v (Or.inl h)
  obtain rfl : y = .ref b := Option.some.inj (h2.symm.trans ev2)
  have hx : x.isRef = true := h4.2
  have e3 : x = .ref b := gotT (eq_R h1 h2 hx rfl) h
  subst e3
  exact Fld.start ((fld_at ev).symm.trans h1)
set_option maxRecDepth 65536 in
set_option maxHeartbeats 40000000 in
theorem comes_1 {Post : Tables → Env → Array Value → State → Outcome → State → Prop} (hpost : ∀ tb e args s v u, (limb_1_1.after args s (.returned v) u = true ∧ limb_1_2.after args s (.returned v) u = true ∧ True) → FrameEnd s (.returned v) u (Jvm.fieldLocs frame_1_writes args s ++ Jvm.arrayLocs frame_1_arrays args s ++ Jvm.staticLocs frame_1_statics s) 0 0 → Post tb e args s (.returned v) u) :
    ArmFor flags0 classFile x code maxLocals ret World_1 tables_1 room_1 Calls_1 rest_1 Pre_1 Post := by
  intro l hfl _ _ p e ha hc hk s m args below hf hA hF happ hP
  obtain ⟨hcalls, hrest, hpre⟩ := hP
  obtain ⟨-, -, -, hnamed, -, -, -, hat⟩ := (Spec.applies_iff hf).mp happ
  obtain ⟨hg, hn⟩ := and_e (Cond.before_iff.mp (show (Jvm.Cond.and given_1 narrow_1).before args s = true from hpre))
  obtain ⟨j1, j2⟩ := and_e hg
  obtain ⟨j3, j4⟩ := and_e hn
  obtain ⟨j5, j6⟩ := and_e j4
  obtain ⟨j7, j8⟩ := and_e j6
  obtain ⟨j9, j10⟩ := and_e j8
  obtain ⟨j11, j12⟩ := and_e j10
  obtain ⟨j13, j14⟩ := and_e j12
  obtain ⟨j15, j16⟩ := and_e j14
  obtain ⟨j17, j18⟩ := and_e j16
  obtain ⟨j19, j20⟩ := and_e j18
  obtain ⟨j21, j22⟩ := and_e j20
  obtain ⟨j23, j24⟩ := and_e j22
  obtain ⟨w0, rfl⟩ : ∃ w0 : Value, args = #[w0] := by
    have hs : args.size = 1 := by simpa [Cond.value, given_1] using j1
    obtain ⟨L⟩ := args
    match L, hs with
    | [w0], _ => exact ⟨w0, rfl⟩
  have hw := fun d (hd : d ∈ tables_1) => atoms_spec (ws := Jvm.Cond.code x code maxLocals ret :: tables_1) hat d (List.mem_cons_of_mem _ hd)
  have hfit : Fit s := fun {y c} hc i hi => by
    obtain ⟨ha, rfl⟩ := Array.getElem?_eq_some_iff.mp hc
    have q := List.all_eq_true.mp ((Array.all_eq_true_iff_forall_mem.mp hF) _ (Array.getElem_mem ha)) i (List.mem_range.mpr hi)
    simpa [Array.getElem?_eq_getElem hi] using q
  obtain ⟨i0, ei0⟩ := is_v j2
  obtain rfl : w0 = (.int i0) := Option.some.inj ei0
  obtain ⟨w_EQ, ev_w_EQ⟩ := exa_v j3
  have S_EQ := Sta.start ev_w_EQ (Or.inr ⟨(hwi hw 1 rfl), (hwi hw 2 rfl)⟩)
  have E_w_EQ := Exa.start ev_w_EQ j3
  obtain ⟨w_NE, ev_w_NE⟩ := exa_v j7
  have S_NE := Sta.start ev_w_NE (Or.inr ⟨(hwi hw 1 rfl), (hwi hw 18 rfl)⟩)
  have E_w_NE := Exa.start ev_w_NE j7
  obtain ⟨w_LT, ev_w_LT⟩ := exa_v j11
  have S_LT := Sta.start ev_w_LT (Or.inr ⟨(hwi hw 1 rfl), (hwi hw 20 rfl)⟩)
  have E_w_LT := Exa.start ev_w_LT j11
  obtain ⟨w_LE, ev_w_LE⟩ := exa_v j15
  have S_LE := Sta.start ev_w_LE (Or.inr ⟨(hwi hw 1 rfl), (hwi hw 22 rfl)⟩)
  have E_w_LE := Exa.start ev_w_LE j15
  obtain ⟨w_GT, ev_w_GT⟩ := exa_v j19
  have S_GT := Sta.start ev_w_GT (Or.inr ⟨(hwi hw 1 rfl), (hwi hw 24 rfl)⟩)
  have E_w_GT := Exa.start ev_w_GT j19
  obtain ⟨w_GE, ev_w_GE⟩ := exa_v j23
  have S_GE := Sta.start ev_w_GE (Or.inr ⟨(hwi hw 1 rfl), (hwi hw 26 rfl)⟩)
  have E_w_GE := Exa.start ev_w_GE j23
  have F_w_EQ_ordinal := own_fi ev_w_EQ j5
  have F_w_NE_ordinal := own_fi ev_w_NE j9
  have F_w_LT_ordinal := own_fi ev_w_LT j13
  have F_w_LE_ordinal := own_fi ev_w_LE j17
  have F_w_GT_ordinal := own_fi ev_w_GT j21
  have F_w_GE_ordinal := own_fi ev_w_GE j24
  have key : MetFree l x (head1 (Jvm.Cond.code x code maxLocals ret :: tables_1) room_1) (fun a U => a = #[(.int i0)] ∧ s.Warmed39 U.vm ∧ U.heap = s.heap) (fun _ _ _ _ _ => True) (fun _ U o U' => ∃ v L, o = .returned v ∧ Q_law s.heap.size v L ∧ FrameEnd U o U' L room_1.cells room_1.slots) := by
    rcases own_sign i0 with ⟨hlt, heq, hgt⟩ | ⟨hlt, heq, hgt⟩ | ⟨hlt, heq, hgt⟩
    · exact rm_law_neg l s _ hw tables_1 i0 w_EQ w_NE w_LT w_LE w_GT w_GE s.heap s.heap.size (Nat.le_refl _) hlt heq hgt S_EQ (Old.start s) E_w_EQ F_w_EQ_ordinal S_NE E_w_NE F_w_NE_ordinal S_LT E_w_LT F_w_LT_ordinal S_LE E_w_LE F_w_LE_ordinal S_GT E_w_GT F_w_GT_ordinal S_GE E_w_GE F_w_GE_ordinal
    · exact rm_law_zero l s _ hw tables_1 i0 w_EQ w_NE w_LT w_LE w_GT w_GE s.heap s.heap.size (Nat.le_refl _) hlt heq hgt S_EQ (Old.start s) E_w_EQ F_w_EQ_ordinal S_NE E_w_NE F_w_NE_ordinal S_LT E_w_LT F_w_LT_ordinal S_LE E_w_LE F_w_LE_ordinal S_GT E_w_GT F_w_GT_ordinal S_GE E_w_GE F_w_GE_ordinal
    · exact rm_law_pos l s _ hw tables_1 i0 w_EQ w_NE w_LT w_LE w_GT w_GE s.heap s.heap.size (Nat.le_refl _) hlt heq hgt S_EQ (Old.start s) E_w_EQ F_w_EQ_ordinal S_NE E_w_NE F_w_NE_ordinal S_LT E_w_LT F_w_LT_ordinal S_LE E_w_LE F_w_LE_ordinal S_GT E_w_GT F_w_GT_ordinal S_GE E_w_GE F_w_GE_ordinal
  obtain ⟨n, o, h1, h2, h3, _, L, rfl, ⟨rfl, N⟩, hq⟩ := key p e ha hc hk s m _ below hf ((Spec.applies_iff_loose hf).mp happ).1 ⟨rfl, State.Warmed39.refl s, rfl⟩ trivial
  refine ⟨n, _, h1, h2, h3, hpost _ _ _ _ _ _ ⟨Cond.after_iff.mpr rfl, Cond.after_iff.mpr (eq_i res_at (Term.int_eval (1)) rfl), trivial⟩ ⟨hq.1, hq.2.1, (hq.2.2.sift fun y hy => Or.inr (N y hy)).mono (by decide) (by decide)⟩⟩
theorem main_1_1 : Claimed_1_1 := comes_1 fun _ _ _ _ _ _ h hF => ⟨h.1, hF⟩
theorem main_1_2 : Claimed_1_2 := comes_1 fun _ _ _ _ _ _ h hF => ⟨h.2.1, hF⟩
end Jvm.Pilot.@@N@@
namespace Jvm.Pilot.@@N@@
open Jvm Jvm.ClassFile Sem Op Lib Jvm.Free Jvm.Stand Jvm.Pilot.@@N@@.Jvm.D
/-! MADE BY PROGRAM (witnessworld.py) out of the Statement's table words and the real class files: 10 classes; the members and pool entries that the words name. The judged class is class 1, her method 1. -/
namespace start1
open Jvm.ClassFile
def u (s : String) : CpInfo := .utf8 (stringToUtf16 s)
/-- a pool by its gaps: so many unusable entries, then the entry; so many at the end -/
def gap : Nat → List CpInfo → List CpInfo
  | 0, r => r
  | n + 1, r => .unusable :: gap n r
def poolList (es : List (Nat × CpInfo)) (last : Nat) : List CpInfo := es.foldr (fun e r => gap e.1 (e.2 :: r)) (gap last [])
def pool (es : List (Nat × CpInfo)) (last : Nat) : Array CpInfo := ⟨poolList es last⟩
def fileOf (pool : Array CpInfo) (this : Nat) (attrs : Array Attribute := #[]) (ms : Array MethodInfo := #[]) (fl : Nat := 33) (sup : Nat := 0) (ifs : Array Nat := #[]) (fds : Array FieldInfo := #[]) : ClassFile where
  minorVersion := 0
  majorVersion := 65
  constantPool := pool
  accessFlags := fl
  thisClass := this
  superClass := sup
  interfaces := ifs
  fields := fds
  methods := ms
  attributes := attrs
def plain (name : String) (sup : Option ClassId) : Class where
  name := name
  kind := .ordinary
  loader := none
  accessFlags := 33
  super := sup
  interfaces := #[]
  cf := none
  fields := #[]
  methods := #[]
  instanceTypes := #[]
  staticTypes := #[]
  resolved := #[]
  callSites := []
  init := .initialized
  statics := none
  mirror := none

def pool0 : Array CpInfo := pool [(5, u "<init>"), (0, u "()V"), (1, .class_ 10), (1, u "java/lang/Object")] 113

def k0m0 : Method := { name := "<init>", desc := "()V", sig := { parameters := [], returnType := none }, accessFlags := 1, code := none }
/-- java/lang/Object -/
def k0 : Class := { plain "java/lang/Object" none with
  accessFlags := 33
  interfaces := #[]
  cf := some (fileOf pool0 8 #[] #[{ accessFlags := 1, nameIndex := 5, descriptorIndex := 6, attributes := #[] }] 33 0 #[] #[])
  fields := #[]
  methods := #[k0m0]
  instanceTypes := #[]
  staticTypes := #[]
  resolved := Array.replicate 124 none
  statics := none }

def pool1 : Array CpInfo := pool [(2, .class_ 4), (1, u "java/lang/Object"), (0, u "<init>"), (0, u "()V"), (0, .fieldref 8 9), (0, .class_ 10), (0, .nameAndType 11 12), (0, u "com/example/sunder/sunder/Operator"), (0, u "EQ"), (0, u "Lcom/example/sunder/sunder/Operator;"), (0, .methodref 8 14), (0, .nameAndType 15 16), (0, u "holds"), (0, u "(I)Z"), (0, .fieldref 8 18), (0, .nameAndType 19 12), (0, u "NE"), (0, .fieldref 8 21), (0, .nameAndType 22 12), (0, u "LT"), (0, .fieldref 8 24), (0, .nameAndType 25 12), (0, u "LE"), (0, .fieldref 8 27), (0, .nameAndType 28 12), (0, u "GT"), (0, .fieldref 8 30), (0, .nameAndType 31 12), (0, u "GE"), (0, .class_ 33), (0, u "com/example/sunder/sunder/OperatorHoldsPinLaw"), (2, u "law")] 3

def k1m0 : Method := { name := "<init>", desc := "()V", sig := { parameters := [], returnType := none }, accessFlags := 2, code := none }
def k1c1 : Code := { maxStack := 2, maxLocals := 12, code := code, exceptionTable := #[], attributes := #[] }
def k1m1 : Method := { name := "law", desc := "(I)Z", sig := { parameters := [.int], returnType := some .boolean }, accessFlags := 9, code := some k1c1 }
/-- com/example/sunder/sunder/OperatorHoldsPinLaw -/
def k1 : Class := { plain "com/example/sunder/sunder/OperatorHoldsPinLaw" (some 0) with
  accessFlags := 49
  interfaces := #[]
  cf := some (fileOf pool1 32 #[] #[{ accessFlags := 2, nameIndex := 5, descriptorIndex := 6, attributes := #[] }, { accessFlags := 9, nameIndex := 36, descriptorIndex := 16, attributes := #[] }] 49 2 #[] #[])
  fields := #[]
  methods := #[k1m0, k1m1]
  instanceTypes := #[]
  staticTypes := #[]
  resolved := Array.replicate 40 none
  statics := none }

def pool2 : Array CpInfo := pool [(1, .class_ 2), (0, u "java/lang/constant/Constable"), (0, .class_ 4), (0, u "java/lang/Object")] 6

/-- java/lang/constant/Constable -/
def k2 : Class := { plain "java/lang/constant/Constable" (some 0) with
  accessFlags := 1537
  interfaces := #[]
  cf := some (fileOf pool2 1 #[] #[] 1537 3 #[] #[])
  fields := #[]
  methods := #[]
  instanceTypes := #[]
  staticTypes := #[]
  resolved := Array.replicate 11 none
  statics := none }

def pool3 : Array CpInfo := pool [(1, .class_ 2), (0, u "java/lang/Comparable"), (0, .class_ 4), (0, u "java/lang/Object")] 7

/-- java/lang/Comparable -/
def k3 : Class := { plain "java/lang/Comparable" (some 0) with
  accessFlags := 1537
  interfaces := #[]
  cf := some (fileOf pool3 1 #[] #[] 1537 3 #[] #[])
  fields := #[]
  methods := #[]
  instanceTypes := #[]
  staticTypes := #[]
  resolved := Array.replicate 12 none
  statics := none }

def pool4 : Array CpInfo := pool [(1, .class_ 2), (0, u "java/io/Serializable"), (0, .class_ 4), (0, u "java/lang/Object")] 2

/-- java/io/Serializable -/
def k4 : Class := { plain "java/io/Serializable" (some 0) with
  accessFlags := 1537
  interfaces := #[]
  cf := some (fileOf pool4 1 #[] #[] 1537 3 #[] #[])
  fields := #[]
  methods := #[]
  instanceTypes := #[]
  staticTypes := #[]
  resolved := Array.replicate 7 none
  statics := none }

def pool5 : Array CpInfo := pool [(2, .class_ 4), (1, u "java/lang/Enum"), (0, u "name"), (0, u "Ljava/lang/String;"), (0, .fieldref 2 8), (0, .nameAndType 9 10), (0, u "ordinal"), (0, u "I"), (1, .class_ 14), (1, u "java/lang/Object"), (4, u "hash"), (86, .class_ 108), (1, u "java/lang/Enum$EnumDesc"), (2, .class_ 112), (0, u "java/lang/constant/Constable"), (0, .class_ 114), (0, u "java/lang/Comparable"), (0, .class_ 116), (0, u "java/io/Serializable"), (9, u "()I")] 77

def k5c0 : Code := { maxStack := 1, maxLocals := 1, code := jdk_37_method_2_code, exceptionTable := #[], attributes := #[] }
def k5m0 : Method := { name := "ordinal", desc := "()I", sig := { parameters := [], returnType := some .int }, accessFlags := 17, code := some k5c0 }
/-- java/lang/Enum -/
def k5 : Class := { plain "java/lang/Enum" (some 0) with
  accessFlags := 1057
  interfaces := #[2, 3, 4]
  cf := some (fileOf pool5 2 #[.nestMembers #[106]] #[{ accessFlags := 17, nameIndex := 9, descriptorIndex := 126, attributes := #[] }] 1057 12 #[111, 113, 115] #[{ accessFlags := 18, nameIndex := 5, descriptorIndex := 6, attributes := #[] }, { accessFlags := 18, nameIndex := 9, descriptorIndex := 10, attributes := #[] }, { accessFlags := 2, nameIndex := 19, descriptorIndex := 10, attributes := #[] }])
  fields := #[{ name := "name", type := (.object "java/lang/String"), accessFlags := 18, slot := 0, constantValue := 0 }, { name := "ordinal", type := .int, accessFlags := 18, slot := 1, constantValue := 0 }, { name := "hash", type := .int, accessFlags := 2, slot := 2, constantValue := 0 }]
  methods := #[k5m0]
  instanceTypes := #[(.object "java/lang/String"), .int, .int]
  staticTypes := #[]
  resolved := Array.replicate 204 none
  statics := none }

def pool6 : Array CpInfo := pool [(1, .class_ 2), (0, u "com/example/sunder/sunder/Operator"), (2, u "EQ"), (0, u "Lcom/example/sunder/sunder/Operator;"), (2, u "NE"), (2, u "LT"), (2, u "LE"), (2, u "GT"), (2, u "GE"), (2, u "$VALUES"), (0, u "[Lcom/example/sunder/sunder/Operator;"), (6, .class_ 34), (1, u "java/lang/Enum"), (8, u "symbol"), (0, u "Ljava/lang/String;"), (0, .methodref 1 46), (0, .nameAndType 47 48), (0, u "ordinal"), (0, u "()I"), (38, u "holds"), (0, u "(I)Z")] 6

def k6c0 : Code := { maxStack := 3, maxLocals := 3, code := prog_30_method_5_code, exceptionTable := #[], attributes := #[] }
def k6m0 : Method := { name := "holds", desc := "(I)Z", sig := { parameters := [.int], returnType := some .boolean }, accessFlags := 0, code := some k6c0 }
/-- com/example/sunder/sunder/Operator -/
def k6 : Class := { plain "com/example/sunder/sunder/Operator" (some 5) with
  accessFlags := 16433
  interfaces := #[]
  cf := some (fileOf pool6 1 #[] #[{ accessFlags := 0, nameIndex := 87, descriptorIndex := 88, attributes := #[] }] 16433 32 #[] #[{ accessFlags := 16409, nameIndex := 5, descriptorIndex := 6, attributes := #[] }, { accessFlags := 16409, nameIndex := 9, descriptorIndex := 6, attributes := #[] }, { accessFlags := 16409, nameIndex := 12, descriptorIndex := 6, attributes := #[] }, { accessFlags := 16409, nameIndex := 15, descriptorIndex := 6, attributes := #[] }, { accessFlags := 16409, nameIndex := 18, descriptorIndex := 6, attributes := #[] }, { accessFlags := 16409, nameIndex := 21, descriptorIndex := 6, attributes := #[] }, { accessFlags := 18, nameIndex := 43, descriptorIndex := 44, attributes := #[] }, { accessFlags := 4122, nameIndex := 24, descriptorIndex := 25, attributes := #[] }])
  fields := #[{ name := "EQ", type := (.object "com/example/sunder/sunder/Operator"), accessFlags := 16409, slot := 0, constantValue := 0 }, { name := "NE", type := (.object "com/example/sunder/sunder/Operator"), accessFlags := 16409, slot := 1, constantValue := 0 }, { name := "LT", type := (.object "com/example/sunder/sunder/Operator"), accessFlags := 16409, slot := 2, constantValue := 0 }, { name := "LE", type := (.object "com/example/sunder/sunder/Operator"), accessFlags := 16409, slot := 3, constantValue := 0 }, { name := "GT", type := (.object "com/example/sunder/sunder/Operator"), accessFlags := 16409, slot := 4, constantValue := 0 }, { name := "GE", type := (.object "com/example/sunder/sunder/Operator"), accessFlags := 16409, slot := 5, constantValue := 0 }, { name := "symbol", type := (.object "java/lang/String"), accessFlags := 18, slot := 3, constantValue := 0 }, { name := "$VALUES", type := (.array (.object "com/example/sunder/sunder/Operator")), accessFlags := 4122, slot := 6, constantValue := 0 }]
  methods := #[k6m0]
  instanceTypes := #[(.object "java/lang/String"), .int, .int, (.object "java/lang/String")]
  staticTypes := #[(.object "com/example/sunder/sunder/Operator"), (.object "com/example/sunder/sunder/Operator"), (.object "com/example/sunder/sunder/Operator"), (.object "com/example/sunder/sunder/Operator"), (.object "com/example/sunder/sunder/Operator"), (.object "com/example/sunder/sunder/Operator"), (.array (.object "com/example/sunder/sunder/Operator"))]
  resolved := Array.replicate 95 none
  statics := some 0 }

def pool7 : Array CpInfo := pool [(1, u "java/lang/Cloneable"), (0, .class_ 1), (0, u "java/lang/Object"), (0, .class_ 3)] 3

/-- java/lang/Cloneable -/
def k7 : Class := { plain "java/lang/Cloneable" (some 0) with
  accessFlags := 1537
  interfaces := #[]
  cf := some (fileOf pool7 2 #[] #[] 1537 4 #[] #[])
  fields := #[]
  methods := #[]
  instanceTypes := #[]
  staticTypes := #[]
  resolved := Array.replicate 8 none
  statics := none }

/-- the primitive byte -/
def k8 : Class := { plain "byte" none with kind := .primitive 'B', accessFlags := 0x411 }
/-- [B -/
def k9 : Class := { plain "[B" (some 0) with kind := .array 8 .byte, interfaces := #[7, 4], accessFlags := 1041 }

def heap : Heap := #[{ cls := 6, slots := #[.ref 1, .ref 2, .ref 3, .ref 4, .ref 5, .ref 6, .null], vm := .statics 6 },
  { cls := 6, slots := #[.null, .int 0, .int 0, .null], vm := .none },
  { cls := 6, slots := #[.null, .int 1, .int 0, .null], vm := .none },
  { cls := 6, slots := #[.null, .int 2, .int 0, .null], vm := .none },
  { cls := 6, slots := #[.null, .int 3, .int 0, .null], vm := .none },
  { cls := 6, slots := #[.null, .int 4, .int 0, .null], vm := .none },
  { cls := 6, slots := #[.null, .int 5, .int 0, .null], vm := .none }]
def classes : Array Class := #[k0, k1, k2, k3, k4, k5, k6, k7, k8, k9]
def interned : List (Array UInt16 × Addr) := []
def slotsUsed : Nat := 31
def theMethod : MethodId := ⟨1, 1⟩
def args0 : Array Value := #[.int 5]
def aboutOver (below : List Frame) : State where
  vm := { classes := classes, interned := interned.toArray }
  heap := heap
  slotsUsed := slotsUsed
  threads := #[{ frames := .invoking theMethod args0 :: below }]
def below0 : List Frame := [.native { method := ⟨0, 0⟩, args := #[] }]
def about1 : State := aboutOver below0
def p0 : Program := .bare "" "" ""
def e0 : Env := launch0.env 0 0 0
theorem w_frames : about1.frames = Frame.invoking theMethod args0 :: below0 := rfl
set_option maxRecDepth 65536 in
theorem w_args : argsFit about1.vm theMethod args0 = true := by decide +kernel
set_option maxRecDepth 65536 in
theorem w_heap : heapFits about1 = true := by decide +kernel
set_option maxRecDepth 65536 in
theorem w_runnable : about1.curStatus? = some .runnable := by decide +kernel
set_option maxRecDepth 65536 in
theorem w_alone : about1.alone = true := by decide +kernel
set_option maxRecDepth 65536 in
theorem w_named : about1.methodNamed? x = some theMethod := by decide +kernel
set_option maxRecDepth 65536 in
theorem w_hears : about1.hears theMethod below0 = true := by decide +kernel
set_option maxRecDepth 65536 in
theorem w_ripe : about1.ripe theMethod args0 below0 = true := by decide +kernel
theorem w_running : about1.status = .running := rfl
set_option maxRecDepth 65536 in
theorem w_room : about1.hasRoom e0.platform room_1 = true :=
  launch0.hasRoom_least _ room_1 (by decide +kernel) (by decide +kernel) (by decide +kernel) (by decide +kernel) (by decide +kernel) (by decide +kernel)
theorem allAtoms_all (ts : List Jvm.Cond) (a : Array Jvm.Value) (st : Jvm.State) : (allAtoms ts).before a st = ts.all (fun c => c.before a st) := by
  induction ts with
  | nil => rfl
  | cons c t ih =>
    show (Jvm.Cond.and c (allAtoms t)).before a st = _
    rw [Jvm.Cond.before_and, ih, List.all_cons]
def words1 : List Jvm.Cond := Jvm.Cond.code x code maxLocals ret :: tables_1
/-- a 'code' word, met by the world's own term for the bytes: nothing is compared byte by byte -/
theorem code_word {y : MethodName} {bytes : ByteArray} {mx : Nat} {rt : Option FieldType} {a : Array Value} {s : State} {m : MethodId} {meth : Method} {c : Code} (h1 : s.methodNamed? y = some m) (h2 : s.vm.method? m = some meth) (h3 : meth.code = some c) (h4 : c.code = bytes)
    (h5 : (c.maxLocals == mx && c.exceptionTable.isEmpty && decide (c.maxStack ≤ mostOperands) && decide (meth.sig.returnType = rt) && !meth.locks && decide (parseMethodDescriptor y.desc = some meth.sig)) = true) : (Jvm.Cond.code y bytes mx rt).before a s = true := by
  simp only [Bool.and_eq_true, beq_iff_eq, Bool.not_eq_true', decide_eq_true_eq] at h5
  obtain ⟨⟨⟨⟨⟨g1, g2⟩, g3⟩, g4⟩, g5⟩, g6⟩ := h5
  simp [Cond.before, Cond.holds, Cond.value, h1, h2, h3, h4, g1, g2, g3, g4, g5, g6]
def isCode : Jvm.Cond → Bool
  | .code _ _ _ _ => true
  | _ => false
theorem all_split {L : List Jvm.Cond} {P : Jvm.Cond → Bool} (h1 : L.all (fun c => isCode c || P c) = true) (h2 : ∀ c ∈ L.filter isCode, P c = true) : L.all P = true := by
  refine List.all_eq_true.mpr fun c hc => ?_
  have h := List.all_eq_true.mp h1 c hc
  rcases Bool.eq_false_or_eq_true (isCode c) with hi | hi
  · exact h2 c (List.mem_filter.mpr ⟨hc, hi⟩)
  · simpa [hi] using h
set_option maxRecDepth 65536 in
theorem w_c0 : (Jvm.Cond.code x code maxLocals ret).before args0 about1 = true := code_word (m := ⟨1, 1⟩) (meth := k1m1) (c := k1c1) (by decide +kernel) rfl rfl rfl (by decide +kernel)
set_option maxRecDepth 65536 in
theorem w_c1 : (Jvm.Cond.code ({ cls := "com/example/sunder/sunder/Operator", name := "holds", desc := "(I)Z" } : Jvm.MethodName) prog_30_method_5_code (3 : Nat) (Option.some Jvm.ClassFile.FieldType.boolean)).before args0 about1 = true := code_word (m := ⟨6, 0⟩) (meth := k6m0) (c := k6c0) (by decide +kernel) rfl rfl rfl (by decide +kernel)
set_option maxRecDepth 65536 in
theorem w_c2 : (Jvm.Cond.code ({ cls := "java/lang/Enum", name := "ordinal", desc := "()I" } : Jvm.MethodName) jdk_37_method_2_code (1 : Nat) (Option.some Jvm.ClassFile.FieldType.int)).before args0 about1 = true := code_word (m := ⟨5, 0⟩) (meth := k5m0) (c := k5c0) (by decide +kernel) rfl rfl rfl (by decide +kernel)
def codes1 : List Jvm.Cond := [Jvm.Cond.code x code maxLocals ret, Jvm.Cond.code ({ cls := "com/example/sunder/sunder/Operator", name := "holds", desc := "(I)Z" } : Jvm.MethodName) prog_30_method_5_code (3 : Nat) (Option.some Jvm.ClassFile.FieldType.boolean), Jvm.Cond.code ({ cls := "java/lang/Enum", name := "ordinal", desc := "()I" } : Jvm.MethodName) jdk_37_method_2_code (1 : Nat) (Option.some Jvm.ClassFile.FieldType.int)]
set_option maxRecDepth 65536 in
theorem codes_eq : words1.filter isCode = codes1 := rfl
theorem w_codes : ∀ c ∈ words1.filter isCode, c.before args0 about1 = true := by
  rw [codes_eq]
  intro c hc
  simp only [codes1, List.mem_cons, List.not_mem_nil, or_false] at hc
  rcases hc with rfl | rfl | rfl
  · exact w_c0
  · exact w_c1
  · exact w_c2
set_option maxRecDepth 65536 in
theorem w_t1 : (words1.take 24).all (fun c => isCode c || c.before args0 about1) = true := by decide +kernel
set_option maxRecDepth 65536 in
theorem w_t2 : (words1.drop 24).all (fun c => isCode c || c.before args0 about1) = true := by decide +kernel
theorem w_tables : (allAtoms (Jvm.Cond.code x code maxLocals ret :: tables_1)).before args0 about1 = true := by
  rw [allAtoms_all]
  show words1.all (fun c => c.before args0 about1) = true
  refine all_split ?_ w_codes
  rw [← List.take_append_drop 24 words1, List.all_append, w_t1, w_t2]
  rfl
set_option maxRecDepth 65536 in
theorem w_case : (Jvm.Cond.and given_1 narrow_1).before args0 about1 = true := by decide +kernel
theorem w_applies : (headSpec (Jvm.Cond.code x code maxLocals ret :: tables_1) room_1).applies x e0.platform about1 = true :=
  (Spec.applies_iff w_frames).mpr ⟨w_running, w_runnable, w_alone, w_named, w_hears, w_ripe, w_room, w_tables⟩
theorem atStart : AtStart classFile x code maxLocals ret World_1 tables_1 room_1 Calls_1 rest_1 Pre_1 launch0 p0 e0 about1 theMethod args0 below0 :=
  ⟨lists_1, trivial, launch0.admits_env _ _ _, launch0.least_env, fairChoices_fair.cas, fairChoices_fair.clock, w_frames, w_args, w_heap, w_applies, trivial, trivial, w_case⟩
end start1
theorem witness_1 : WitnessClaimed_1 := ⟨start1.p0, start1.e0, start1.about1, start1.theMethod, start1.args0, start1.below0, start1.atStart⟩
end Jvm.Pilot.@@N@@
