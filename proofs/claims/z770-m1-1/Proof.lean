import JvmDerived
import JvmDerived.Pilot.@@N@@Statement
import JvmDerived.Pilot.@@N@@Code
set_option linter.unusedVariables false
set_option linter.unusedSimpArgs false
namespace Jvm.RoadKit
open Sem ClassFile Op Lib Jvm.Stand Jvm.Free Jvm.LawKit
section New
variable {p : Program} {l : Launch} {e : Env} {R : Room} {s : State} {m : MethodId} {args : Array Value} {below : List Frame} {meth : Method} {c : Code} {T : State} {locs : List Loc} {cells slots : Nat}
theorem retI (X : Stand p l e R s m args below meth c T locs cells slots) (hx : p.tables.exec = Jvm.exec) {pc : Nat} {Ls : Array Slot} {z : Int32} {rest : List Value} (hret : meth.sig.returnType = some .int) (hd : decode c.code pc = .ok (.ireturn, 1)) {fs : List Frame}
    (hl : ∀ (f : JFrame) (acts : List Action), f.method = m → f.locked = none → f.entered = [] → (doReturn e (T.setTop f) acts (some (.int z))).1 = T.setFrames fs) : Steps p.tables e below (T.setTop (mkF m pc Ls (.int z :: rest))) (T.setFrames fs) := by
  have hm' : T.vm.method? m = some meth := X.method'
  have hn : narrow .int (.int z) = .int z := rfl
  show Steps p.tables e below (T.setTop { method := m, pc := pc, locals := Ls, stack := _ :: rest, locked := none }) _
  jvm_step X.here [X.here.top, hx, hd, hm', hret, hn]
  first | (intro acts; rw [hl _ acts rfl rfl rfl]) | rw [hl _ _ rfl rfl rfl]
  exact Steps.refl _
end New
end Jvm.RoadKit
namespace Jvm.Pilot.@@N@@
open Jvm Jvm.ClassFile Sem Op Lib Jvm.Free Jvm.Stand Jvm.LawKit Jvm.RoadKit Bundle Jvm.Pilot.@@N@@.Jvm.D
abbrev St (p : Program) (e : Env) (below : List Frame) (T : State) (g : JFrame) (t : State) : Prop := Steps p.tables e below (T.setTop g) t
theorem hwi {Z : State} {a0 : Array Value} (hw : ∀ d ∈ tables_1, d.before a0 Z = true) (i : Nat) {d : Jvm.Cond} (h : tables_1[i]? = some d) : d.before a0 Z = true := hw d (List.mem_of_getElem? h)
theorem ltN {a b : Nat} (h : a < b) : a < b := h
theorem neN {a b : Nat} (h : ¬ (a = b)) : ¬ (a = b) := h
def own_ct (w_INTEGER w_DECIMAL w_FLOAT w_BOOLEAN w_TEXT w_OTHER : Addr) (x : Int32) : Addr := if x = (-6 : Int32) ∨ x = (5 : Int32) ∨ x = (4 : Int32) ∨ x = (-5 : Int32) then w_INTEGER else if x = (2 : Int32) ∨ x = (3 : Int32) then w_DECIMAL else if x = (7 : Int32) ∨ x = (6 : Int32) ∨ x = (8 : Int32) then w_FLOAT else if x = (-7 : Int32) ∨ x = (16 : Int32) then w_BOOLEAN else if x = (1 : Int32) ∨ x = (12 : Int32) ∨ x = (-1 : Int32) ∨ x = (-15 : Int32) ∨ x = (-9 : Int32) ∨ x = (-16 : Int32) ∨ x = (2005 : Int32) ∨ x = (2011 : Int32) then w_TEXT else w_OTHER
theorem d2_0 : decode prog_159_method_4_code 0 = .ok (.iload_n 0, 1) := by decide +kernel
theorem d2_1 : decode prog_159_method_4_code 1 = .ok (.lookupswitch 193 #[((-16), 187), ((-15), 187), ((-9), 187), ((-7), 181), ((-6), 163), ((-5), 163), ((-1), 187), (1, 187), (2, 169), (3, 169), (4, 163), (5, 163), (6, 175), (7, 175), (8, 175), (12, 187), (16, 181), (2005, 187), (2011, 187)], 163) := by decide +kernel
theorem d2_164 : decode prog_159_method_4_code 164 = .ok (.getstatic 3, 3) := by decide +kernel
theorem d2_167 : decode prog_159_method_4_code 167 = .ok (.goto 30, 3) := by decide +kernel
theorem d2_197 : decode prog_159_method_4_code 197 = .ok (.areturn, 1) := by decide +kernel
theorem pn_2 : plainName "com/example/commitgate/commitgate/store/ColumnType" = true := by first | (simp [plainName, overriddenIn]; done) | decide +kernel
theorem ef_2_I (m : MethodId) (x0 : Int32) : entryFrame m #[(.int x0)] 1 = mkF m 0 #[.val (.int x0)] [] := by first | (simp [entryFrame, mkF, argsToLocals, Value.category]; done) | rfl
def Q_ct (w_INTEGER w_DECIMAL w_FLOAT w_BOOLEAN w_TEXT w_OTHER : Addr) (p1 : Int32) (h0 : Heap) (n0 : Nat) (v : Option Value) (h : Heap) (L : List Loc) : Prop := v = some (.ref (own_ct w_INTEGER w_DECIMAL w_FLOAT w_BOOLEAN w_TEXT w_OTHER p1)) ∧ Fr n0 L ∧ h = h0
set_option maxRecDepth 65536 in
set_option maxHeartbeats 40000000 in
theorem rm_of_m6 (l : Launch) (Z : State) (a0 : Array Value) (hw : ∀ d ∈ tables_1, d.before a0 Z = true) (ws : List Jvm.Cond) (w_INTEGER : Addr) (w_DECIMAL : Addr) (w_FLOAT : Addr) (w_BOOLEAN : Addr) (w_TEXT : Addr) (w_OTHER : Addr) (h0 : Heap) (n0 : Nat) (Z0 : n0 ≤ h0.size) (S_INTEGER : Sta Z Z.heap "com/example/commitgate/commitgate/store/ColumnType" "INTEGER" "Lcom/example/commitgate/commitgate/store/ColumnType;" (.ref w_INTEGER)) (S_DECIMAL : Sta Z Z.heap "com/example/commitgate/commitgate/store/ColumnType" "DECIMAL" "Lcom/example/commitgate/commitgate/store/ColumnType;" (.ref w_DECIMAL)) (S_FLOAT : Sta Z Z.heap "com/example/commitgate/commitgate/store/ColumnType" "FLOAT" "Lcom/example/commitgate/commitgate/store/ColumnType;" (.ref w_FLOAT)) (S_BOOLEAN : Sta Z Z.heap "com/example/commitgate/commitgate/store/ColumnType" "BOOLEAN" "Lcom/example/commitgate/commitgate/store/ColumnType;" (.ref w_BOOLEAN)) (S_TEXT : Sta Z Z.heap "com/example/commitgate/commitgate/store/ColumnType" "TEXT" "Lcom/example/commitgate/commitgate/store/ColumnType;" (.ref w_TEXT)) (S_OTHER : Sta Z Z.heap "com/example/commitgate/commitgate/store/ColumnType" "OTHER" "Lcom/example/commitgate/commitgate/store/ColumnType;" (.ref w_OTHER)) (O0 : Old Z n0 h0) :
    MetFree l (⟨"com/example/commitgate/commitgate/store/ColumnType", "of", "(I)Lcom/example/commitgate/commitgate/store/ColumnType;"⟩ : MethodName) (head1 (Jvm.Cond.code (⟨"com/example/commitgate/commitgate/store/ColumnType", "of", "(I)Lcom/example/commitgate/commitgate/store/ColumnType;"⟩ : MethodName) prog_159_method_4_code 1 (some (.object "com/example/commitgate/commitgate/store/ColumnType")) :: ws) ({ frames := 0, cells := 0, slots := 0, locals := 0 } : Room)) (fun a U => a = #[(.int (-6))] ∧ Z.Warmed39 U.vm ∧ U.heap = h0) (fun _ _ _ _ _ => True) (fun _ U o U' => ∃ v L, o = .returned v ∧ Q_ct w_INTEGER w_DECIMAL w_FLOAT w_BOOLEAN w_TEXT w_OTHER (-6 : Int32) h0 n0 v U'.heap L ∧ FrameEnd U o U' L ({ frames := 0, cells := 0, slots := 0, locals := 0 } : Room).cells ({ frames := 0, cells := 0, slots := 0, locals := 0 } : Room).slots) := by
  refine MetFree.of_bodySF (plainFor_of_name pn_2) hisR ?_
  intro p e s m args below meth c s₁ Bd hml0 hP hK
  obtain ⟨rfl, hZ, hh⟩ := hP
  have hx := Bd.exec
  have hby := Bd.bytes
  have hml : c.maxLocals = 1 := hml0
  have hown : s.vm.findClass "com/example/commitgate/commitgate/store/ColumnType" = some m.cls := findClass_of_methodNamed Bd.named
  have hnm := (name_of_methodNamed Bd.named Bd.method).1
  have X0 : Stand p l e ({ frames := 0, cells := 0, slots := 0, locals := 0 } : Room) s m #[(.int (-6))] below meth c s₁ [] 0 0 := Stand.of_body Bd
  have e0 : s₁.heap = h0 := by rw [← hh, Bd.state]; rfl
  have N0 := Fr.nil n0
  have pre0 : ∀ t, Steps p.tables e below (s₁.setTop (mkF m 0 #[.val (.int (-6))] [])) t → Steps p.tables e below (s₁.setTop (entryFrame m #[(.int (-6))] 1)) t := fun t k => castTop (ef_2_I m (-6 : Int32)) k
  obtain ⟨T1, X1, e1, st1⟩ := getS2 X0 hx hZ hown (host := "") (Or.inl (hwi hw 12 rfl)) Via.refl e0 (S_INTEGER.ext O0.2) (g := (mkF m 164 #[.val (.int (-6))] [])) rfl (hb hby d2_164)
  obtain ⟨fs, hr, hrun, hended, hW, hsame⟩ := X1.leave (v := some (.ref w_INTEGER)) (fun h => by rw [Bd.returns] at h; cases h)
  refine ⟨_, _, pre0 _ ?_, hrun, hended, _, _, rfl, ?_, ⟨_, rfl⟩, hW, hsame.mono (by decide) (by decide)⟩
  · show St p e below s₁ (mkF m 0 #[.val (.int (-6))] []) _
    refine XS.iloadN X0.here hx rfl (hb hby d2_0) rfl ?_
    show St p e below s₁ (mkF m 1 #[.val (.int (-6))] [(.int (-6))]) _
    refine X0.lookupswitchHit hx (g := (mkF m 1 #[.val (.int (-6))] [(.int (-6))])) rfl rfl (hb hby d2_1) (by decide) (a := (-6)) (off := 163) (by decide) (by show (0 : Int) ≤ ((1 : Nat) : Int) + 163; decide) _ ?_
    show St p e below s₁ (mkF m 164 #[.val (.int (-6))] []) _
    refine st1 _ ?_
    show St p e below T1 (mkF m 167 #[.val (.int (-6))] [(.ref w_INTEGER)]) _
    refine XS.goto X1.here hx rfl (pc0 := 167) (pc' := 197) rfl (hb hby d2_167) (by decide) (by decide) ?_
    show St p e below T1 (mkF m 197 #[.val (.int (-6))] [(.ref w_INTEGER)]) _
    jvm_step X1.here [X1.here.top, hx, (hb hby d2_197), X1.method', Bd.returns, Value.isRef, FieldType.isReference]
    first | (intro acts; rw [hr _ acts rfl rfl rfl]) | rw [hr _ _ rfl rfl rfl]
    exact Steps.refl _
  · show Q_ct w_INTEGER w_DECIMAL w_FLOAT w_BOOLEAN w_TEXT w_OTHER (-6 : Int32) h0 n0 _ T1.heap _
    rw [e1]
    exact ⟨by rfl, N0, rfl⟩
set_option maxRecDepth 65536 in
set_option maxHeartbeats 40000000 in
theorem rm_of_5 (l : Launch) (Z : State) (a0 : Array Value) (hw : ∀ d ∈ tables_1, d.before a0 Z = true) (ws : List Jvm.Cond) (w_INTEGER : Addr) (w_DECIMAL : Addr) (w_FLOAT : Addr) (w_BOOLEAN : Addr) (w_TEXT : Addr) (w_OTHER : Addr) (h0 : Heap) (n0 : Nat) (Z0 : n0 ≤ h0.size) (S_INTEGER : Sta Z Z.heap "com/example/commitgate/commitgate/store/ColumnType" "INTEGER" "Lcom/example/commitgate/commitgate/store/ColumnType;" (.ref w_INTEGER)) (S_DECIMAL : Sta Z Z.heap "com/example/commitgate/commitgate/store/ColumnType" "DECIMAL" "Lcom/example/commitgate/commitgate/store/ColumnType;" (.ref w_DECIMAL)) (S_FLOAT : Sta Z Z.heap "com/example/commitgate/commitgate/store/ColumnType" "FLOAT" "Lcom/example/commitgate/commitgate/store/ColumnType;" (.ref w_FLOAT)) (S_BOOLEAN : Sta Z Z.heap "com/example/commitgate/commitgate/store/ColumnType" "BOOLEAN" "Lcom/example/commitgate/commitgate/store/ColumnType;" (.ref w_BOOLEAN)) (S_TEXT : Sta Z Z.heap "com/example/commitgate/commitgate/store/ColumnType" "TEXT" "Lcom/example/commitgate/commitgate/store/ColumnType;" (.ref w_TEXT)) (S_OTHER : Sta Z Z.heap "com/example/commitgate/commitgate/store/ColumnType" "OTHER" "Lcom/example/commitgate/commitgate/store/ColumnType;" (.ref w_OTHER)) (O0 : Old Z n0 h0) :
    MetFree l (⟨"com/example/commitgate/commitgate/store/ColumnType", "of", "(I)Lcom/example/commitgate/commitgate/store/ColumnType;"⟩ : MethodName) (head1 (Jvm.Cond.code (⟨"com/example/commitgate/commitgate/store/ColumnType", "of", "(I)Lcom/example/commitgate/commitgate/store/ColumnType;"⟩ : MethodName) prog_159_method_4_code 1 (some (.object "com/example/commitgate/commitgate/store/ColumnType")) :: ws) ({ frames := 0, cells := 0, slots := 0, locals := 0 } : Room)) (fun a U => a = #[(.int 5)] ∧ Z.Warmed39 U.vm ∧ U.heap = h0) (fun _ _ _ _ _ => True) (fun _ U o U' => ∃ v L, o = .returned v ∧ Q_ct w_INTEGER w_DECIMAL w_FLOAT w_BOOLEAN w_TEXT w_OTHER (5 : Int32) h0 n0 v U'.heap L ∧ FrameEnd U o U' L ({ frames := 0, cells := 0, slots := 0, locals := 0 } : Room).cells ({ frames := 0, cells := 0, slots := 0, locals := 0 } : Room).slots) := by
  refine MetFree.of_bodySF (plainFor_of_name pn_2) hisR ?_
  intro p e s m args below meth c s₁ Bd hml0 hP hK
  obtain ⟨rfl, hZ, hh⟩ := hP
  have hx := Bd.exec
  have hby := Bd.bytes
  have hml : c.maxLocals = 1 := hml0
  have hown : s.vm.findClass "com/example/commitgate/commitgate/store/ColumnType" = some m.cls := findClass_of_methodNamed Bd.named
  have hnm := (name_of_methodNamed Bd.named Bd.method).1
  have X0 : Stand p l e ({ frames := 0, cells := 0, slots := 0, locals := 0 } : Room) s m #[(.int 5)] below meth c s₁ [] 0 0 := Stand.of_body Bd
  have e0 : s₁.heap = h0 := by rw [← hh, Bd.state]; rfl
  have N0 := Fr.nil n0
  have pre0 : ∀ t, Steps p.tables e below (s₁.setTop (mkF m 0 #[.val (.int 5)] [])) t → Steps p.tables e below (s₁.setTop (entryFrame m #[(.int 5)] 1)) t := fun t k => castTop (ef_2_I m (5 : Int32)) k
  obtain ⟨T1, X1, e1, st1⟩ := getS2 X0 hx hZ hown (host := "") (Or.inl (hwi hw 12 rfl)) Via.refl e0 (S_INTEGER.ext O0.2) (g := (mkF m 164 #[.val (.int 5)] [])) rfl (hb hby d2_164)
  obtain ⟨fs, hr, hrun, hended, hW, hsame⟩ := X1.leave (v := some (.ref w_INTEGER)) (fun h => by rw [Bd.returns] at h; cases h)
  refine ⟨_, _, pre0 _ ?_, hrun, hended, _, _, rfl, ?_, ⟨_, rfl⟩, hW, hsame.mono (by decide) (by decide)⟩
  · show St p e below s₁ (mkF m 0 #[.val (.int 5)] []) _
    refine XS.iloadN X0.here hx rfl (hb hby d2_0) rfl ?_
    show St p e below s₁ (mkF m 1 #[.val (.int 5)] [(.int 5)]) _
    refine X0.lookupswitchHit hx (g := (mkF m 1 #[.val (.int 5)] [(.int 5)])) rfl rfl (hb hby d2_1) (by decide) (a := 5) (off := 163) (by decide) (by show (0 : Int) ≤ ((1 : Nat) : Int) + 163; decide) _ ?_
    show St p e below s₁ (mkF m 164 #[.val (.int 5)] []) _
    refine st1 _ ?_
    show St p e below T1 (mkF m 167 #[.val (.int 5)] [(.ref w_INTEGER)]) _
    refine XS.goto X1.here hx rfl (pc0 := 167) (pc' := 197) rfl (hb hby d2_167) (by decide) (by decide) ?_
    show St p e below T1 (mkF m 197 #[.val (.int 5)] [(.ref w_INTEGER)]) _
    jvm_step X1.here [X1.here.top, hx, (hb hby d2_197), X1.method', Bd.returns, Value.isRef, FieldType.isReference]
    first | (intro acts; rw [hr _ acts rfl rfl rfl]) | rw [hr _ _ rfl rfl rfl]
    exact Steps.refl _
  · show Q_ct w_INTEGER w_DECIMAL w_FLOAT w_BOOLEAN w_TEXT w_OTHER (5 : Int32) h0 n0 _ T1.heap _
    rw [e1]
    exact ⟨by rfl, N0, rfl⟩
set_option maxRecDepth 65536 in
set_option maxHeartbeats 40000000 in
theorem rm_of_4 (l : Launch) (Z : State) (a0 : Array Value) (hw : ∀ d ∈ tables_1, d.before a0 Z = true) (ws : List Jvm.Cond) (w_INTEGER : Addr) (w_DECIMAL : Addr) (w_FLOAT : Addr) (w_BOOLEAN : Addr) (w_TEXT : Addr) (w_OTHER : Addr) (h0 : Heap) (n0 : Nat) (Z0 : n0 ≤ h0.size) (S_INTEGER : Sta Z Z.heap "com/example/commitgate/commitgate/store/ColumnType" "INTEGER" "Lcom/example/commitgate/commitgate/store/ColumnType;" (.ref w_INTEGER)) (S_DECIMAL : Sta Z Z.heap "com/example/commitgate/commitgate/store/ColumnType" "DECIMAL" "Lcom/example/commitgate/commitgate/store/ColumnType;" (.ref w_DECIMAL)) (S_FLOAT : Sta Z Z.heap "com/example/commitgate/commitgate/store/ColumnType" "FLOAT" "Lcom/example/commitgate/commitgate/store/ColumnType;" (.ref w_FLOAT)) (S_BOOLEAN : Sta Z Z.heap "com/example/commitgate/commitgate/store/ColumnType" "BOOLEAN" "Lcom/example/commitgate/commitgate/store/ColumnType;" (.ref w_BOOLEAN)) (S_TEXT : Sta Z Z.heap "com/example/commitgate/commitgate/store/ColumnType" "TEXT" "Lcom/example/commitgate/commitgate/store/ColumnType;" (.ref w_TEXT)) (S_OTHER : Sta Z Z.heap "com/example/commitgate/commitgate/store/ColumnType" "OTHER" "Lcom/example/commitgate/commitgate/store/ColumnType;" (.ref w_OTHER)) (O0 : Old Z n0 h0) :
    MetFree l (⟨"com/example/commitgate/commitgate/store/ColumnType", "of", "(I)Lcom/example/commitgate/commitgate/store/ColumnType;"⟩ : MethodName) (head1 (Jvm.Cond.code (⟨"com/example/commitgate/commitgate/store/ColumnType", "of", "(I)Lcom/example/commitgate/commitgate/store/ColumnType;"⟩ : MethodName) prog_159_method_4_code 1 (some (.object "com/example/commitgate/commitgate/store/ColumnType")) :: ws) ({ frames := 0, cells := 0, slots := 0, locals := 0 } : Room)) (fun a U => a = #[(.int 4)] ∧ Z.Warmed39 U.vm ∧ U.heap = h0) (fun _ _ _ _ _ => True) (fun _ U o U' => ∃ v L, o = .returned v ∧ Q_ct w_INTEGER w_DECIMAL w_FLOAT w_BOOLEAN w_TEXT w_OTHER (4 : Int32) h0 n0 v U'.heap L ∧ FrameEnd U o U' L ({ frames := 0, cells := 0, slots := 0, locals := 0 } : Room).cells ({ frames := 0, cells := 0, slots := 0, locals := 0 } : Room).slots) := by
  refine MetFree.of_bodySF (plainFor_of_name pn_2) hisR ?_
  intro p e s m args below meth c s₁ Bd hml0 hP hK
  obtain ⟨rfl, hZ, hh⟩ := hP
  have hx := Bd.exec
  have hby := Bd.bytes
  have hml : c.maxLocals = 1 := hml0
  have hown : s.vm.findClass "com/example/commitgate/commitgate/store/ColumnType" = some m.cls := findClass_of_methodNamed Bd.named
  have hnm := (name_of_methodNamed Bd.named Bd.method).1
  have X0 : Stand p l e ({ frames := 0, cells := 0, slots := 0, locals := 0 } : Room) s m #[(.int 4)] below meth c s₁ [] 0 0 := Stand.of_body Bd
  have e0 : s₁.heap = h0 := by rw [← hh, Bd.state]; rfl
  have N0 := Fr.nil n0
  have pre0 : ∀ t, Steps p.tables e below (s₁.setTop (mkF m 0 #[.val (.int 4)] [])) t → Steps p.tables e below (s₁.setTop (entryFrame m #[(.int 4)] 1)) t := fun t k => castTop (ef_2_I m (4 : Int32)) k
  obtain ⟨T1, X1, e1, st1⟩ := getS2 X0 hx hZ hown (host := "") (Or.inl (hwi hw 12 rfl)) Via.refl e0 (S_INTEGER.ext O0.2) (g := (mkF m 164 #[.val (.int 4)] [])) rfl (hb hby d2_164)
  obtain ⟨fs, hr, hrun, hended, hW, hsame⟩ := X1.leave (v := some (.ref w_INTEGER)) (fun h => by rw [Bd.returns] at h; cases h)
  refine ⟨_, _, pre0 _ ?_, hrun, hended, _, _, rfl, ?_, ⟨_, rfl⟩, hW, hsame.mono (by decide) (by decide)⟩
  · show St p e below s₁ (mkF m 0 #[.val (.int 4)] []) _
    refine XS.iloadN X0.here hx rfl (hb hby d2_0) rfl ?_
    show St p e below s₁ (mkF m 1 #[.val (.int 4)] [(.int 4)]) _
    refine X0.lookupswitchHit hx (g := (mkF m 1 #[.val (.int 4)] [(.int 4)])) rfl rfl (hb hby d2_1) (by decide) (a := 4) (off := 163) (by decide) (by show (0 : Int) ≤ ((1 : Nat) : Int) + 163; decide) _ ?_
    show St p e below s₁ (mkF m 164 #[.val (.int 4)] []) _
    refine st1 _ ?_
    show St p e below T1 (mkF m 167 #[.val (.int 4)] [(.ref w_INTEGER)]) _
    refine XS.goto X1.here hx rfl (pc0 := 167) (pc' := 197) rfl (hb hby d2_167) (by decide) (by decide) ?_
    show St p e below T1 (mkF m 197 #[.val (.int 4)] [(.ref w_INTEGER)]) _
    jvm_step X1.here [X1.here.top, hx, (hb hby d2_197), X1.method', Bd.returns, Value.isRef, FieldType.isReference]
    first | (intro acts; rw [hr _ acts rfl rfl rfl]) | rw [hr _ _ rfl rfl rfl]
    exact Steps.refl _
  · show Q_ct w_INTEGER w_DECIMAL w_FLOAT w_BOOLEAN w_TEXT w_OTHER (4 : Int32) h0 n0 _ T1.heap _
    rw [e1]
    exact ⟨by rfl, N0, rfl⟩
set_option maxRecDepth 65536 in
set_option maxHeartbeats 40000000 in
theorem rm_of_m5 (l : Launch) (Z : State) (a0 : Array Value) (hw : ∀ d ∈ tables_1, d.before a0 Z = true) (ws : List Jvm.Cond) (w_INTEGER : Addr) (w_DECIMAL : Addr) (w_FLOAT : Addr) (w_BOOLEAN : Addr) (w_TEXT : Addr) (w_OTHER : Addr) (h0 : Heap) (n0 : Nat) (Z0 : n0 ≤ h0.size) (S_INTEGER : Sta Z Z.heap "com/example/commitgate/commitgate/store/ColumnType" "INTEGER" "Lcom/example/commitgate/commitgate/store/ColumnType;" (.ref w_INTEGER)) (S_DECIMAL : Sta Z Z.heap "com/example/commitgate/commitgate/store/ColumnType" "DECIMAL" "Lcom/example/commitgate/commitgate/store/ColumnType;" (.ref w_DECIMAL)) (S_FLOAT : Sta Z Z.heap "com/example/commitgate/commitgate/store/ColumnType" "FLOAT" "Lcom/example/commitgate/commitgate/store/ColumnType;" (.ref w_FLOAT)) (S_BOOLEAN : Sta Z Z.heap "com/example/commitgate/commitgate/store/ColumnType" "BOOLEAN" "Lcom/example/commitgate/commitgate/store/ColumnType;" (.ref w_BOOLEAN)) (S_TEXT : Sta Z Z.heap "com/example/commitgate/commitgate/store/ColumnType" "TEXT" "Lcom/example/commitgate/commitgate/store/ColumnType;" (.ref w_TEXT)) (S_OTHER : Sta Z Z.heap "com/example/commitgate/commitgate/store/ColumnType" "OTHER" "Lcom/example/commitgate/commitgate/store/ColumnType;" (.ref w_OTHER)) (O0 : Old Z n0 h0) :
    MetFree l (⟨"com/example/commitgate/commitgate/store/ColumnType", "of", "(I)Lcom/example/commitgate/commitgate/store/ColumnType;"⟩ : MethodName) (head1 (Jvm.Cond.code (⟨"com/example/commitgate/commitgate/store/ColumnType", "of", "(I)Lcom/example/commitgate/commitgate/store/ColumnType;"⟩ : MethodName) prog_159_method_4_code 1 (some (.object "com/example/commitgate/commitgate/store/ColumnType")) :: ws) ({ frames := 0, cells := 0, slots := 0, locals := 0 } : Room)) (fun a U => a = #[(.int (-5))] ∧ Z.Warmed39 U.vm ∧ U.heap = h0) (fun _ _ _ _ _ => True) (fun _ U o U' => ∃ v L, o = .returned v ∧ Q_ct w_INTEGER w_DECIMAL w_FLOAT w_BOOLEAN w_TEXT w_OTHER (-5 : Int32) h0 n0 v U'.heap L ∧ FrameEnd U o U' L ({ frames := 0, cells := 0, slots := 0, locals := 0 } : Room).cells ({ frames := 0, cells := 0, slots := 0, locals := 0 } : Room).slots) := by
  refine MetFree.of_bodySF (plainFor_of_name pn_2) hisR ?_
  intro p e s m args below meth c s₁ Bd hml0 hP hK
  obtain ⟨rfl, hZ, hh⟩ := hP
  have hx := Bd.exec
  have hby := Bd.bytes
  have hml : c.maxLocals = 1 := hml0
  have hown : s.vm.findClass "com/example/commitgate/commitgate/store/ColumnType" = some m.cls := findClass_of_methodNamed Bd.named
  have hnm := (name_of_methodNamed Bd.named Bd.method).1
  have X0 : Stand p l e ({ frames := 0, cells := 0, slots := 0, locals := 0 } : Room) s m #[(.int (-5))] below meth c s₁ [] 0 0 := Stand.of_body Bd
  have e0 : s₁.heap = h0 := by rw [← hh, Bd.state]; rfl
  have N0 := Fr.nil n0
  have pre0 : ∀ t, Steps p.tables e below (s₁.setTop (mkF m 0 #[.val (.int (-5))] [])) t → Steps p.tables e below (s₁.setTop (entryFrame m #[(.int (-5))] 1)) t := fun t k => castTop (ef_2_I m (-5 : Int32)) k
  obtain ⟨T1, X1, e1, st1⟩ := getS2 X0 hx hZ hown (host := "") (Or.inl (hwi hw 12 rfl)) Via.refl e0 (S_INTEGER.ext O0.2) (g := (mkF m 164 #[.val (.int (-5))] [])) rfl (hb hby d2_164)
  obtain ⟨fs, hr, hrun, hended, hW, hsame⟩ := X1.leave (v := some (.ref w_INTEGER)) (fun h => by rw [Bd.returns] at h; cases h)
  refine ⟨_, _, pre0 _ ?_, hrun, hended, _, _, rfl, ?_, ⟨_, rfl⟩, hW, hsame.mono (by decide) (by decide)⟩
  · show St p e below s₁ (mkF m 0 #[.val (.int (-5))] []) _
    refine XS.iloadN X0.here hx rfl (hb hby d2_0) rfl ?_
    show St p e below s₁ (mkF m 1 #[.val (.int (-5))] [(.int (-5))]) _
    refine X0.lookupswitchHit hx (g := (mkF m 1 #[.val (.int (-5))] [(.int (-5))])) rfl rfl (hb hby d2_1) (by decide) (a := (-5)) (off := 163) (by decide) (by show (0 : Int) ≤ ((1 : Nat) : Int) + 163; decide) _ ?_
    show St p e below s₁ (mkF m 164 #[.val (.int (-5))] []) _
    refine st1 _ ?_
    show St p e below T1 (mkF m 167 #[.val (.int (-5))] [(.ref w_INTEGER)]) _
    refine XS.goto X1.here hx rfl (pc0 := 167) (pc' := 197) rfl (hb hby d2_167) (by decide) (by decide) ?_
    show St p e below T1 (mkF m 197 #[.val (.int (-5))] [(.ref w_INTEGER)]) _
    jvm_step X1.here [X1.here.top, hx, (hb hby d2_197), X1.method', Bd.returns, Value.isRef, FieldType.isReference]
    first | (intro acts; rw [hr _ acts rfl rfl rfl]) | rw [hr _ _ rfl rfl rfl]
    exact Steps.refl _
  · show Q_ct w_INTEGER w_DECIMAL w_FLOAT w_BOOLEAN w_TEXT w_OTHER (-5 : Int32) h0 n0 _ T1.heap _
    rw [e1]
    exact ⟨by rfl, N0, rfl⟩
theorem d2_170 : decode prog_159_method_4_code 170 = .ok (.getstatic 7, 3) := by decide +kernel
theorem d2_173 : decode prog_159_method_4_code 173 = .ok (.goto 24, 3) := by decide +kernel
set_option maxRecDepth 65536 in
set_option maxHeartbeats 40000000 in
theorem rm_of_2 (l : Launch) (Z : State) (a0 : Array Value) (hw : ∀ d ∈ tables_1, d.before a0 Z = true) (ws : List Jvm.Cond) (w_INTEGER : Addr) (w_DECIMAL : Addr) (w_FLOAT : Addr) (w_BOOLEAN : Addr) (w_TEXT : Addr) (w_OTHER : Addr) (h0 : Heap) (n0 : Nat) (Z0 : n0 ≤ h0.size) (S_INTEGER : Sta Z Z.heap "com/example/commitgate/commitgate/store/ColumnType" "INTEGER" "Lcom/example/commitgate/commitgate/store/ColumnType;" (.ref w_INTEGER)) (S_DECIMAL : Sta Z Z.heap "com/example/commitgate/commitgate/store/ColumnType" "DECIMAL" "Lcom/example/commitgate/commitgate/store/ColumnType;" (.ref w_DECIMAL)) (S_FLOAT : Sta Z Z.heap "com/example/commitgate/commitgate/store/ColumnType" "FLOAT" "Lcom/example/commitgate/commitgate/store/ColumnType;" (.ref w_FLOAT)) (S_BOOLEAN : Sta Z Z.heap "com/example/commitgate/commitgate/store/ColumnType" "BOOLEAN" "Lcom/example/commitgate/commitgate/store/ColumnType;" (.ref w_BOOLEAN)) (S_TEXT : Sta Z Z.heap "com/example/commitgate/commitgate/store/ColumnType" "TEXT" "Lcom/example/commitgate/commitgate/store/ColumnType;" (.ref w_TEXT)) (S_OTHER : Sta Z Z.heap "com/example/commitgate/commitgate/store/ColumnType" "OTHER" "Lcom/example/commitgate/commitgate/store/ColumnType;" (.ref w_OTHER)) (O0 : Old Z n0 h0) :
    MetFree l (⟨"com/example/commitgate/commitgate/store/ColumnType", "of", "(I)Lcom/example/commitgate/commitgate/store/ColumnType;"⟩ : MethodName) (head1 (Jvm.Cond.code (⟨"com/example/commitgate/commitgate/store/ColumnType", "of", "(I)Lcom/example/commitgate/commitgate/store/ColumnType;"⟩ : MethodName) prog_159_method_4_code 1 (some (.object "com/example/commitgate/commitgate/store/ColumnType")) :: ws) ({ frames := 0, cells := 0, slots := 0, locals := 0 } : Room)) (fun a U => a = #[(.int 2)] ∧ Z.Warmed39 U.vm ∧ U.heap = h0) (fun _ _ _ _ _ => True) (fun _ U o U' => ∃ v L, o = .returned v ∧ Q_ct w_INTEGER w_DECIMAL w_FLOAT w_BOOLEAN w_TEXT w_OTHER (2 : Int32) h0 n0 v U'.heap L ∧ FrameEnd U o U' L ({ frames := 0, cells := 0, slots := 0, locals := 0 } : Room).cells ({ frames := 0, cells := 0, slots := 0, locals := 0 } : Room).slots) := by
  refine MetFree.of_bodySF (plainFor_of_name pn_2) hisR ?_
  intro p e s m args below meth c s₁ Bd hml0 hP hK
  obtain ⟨rfl, hZ, hh⟩ := hP
  have hx := Bd.exec
  have hby := Bd.bytes
  have hml : c.maxLocals = 1 := hml0
  have hown : s.vm.findClass "com/example/commitgate/commitgate/store/ColumnType" = some m.cls := findClass_of_methodNamed Bd.named
  have hnm := (name_of_methodNamed Bd.named Bd.method).1
  have X0 : Stand p l e ({ frames := 0, cells := 0, slots := 0, locals := 0 } : Room) s m #[(.int 2)] below meth c s₁ [] 0 0 := Stand.of_body Bd
  have e0 : s₁.heap = h0 := by rw [← hh, Bd.state]; rfl
  have N0 := Fr.nil n0
  have pre0 : ∀ t, Steps p.tables e below (s₁.setTop (mkF m 0 #[.val (.int 2)] [])) t → Steps p.tables e below (s₁.setTop (entryFrame m #[(.int 2)] 1)) t := fun t k => castTop (ef_2_I m (2 : Int32)) k
  obtain ⟨T1, X1, e1, st1⟩ := getS2 X0 hx hZ hown (host := "") (Or.inl (hwi hw 27 rfl)) Via.refl e0 (S_DECIMAL.ext O0.2) (g := (mkF m 170 #[.val (.int 2)] [])) rfl (hb hby d2_170)
  obtain ⟨fs, hr, hrun, hended, hW, hsame⟩ := X1.leave (v := some (.ref w_DECIMAL)) (fun h => by rw [Bd.returns] at h; cases h)
  refine ⟨_, _, pre0 _ ?_, hrun, hended, _, _, rfl, ?_, ⟨_, rfl⟩, hW, hsame.mono (by decide) (by decide)⟩
  · show St p e below s₁ (mkF m 0 #[.val (.int 2)] []) _
    refine XS.iloadN X0.here hx rfl (hb hby d2_0) rfl ?_
    show St p e below s₁ (mkF m 1 #[.val (.int 2)] [(.int 2)]) _
    refine X0.lookupswitchHit hx (g := (mkF m 1 #[.val (.int 2)] [(.int 2)])) rfl rfl (hb hby d2_1) (by decide) (a := 2) (off := 169) (by decide) (by show (0 : Int) ≤ ((1 : Nat) : Int) + 169; decide) _ ?_
    show St p e below s₁ (mkF m 170 #[.val (.int 2)] []) _
    refine st1 _ ?_
    show St p e below T1 (mkF m 173 #[.val (.int 2)] [(.ref w_DECIMAL)]) _
    refine XS.goto X1.here hx rfl (pc0 := 173) (pc' := 197) rfl (hb hby d2_173) (by decide) (by decide) ?_
    show St p e below T1 (mkF m 197 #[.val (.int 2)] [(.ref w_DECIMAL)]) _
    jvm_step X1.here [X1.here.top, hx, (hb hby d2_197), X1.method', Bd.returns, Value.isRef, FieldType.isReference]
    first | (intro acts; rw [hr _ acts rfl rfl rfl]) | rw [hr _ _ rfl rfl rfl]
    exact Steps.refl _
  · show Q_ct w_INTEGER w_DECIMAL w_FLOAT w_BOOLEAN w_TEXT w_OTHER (2 : Int32) h0 n0 _ T1.heap _
    rw [e1]
    exact ⟨by rfl, N0, rfl⟩
set_option maxRecDepth 65536 in
set_option maxHeartbeats 40000000 in
theorem rm_of_3 (l : Launch) (Z : State) (a0 : Array Value) (hw : ∀ d ∈ tables_1, d.before a0 Z = true) (ws : List Jvm.Cond) (w_INTEGER : Addr) (w_DECIMAL : Addr) (w_FLOAT : Addr) (w_BOOLEAN : Addr) (w_TEXT : Addr) (w_OTHER : Addr) (h0 : Heap) (n0 : Nat) (Z0 : n0 ≤ h0.size) (S_INTEGER : Sta Z Z.heap "com/example/commitgate/commitgate/store/ColumnType" "INTEGER" "Lcom/example/commitgate/commitgate/store/ColumnType;" (.ref w_INTEGER)) (S_DECIMAL : Sta Z Z.heap "com/example/commitgate/commitgate/store/ColumnType" "DECIMAL" "Lcom/example/commitgate/commitgate/store/ColumnType;" (.ref w_DECIMAL)) (S_FLOAT : Sta Z Z.heap "com/example/commitgate/commitgate/store/ColumnType" "FLOAT" "Lcom/example/commitgate/commitgate/store/ColumnType;" (.ref w_FLOAT)) (S_BOOLEAN : Sta Z Z.heap "com/example/commitgate/commitgate/store/ColumnType" "BOOLEAN" "Lcom/example/commitgate/commitgate/store/ColumnType;" (.ref w_BOOLEAN)) (S_TEXT : Sta Z Z.heap "com/example/commitgate/commitgate/store/ColumnType" "TEXT" "Lcom/example/commitgate/commitgate/store/ColumnType;" (.ref w_TEXT)) (S_OTHER : Sta Z Z.heap "com/example/commitgate/commitgate/store/ColumnType" "OTHER" "Lcom/example/commitgate/commitgate/store/ColumnType;" (.ref w_OTHER)) (O0 : Old Z n0 h0) :
    MetFree l (⟨"com/example/commitgate/commitgate/store/ColumnType", "of", "(I)Lcom/example/commitgate/commitgate/store/ColumnType;"⟩ : MethodName) (head1 (Jvm.Cond.code (⟨"com/example/commitgate/commitgate/store/ColumnType", "of", "(I)Lcom/example/commitgate/commitgate/store/ColumnType;"⟩ : MethodName) prog_159_method_4_code 1 (some (.object "com/example/commitgate/commitgate/store/ColumnType")) :: ws) ({ frames := 0, cells := 0, slots := 0, locals := 0 } : Room)) (fun a U => a = #[(.int 3)] ∧ Z.Warmed39 U.vm ∧ U.heap = h0) (fun _ _ _ _ _ => True) (fun _ U o U' => ∃ v L, o = .returned v ∧ Q_ct w_INTEGER w_DECIMAL w_FLOAT w_BOOLEAN w_TEXT w_OTHER (3 : Int32) h0 n0 v U'.heap L ∧ FrameEnd U o U' L ({ frames := 0, cells := 0, slots := 0, locals := 0 } : Room).cells ({ frames := 0, cells := 0, slots := 0, locals := 0 } : Room).slots) := by
  refine MetFree.of_bodySF (plainFor_of_name pn_2) hisR ?_
  intro p e s m args below meth c s₁ Bd hml0 hP hK
  obtain ⟨rfl, hZ, hh⟩ := hP
  have hx := Bd.exec
  have hby := Bd.bytes
  have hml : c.maxLocals = 1 := hml0
  have hown : s.vm.findClass "com/example/commitgate/commitgate/store/ColumnType" = some m.cls := findClass_of_methodNamed Bd.named
  have hnm := (name_of_methodNamed Bd.named Bd.method).1
  have X0 : Stand p l e ({ frames := 0, cells := 0, slots := 0, locals := 0 } : Room) s m #[(.int 3)] below meth c s₁ [] 0 0 := Stand.of_body Bd
  have e0 : s₁.heap = h0 := by rw [← hh, Bd.state]; rfl
  have N0 := Fr.nil n0
  have pre0 : ∀ t, Steps p.tables e below (s₁.setTop (mkF m 0 #[.val (.int 3)] [])) t → Steps p.tables e below (s₁.setTop (entryFrame m #[(.int 3)] 1)) t := fun t k => castTop (ef_2_I m (3 : Int32)) k
  obtain ⟨T1, X1, e1, st1⟩ := getS2 X0 hx hZ hown (host := "") (Or.inl (hwi hw 27 rfl)) Via.refl e0 (S_DECIMAL.ext O0.2) (g := (mkF m 170 #[.val (.int 3)] [])) rfl (hb hby d2_170)
  obtain ⟨fs, hr, hrun, hended, hW, hsame⟩ := X1.leave (v := some (.ref w_DECIMAL)) (fun h => by rw [Bd.returns] at h; cases h)
  refine ⟨_, _, pre0 _ ?_, hrun, hended, _, _, rfl, ?_, ⟨_, rfl⟩, hW, hsame.mono (by decide) (by decide)⟩
  · show St p e below s₁ (mkF m 0 #[.val (.int 3)] []) _
    refine XS.iloadN X0.here hx rfl (hb hby d2_0) rfl ?_
    show St p e below s₁ (mkF m 1 #[.val (.int 3)] [(.int 3)]) _
    refine X0.lookupswitchHit hx (g := (mkF m 1 #[.val (.int 3)] [(.int 3)])) rfl rfl (hb hby d2_1) (by decide) (a := 3) (off := 169) (by decide) (by show (0 : Int) ≤ ((1 : Nat) : Int) + 169; decide) _ ?_
    show St p e below s₁ (mkF m 170 #[.val (.int 3)] []) _
    refine st1 _ ?_
    show St p e below T1 (mkF m 173 #[.val (.int 3)] [(.ref w_DECIMAL)]) _
    refine XS.goto X1.here hx rfl (pc0 := 173) (pc' := 197) rfl (hb hby d2_173) (by decide) (by decide) ?_
    show St p e below T1 (mkF m 197 #[.val (.int 3)] [(.ref w_DECIMAL)]) _
    jvm_step X1.here [X1.here.top, hx, (hb hby d2_197), X1.method', Bd.returns, Value.isRef, FieldType.isReference]
    first | (intro acts; rw [hr _ acts rfl rfl rfl]) | rw [hr _ _ rfl rfl rfl]
    exact Steps.refl _
  · show Q_ct w_INTEGER w_DECIMAL w_FLOAT w_BOOLEAN w_TEXT w_OTHER (3 : Int32) h0 n0 _ T1.heap _
    rw [e1]
    exact ⟨by rfl, N0, rfl⟩
theorem d2_176 : decode prog_159_method_4_code 176 = .ok (.getstatic 10, 3) := by decide +kernel
theorem d2_179 : decode prog_159_method_4_code 179 = .ok (.goto 18, 3) := by decide +kernel
set_option maxRecDepth 65536 in
set_option maxHeartbeats 40000000 in
theorem rm_of_7 (l : Launch) (Z : State) (a0 : Array Value) (hw : ∀ d ∈ tables_1, d.before a0 Z = true) (ws : List Jvm.Cond) (w_INTEGER : Addr) (w_DECIMAL : Addr) (w_FLOAT : Addr) (w_BOOLEAN : Addr) (w_TEXT : Addr) (w_OTHER : Addr) (h0 : Heap) (n0 : Nat) (Z0 : n0 ≤ h0.size) (S_INTEGER : Sta Z Z.heap "com/example/commitgate/commitgate/store/ColumnType" "INTEGER" "Lcom/example/commitgate/commitgate/store/ColumnType;" (.ref w_INTEGER)) (S_DECIMAL : Sta Z Z.heap "com/example/commitgate/commitgate/store/ColumnType" "DECIMAL" "Lcom/example/commitgate/commitgate/store/ColumnType;" (.ref w_DECIMAL)) (S_FLOAT : Sta Z Z.heap "com/example/commitgate/commitgate/store/ColumnType" "FLOAT" "Lcom/example/commitgate/commitgate/store/ColumnType;" (.ref w_FLOAT)) (S_BOOLEAN : Sta Z Z.heap "com/example/commitgate/commitgate/store/ColumnType" "BOOLEAN" "Lcom/example/commitgate/commitgate/store/ColumnType;" (.ref w_BOOLEAN)) (S_TEXT : Sta Z Z.heap "com/example/commitgate/commitgate/store/ColumnType" "TEXT" "Lcom/example/commitgate/commitgate/store/ColumnType;" (.ref w_TEXT)) (S_OTHER : Sta Z Z.heap "com/example/commitgate/commitgate/store/ColumnType" "OTHER" "Lcom/example/commitgate/commitgate/store/ColumnType;" (.ref w_OTHER)) (O0 : Old Z n0 h0) :
    MetFree l (⟨"com/example/commitgate/commitgate/store/ColumnType", "of", "(I)Lcom/example/commitgate/commitgate/store/ColumnType;"⟩ : MethodName) (head1 (Jvm.Cond.code (⟨"com/example/commitgate/commitgate/store/ColumnType", "of", "(I)Lcom/example/commitgate/commitgate/store/ColumnType;"⟩ : MethodName) prog_159_method_4_code 1 (some (.object "com/example/commitgate/commitgate/store/ColumnType")) :: ws) ({ frames := 0, cells := 0, slots := 0, locals := 0 } : Room)) (fun a U => a = #[(.int 7)] ∧ Z.Warmed39 U.vm ∧ U.heap = h0) (fun _ _ _ _ _ => True) (fun _ U o U' => ∃ v L, o = .returned v ∧ Q_ct w_INTEGER w_DECIMAL w_FLOAT w_BOOLEAN w_TEXT w_OTHER (7 : Int32) h0 n0 v U'.heap L ∧ FrameEnd U o U' L ({ frames := 0, cells := 0, slots := 0, locals := 0 } : Room).cells ({ frames := 0, cells := 0, slots := 0, locals := 0 } : Room).slots) := by
  refine MetFree.of_bodySF (plainFor_of_name pn_2) hisR ?_
  intro p e s m args below meth c s₁ Bd hml0 hP hK
  obtain ⟨rfl, hZ, hh⟩ := hP
  have hx := Bd.exec
  have hby := Bd.bytes
  have hml : c.maxLocals = 1 := hml0
  have hown : s.vm.findClass "com/example/commitgate/commitgate/store/ColumnType" = some m.cls := findClass_of_methodNamed Bd.named
  have hnm := (name_of_methodNamed Bd.named Bd.method).1
  have X0 : Stand p l e ({ frames := 0, cells := 0, slots := 0, locals := 0 } : Room) s m #[(.int 7)] below meth c s₁ [] 0 0 := Stand.of_body Bd
  have e0 : s₁.heap = h0 := by rw [← hh, Bd.state]; rfl
  have N0 := Fr.nil n0
  have pre0 : ∀ t, Steps p.tables e below (s₁.setTop (mkF m 0 #[.val (.int 7)] [])) t → Steps p.tables e below (s₁.setTop (entryFrame m #[(.int 7)] 1)) t := fun t k => castTop (ef_2_I m (7 : Int32)) k
  obtain ⟨T1, X1, e1, st1⟩ := getS2 X0 hx hZ hown (host := "") (Or.inl (hwi hw 22 rfl)) Via.refl e0 (S_FLOAT.ext O0.2) (g := (mkF m 176 #[.val (.int 7)] [])) rfl (hb hby d2_176)
  obtain ⟨fs, hr, hrun, hended, hW, hsame⟩ := X1.leave (v := some (.ref w_FLOAT)) (fun h => by rw [Bd.returns] at h; cases h)
  refine ⟨_, _, pre0 _ ?_, hrun, hended, _, _, rfl, ?_, ⟨_, rfl⟩, hW, hsame.mono (by decide) (by decide)⟩
  · show St p e below s₁ (mkF m 0 #[.val (.int 7)] []) _
    refine XS.iloadN X0.here hx rfl (hb hby d2_0) rfl ?_
    show St p e below s₁ (mkF m 1 #[.val (.int 7)] [(.int 7)]) _
    refine X0.lookupswitchHit hx (g := (mkF m 1 #[.val (.int 7)] [(.int 7)])) rfl rfl (hb hby d2_1) (by decide) (a := 7) (off := 175) (by decide) (by show (0 : Int) ≤ ((1 : Nat) : Int) + 175; decide) _ ?_
    show St p e below s₁ (mkF m 176 #[.val (.int 7)] []) _
    refine st1 _ ?_
    show St p e below T1 (mkF m 179 #[.val (.int 7)] [(.ref w_FLOAT)]) _
    refine XS.goto X1.here hx rfl (pc0 := 179) (pc' := 197) rfl (hb hby d2_179) (by decide) (by decide) ?_
    show St p e below T1 (mkF m 197 #[.val (.int 7)] [(.ref w_FLOAT)]) _
    jvm_step X1.here [X1.here.top, hx, (hb hby d2_197), X1.method', Bd.returns, Value.isRef, FieldType.isReference]
    first | (intro acts; rw [hr _ acts rfl rfl rfl]) | rw [hr _ _ rfl rfl rfl]
    exact Steps.refl _
  · show Q_ct w_INTEGER w_DECIMAL w_FLOAT w_BOOLEAN w_TEXT w_OTHER (7 : Int32) h0 n0 _ T1.heap _
    rw [e1]
    exact ⟨by rfl, N0, rfl⟩
set_option maxRecDepth 65536 in
set_option maxHeartbeats 40000000 in
theorem rm_of_6 (l : Launch) (Z : State) (a0 : Array Value) (hw : ∀ d ∈ tables_1, d.before a0 Z = true) (ws : List Jvm.Cond) (w_INTEGER : Addr) (w_DECIMAL : Addr) (w_FLOAT : Addr) (w_BOOLEAN : Addr) (w_TEXT : Addr) (w_OTHER : Addr) (h0 : Heap) (n0 : Nat) (Z0 : n0 ≤ h0.size) (S_INTEGER : Sta Z Z.heap "com/example/commitgate/commitgate/store/ColumnType" "INTEGER" "Lcom/example/commitgate/commitgate/store/ColumnType;" (.ref w_INTEGER)) (S_DECIMAL : Sta Z Z.heap "com/example/commitgate/commitgate/store/ColumnType" "DECIMAL" "Lcom/example/commitgate/commitgate/store/ColumnType;" (.ref w_DECIMAL)) (S_FLOAT : Sta Z Z.heap "com/example/commitgate/commitgate/store/ColumnType" "FLOAT" "Lcom/example/commitgate/commitgate/store/ColumnType;" (.ref w_FLOAT)) (S_BOOLEAN : Sta Z Z.heap "com/example/commitgate/commitgate/store/ColumnType" "BOOLEAN" "Lcom/example/commitgate/commitgate/store/ColumnType;" (.ref w_BOOLEAN)) (S_TEXT : Sta Z Z.heap "com/example/commitgate/commitgate/store/ColumnType" "TEXT" "Lcom/example/commitgate/commitgate/store/ColumnType;" (.ref w_TEXT)) (S_OTHER : Sta Z Z.heap "com/example/commitgate/commitgate/store/ColumnType" "OTHER" "Lcom/example/commitgate/commitgate/store/ColumnType;" (.ref w_OTHER)) (O0 : Old Z n0 h0) :
    MetFree l (⟨"com/example/commitgate/commitgate/store/ColumnType", "of", "(I)Lcom/example/commitgate/commitgate/store/ColumnType;"⟩ : MethodName) (head1 (Jvm.Cond.code (⟨"com/example/commitgate/commitgate/store/ColumnType", "of", "(I)Lcom/example/commitgate/commitgate/store/ColumnType;"⟩ : MethodName) prog_159_method_4_code 1 (some (.object "com/example/commitgate/commitgate/store/ColumnType")) :: ws) ({ frames := 0, cells := 0, slots := 0, locals := 0 } : Room)) (fun a U => a = #[(.int 6)] ∧ Z.Warmed39 U.vm ∧ U.heap = h0) (fun _ _ _ _ _ => True) (fun _ U o U' => ∃ v L, o = .returned v ∧ Q_ct w_INTEGER w_DECIMAL w_FLOAT w_BOOLEAN w_TEXT w_OTHER (6 : Int32) h0 n0 v U'.heap L ∧ FrameEnd U o U' L ({ frames := 0, cells := 0, slots := 0, locals := 0 } : Room).cells ({ frames := 0, cells := 0, slots := 0, locals := 0 } : Room).slots) := by
  refine MetFree.of_bodySF (plainFor_of_name pn_2) hisR ?_
  intro p e s m args below meth c s₁ Bd hml0 hP hK
  obtain ⟨rfl, hZ, hh⟩ := hP
  have hx := Bd.exec
  have hby := Bd.bytes
  have hml : c.maxLocals = 1 := hml0
  have hown : s.vm.findClass "com/example/commitgate/commitgate/store/ColumnType" = some m.cls := findClass_of_methodNamed Bd.named
  have hnm := (name_of_methodNamed Bd.named Bd.method).1
  have X0 : Stand p l e ({ frames := 0, cells := 0, slots := 0, locals := 0 } : Room) s m #[(.int 6)] below meth c s₁ [] 0 0 := Stand.of_body Bd
  have e0 : s₁.heap = h0 := by rw [← hh, Bd.state]; rfl
  have N0 := Fr.nil n0
  have pre0 : ∀ t, Steps p.tables e below (s₁.setTop (mkF m 0 #[.val (.int 6)] [])) t → Steps p.tables e below (s₁.setTop (entryFrame m #[(.int 6)] 1)) t := fun t k => castTop (ef_2_I m (6 : Int32)) k
  obtain ⟨T1, X1, e1, st1⟩ := getS2 X0 hx hZ hown (host := "") (Or.inl (hwi hw 22 rfl)) Via.refl e0 (S_FLOAT.ext O0.2) (g := (mkF m 176 #[.val (.int 6)] [])) rfl (hb hby d2_176)
  obtain ⟨fs, hr, hrun, hended, hW, hsame⟩ := X1.leave (v := some (.ref w_FLOAT)) (fun h => by rw [Bd.returns] at h; cases h)
  refine ⟨_, _, pre0 _ ?_, hrun, hended, _, _, rfl, ?_, ⟨_, rfl⟩, hW, hsame.mono (by decide) (by decide)⟩
  · show St p e below s₁ (mkF m 0 #[.val (.int 6)] []) _
    refine XS.iloadN X0.here hx rfl (hb hby d2_0) rfl ?_
    show St p e below s₁ (mkF m 1 #[.val (.int 6)] [(.int 6)]) _
    refine X0.lookupswitchHit hx (g := (mkF m 1 #[.val (.int 6)] [(.int 6)])) rfl rfl (hb hby d2_1) (by decide) (a := 6) (off := 175) (by decide) (by show (0 : Int) ≤ ((1 : Nat) : Int) + 175; decide) _ ?_
    show St p e below s₁ (mkF m 176 #[.val (.int 6)] []) _
    refine st1 _ ?_
    show St p e below T1 (mkF m 179 #[.val (.int 6)] [(.ref w_FLOAT)]) _
    refine XS.goto X1.here hx rfl (pc0 := 179) (pc' := 197) rfl (hb hby d2_179) (by decide) (by decide) ?_
    show St p e below T1 (mkF m 197 #[.val (.int 6)] [(.ref w_FLOAT)]) _
    jvm_step X1.here [X1.here.top, hx, (hb hby d2_197), X1.method', Bd.returns, Value.isRef, FieldType.isReference]
    first | (intro acts; rw [hr _ acts rfl rfl rfl]) | rw [hr _ _ rfl rfl rfl]
    exact Steps.refl _
  · show Q_ct w_INTEGER w_DECIMAL w_FLOAT w_BOOLEAN w_TEXT w_OTHER (6 : Int32) h0 n0 _ T1.heap _
    rw [e1]
    exact ⟨by rfl, N0, rfl⟩
set_option maxRecDepth 65536 in
set_option maxHeartbeats 40000000 in
theorem rm_of_8 (l : Launch) (Z : State) (a0 : Array Value) (hw : ∀ d ∈ tables_1, d.before a0 Z = true) (ws : List Jvm.Cond) (w_INTEGER : Addr) (w_DECIMAL : Addr) (w_FLOAT : Addr) (w_BOOLEAN : Addr) (w_TEXT : Addr) (w_OTHER : Addr) (h0 : Heap) (n0 : Nat) (Z0 : n0 ≤ h0.size) (S_INTEGER : Sta Z Z.heap "com/example/commitgate/commitgate/store/ColumnType" "INTEGER" "Lcom/example/commitgate/commitgate/store/ColumnType;" (.ref w_INTEGER)) (S_DECIMAL : Sta Z Z.heap "com/example/commitgate/commitgate/store/ColumnType" "DECIMAL" "Lcom/example/commitgate/commitgate/store/ColumnType;" (.ref w_DECIMAL)) (S_FLOAT : Sta Z Z.heap "com/example/commitgate/commitgate/store/ColumnType" "FLOAT" "Lcom/example/commitgate/commitgate/store/ColumnType;" (.ref w_FLOAT)) (S_BOOLEAN : Sta Z Z.heap "com/example/commitgate/commitgate/store/ColumnType" "BOOLEAN" "Lcom/example/commitgate/commitgate/store/ColumnType;" (.ref w_BOOLEAN)) (S_TEXT : Sta Z Z.heap "com/example/commitgate/commitgate/store/ColumnType" "TEXT" "Lcom/example/commitgate/commitgate/store/ColumnType;" (.ref w_TEXT)) (S_OTHER : Sta Z Z.heap "com/example/commitgate/commitgate/store/ColumnType" "OTHER" "Lcom/example/commitgate/commitgate/store/ColumnType;" (.ref w_OTHER)) (O0 : Old Z n0 h0) :
    MetFree l (⟨"com/example/commitgate/commitgate/store/ColumnType", "of", "(I)Lcom/example/commitgate/commitgate/store/ColumnType;"⟩ : MethodName) (head1 (Jvm.Cond.code (⟨"com/example/commitgate/commitgate/store/ColumnType", "of", "(I)Lcom/example/commitgate/commitgate/store/ColumnType;"⟩ : MethodName) prog_159_method_4_code 1 (some (.object "com/example/commitgate/commitgate/store/ColumnType")) :: ws) ({ frames := 0, cells := 0, slots := 0, locals := 0 } : Room)) (fun a U => a = #[(.int 8)] ∧ Z.Warmed39 U.vm ∧ U.heap = h0) (fun _ _ _ _ _ => True) (fun _ U o U' => ∃ v L, o = .returned v ∧ Q_ct w_INTEGER w_DECIMAL w_FLOAT w_BOOLEAN w_TEXT w_OTHER (8 : Int32) h0 n0 v U'.heap L ∧ FrameEnd U o U' L ({ frames := 0, cells := 0, slots := 0, locals := 0 } : Room).cells ({ frames := 0, cells := 0, slots := 0, locals := 0 } : Room).slots) := by
  refine MetFree.of_bodySF (plainFor_of_name pn_2) hisR ?_
  intro p e s m args below meth c s₁ Bd hml0 hP hK
  obtain ⟨rfl, hZ, hh⟩ := hP
  have hx := Bd.exec
  have hby := Bd.bytes
  have hml : c.maxLocals = 1 := hml0
  have hown : s.vm.findClass "com/example/commitgate/commitgate/store/ColumnType" = some m.cls := findClass_of_methodNamed Bd.named
  have hnm := (name_of_methodNamed Bd.named Bd.method).1
  have X0 : Stand p l e ({ frames := 0, cells := 0, slots := 0, locals := 0 } : Room) s m #[(.int 8)] below meth c s₁ [] 0 0 := Stand.of_body Bd
  have e0 : s₁.heap = h0 := by rw [← hh, Bd.state]; rfl
  have N0 := Fr.nil n0
  have pre0 : ∀ t, Steps p.tables e below (s₁.setTop (mkF m 0 #[.val (.int 8)] [])) t → Steps p.tables e below (s₁.setTop (entryFrame m #[(.int 8)] 1)) t := fun t k => castTop (ef_2_I m (8 : Int32)) k
  obtain ⟨T1, X1, e1, st1⟩ := getS2 X0 hx hZ hown (host := "") (Or.inl (hwi hw 22 rfl)) Via.refl e0 (S_FLOAT.ext O0.2) (g := (mkF m 176 #[.val (.int 8)] [])) rfl (hb hby d2_176)
  obtain ⟨fs, hr, hrun, hended, hW, hsame⟩ := X1.leave (v := some (.ref w_FLOAT)) (fun h => by rw [Bd.returns] at h; cases h)
  refine ⟨_, _, pre0 _ ?_, hrun, hended, _, _, rfl, ?_, ⟨_, rfl⟩, hW, hsame.mono (by decide) (by decide)⟩
  · show St p e below s₁ (mkF m 0 #[.val (.int 8)] []) _
    refine XS.iloadN X0.here hx rfl (hb hby d2_0) rfl ?_
    show St p e below s₁ (mkF m 1 #[.val (.int 8)] [(.int 8)]) _
    refine X0.lookupswitchHit hx (g := (mkF m 1 #[.val (.int 8)] [(.int 8)])) rfl rfl (hb hby d2_1) (by decide) (a := 8) (off := 175) (by decide) (by show (0 : Int) ≤ ((1 : Nat) : Int) + 175; decide) _ ?_
    show St p e below s₁ (mkF m 176 #[.val (.int 8)] []) _
    refine st1 _ ?_
    show St p e below T1 (mkF m 179 #[.val (.int 8)] [(.ref w_FLOAT)]) _
    refine XS.goto X1.here hx rfl (pc0 := 179) (pc' := 197) rfl (hb hby d2_179) (by decide) (by decide) ?_
    show St p e below T1 (mkF m 197 #[.val (.int 8)] [(.ref w_FLOAT)]) _
    jvm_step X1.here [X1.here.top, hx, (hb hby d2_197), X1.method', Bd.returns, Value.isRef, FieldType.isReference]
    first | (intro acts; rw [hr _ acts rfl rfl rfl]) | rw [hr _ _ rfl rfl rfl]
    exact Steps.refl _
  · show Q_ct w_INTEGER w_DECIMAL w_FLOAT w_BOOLEAN w_TEXT w_OTHER (8 : Int32) h0 n0 _ T1.heap _
    rw [e1]
    exact ⟨by rfl, N0, rfl⟩
theorem d2_182 : decode prog_159_method_4_code 182 = .ok (.getstatic 13, 3) := by decide +kernel
theorem d2_185 : decode prog_159_method_4_code 185 = .ok (.goto 12, 3) := by decide +kernel
set_option maxRecDepth 65536 in
set_option maxHeartbeats 40000000 in
theorem rm_of_m7 (l : Launch) (Z : State) (a0 : Array Value) (hw : ∀ d ∈ tables_1, d.before a0 Z = true) (ws : List Jvm.Cond) (w_INTEGER : Addr) (w_DECIMAL : Addr) (w_FLOAT : Addr) (w_BOOLEAN : Addr) (w_TEXT : Addr) (w_OTHER : Addr) (h0 : Heap) (n0 : Nat) (Z0 : n0 ≤ h0.size) (S_INTEGER : Sta Z Z.heap "com/example/commitgate/commitgate/store/ColumnType" "INTEGER" "Lcom/example/commitgate/commitgate/store/ColumnType;" (.ref w_INTEGER)) (S_DECIMAL : Sta Z Z.heap "com/example/commitgate/commitgate/store/ColumnType" "DECIMAL" "Lcom/example/commitgate/commitgate/store/ColumnType;" (.ref w_DECIMAL)) (S_FLOAT : Sta Z Z.heap "com/example/commitgate/commitgate/store/ColumnType" "FLOAT" "Lcom/example/commitgate/commitgate/store/ColumnType;" (.ref w_FLOAT)) (S_BOOLEAN : Sta Z Z.heap "com/example/commitgate/commitgate/store/ColumnType" "BOOLEAN" "Lcom/example/commitgate/commitgate/store/ColumnType;" (.ref w_BOOLEAN)) (S_TEXT : Sta Z Z.heap "com/example/commitgate/commitgate/store/ColumnType" "TEXT" "Lcom/example/commitgate/commitgate/store/ColumnType;" (.ref w_TEXT)) (S_OTHER : Sta Z Z.heap "com/example/commitgate/commitgate/store/ColumnType" "OTHER" "Lcom/example/commitgate/commitgate/store/ColumnType;" (.ref w_OTHER)) (O0 : Old Z n0 h0) :
    MetFree l (⟨"com/example/commitgate/commitgate/store/ColumnType", "of", "(I)Lcom/example/commitgate/commitgate/store/ColumnType;"⟩ : MethodName) (head1 (Jvm.Cond.code (⟨"com/example/commitgate/commitgate/store/ColumnType", "of", "(I)Lcom/example/commitgate/commitgate/store/ColumnType;"⟩ : MethodName) prog_159_method_4_code 1 (some (.object "com/example/commitgate/commitgate/store/ColumnType")) :: ws) ({ frames := 0, cells := 0, slots := 0, locals := 0 } : Room)) (fun a U => a = #[(.int (-7))] ∧ Z.Warmed39 U.vm ∧ U.heap = h0) (fun _ _ _ _ _ => True) (fun _ U o U' => ∃ v L, o = .returned v ∧ Q_ct w_INTEGER w_DECIMAL w_FLOAT w_BOOLEAN w_TEXT w_OTHER (-7 : Int32) h0 n0 v U'.heap L ∧ FrameEnd U o U' L ({ frames := 0, cells := 0, slots := 0, locals := 0 } : Room).cells ({ frames := 0, cells := 0, slots := 0, locals := 0 } : Room).slots) := by
  refine MetFree.of_bodySF (plainFor_of_name pn_2) hisR ?_
  intro p e s m args below meth c s₁ Bd hml0 hP hK
  obtain ⟨rfl, hZ, hh⟩ := hP
  have hx := Bd.exec
  have hby := Bd.bytes
  have hml : c.maxLocals = 1 := hml0
  have hown : s.vm.findClass "com/example/commitgate/commitgate/store/ColumnType" = some m.cls := findClass_of_methodNamed Bd.named
  have hnm := (name_of_methodNamed Bd.named Bd.method).1
  have X0 : Stand p l e ({ frames := 0, cells := 0, slots := 0, locals := 0 } : Room) s m #[(.int (-7))] below meth c s₁ [] 0 0 := Stand.of_body Bd
  have e0 : s₁.heap = h0 := by rw [← hh, Bd.state]; rfl
  have N0 := Fr.nil n0
  have pre0 : ∀ t, Steps p.tables e below (s₁.setTop (mkF m 0 #[.val (.int (-7))] [])) t → Steps p.tables e below (s₁.setTop (entryFrame m #[(.int (-7))] 1)) t := fun t k => castTop (ef_2_I m (-7 : Int32)) k
  obtain ⟨T1, X1, e1, st1⟩ := getS2 X0 hx hZ hown (host := "") (Or.inl (hwi hw 30 rfl)) Via.refl e0 (S_BOOLEAN.ext O0.2) (g := (mkF m 182 #[.val (.int (-7))] [])) rfl (hb hby d2_182)
  obtain ⟨fs, hr, hrun, hended, hW, hsame⟩ := X1.leave (v := some (.ref w_BOOLEAN)) (fun h => by rw [Bd.returns] at h; cases h)
  refine ⟨_, _, pre0 _ ?_, hrun, hended, _, _, rfl, ?_, ⟨_, rfl⟩, hW, hsame.mono (by decide) (by decide)⟩
  · show St p e below s₁ (mkF m 0 #[.val (.int (-7))] []) _
    refine XS.iloadN X0.here hx rfl (hb hby d2_0) rfl ?_
    show St p e below s₁ (mkF m 1 #[.val (.int (-7))] [(.int (-7))]) _
    refine X0.lookupswitchHit hx (g := (mkF m 1 #[.val (.int (-7))] [(.int (-7))])) rfl rfl (hb hby d2_1) (by decide) (a := (-7)) (off := 181) (by decide) (by show (0 : Int) ≤ ((1 : Nat) : Int) + 181; decide) _ ?_
    show St p e below s₁ (mkF m 182 #[.val (.int (-7))] []) _
    refine st1 _ ?_
    show St p e below T1 (mkF m 185 #[.val (.int (-7))] [(.ref w_BOOLEAN)]) _
    refine XS.goto X1.here hx rfl (pc0 := 185) (pc' := 197) rfl (hb hby d2_185) (by decide) (by decide) ?_
    show St p e below T1 (mkF m 197 #[.val (.int (-7))] [(.ref w_BOOLEAN)]) _
    jvm_step X1.here [X1.here.top, hx, (hb hby d2_197), X1.method', Bd.returns, Value.isRef, FieldType.isReference]
    first | (intro acts; rw [hr _ acts rfl rfl rfl]) | rw [hr _ _ rfl rfl rfl]
    exact Steps.refl _
  · show Q_ct w_INTEGER w_DECIMAL w_FLOAT w_BOOLEAN w_TEXT w_OTHER (-7 : Int32) h0 n0 _ T1.heap _
    rw [e1]
    exact ⟨by rfl, N0, rfl⟩
set_option maxRecDepth 65536 in
set_option maxHeartbeats 40000000 in
theorem rm_of_16 (l : Launch) (Z : State) (a0 : Array Value) (hw : ∀ d ∈ tables_1, d.before a0 Z = true) (ws : List Jvm.Cond) (w_INTEGER : Addr) (w_DECIMAL : Addr) (w_FLOAT : Addr) (w_BOOLEAN : Addr) (w_TEXT : Addr) (w_OTHER : Addr) (h0 : Heap) (n0 : Nat) (Z0 : n0 ≤ h0.size) (S_INTEGER : Sta Z Z.heap "com/example/commitgate/commitgate/store/ColumnType" "INTEGER" "Lcom/example/commitgate/commitgate/store/ColumnType;" (.ref w_INTEGER)) (S_DECIMAL : Sta Z Z.heap "com/example/commitgate/commitgate/store/ColumnType" "DECIMAL" "Lcom/example/commitgate/commitgate/store/ColumnType;" (.ref w_DECIMAL)) (S_FLOAT : Sta Z Z.heap "com/example/commitgate/commitgate/store/ColumnType" "FLOAT" "Lcom/example/commitgate/commitgate/store/ColumnType;" (.ref w_FLOAT)) (S_BOOLEAN : Sta Z Z.heap "com/example/commitgate/commitgate/store/ColumnType" "BOOLEAN" "Lcom/example/commitgate/commitgate/store/ColumnType;" (.ref w_BOOLEAN)) (S_TEXT : Sta Z Z.heap "com/example/commitgate/commitgate/store/ColumnType" "TEXT" "Lcom/example/commitgate/commitgate/store/ColumnType;" (.ref w_TEXT)) (S_OTHER : Sta Z Z.heap "com/example/commitgate/commitgate/store/ColumnType" "OTHER" "Lcom/example/commitgate/commitgate/store/ColumnType;" (.ref w_OTHER)) (O0 : Old Z n0 h0) :
    MetFree l (⟨"com/example/commitgate/commitgate/store/ColumnType", "of", "(I)Lcom/example/commitgate/commitgate/store/ColumnType;"⟩ : MethodName) (head1 (Jvm.Cond.code (⟨"com/example/commitgate/commitgate/store/ColumnType", "of", "(I)Lcom/example/commitgate/commitgate/store/ColumnType;"⟩ : MethodName) prog_159_method_4_code 1 (some (.object "com/example/commitgate/commitgate/store/ColumnType")) :: ws) ({ frames := 0, cells := 0, slots := 0, locals := 0 } : Room)) (fun a U => a = #[(.int 16)] ∧ Z.Warmed39 U.vm ∧ U.heap = h0) (fun _ _ _ _ _ => True) (fun _ U o U' => ∃ v L, o = .returned v ∧ Q_ct w_INTEGER w_DECIMAL w_FLOAT w_BOOLEAN w_TEXT w_OTHER (16 : Int32) h0 n0 v U'.heap L ∧ FrameEnd U o U' L ({ frames := 0, cells := 0, slots := 0, locals := 0 } : Room).cells ({ frames := 0, cells := 0, slots := 0, locals := 0 } : Room).slots) := by
  refine MetFree.of_bodySF (plainFor_of_name pn_2) hisR ?_
  intro p e s m args below meth c s₁ Bd hml0 hP hK
  obtain ⟨rfl, hZ, hh⟩ := hP
  have hx := Bd.exec
  have hby := Bd.bytes
  have hml : c.maxLocals = 1 := hml0
  have hown : s.vm.findClass "com/example/commitgate/commitgate/store/ColumnType" = some m.cls := findClass_of_methodNamed Bd.named
  have hnm := (name_of_methodNamed Bd.named Bd.method).1
  have X0 : Stand p l e ({ frames := 0, cells := 0, slots := 0, locals := 0 } : Room) s m #[(.int 16)] below meth c s₁ [] 0 0 := Stand.of_body Bd
  have e0 : s₁.heap = h0 := by rw [← hh, Bd.state]; rfl
  have N0 := Fr.nil n0
  have pre0 : ∀ t, Steps p.tables e below (s₁.setTop (mkF m 0 #[.val (.int 16)] [])) t → Steps p.tables e below (s₁.setTop (entryFrame m #[(.int 16)] 1)) t := fun t k => castTop (ef_2_I m (16 : Int32)) k
  obtain ⟨T1, X1, e1, st1⟩ := getS2 X0 hx hZ hown (host := "") (Or.inl (hwi hw 30 rfl)) Via.refl e0 (S_BOOLEAN.ext O0.2) (g := (mkF m 182 #[.val (.int 16)] [])) rfl (hb hby d2_182)
  obtain ⟨fs, hr, hrun, hended, hW, hsame⟩ := X1.leave (v := some (.ref w_BOOLEAN)) (fun h => by rw [Bd.returns] at h; cases h)
  refine ⟨_, _, pre0 _ ?_, hrun, hended, _, _, rfl, ?_, ⟨_, rfl⟩, hW, hsame.mono (by decide) (by decide)⟩
  · show St p e below s₁ (mkF m 0 #[.val (.int 16)] []) _
    refine XS.iloadN X0.here hx rfl (hb hby d2_0) rfl ?_
    show St p e below s₁ (mkF m 1 #[.val (.int 16)] [(.int 16)]) _
    refine X0.lookupswitchHit hx (g := (mkF m 1 #[.val (.int 16)] [(.int 16)])) rfl rfl (hb hby d2_1) (by decide) (a := 16) (off := 181) (by decide) (by show (0 : Int) ≤ ((1 : Nat) : Int) + 181; decide) _ ?_
    show St p e below s₁ (mkF m 182 #[.val (.int 16)] []) _
    refine st1 _ ?_
    show St p e below T1 (mkF m 185 #[.val (.int 16)] [(.ref w_BOOLEAN)]) _
    refine XS.goto X1.here hx rfl (pc0 := 185) (pc' := 197) rfl (hb hby d2_185) (by decide) (by decide) ?_
    show St p e below T1 (mkF m 197 #[.val (.int 16)] [(.ref w_BOOLEAN)]) _
    jvm_step X1.here [X1.here.top, hx, (hb hby d2_197), X1.method', Bd.returns, Value.isRef, FieldType.isReference]
    first | (intro acts; rw [hr _ acts rfl rfl rfl]) | rw [hr _ _ rfl rfl rfl]
    exact Steps.refl _
  · show Q_ct w_INTEGER w_DECIMAL w_FLOAT w_BOOLEAN w_TEXT w_OTHER (16 : Int32) h0 n0 _ T1.heap _
    rw [e1]
    exact ⟨by rfl, N0, rfl⟩
theorem d2_188 : decode prog_159_method_4_code 188 = .ok (.getstatic 16, 3) := by decide +kernel
theorem d2_191 : decode prog_159_method_4_code 191 = .ok (.goto 6, 3) := by decide +kernel
set_option maxRecDepth 65536 in
set_option maxHeartbeats 40000000 in
theorem rm_of_1 (l : Launch) (Z : State) (a0 : Array Value) (hw : ∀ d ∈ tables_1, d.before a0 Z = true) (ws : List Jvm.Cond) (w_INTEGER : Addr) (w_DECIMAL : Addr) (w_FLOAT : Addr) (w_BOOLEAN : Addr) (w_TEXT : Addr) (w_OTHER : Addr) (h0 : Heap) (n0 : Nat) (Z0 : n0 ≤ h0.size) (S_INTEGER : Sta Z Z.heap "com/example/commitgate/commitgate/store/ColumnType" "INTEGER" "Lcom/example/commitgate/commitgate/store/ColumnType;" (.ref w_INTEGER)) (S_DECIMAL : Sta Z Z.heap "com/example/commitgate/commitgate/store/ColumnType" "DECIMAL" "Lcom/example/commitgate/commitgate/store/ColumnType;" (.ref w_DECIMAL)) (S_FLOAT : Sta Z Z.heap "com/example/commitgate/commitgate/store/ColumnType" "FLOAT" "Lcom/example/commitgate/commitgate/store/ColumnType;" (.ref w_FLOAT)) (S_BOOLEAN : Sta Z Z.heap "com/example/commitgate/commitgate/store/ColumnType" "BOOLEAN" "Lcom/example/commitgate/commitgate/store/ColumnType;" (.ref w_BOOLEAN)) (S_TEXT : Sta Z Z.heap "com/example/commitgate/commitgate/store/ColumnType" "TEXT" "Lcom/example/commitgate/commitgate/store/ColumnType;" (.ref w_TEXT)) (S_OTHER : Sta Z Z.heap "com/example/commitgate/commitgate/store/ColumnType" "OTHER" "Lcom/example/commitgate/commitgate/store/ColumnType;" (.ref w_OTHER)) (O0 : Old Z n0 h0) :
    MetFree l (⟨"com/example/commitgate/commitgate/store/ColumnType", "of", "(I)Lcom/example/commitgate/commitgate/store/ColumnType;"⟩ : MethodName) (head1 (Jvm.Cond.code (⟨"com/example/commitgate/commitgate/store/ColumnType", "of", "(I)Lcom/example/commitgate/commitgate/store/ColumnType;"⟩ : MethodName) prog_159_method_4_code 1 (some (.object "com/example/commitgate/commitgate/store/ColumnType")) :: ws) ({ frames := 0, cells := 0, slots := 0, locals := 0 } : Room)) (fun a U => a = #[(.int 1)] ∧ Z.Warmed39 U.vm ∧ U.heap = h0) (fun _ _ _ _ _ => True) (fun _ U o U' => ∃ v L, o = .returned v ∧ Q_ct w_INTEGER w_DECIMAL w_FLOAT w_BOOLEAN w_TEXT w_OTHER (1 : Int32) h0 n0 v U'.heap L ∧ FrameEnd U o U' L ({ frames := 0, cells := 0, slots := 0, locals := 0 } : Room).cells ({ frames := 0, cells := 0, slots := 0, locals := 0 } : Room).slots) := by
  refine MetFree.of_bodySF (plainFor_of_name pn_2) hisR ?_
  intro p e s m args below meth c s₁ Bd hml0 hP hK
  obtain ⟨rfl, hZ, hh⟩ := hP
  have hx := Bd.exec
  have hby := Bd.bytes
  have hml : c.maxLocals = 1 := hml0
  have hown : s.vm.findClass "com/example/commitgate/commitgate/store/ColumnType" = some m.cls := findClass_of_methodNamed Bd.named
  have hnm := (name_of_methodNamed Bd.named Bd.method).1
  have X0 : Stand p l e ({ frames := 0, cells := 0, slots := 0, locals := 0 } : Room) s m #[(.int 1)] below meth c s₁ [] 0 0 := Stand.of_body Bd
  have e0 : s₁.heap = h0 := by rw [← hh, Bd.state]; rfl
  have N0 := Fr.nil n0
  have pre0 : ∀ t, Steps p.tables e below (s₁.setTop (mkF m 0 #[.val (.int 1)] [])) t → Steps p.tables e below (s₁.setTop (entryFrame m #[(.int 1)] 1)) t := fun t k => castTop (ef_2_I m (1 : Int32)) k
  obtain ⟨T1, X1, e1, st1⟩ := getS2 X0 hx hZ hown (host := "") (Or.inl (hwi hw 21 rfl)) Via.refl e0 (S_TEXT.ext O0.2) (g := (mkF m 188 #[.val (.int 1)] [])) rfl (hb hby d2_188)
  obtain ⟨fs, hr, hrun, hended, hW, hsame⟩ := X1.leave (v := some (.ref w_TEXT)) (fun h => by rw [Bd.returns] at h; cases h)
  refine ⟨_, _, pre0 _ ?_, hrun, hended, _, _, rfl, ?_, ⟨_, rfl⟩, hW, hsame.mono (by decide) (by decide)⟩
  · show St p e below s₁ (mkF m 0 #[.val (.int 1)] []) _
    refine XS.iloadN X0.here hx rfl (hb hby d2_0) rfl ?_
    show St p e below s₁ (mkF m 1 #[.val (.int 1)] [(.int 1)]) _
    refine X0.lookupswitchHit hx (g := (mkF m 1 #[.val (.int 1)] [(.int 1)])) rfl rfl (hb hby d2_1) (by decide) (a := 1) (off := 187) (by decide) (by show (0 : Int) ≤ ((1 : Nat) : Int) + 187; decide) _ ?_
    show St p e below s₁ (mkF m 188 #[.val (.int 1)] []) _
    refine st1 _ ?_
    show St p e below T1 (mkF m 191 #[.val (.int 1)] [(.ref w_TEXT)]) _
    refine XS.goto X1.here hx rfl (pc0 := 191) (pc' := 197) rfl (hb hby d2_191) (by decide) (by decide) ?_
    show St p e below T1 (mkF m 197 #[.val (.int 1)] [(.ref w_TEXT)]) _
    jvm_step X1.here [X1.here.top, hx, (hb hby d2_197), X1.method', Bd.returns, Value.isRef, FieldType.isReference]
    first | (intro acts; rw [hr _ acts rfl rfl rfl]) | rw [hr _ _ rfl rfl rfl]
    exact Steps.refl _
  · show Q_ct w_INTEGER w_DECIMAL w_FLOAT w_BOOLEAN w_TEXT w_OTHER (1 : Int32) h0 n0 _ T1.heap _
    rw [e1]
    exact ⟨by rfl, N0, rfl⟩
set_option maxRecDepth 65536 in
set_option maxHeartbeats 40000000 in
theorem rm_of_12 (l : Launch) (Z : State) (a0 : Array Value) (hw : ∀ d ∈ tables_1, d.before a0 Z = true) (ws : List Jvm.Cond) (w_INTEGER : Addr) (w_DECIMAL : Addr) (w_FLOAT : Addr) (w_BOOLEAN : Addr) (w_TEXT : Addr) (w_OTHER : Addr) (h0 : Heap) (n0 : Nat) (Z0 : n0 ≤ h0.size) (S_INTEGER : Sta Z Z.heap "com/example/commitgate/commitgate/store/ColumnType" "INTEGER" "Lcom/example/commitgate/commitgate/store/ColumnType;" (.ref w_INTEGER)) (S_DECIMAL : Sta Z Z.heap "com/example/commitgate/commitgate/store/ColumnType" "DECIMAL" "Lcom/example/commitgate/commitgate/store/ColumnType;" (.ref w_DECIMAL)) (S_FLOAT : Sta Z Z.heap "com/example/commitgate/commitgate/store/ColumnType" "FLOAT" "Lcom/example/commitgate/commitgate/store/ColumnType;" (.ref w_FLOAT)) (S_BOOLEAN : Sta Z Z.heap "com/example/commitgate/commitgate/store/ColumnType" "BOOLEAN" "Lcom/example/commitgate/commitgate/store/ColumnType;" (.ref w_BOOLEAN)) (S_TEXT : Sta Z Z.heap "com/example/commitgate/commitgate/store/ColumnType" "TEXT" "Lcom/example/commitgate/commitgate/store/ColumnType;" (.ref w_TEXT)) (S_OTHER : Sta Z Z.heap "com/example/commitgate/commitgate/store/ColumnType" "OTHER" "Lcom/example/commitgate/commitgate/store/ColumnType;" (.ref w_OTHER)) (O0 : Old Z n0 h0) :
    MetFree l (⟨"com/example/commitgate/commitgate/store/ColumnType", "of", "(I)Lcom/example/commitgate/commitgate/store/ColumnType;"⟩ : MethodName) (head1 (Jvm.Cond.code (⟨"com/example/commitgate/commitgate/store/ColumnType", "of", "(I)Lcom/example/commitgate/commitgate/store/ColumnType;"⟩ : MethodName) prog_159_method_4_code 1 (some (.object "com/example/commitgate/commitgate/store/ColumnType")) :: ws) ({ frames := 0, cells := 0, slots := 0, locals := 0 } : Room)) (fun a U => a = #[(.int 12)] ∧ Z.Warmed39 U.vm ∧ U.heap = h0) (fun _ _ _ _ _ => True) (fun _ U o U' => ∃ v L, o = .returned v ∧ Q_ct w_INTEGER w_DECIMAL w_FLOAT w_BOOLEAN w_TEXT w_OTHER (12 : Int32) h0 n0 v U'.heap L ∧ FrameEnd U o U' L ({ frames := 0, cells := 0, slots := 0, locals := 0 } : Room).cells ({ frames := 0, cells := 0, slots := 0, locals := 0 } : Room).slots) := by
  refine MetFree.of_bodySF (plainFor_of_name pn_2) hisR ?_
  intro p e s m args below meth c s₁ Bd hml0 hP hK
  obtain ⟨rfl, hZ, hh⟩ := hP
  have hx := Bd.exec
  have hby := Bd.bytes
  have hml : c.maxLocals = 1 := hml0
  have hown : s.vm.findClass "com/example/commitgate/commitgate/store/ColumnType" = some m.cls := findClass_of_methodNamed Bd.named
  have hnm := (name_of_methodNamed Bd.named Bd.method).1
  have X0 : Stand p l e ({ frames := 0, cells := 0, slots := 0, locals := 0 } : Room) s m #[(.int 12)] below meth c s₁ [] 0 0 := Stand.of_body Bd
  have e0 : s₁.heap = h0 := by rw [← hh, Bd.state]; rfl
  have N0 := Fr.nil n0
  have pre0 : ∀ t, Steps p.tables e below (s₁.setTop (mkF m 0 #[.val (.int 12)] [])) t → Steps p.tables e below (s₁.setTop (entryFrame m #[(.int 12)] 1)) t := fun t k => castTop (ef_2_I m (12 : Int32)) k
  obtain ⟨T1, X1, e1, st1⟩ := getS2 X0 hx hZ hown (host := "") (Or.inl (hwi hw 21 rfl)) Via.refl e0 (S_TEXT.ext O0.2) (g := (mkF m 188 #[.val (.int 12)] [])) rfl (hb hby d2_188)
  obtain ⟨fs, hr, hrun, hended, hW, hsame⟩ := X1.leave (v := some (.ref w_TEXT)) (fun h => by rw [Bd.returns] at h; cases h)
  refine ⟨_, _, pre0 _ ?_, hrun, hended, _, _, rfl, ?_, ⟨_, rfl⟩, hW, hsame.mono (by decide) (by decide)⟩
  · show St p e below s₁ (mkF m 0 #[.val (.int 12)] []) _
    refine XS.iloadN X0.here hx rfl (hb hby d2_0) rfl ?_
    show St p e below s₁ (mkF m 1 #[.val (.int 12)] [(.int 12)]) _
    refine X0.lookupswitchHit hx (g := (mkF m 1 #[.val (.int 12)] [(.int 12)])) rfl rfl (hb hby d2_1) (by decide) (a := 12) (off := 187) (by decide) (by show (0 : Int) ≤ ((1 : Nat) : Int) + 187; decide) _ ?_
    show St p e below s₁ (mkF m 188 #[.val (.int 12)] []) _
    refine st1 _ ?_
    show St p e below T1 (mkF m 191 #[.val (.int 12)] [(.ref w_TEXT)]) _
    refine XS.goto X1.here hx rfl (pc0 := 191) (pc' := 197) rfl (hb hby d2_191) (by decide) (by decide) ?_
    show St p e below T1 (mkF m 197 #[.val (.int 12)] [(.ref w_TEXT)]) _
    jvm_step X1.here [X1.here.top, hx, (hb hby d2_197), X1.method', Bd.returns, Value.isRef, FieldType.isReference]
    first | (intro acts; rw [hr _ acts rfl rfl rfl]) | rw [hr _ _ rfl rfl rfl]
    exact Steps.refl _
  · show Q_ct w_INTEGER w_DECIMAL w_FLOAT w_BOOLEAN w_TEXT w_OTHER (12 : Int32) h0 n0 _ T1.heap _
    rw [e1]
    exact ⟨by rfl, N0, rfl⟩
set_option maxRecDepth 65536 in
set_option maxHeartbeats 40000000 in
theorem rm_of_m1 (l : Launch) (Z : State) (a0 : Array Value) (hw : ∀ d ∈ tables_1, d.before a0 Z = true) (ws : List Jvm.Cond) (w_INTEGER : Addr) (w_DECIMAL : Addr) (w_FLOAT : Addr) (w_BOOLEAN : Addr) (w_TEXT : Addr) (w_OTHER : Addr) (h0 : Heap) (n0 : Nat) (Z0 : n0 ≤ h0.size) (S_INTEGER : Sta Z Z.heap "com/example/commitgate/commitgate/store/ColumnType" "INTEGER" "Lcom/example/commitgate/commitgate/store/ColumnType;" (.ref w_INTEGER)) (S_DECIMAL : Sta Z Z.heap "com/example/commitgate/commitgate/store/ColumnType" "DECIMAL" "Lcom/example/commitgate/commitgate/store/ColumnType;" (.ref w_DECIMAL)) (S_FLOAT : Sta Z Z.heap "com/example/commitgate/commitgate/store/ColumnType" "FLOAT" "Lcom/example/commitgate/commitgate/store/ColumnType;" (.ref w_FLOAT)) (S_BOOLEAN : Sta Z Z.heap "com/example/commitgate/commitgate/store/ColumnType" "BOOLEAN" "Lcom/example/commitgate/commitgate/store/ColumnType;" (.ref w_BOOLEAN)) (S_TEXT : Sta Z Z.heap "com/example/commitgate/commitgate/store/ColumnType" "TEXT" "Lcom/example/commitgate/commitgate/store/ColumnType;" (.ref w_TEXT)) (S_OTHER : Sta Z Z.heap "com/example/commitgate/commitgate/store/ColumnType" "OTHER" "Lcom/example/commitgate/commitgate/store/ColumnType;" (.ref w_OTHER)) (O0 : Old Z n0 h0) :
    MetFree l (⟨"com/example/commitgate/commitgate/store/ColumnType", "of", "(I)Lcom/example/commitgate/commitgate/store/ColumnType;"⟩ : MethodName) (head1 (Jvm.Cond.code (⟨"com/example/commitgate/commitgate/store/ColumnType", "of", "(I)Lcom/example/commitgate/commitgate/store/ColumnType;"⟩ : MethodName) prog_159_method_4_code 1 (some (.object "com/example/commitgate/commitgate/store/ColumnType")) :: ws) ({ frames := 0, cells := 0, slots := 0, locals := 0 } : Room)) (fun a U => a = #[(.int (-1))] ∧ Z.Warmed39 U.vm ∧ U.heap = h0) (fun _ _ _ _ _ => True) (fun _ U o U' => ∃ v L, o = .returned v ∧ Q_ct w_INTEGER w_DECIMAL w_FLOAT w_BOOLEAN w_TEXT w_OTHER (-1 : Int32) h0 n0 v U'.heap L ∧ FrameEnd U o U' L ({ frames := 0, cells := 0, slots := 0, locals := 0 } : Room).cells ({ frames := 0, cells := 0, slots := 0, locals := 0 } : Room).slots) := by
  refine MetFree.of_bodySF (plainFor_of_name pn_2) hisR ?_
  intro p e s m args below meth c s₁ Bd hml0 hP hK
  obtain ⟨rfl, hZ, hh⟩ := hP
  have hx := Bd.exec
  have hby := Bd.bytes
  have hml : c.maxLocals = 1 := hml0
  have hown : s.vm.findClass "com/example/commitgate/commitgate/store/ColumnType" = some m.cls := findClass_of_methodNamed Bd.named
  have hnm := (name_of_methodNamed Bd.named Bd.method).1
  have X0 : Stand p l e ({ frames := 0, cells := 0, slots := 0, locals := 0 } : Room) s m #[(.int (-1))] below meth c s₁ [] 0 0 := Stand.of_body Bd
  have e0 : s₁.heap = h0 := by rw [← hh, Bd.state]; rfl
  have N0 := Fr.nil n0
  have pre0 : ∀ t, Steps p.tables e below (s₁.setTop (mkF m 0 #[.val (.int (-1))] [])) t → Steps p.tables e below (s₁.setTop (entryFrame m #[(.int (-1))] 1)) t := fun t k => castTop (ef_2_I m (-1 : Int32)) k
  obtain ⟨T1, X1, e1, st1⟩ := getS2 X0 hx hZ hown (host := "") (Or.inl (hwi hw 21 rfl)) Via.refl e0 (S_TEXT.ext O0.2) (g := (mkF m 188 #[.val (.int (-1))] [])) rfl (hb hby d2_188)
  obtain ⟨fs, hr, hrun, hended, hW, hsame⟩ := X1.leave (v := some (.ref w_TEXT)) (fun h => by rw [Bd.returns] at h; cases h)
  refine ⟨_, _, pre0 _ ?_, hrun, hended, _, _, rfl, ?_, ⟨_, rfl⟩, hW, hsame.mono (by decide) (by decide)⟩
  · show St p e below s₁ (mkF m 0 #[.val (.int (-1))] []) _
    refine XS.iloadN X0.here hx rfl (hb hby d2_0) rfl ?_
    show St p e below s₁ (mkF m 1 #[.val (.int (-1))] [(.int (-1))]) _
    refine X0.lookupswitchHit hx (g := (mkF m 1 #[.val (.int (-1))] [(.int (-1))])) rfl rfl (hb hby d2_1) (by decide) (a := (-1)) (off := 187) (by decide) (by show (0 : Int) ≤ ((1 : Nat) : Int) + 187; decide) _ ?_
    show St p e below s₁ (mkF m 188 #[.val (.int (-1))] []) _
    refine st1 _ ?_
    show St p e below T1 (mkF m 191 #[.val (.int (-1))] [(.ref w_TEXT)]) _
    refine XS.goto X1.here hx rfl (pc0 := 191) (pc' := 197) rfl (hb hby d2_191) (by decide) (by decide) ?_
    show St p e below T1 (mkF m 197 #[.val (.int (-1))] [(.ref w_TEXT)]) _
    jvm_step X1.here [X1.here.top, hx, (hb hby d2_197), X1.method', Bd.returns, Value.isRef, FieldType.isReference]
    first | (intro acts; rw [hr _ acts rfl rfl rfl]) | rw [hr _ _ rfl rfl rfl]
    exact Steps.refl _
  · show Q_ct w_INTEGER w_DECIMAL w_FLOAT w_BOOLEAN w_TEXT w_OTHER (-1 : Int32) h0 n0 _ T1.heap _
    rw [e1]
    exact ⟨by rfl, N0, rfl⟩
set_option maxRecDepth 65536 in
set_option maxHeartbeats 40000000 in
theorem rm_of_m15 (l : Launch) (Z : State) (a0 : Array Value) (hw : ∀ d ∈ tables_1, d.before a0 Z = true) (ws : List Jvm.Cond) (w_INTEGER : Addr) (w_DECIMAL : Addr) (w_FLOAT : Addr) (w_BOOLEAN : Addr) (w_TEXT : Addr) (w_OTHER : Addr) (h0 : Heap) (n0 : Nat) (Z0 : n0 ≤ h0.size) (S_INTEGER : Sta Z Z.heap "com/example/commitgate/commitgate/store/ColumnType" "INTEGER" "Lcom/example/commitgate/commitgate/store/ColumnType;" (.ref w_INTEGER)) (S_DECIMAL : Sta Z Z.heap "com/example/commitgate/commitgate/store/ColumnType" "DECIMAL" "Lcom/example/commitgate/commitgate/store/ColumnType;" (.ref w_DECIMAL)) (S_FLOAT : Sta Z Z.heap "com/example/commitgate/commitgate/store/ColumnType" "FLOAT" "Lcom/example/commitgate/commitgate/store/ColumnType;" (.ref w_FLOAT)) (S_BOOLEAN : Sta Z Z.heap "com/example/commitgate/commitgate/store/ColumnType" "BOOLEAN" "Lcom/example/commitgate/commitgate/store/ColumnType;" (.ref w_BOOLEAN)) (S_TEXT : Sta Z Z.heap "com/example/commitgate/commitgate/store/ColumnType" "TEXT" "Lcom/example/commitgate/commitgate/store/ColumnType;" (.ref w_TEXT)) (S_OTHER : Sta Z Z.heap "com/example/commitgate/commitgate/store/ColumnType" "OTHER" "Lcom/example/commitgate/commitgate/store/ColumnType;" (.ref w_OTHER)) (O0 : Old Z n0 h0) :
    MetFree l (⟨"com/example/commitgate/commitgate/store/ColumnType", "of", "(I)Lcom/example/commitgate/commitgate/store/ColumnType;"⟩ : MethodName) (head1 (Jvm.Cond.code (⟨"com/example/commitgate/commitgate/store/ColumnType", "of", "(I)Lcom/example/commitgate/commitgate/store/ColumnType;"⟩ : MethodName) prog_159_method_4_code 1 (some (.object "com/example/commitgate/commitgate/store/ColumnType")) :: ws) ({ frames := 0, cells := 0, slots := 0, locals := 0 } : Room)) (fun a U => a = #[(.int (-15))] ∧ Z.Warmed39 U.vm ∧ U.heap = h0) (fun _ _ _ _ _ => True) (fun _ U o U' => ∃ v L, o = .returned v ∧ Q_ct w_INTEGER w_DECIMAL w_FLOAT w_BOOLEAN w_TEXT w_OTHER (-15 : Int32) h0 n0 v U'.heap L ∧ FrameEnd U o U' L ({ frames := 0, cells := 0, slots := 0, locals := 0 } : Room).cells ({ frames := 0, cells := 0, slots := 0, locals := 0 } : Room).slots) := by
  refine MetFree.of_bodySF (plainFor_of_name pn_2) hisR ?_
  intro p e s m args below meth c s₁ Bd hml0 hP hK
  obtain ⟨rfl, hZ, hh⟩ := hP
  have hx := Bd.exec
  have hby := Bd.bytes
  have hml : c.maxLocals = 1 := hml0
  have hown : s.vm.findClass "com/example/commitgate/commitgate/store/ColumnType" = some m.cls := findClass_of_methodNamed Bd.named
  have hnm := (name_of_methodNamed Bd.named Bd.method).1
  have X0 : Stand p l e ({ frames := 0, cells := 0, slots := 0, locals := 0 } : Room) s m #[(.int (-15))] below meth c s₁ [] 0 0 := Stand.of_body Bd
  have e0 : s₁.heap = h0 := by rw [← hh, Bd.state]; rfl
  have N0 := Fr.nil n0
  have pre0 : ∀ t, Steps p.tables e below (s₁.setTop (mkF m 0 #[.val (.int (-15))] [])) t → Steps p.tables e below (s₁.setTop (entryFrame m #[(.int (-15))] 1)) t := fun t k => castTop (ef_2_I m (-15 : Int32)) k
  obtain ⟨T1, X1, e1, st1⟩ := getS2 X0 hx hZ hown (host := "") (Or.inl (hwi hw 21 rfl)) Via.refl e0 (S_TEXT.ext O0.2) (g := (mkF m 188 #[.val (.int (-15))] [])) rfl (hb hby d2_188)
  obtain ⟨fs, hr, hrun, hended, hW, hsame⟩ := X1.leave (v := some (.ref w_TEXT)) (fun h => by rw [Bd.returns] at h; cases h)
  refine ⟨_, _, pre0 _ ?_, hrun, hended, _, _, rfl, ?_, ⟨_, rfl⟩, hW, hsame.mono (by decide) (by decide)⟩
  · show St p e below s₁ (mkF m 0 #[.val (.int (-15))] []) _
    refine XS.iloadN X0.here hx rfl (hb hby d2_0) rfl ?_
    show St p e below s₁ (mkF m 1 #[.val (.int (-15))] [(.int (-15))]) _
    refine X0.lookupswitchHit hx (g := (mkF m 1 #[.val (.int (-15))] [(.int (-15))])) rfl rfl (hb hby d2_1) (by decide) (a := (-15)) (off := 187) (by decide) (by show (0 : Int) ≤ ((1 : Nat) : Int) + 187; decide) _ ?_
    show St p e below s₁ (mkF m 188 #[.val (.int (-15))] []) _
    refine st1 _ ?_
    show St p e below T1 (mkF m 191 #[.val (.int (-15))] [(.ref w_TEXT)]) _
    refine XS.goto X1.here hx rfl (pc0 := 191) (pc' := 197) rfl (hb hby d2_191) (by decide) (by decide) ?_
    show St p e below T1 (mkF m 197 #[.val (.int (-15))] [(.ref w_TEXT)]) _
    jvm_step X1.here [X1.here.top, hx, (hb hby d2_197), X1.method', Bd.returns, Value.isRef, FieldType.isReference]
    first | (intro acts; rw [hr _ acts rfl rfl rfl]) | rw [hr _ _ rfl rfl rfl]
    exact Steps.refl _
  · show Q_ct w_INTEGER w_DECIMAL w_FLOAT w_BOOLEAN w_TEXT w_OTHER (-15 : Int32) h0 n0 _ T1.heap _
    rw [e1]
    exact ⟨by rfl, N0, rfl⟩
set_option maxRecDepth 65536 in
set_option maxHeartbeats 40000000 in
theorem rm_of_m9 (l : Launch) (Z : State) (a0 : Array Value) (hw : ∀ d ∈ tables_1, d.before a0 Z = true) (ws : List Jvm.Cond) (w_INTEGER : Addr) (w_DECIMAL : Addr) (w_FLOAT : Addr) (w_BOOLEAN : Addr) (w_TEXT : Addr) (w_OTHER : Addr) (h0 : Heap) (n0 : Nat) (Z0 : n0 ≤ h0.size) (S_INTEGER : Sta Z Z.heap "com/example/commitgate/commitgate/store/ColumnType" "INTEGER" "Lcom/example/commitgate/commitgate/store/ColumnType;" (.ref w_INTEGER)) (S_DECIMAL : Sta Z Z.heap "com/example/commitgate/commitgate/store/ColumnType" "DECIMAL" "Lcom/example/commitgate/commitgate/store/ColumnType;" (.ref w_DECIMAL)) (S_FLOAT : Sta Z Z.heap "com/example/commitgate/commitgate/store/ColumnType" "FLOAT" "Lcom/example/commitgate/commitgate/store/ColumnType;" (.ref w_FLOAT)) (S_BOOLEAN : Sta Z Z.heap "com/example/commitgate/commitgate/store/ColumnType" "BOOLEAN" "Lcom/example/commitgate/commitgate/store/ColumnType;" (.ref w_BOOLEAN)) (S_TEXT : Sta Z Z.heap "com/example/commitgate/commitgate/store/ColumnType" "TEXT" "Lcom/example/commitgate/commitgate/store/ColumnType;" (.ref w_TEXT)) (S_OTHER : Sta Z Z.heap "com/example/commitgate/commitgate/store/ColumnType" "OTHER" "Lcom/example/commitgate/commitgate/store/ColumnType;" (.ref w_OTHER)) (O0 : Old Z n0 h0) :
    MetFree l (⟨"com/example/commitgate/commitgate/store/ColumnType", "of", "(I)Lcom/example/commitgate/commitgate/store/ColumnType;"⟩ : MethodName) (head1 (Jvm.Cond.code (⟨"com/example/commitgate/commitgate/store/ColumnType", "of", "(I)Lcom/example/commitgate/commitgate/store/ColumnType;"⟩ : MethodName) prog_159_method_4_code 1 (some (.object "com/example/commitgate/commitgate/store/ColumnType")) :: ws) ({ frames := 0, cells := 0, slots := 0, locals := 0 } : Room)) (fun a U => a = #[(.int (-9))] ∧ Z.Warmed39 U.vm ∧ U.heap = h0) (fun _ _ _ _ _ => True) (fun _ U o U' => ∃ v L, o = .returned v ∧ Q_ct w_INTEGER w_DECIMAL w_FLOAT w_BOOLEAN w_TEXT w_OTHER (-9 : Int32) h0 n0 v U'.heap L ∧ FrameEnd U o U' L ({ frames := 0, cells := 0, slots := 0, locals := 0 } : Room).cells ({ frames := 0, cells := 0, slots := 0, locals := 0 } : Room).slots) := by
  refine MetFree.of_bodySF (plainFor_of_name pn_2) hisR ?_
  intro p e s m args below meth c s₁ Bd hml0 hP hK
  obtain ⟨rfl, hZ, hh⟩ := hP
  have hx := Bd.exec
  have hby := Bd.bytes
  have hml : c.maxLocals = 1 := hml0
  have hown : s.vm.findClass "com/example/commitgate/commitgate/store/ColumnType" = some m.cls := findClass_of_methodNamed Bd.named
  have hnm := (name_of_methodNamed Bd.named Bd.method).1
  have X0 : Stand p l e ({ frames := 0, cells := 0, slots := 0, locals := 0 } : Room) s m #[(.int (-9))] below meth c s₁ [] 0 0 := Stand.of_body Bd
  have e0 : s₁.heap = h0 := by rw [← hh, Bd.state]; rfl
  have N0 := Fr.nil n0
  have pre0 : ∀ t, Steps p.tables e below (s₁.setTop (mkF m 0 #[.val (.int (-9))] [])) t → Steps p.tables e below (s₁.setTop (entryFrame m #[(.int (-9))] 1)) t := fun t k => castTop (ef_2_I m (-9 : Int32)) k
  obtain ⟨T1, X1, e1, st1⟩ := getS2 X0 hx hZ hown (host := "") (Or.inl (hwi hw 21 rfl)) Via.refl e0 (S_TEXT.ext O0.2) (g := (mkF m 188 #[.val (.int (-9))] [])) rfl (hb hby d2_188)
  obtain ⟨fs, hr, hrun, hended, hW, hsame⟩ := X1.leave (v := some (.ref w_TEXT)) (fun h => by rw [Bd.returns] at h; cases h)
  refine ⟨_, _, pre0 _ ?_, hrun, hended, _, _, rfl, ?_, ⟨_, rfl⟩, hW, hsame.mono (by decide) (by decide)⟩
  · show St p e below s₁ (mkF m 0 #[.val (.int (-9))] []) _
    refine XS.iloadN X0.here hx rfl (hb hby d2_0) rfl ?_
    show St p e below s₁ (mkF m 1 #[.val (.int (-9))] [(.int (-9))]) _
    refine X0.lookupswitchHit hx (g := (mkF m 1 #[.val (.int (-9))] [(.int (-9))])) rfl rfl (hb hby d2_1) (by decide) (a := (-9)) (off := 187) (by decide) (by show (0 : Int) ≤ ((1 : Nat) : Int) + 187; decide) _ ?_
    show St p e below s₁ (mkF m 188 #[.val (.int (-9))] []) _
    refine st1 _ ?_
    show St p e below T1 (mkF m 191 #[.val (.int (-9))] [(.ref w_TEXT)]) _
    refine XS.goto X1.here hx rfl (pc0 := 191) (pc' := 197) rfl (hb hby d2_191) (by decide) (by decide) ?_
    show St p e below T1 (mkF m 197 #[.val (.int (-9))] [(.ref w_TEXT)]) _
    jvm_step X1.here [X1.here.top, hx, (hb hby d2_197), X1.method', Bd.returns, Value.isRef, FieldType.isReference]
    first | (intro acts; rw [hr _ acts rfl rfl rfl]) | rw [hr _ _ rfl rfl rfl]
    exact Steps.refl _
  · show Q_ct w_INTEGER w_DECIMAL w_FLOAT w_BOOLEAN w_TEXT w_OTHER (-9 : Int32) h0 n0 _ T1.heap _
    rw [e1]
    exact ⟨by rfl, N0, rfl⟩
set_option maxRecDepth 65536 in
set_option maxHeartbeats 40000000 in
theorem rm_of_m16 (l : Launch) (Z : State) (a0 : Array Value) (hw : ∀ d ∈ tables_1, d.before a0 Z = true) (ws : List Jvm.Cond) (w_INTEGER : Addr) (w_DECIMAL : Addr) (w_FLOAT : Addr) (w_BOOLEAN : Addr) (w_TEXT : Addr) (w_OTHER : Addr) (h0 : Heap) (n0 : Nat) (Z0 : n0 ≤ h0.size) (S_INTEGER : Sta Z Z.heap "com/example/commitgate/commitgate/store/ColumnType" "INTEGER" "Lcom/example/commitgate/commitgate/store/ColumnType;" (.ref w_INTEGER)) (S_DECIMAL : Sta Z Z.heap "com/example/commitgate/commitgate/store/ColumnType" "DECIMAL" "Lcom/example/commitgate/commitgate/store/ColumnType;" (.ref w_DECIMAL)) (S_FLOAT : Sta Z Z.heap "com/example/commitgate/commitgate/store/ColumnType" "FLOAT" "Lcom/example/commitgate/commitgate/store/ColumnType;" (.ref w_FLOAT)) (S_BOOLEAN : Sta Z Z.heap "com/example/commitgate/commitgate/store/ColumnType" "BOOLEAN" "Lcom/example/commitgate/commitgate/store/ColumnType;" (.ref w_BOOLEAN)) (S_TEXT : Sta Z Z.heap "com/example/commitgate/commitgate/store/ColumnType" "TEXT" "Lcom/example/commitgate/commitgate/store/ColumnType;" (.ref w_TEXT)) (S_OTHER : Sta Z Z.heap "com/example/commitgate/commitgate/store/ColumnType" "OTHER" "Lcom/example/commitgate/commitgate/store/ColumnType;" (.ref w_OTHER)) (O0 : Old Z n0 h0) :
    MetFree l (⟨"com/example/commitgate/commitgate/store/ColumnType", "of", "(I)Lcom/example/commitgate/commitgate/store/ColumnType;"⟩ : MethodName) (head1 (Jvm.Cond.code (⟨"com/example/commitgate/commitgate/store/ColumnType", "of", "(I)Lcom/example/commitgate/commitgate/store/ColumnType;"⟩ : MethodName) prog_159_method_4_code 1 (some (.object "com/example/commitgate/commitgate/store/ColumnType")) :: ws) ({ frames := 0, cells := 0, slots := 0, locals := 0 } : Room)) (fun a U => a = #[(.int (-16))] ∧ Z.Warmed39 U.vm ∧ U.heap = h0) (fun _ _ _ _ _ => True) (fun _ U o U' => ∃ v L, o = .returned v ∧ Q_ct w_INTEGER w_DECIMAL w_FLOAT w_BOOLEAN w_TEXT w_OTHER (-16 : Int32) h0 n0 v U'.heap L ∧ FrameEnd U o U' L ({ frames := 0, cells := 0, slots := 0, locals := 0 } : Room).cells ({ frames := 0, cells := 0, slots := 0, locals := 0 } : Room).slots) := by
  refine MetFree.of_bodySF (plainFor_of_name pn_2) hisR ?_
  intro p e s m args below meth c s₁ Bd hml0 hP hK
  obtain ⟨rfl, hZ, hh⟩ := hP
  have hx := Bd.exec
  have hby := Bd.bytes
  have hml : c.maxLocals = 1 := hml0
  have hown : s.vm.findClass "com/example/commitgate/commitgate/store/ColumnType" = some m.cls := findClass_of_methodNamed Bd.named
  have hnm := (name_of_methodNamed Bd.named Bd.method).1
  have X0 : Stand p l e ({ frames := 0, cells := 0, slots := 0, locals := 0 } : Room) s m #[(.int (-16))] below meth c s₁ [] 0 0 := Stand.of_body Bd
  have e0 : s₁.heap = h0 := by rw [← hh, Bd.state]; rfl
  have N0 := Fr.nil n0
  have pre0 : ∀ t, Steps p.tables e below (s₁.setTop (mkF m 0 #[.val (.int (-16))] [])) t → Steps p.tables e below (s₁.setTop (entryFrame m #[(.int (-16))] 1)) t := fun t k => castTop (ef_2_I m (-16 : Int32)) k
  obtain ⟨T1, X1, e1, st1⟩ := getS2 X0 hx hZ hown (host := "") (Or.inl (hwi hw 21 rfl)) Via.refl e0 (S_TEXT.ext O0.2) (g := (mkF m 188 #[.val (.int (-16))] [])) rfl (hb hby d2_188)
  obtain ⟨fs, hr, hrun, hended, hW, hsame⟩ := X1.leave (v := some (.ref w_TEXT)) (fun h => by rw [Bd.returns] at h; cases h)
  refine ⟨_, _, pre0 _ ?_, hrun, hended, _, _, rfl, ?_, ⟨_, rfl⟩, hW, hsame.mono (by decide) (by decide)⟩
  · show St p e below s₁ (mkF m 0 #[.val (.int (-16))] []) _
    refine XS.iloadN X0.here hx rfl (hb hby d2_0) rfl ?_
    show St p e below s₁ (mkF m 1 #[.val (.int (-16))] [(.int (-16))]) _
    refine X0.lookupswitchHit hx (g := (mkF m 1 #[.val (.int (-16))] [(.int (-16))])) rfl rfl (hb hby d2_1) (by decide) (a := (-16)) (off := 187) (by decide) (by show (0 : Int) ≤ ((1 : Nat) : Int) + 187; decide) _ ?_
    show St p e below s₁ (mkF m 188 #[.val (.int (-16))] []) _
    refine st1 _ ?_
    show St p e below T1 (mkF m 191 #[.val (.int (-16))] [(.ref w_TEXT)]) _
    refine XS.goto X1.here hx rfl (pc0 := 191) (pc' := 197) rfl (hb hby d2_191) (by decide) (by decide) ?_
    show St p e below T1 (mkF m 197 #[.val (.int (-16))] [(.ref w_TEXT)]) _
    jvm_step X1.here [X1.here.top, hx, (hb hby d2_197), X1.method', Bd.returns, Value.isRef, FieldType.isReference]
    first | (intro acts; rw [hr _ acts rfl rfl rfl]) | rw [hr _ _ rfl rfl rfl]
    exact Steps.refl _
  · show Q_ct w_INTEGER w_DECIMAL w_FLOAT w_BOOLEAN w_TEXT w_OTHER (-16 : Int32) h0 n0 _ T1.heap _
    rw [e1]
    exact ⟨by rfl, N0, rfl⟩
set_option maxRecDepth 65536 in
set_option maxHeartbeats 40000000 in
theorem rm_of_2005 (l : Launch) (Z : State) (a0 : Array Value) (hw : ∀ d ∈ tables_1, d.before a0 Z = true) (ws : List Jvm.Cond) (w_INTEGER : Addr) (w_DECIMAL : Addr) (w_FLOAT : Addr) (w_BOOLEAN : Addr) (w_TEXT : Addr) (w_OTHER : Addr) (h0 : Heap) (n0 : Nat) (Z0 : n0 ≤ h0.size) (S_INTEGER : Sta Z Z.heap "com/example/commitgate/commitgate/store/ColumnType" "INTEGER" "Lcom/example/commitgate/commitgate/store/ColumnType;" (.ref w_INTEGER)) (S_DECIMAL : Sta Z Z.heap "com/example/commitgate/commitgate/store/ColumnType" "DECIMAL" "Lcom/example/commitgate/commitgate/store/ColumnType;" (.ref w_DECIMAL)) (S_FLOAT : Sta Z Z.heap "com/example/commitgate/commitgate/store/ColumnType" "FLOAT" "Lcom/example/commitgate/commitgate/store/ColumnType;" (.ref w_FLOAT)) (S_BOOLEAN : Sta Z Z.heap "com/example/commitgate/commitgate/store/ColumnType" "BOOLEAN" "Lcom/example/commitgate/commitgate/store/ColumnType;" (.ref w_BOOLEAN)) (S_TEXT : Sta Z Z.heap "com/example/commitgate/commitgate/store/ColumnType" "TEXT" "Lcom/example/commitgate/commitgate/store/ColumnType;" (.ref w_TEXT)) (S_OTHER : Sta Z Z.heap "com/example/commitgate/commitgate/store/ColumnType" "OTHER" "Lcom/example/commitgate/commitgate/store/ColumnType;" (.ref w_OTHER)) (O0 : Old Z n0 h0) :
    MetFree l (⟨"com/example/commitgate/commitgate/store/ColumnType", "of", "(I)Lcom/example/commitgate/commitgate/store/ColumnType;"⟩ : MethodName) (head1 (Jvm.Cond.code (⟨"com/example/commitgate/commitgate/store/ColumnType", "of", "(I)Lcom/example/commitgate/commitgate/store/ColumnType;"⟩ : MethodName) prog_159_method_4_code 1 (some (.object "com/example/commitgate/commitgate/store/ColumnType")) :: ws) ({ frames := 0, cells := 0, slots := 0, locals := 0 } : Room)) (fun a U => a = #[(.int 2005)] ∧ Z.Warmed39 U.vm ∧ U.heap = h0) (fun _ _ _ _ _ => True) (fun _ U o U' => ∃ v L, o = .returned v ∧ Q_ct w_INTEGER w_DECIMAL w_FLOAT w_BOOLEAN w_TEXT w_OTHER (2005 : Int32) h0 n0 v U'.heap L ∧ FrameEnd U o U' L ({ frames := 0, cells := 0, slots := 0, locals := 0 } : Room).cells ({ frames := 0, cells := 0, slots := 0, locals := 0 } : Room).slots) := by
  refine MetFree.of_bodySF (plainFor_of_name pn_2) hisR ?_
  intro p e s m args below meth c s₁ Bd hml0 hP hK
  obtain ⟨rfl, hZ, hh⟩ := hP
  have hx := Bd.exec
  have hby := Bd.bytes
  have hml : c.maxLocals = 1 := hml0
  have hown : s.vm.findClass "com/example/commitgate/commitgate/store/ColumnType" = some m.cls := findClass_of_methodNamed Bd.named
  have hnm := (name_of_methodNamed Bd.named Bd.method).1
  have X0 : Stand p l e ({ frames := 0, cells := 0, slots := 0, locals := 0 } : Room) s m #[(.int 2005)] below meth c s₁ [] 0 0 := Stand.of_body Bd
  have e0 : s₁.heap = h0 := by rw [← hh, Bd.state]; rfl
  have N0 := Fr.nil n0
  have pre0 : ∀ t, Steps p.tables e below (s₁.setTop (mkF m 0 #[.val (.int 2005)] [])) t → Steps p.tables e below (s₁.setTop (entryFrame m #[(.int 2005)] 1)) t := fun t k => castTop (ef_2_I m (2005 : Int32)) k
  obtain ⟨T1, X1, e1, st1⟩ := getS2 X0 hx hZ hown (host := "") (Or.inl (hwi hw 21 rfl)) Via.refl e0 (S_TEXT.ext O0.2) (g := (mkF m 188 #[.val (.int 2005)] [])) rfl (hb hby d2_188)
  obtain ⟨fs, hr, hrun, hended, hW, hsame⟩ := X1.leave (v := some (.ref w_TEXT)) (fun h => by rw [Bd.returns] at h; cases h)
  refine ⟨_, _, pre0 _ ?_, hrun, hended, _, _, rfl, ?_, ⟨_, rfl⟩, hW, hsame.mono (by decide) (by decide)⟩
  · show St p e below s₁ (mkF m 0 #[.val (.int 2005)] []) _
    refine XS.iloadN X0.here hx rfl (hb hby d2_0) rfl ?_
    show St p e below s₁ (mkF m 1 #[.val (.int 2005)] [(.int 2005)]) _
    refine X0.lookupswitchHit hx (g := (mkF m 1 #[.val (.int 2005)] [(.int 2005)])) rfl rfl (hb hby d2_1) (by decide) (a := 2005) (off := 187) (by decide) (by show (0 : Int) ≤ ((1 : Nat) : Int) + 187; decide) _ ?_
    show St p e below s₁ (mkF m 188 #[.val (.int 2005)] []) _
    refine st1 _ ?_
    show St p e below T1 (mkF m 191 #[.val (.int 2005)] [(.ref w_TEXT)]) _
    refine XS.goto X1.here hx rfl (pc0 := 191) (pc' := 197) rfl (hb hby d2_191) (by decide) (by decide) ?_
    show St p e below T1 (mkF m 197 #[.val (.int 2005)] [(.ref w_TEXT)]) _
    jvm_step X1.here [X1.here.top, hx, (hb hby d2_197), X1.method', Bd.returns, Value.isRef, FieldType.isReference]
    first | (intro acts; rw [hr _ acts rfl rfl rfl]) | rw [hr _ _ rfl rfl rfl]
    exact Steps.refl _
  · show Q_ct w_INTEGER w_DECIMAL w_FLOAT w_BOOLEAN w_TEXT w_OTHER (2005 : Int32) h0 n0 _ T1.heap _
    rw [e1]
    exact ⟨by rfl, N0, rfl⟩
set_option maxRecDepth 65536 in
set_option maxHeartbeats 40000000 in
theorem rm_of_2011 (l : Launch) (Z : State) (a0 : Array Value) (hw : ∀ d ∈ tables_1, d.before a0 Z = true) (ws : List Jvm.Cond) (w_INTEGER : Addr) (w_DECIMAL : Addr) (w_FLOAT : Addr) (w_BOOLEAN : Addr) (w_TEXT : Addr) (w_OTHER : Addr) (h0 : Heap) (n0 : Nat) (Z0 : n0 ≤ h0.size) (S_INTEGER : Sta Z Z.heap "com/example/commitgate/commitgate/store/ColumnType" "INTEGER" "Lcom/example/commitgate/commitgate/store/ColumnType;" (.ref w_INTEGER)) (S_DECIMAL : Sta Z Z.heap "com/example/commitgate/commitgate/store/ColumnType" "DECIMAL" "Lcom/example/commitgate/commitgate/store/ColumnType;" (.ref w_DECIMAL)) (S_FLOAT : Sta Z Z.heap "com/example/commitgate/commitgate/store/ColumnType" "FLOAT" "Lcom/example/commitgate/commitgate/store/ColumnType;" (.ref w_FLOAT)) (S_BOOLEAN : Sta Z Z.heap "com/example/commitgate/commitgate/store/ColumnType" "BOOLEAN" "Lcom/example/commitgate/commitgate/store/ColumnType;" (.ref w_BOOLEAN)) (S_TEXT : Sta Z Z.heap "com/example/commitgate/commitgate/store/ColumnType" "TEXT" "Lcom/example/commitgate/commitgate/store/ColumnType;" (.ref w_TEXT)) (S_OTHER : Sta Z Z.heap "com/example/commitgate/commitgate/store/ColumnType" "OTHER" "Lcom/example/commitgate/commitgate/store/ColumnType;" (.ref w_OTHER)) (O0 : Old Z n0 h0) :
    MetFree l (⟨"com/example/commitgate/commitgate/store/ColumnType", "of", "(I)Lcom/example/commitgate/commitgate/store/ColumnType;"⟩ : MethodName) (head1 (Jvm.Cond.code (⟨"com/example/commitgate/commitgate/store/ColumnType", "of", "(I)Lcom/example/commitgate/commitgate/store/ColumnType;"⟩ : MethodName) prog_159_method_4_code 1 (some (.object "com/example/commitgate/commitgate/store/ColumnType")) :: ws) ({ frames := 0, cells := 0, slots := 0, locals := 0 } : Room)) (fun a U => a = #[(.int 2011)] ∧ Z.Warmed39 U.vm ∧ U.heap = h0) (fun _ _ _ _ _ => True) (fun _ U o U' => ∃ v L, o = .returned v ∧ Q_ct w_INTEGER w_DECIMAL w_FLOAT w_BOOLEAN w_TEXT w_OTHER (2011 : Int32) h0 n0 v U'.heap L ∧ FrameEnd U o U' L ({ frames := 0, cells := 0, slots := 0, locals := 0 } : Room).cells ({ frames := 0, cells := 0, slots := 0, locals := 0 } : Room).slots) := by
  refine MetFree.of_bodySF (plainFor_of_name pn_2) hisR ?_
  intro p e s m args below meth c s₁ Bd hml0 hP hK
  obtain ⟨rfl, hZ, hh⟩ := hP
  have hx := Bd.exec
  have hby := Bd.bytes
  have hml : c.maxLocals = 1 := hml0
  have hown : s.vm.findClass "com/example/commitgate/commitgate/store/ColumnType" = some m.cls := findClass_of_methodNamed Bd.named
  have hnm := (name_of_methodNamed Bd.named Bd.method).1
  have X0 : Stand p l e ({ frames := 0, cells := 0, slots := 0, locals := 0 } : Room) s m #[(.int 2011)] below meth c s₁ [] 0 0 := Stand.of_body Bd
  have e0 : s₁.heap = h0 := by rw [← hh, Bd.state]; rfl
  have N0 := Fr.nil n0
  have pre0 : ∀ t, Steps p.tables e below (s₁.setTop (mkF m 0 #[.val (.int 2011)] [])) t → Steps p.tables e below (s₁.setTop (entryFrame m #[(.int 2011)] 1)) t := fun t k => castTop (ef_2_I m (2011 : Int32)) k
  obtain ⟨T1, X1, e1, st1⟩ := getS2 X0 hx hZ hown (host := "") (Or.inl (hwi hw 21 rfl)) Via.refl e0 (S_TEXT.ext O0.2) (g := (mkF m 188 #[.val (.int 2011)] [])) rfl (hb hby d2_188)
  obtain ⟨fs, hr, hrun, hended, hW, hsame⟩ := X1.leave (v := some (.ref w_TEXT)) (fun h => by rw [Bd.returns] at h; cases h)
  refine ⟨_, _, pre0 _ ?_, hrun, hended, _, _, rfl, ?_, ⟨_, rfl⟩, hW, hsame.mono (by decide) (by decide)⟩
  · show St p e below s₁ (mkF m 0 #[.val (.int 2011)] []) _
    refine XS.iloadN X0.here hx rfl (hb hby d2_0) rfl ?_
    show St p e below s₁ (mkF m 1 #[.val (.int 2011)] [(.int 2011)]) _
    refine X0.lookupswitchHit hx (g := (mkF m 1 #[.val (.int 2011)] [(.int 2011)])) rfl rfl (hb hby d2_1) (by decide) (a := 2011) (off := 187) (by decide) (by show (0 : Int) ≤ ((1 : Nat) : Int) + 187; decide) _ ?_
    show St p e below s₁ (mkF m 188 #[.val (.int 2011)] []) _
    refine st1 _ ?_
    show St p e below T1 (mkF m 191 #[.val (.int 2011)] [(.ref w_TEXT)]) _
    refine XS.goto X1.here hx rfl (pc0 := 191) (pc' := 197) rfl (hb hby d2_191) (by decide) (by decide) ?_
    show St p e below T1 (mkF m 197 #[.val (.int 2011)] [(.ref w_TEXT)]) _
    jvm_step X1.here [X1.here.top, hx, (hb hby d2_197), X1.method', Bd.returns, Value.isRef, FieldType.isReference]
    first | (intro acts; rw [hr _ acts rfl rfl rfl]) | rw [hr _ _ rfl rfl rfl]
    exact Steps.refl _
  · show Q_ct w_INTEGER w_DECIMAL w_FLOAT w_BOOLEAN w_TEXT w_OTHER (2011 : Int32) h0 n0 _ T1.heap _
    rw [e1]
    exact ⟨by rfl, N0, rfl⟩
theorem d2_194 : decode prog_159_method_4_code 194 = .ok (.getstatic 19, 3) := by decide +kernel
set_option maxRecDepth 65536 in
set_option maxHeartbeats 40000000 in
theorem rm_of_dflt (l : Launch) (Z : State) (a0 : Array Value) (hw : ∀ d ∈ tables_1, d.before a0 Z = true) (ws : List Jvm.Cond) (p1 : Int32) (w_INTEGER : Addr) (w_DECIMAL : Addr) (w_FLOAT : Addr) (w_BOOLEAN : Addr) (w_TEXT : Addr) (w_OTHER : Addr) (h0 : Heap) (n0 : Nat) (Z0 : n0 ≤ h0.size) (S_INTEGER : Sta Z Z.heap "com/example/commitgate/commitgate/store/ColumnType" "INTEGER" "Lcom/example/commitgate/commitgate/store/ColumnType;" (.ref w_INTEGER)) (S_DECIMAL : Sta Z Z.heap "com/example/commitgate/commitgate/store/ColumnType" "DECIMAL" "Lcom/example/commitgate/commitgate/store/ColumnType;" (.ref w_DECIMAL)) (S_FLOAT : Sta Z Z.heap "com/example/commitgate/commitgate/store/ColumnType" "FLOAT" "Lcom/example/commitgate/commitgate/store/ColumnType;" (.ref w_FLOAT)) (S_BOOLEAN : Sta Z Z.heap "com/example/commitgate/commitgate/store/ColumnType" "BOOLEAN" "Lcom/example/commitgate/commitgate/store/ColumnType;" (.ref w_BOOLEAN)) (S_TEXT : Sta Z Z.heap "com/example/commitgate/commitgate/store/ColumnType" "TEXT" "Lcom/example/commitgate/commitgate/store/ColumnType;" (.ref w_TEXT)) (S_OTHER : Sta Z Z.heap "com/example/commitgate/commitgate/store/ColumnType" "OTHER" "Lcom/example/commitgate/commitgate/store/ColumnType;" (.ref w_OTHER)) (O0 : Old Z n0 h0) (hm_m6 : ¬ (p1 = (-6 : Int32))) (hm_5 : ¬ (p1 = (5 : Int32))) (hm_4 : ¬ (p1 = (4 : Int32))) (hm_m5 : ¬ (p1 = (-5 : Int32))) (hm_2 : ¬ (p1 = (2 : Int32))) (hm_3 : ¬ (p1 = (3 : Int32))) (hm_7 : ¬ (p1 = (7 : Int32))) (hm_6 : ¬ (p1 = (6 : Int32))) (hm_8 : ¬ (p1 = (8 : Int32))) (hm_m7 : ¬ (p1 = (-7 : Int32))) (hm_16 : ¬ (p1 = (16 : Int32))) (hm_1 : ¬ (p1 = (1 : Int32))) (hm_12 : ¬ (p1 = (12 : Int32))) (hm_m1 : ¬ (p1 = (-1 : Int32))) (hm_m15 : ¬ (p1 = (-15 : Int32))) (hm_m9 : ¬ (p1 = (-9 : Int32))) (hm_m16 : ¬ (p1 = (-16 : Int32))) (hm_2005 : ¬ (p1 = (2005 : Int32))) (hm_2011 : ¬ (p1 = (2011 : Int32))) :
    MetFree l (⟨"com/example/commitgate/commitgate/store/ColumnType", "of", "(I)Lcom/example/commitgate/commitgate/store/ColumnType;"⟩ : MethodName) (head1 (Jvm.Cond.code (⟨"com/example/commitgate/commitgate/store/ColumnType", "of", "(I)Lcom/example/commitgate/commitgate/store/ColumnType;"⟩ : MethodName) prog_159_method_4_code 1 (some (.object "com/example/commitgate/commitgate/store/ColumnType")) :: ws) ({ frames := 0, cells := 0, slots := 0, locals := 0 } : Room)) (fun a U => a = #[(.int p1)] ∧ Z.Warmed39 U.vm ∧ U.heap = h0) (fun _ _ _ _ _ => True) (fun _ U o U' => ∃ v L, o = .returned v ∧ Q_ct w_INTEGER w_DECIMAL w_FLOAT w_BOOLEAN w_TEXT w_OTHER p1 h0 n0 v U'.heap L ∧ FrameEnd U o U' L ({ frames := 0, cells := 0, slots := 0, locals := 0 } : Room).cells ({ frames := 0, cells := 0, slots := 0, locals := 0 } : Room).slots) := by
  refine MetFree.of_bodySF (plainFor_of_name pn_2) hisR ?_
  intro p e s m args below meth c s₁ Bd hml0 hP hK
  obtain ⟨rfl, hZ, hh⟩ := hP
  have hx := Bd.exec
  have hby := Bd.bytes
  have hml : c.maxLocals = 1 := hml0
  have hown : s.vm.findClass "com/example/commitgate/commitgate/store/ColumnType" = some m.cls := findClass_of_methodNamed Bd.named
  have hnm := (name_of_methodNamed Bd.named Bd.method).1
  have X0 : Stand p l e ({ frames := 0, cells := 0, slots := 0, locals := 0 } : Room) s m #[(.int p1)] below meth c s₁ [] 0 0 := Stand.of_body Bd
  have e0 : s₁.heap = h0 := by rw [← hh, Bd.state]; rfl
  have N0 := Fr.nil n0
  have pre0 : ∀ t, Steps p.tables e below (s₁.setTop (mkF m 0 #[.val (.int p1)] [])) t → Steps p.tables e below (s₁.setTop (entryFrame m #[(.int p1)] 1)) t := fun t k => castTop (ef_2_I m p1) k
  obtain ⟨T1, X1, e1, st1⟩ := getS2 X0 hx hZ hown (host := "") (Or.inl (hwi hw 13 rfl)) Via.refl e0 (S_OTHER.ext O0.2) (g := (mkF m 194 #[.val (.int p1)] [])) rfl (hb hby d2_194)
  obtain ⟨fs, hr, hrun, hended, hW, hsame⟩ := X1.leave (v := some (.ref w_OTHER)) (fun h => by rw [Bd.returns] at h; cases h)
  refine ⟨_, _, pre0 _ ?_, hrun, hended, _, _, rfl, ?_, ⟨_, rfl⟩, hW, hsame.mono (by decide) (by decide)⟩
  · show St p e below s₁ (mkF m 0 #[.val (.int p1)] []) _
    refine XS.iloadN X0.here hx rfl (hb hby d2_0) rfl ?_
    show St p e below s₁ (mkF m 1 #[.val (.int p1)] [(.int p1)]) _
    refine X0.lookupswitchMiss hx (g := (mkF m 1 #[.val (.int p1)] [(.int p1)])) rfl rfl (hb hby d2_1) (by decide) (find_miss (fun q hq => by have hq : q ∈ [((-16 : Int), (187 : Int)), ((-15 : Int), (187 : Int)), ((-9 : Int), (187 : Int)), ((-7 : Int), (181 : Int)), ((-6 : Int), (163 : Int)), ((-5 : Int), (163 : Int)), ((-1 : Int), (187 : Int)), ((1 : Int), (187 : Int)), ((2 : Int), (169 : Int)), ((3 : Int), (169 : Int)), ((4 : Int), (163 : Int)), ((5 : Int), (163 : Int)), ((6 : Int), (175 : Int)), ((7 : Int), (175 : Int)), ((8 : Int), (175 : Int)), ((12 : Int), (187 : Int)), ((16 : Int), (181 : Int)), ((2005 : Int), (187 : Int)), ((2011 : Int), (187 : Int))] := hq; simp only [List.mem_cons, List.not_mem_nil, or_false] at hq; rcases hq with rfl | rfl | rfl | rfl | rfl | rfl | rfl | rfl | rfl | rfl | rfl | rfl | rfl | rfl | rfl | rfl | rfl | rfl | rfl <;> (intro hz; first | exact hm_m16 (Int32.toInt_inj.mp (hz.symm.trans (by decide))) | exact hm_m15 (Int32.toInt_inj.mp (hz.symm.trans (by decide))) | exact hm_m9 (Int32.toInt_inj.mp (hz.symm.trans (by decide))) | exact hm_m7 (Int32.toInt_inj.mp (hz.symm.trans (by decide))) | exact hm_m6 (Int32.toInt_inj.mp (hz.symm.trans (by decide))) | exact hm_m5 (Int32.toInt_inj.mp (hz.symm.trans (by decide))) | exact hm_m1 (Int32.toInt_inj.mp (hz.symm.trans (by decide))) | exact hm_1 (Int32.toInt_inj.mp (hz.symm.trans (by decide))) | exact hm_2 (Int32.toInt_inj.mp (hz.symm.trans (by decide))) | exact hm_3 (Int32.toInt_inj.mp (hz.symm.trans (by decide))) | exact hm_4 (Int32.toInt_inj.mp (hz.symm.trans (by decide))) | exact hm_5 (Int32.toInt_inj.mp (hz.symm.trans (by decide))) | exact hm_6 (Int32.toInt_inj.mp (hz.symm.trans (by decide))) | exact hm_7 (Int32.toInt_inj.mp (hz.symm.trans (by decide))) | exact hm_8 (Int32.toInt_inj.mp (hz.symm.trans (by decide))) | exact hm_12 (Int32.toInt_inj.mp (hz.symm.trans (by decide))) | exact hm_16 (Int32.toInt_inj.mp (hz.symm.trans (by decide))) | exact hm_2005 (Int32.toInt_inj.mp (hz.symm.trans (by decide))) | exact hm_2011 (Int32.toInt_inj.mp (hz.symm.trans (by decide)))))) (by show (0 : Int) ≤ ((1 : Nat) : Int) + 193; decide) _ ?_
    show St p e below s₁ (mkF m 194 #[.val (.int p1)] []) _
    refine st1 _ ?_
    show St p e below T1 (mkF m 197 #[.val (.int p1)] [(.ref w_OTHER)]) _
    jvm_step X1.here [X1.here.top, hx, (hb hby d2_197), X1.method', Bd.returns, Value.isRef, FieldType.isReference]
    first | (intro acts; rw [hr _ acts rfl rfl rfl]) | rw [hr _ _ rfl rfl rfl]
    exact Steps.refl _
  · show Q_ct w_INTEGER w_DECIMAL w_FLOAT w_BOOLEAN w_TEXT w_OTHER p1 h0 n0 _ T1.heap _
    rw [e1]
    exact ⟨by unfold own_ct; simp only [hm_m6, hm_5, hm_4, hm_m5, hm_2, hm_3, hm_7, hm_6, hm_8, hm_m7, hm_16, hm_1, hm_12, hm_m1, hm_m15, hm_m9, hm_m16, hm_2005, hm_2011, or_self, if_false], N0, rfl⟩
theorem rm_of_all (l : Launch) (Z : State) (a0 : Array Value) (hw : ∀ d ∈ tables_1, d.before a0 Z = true) (ws : List Jvm.Cond) (p1 : Int32) (w_INTEGER : Addr) (w_DECIMAL : Addr) (w_FLOAT : Addr) (w_BOOLEAN : Addr) (w_TEXT : Addr) (w_OTHER : Addr) (h0 : Heap) (n0 : Nat) (Z0 : n0 ≤ h0.size) (S_INTEGER : Sta Z Z.heap "com/example/commitgate/commitgate/store/ColumnType" "INTEGER" "Lcom/example/commitgate/commitgate/store/ColumnType;" (.ref w_INTEGER)) (S_DECIMAL : Sta Z Z.heap "com/example/commitgate/commitgate/store/ColumnType" "DECIMAL" "Lcom/example/commitgate/commitgate/store/ColumnType;" (.ref w_DECIMAL)) (S_FLOAT : Sta Z Z.heap "com/example/commitgate/commitgate/store/ColumnType" "FLOAT" "Lcom/example/commitgate/commitgate/store/ColumnType;" (.ref w_FLOAT)) (S_BOOLEAN : Sta Z Z.heap "com/example/commitgate/commitgate/store/ColumnType" "BOOLEAN" "Lcom/example/commitgate/commitgate/store/ColumnType;" (.ref w_BOOLEAN)) (S_TEXT : Sta Z Z.heap "com/example/commitgate/commitgate/store/ColumnType" "TEXT" "Lcom/example/commitgate/commitgate/store/ColumnType;" (.ref w_TEXT)) (S_OTHER : Sta Z Z.heap "com/example/commitgate/commitgate/store/ColumnType" "OTHER" "Lcom/example/commitgate/commitgate/store/ColumnType;" (.ref w_OTHER)) (O0 : Old Z n0 h0) :
    MetFree l (⟨"com/example/commitgate/commitgate/store/ColumnType", "of", "(I)Lcom/example/commitgate/commitgate/store/ColumnType;"⟩ : MethodName) (head1 (Jvm.Cond.code (⟨"com/example/commitgate/commitgate/store/ColumnType", "of", "(I)Lcom/example/commitgate/commitgate/store/ColumnType;"⟩ : MethodName) prog_159_method_4_code 1 (some (.object "com/example/commitgate/commitgate/store/ColumnType")) :: ws) ({ frames := 0, cells := 0, slots := 0, locals := 0 } : Room)) (fun a U => a = #[(.int p1)] ∧ Z.Warmed39 U.vm ∧ U.heap = h0) (fun _ _ _ _ _ => True) (fun _ U o U' => ∃ v L, o = .returned v ∧ Q_ct w_INTEGER w_DECIMAL w_FLOAT w_BOOLEAN w_TEXT w_OTHER p1 h0 n0 v U'.heap L ∧ FrameEnd U o U' L ({ frames := 0, cells := 0, slots := 0, locals := 0 } : Room).cells ({ frames := 0, cells := 0, slots := 0, locals := 0 } : Room).slots) := by
  by_cases hm_m6 : p1 = (-6 : Int32)
  · subst hm_m6; exact rm_of_m6 l Z a0 hw ws w_INTEGER w_DECIMAL w_FLOAT w_BOOLEAN w_TEXT w_OTHER h0 n0 Z0 S_INTEGER S_DECIMAL S_FLOAT S_BOOLEAN S_TEXT S_OTHER O0
  by_cases hm_5 : p1 = (5 : Int32)
  · subst hm_5; exact rm_of_5 l Z a0 hw ws w_INTEGER w_DECIMAL w_FLOAT w_BOOLEAN w_TEXT w_OTHER h0 n0 Z0 S_INTEGER S_DECIMAL S_FLOAT S_BOOLEAN S_TEXT S_OTHER O0
  by_cases hm_4 : p1 = (4 : Int32)
  · subst hm_4; exact rm_of_4 l Z a0 hw ws w_INTEGER w_DECIMAL w_FLOAT w_BOOLEAN w_TEXT w_OTHER h0 n0 Z0 S_INTEGER S_DECIMAL S_FLOAT S_BOOLEAN S_TEXT S_OTHER O0
  by_cases hm_m5 : p1 = (-5 : Int32)
  · subst hm_m5; exact rm_of_m5 l Z a0 hw ws w_INTEGER w_DECIMAL w_FLOAT w_BOOLEAN w_TEXT w_OTHER h0 n0 Z0 S_INTEGER S_DECIMAL S_FLOAT S_BOOLEAN S_TEXT S_OTHER O0
  by_cases hm_2 : p1 = (2 : Int32)
  · subst hm_2; exact rm_of_2 l Z a0 hw ws w_INTEGER w_DECIMAL w_FLOAT w_BOOLEAN w_TEXT w_OTHER h0 n0 Z0 S_INTEGER S_DECIMAL S_FLOAT S_BOOLEAN S_TEXT S_OTHER O0
  by_cases hm_3 : p1 = (3 : Int32)
  · subst hm_3; exact rm_of_3 l Z a0 hw ws w_INTEGER w_DECIMAL w_FLOAT w_BOOLEAN w_TEXT w_OTHER h0 n0 Z0 S_INTEGER S_DECIMAL S_FLOAT S_BOOLEAN S_TEXT S_OTHER O0
  by_cases hm_7 : p1 = (7 : Int32)
  · subst hm_7; exact rm_of_7 l Z a0 hw ws w_INTEGER w_DECIMAL w_FLOAT w_BOOLEAN w_TEXT w_OTHER h0 n0 Z0 S_INTEGER S_DECIMAL S_FLOAT S_BOOLEAN S_TEXT S_OTHER O0
  by_cases hm_6 : p1 = (6 : Int32)
  · subst hm_6; exact rm_of_6 l Z a0 hw ws w_INTEGER w_DECIMAL w_FLOAT w_BOOLEAN w_TEXT w_OTHER h0 n0 Z0 S_INTEGER S_DECIMAL S_FLOAT S_BOOLEAN S_TEXT S_OTHER O0
  by_cases hm_8 : p1 = (8 : Int32)
  · subst hm_8; exact rm_of_8 l Z a0 hw ws w_INTEGER w_DECIMAL w_FLOAT w_BOOLEAN w_TEXT w_OTHER h0 n0 Z0 S_INTEGER S_DECIMAL S_FLOAT S_BOOLEAN S_TEXT S_OTHER O0
  by_cases hm_m7 : p1 = (-7 : Int32)
  · subst hm_m7; exact rm_of_m7 l Z a0 hw ws w_INTEGER w_DECIMAL w_FLOAT w_BOOLEAN w_TEXT w_OTHER h0 n0 Z0 S_INTEGER S_DECIMAL S_FLOAT S_BOOLEAN S_TEXT S_OTHER O0
  by_cases hm_16 : p1 = (16 : Int32)
  · subst hm_16; exact rm_of_16 l Z a0 hw ws w_INTEGER w_DECIMAL w_FLOAT w_BOOLEAN w_TEXT w_OTHER h0 n0 Z0 S_INTEGER S_DECIMAL S_FLOAT S_BOOLEAN S_TEXT S_OTHER O0
  by_cases hm_1 : p1 = (1 : Int32)
  · subst hm_1; exact rm_of_1 l Z a0 hw ws w_INTEGER w_DECIMAL w_FLOAT w_BOOLEAN w_TEXT w_OTHER h0 n0 Z0 S_INTEGER S_DECIMAL S_FLOAT S_BOOLEAN S_TEXT S_OTHER O0
  by_cases hm_12 : p1 = (12 : Int32)
  · subst hm_12; exact rm_of_12 l Z a0 hw ws w_INTEGER w_DECIMAL w_FLOAT w_BOOLEAN w_TEXT w_OTHER h0 n0 Z0 S_INTEGER S_DECIMAL S_FLOAT S_BOOLEAN S_TEXT S_OTHER O0
  by_cases hm_m1 : p1 = (-1 : Int32)
  · subst hm_m1; exact rm_of_m1 l Z a0 hw ws w_INTEGER w_DECIMAL w_FLOAT w_BOOLEAN w_TEXT w_OTHER h0 n0 Z0 S_INTEGER S_DECIMAL S_FLOAT S_BOOLEAN S_TEXT S_OTHER O0
  by_cases hm_m15 : p1 = (-15 : Int32)
  · subst hm_m15; exact rm_of_m15 l Z a0 hw ws w_INTEGER w_DECIMAL w_FLOAT w_BOOLEAN w_TEXT w_OTHER h0 n0 Z0 S_INTEGER S_DECIMAL S_FLOAT S_BOOLEAN S_TEXT S_OTHER O0
  by_cases hm_m9 : p1 = (-9 : Int32)
  · subst hm_m9; exact rm_of_m9 l Z a0 hw ws w_INTEGER w_DECIMAL w_FLOAT w_BOOLEAN w_TEXT w_OTHER h0 n0 Z0 S_INTEGER S_DECIMAL S_FLOAT S_BOOLEAN S_TEXT S_OTHER O0
  by_cases hm_m16 : p1 = (-16 : Int32)
  · subst hm_m16; exact rm_of_m16 l Z a0 hw ws w_INTEGER w_DECIMAL w_FLOAT w_BOOLEAN w_TEXT w_OTHER h0 n0 Z0 S_INTEGER S_DECIMAL S_FLOAT S_BOOLEAN S_TEXT S_OTHER O0
  by_cases hm_2005 : p1 = (2005 : Int32)
  · subst hm_2005; exact rm_of_2005 l Z a0 hw ws w_INTEGER w_DECIMAL w_FLOAT w_BOOLEAN w_TEXT w_OTHER h0 n0 Z0 S_INTEGER S_DECIMAL S_FLOAT S_BOOLEAN S_TEXT S_OTHER O0
  by_cases hm_2011 : p1 = (2011 : Int32)
  · subst hm_2011; exact rm_of_2011 l Z a0 hw ws w_INTEGER w_DECIMAL w_FLOAT w_BOOLEAN w_TEXT w_OTHER h0 n0 Z0 S_INTEGER S_DECIMAL S_FLOAT S_BOOLEAN S_TEXT S_OTHER O0
  exact rm_of_dflt l Z a0 hw ws p1 w_INTEGER w_DECIMAL w_FLOAT w_BOOLEAN w_TEXT w_OTHER h0 n0 Z0 S_INTEGER S_DECIMAL S_FLOAT S_BOOLEAN S_TEXT S_OTHER O0 hm_m6 hm_5 hm_4 hm_m5 hm_2 hm_3 hm_7 hm_6 hm_8 hm_m7 hm_16 hm_1 hm_12 hm_m1 hm_m15 hm_m9 hm_m16 hm_2005 hm_2011
theorem d3_0 : decode method_2_code 0 = .ok (.iload_n 0, 1) := by decide +kernel
theorem d3_1 : decode method_2_code 1 = .ok (.bipush (-6), 2) := by decide +kernel
theorem d3_3 : decode method_2_code 3 = .ok (.if_icmp .eq 19, 3) := by decide +kernel
theorem d3_22 : decode method_2_code 22 = .ok (.getstatic 9, 3) := by decide +kernel
theorem d3_25 : decode method_2_code 25 = .ok (.areturn, 1) := by decide +kernel
theorem pn_3 : plainName "com/example/commitgate/commitgate/store/ColumnTypeOfPinLaw" = true := by first | (simp [plainName, overriddenIn]; done) | decide +kernel
theorem ef_3_I (m : MethodId) (x0 : Int32) : entryFrame m #[(.int x0)] 1 = mkF m 0 #[.val (.int x0)] [] := by first | (simp [entryFrame, mkF, argsToLocals, Value.category]; done) | rfl
set_option maxRecDepth 65536 in
set_option maxHeartbeats 40000000 in
theorem rm_exp_m6 (l : Launch) (Z : State) (a0 : Array Value) (hw : ∀ d ∈ tables_1, d.before a0 Z = true) (ws : List Jvm.Cond) (w_INTEGER : Addr) (w_DECIMAL : Addr) (w_FLOAT : Addr) (w_BOOLEAN : Addr) (w_TEXT : Addr) (w_OTHER : Addr) (h0 : Heap) (n0 : Nat) (Z0 : n0 ≤ h0.size) (S_INTEGER : Sta Z Z.heap "com/example/commitgate/commitgate/store/ColumnType" "INTEGER" "Lcom/example/commitgate/commitgate/store/ColumnType;" (.ref w_INTEGER)) (S_DECIMAL : Sta Z Z.heap "com/example/commitgate/commitgate/store/ColumnType" "DECIMAL" "Lcom/example/commitgate/commitgate/store/ColumnType;" (.ref w_DECIMAL)) (S_FLOAT : Sta Z Z.heap "com/example/commitgate/commitgate/store/ColumnType" "FLOAT" "Lcom/example/commitgate/commitgate/store/ColumnType;" (.ref w_FLOAT)) (S_BOOLEAN : Sta Z Z.heap "com/example/commitgate/commitgate/store/ColumnType" "BOOLEAN" "Lcom/example/commitgate/commitgate/store/ColumnType;" (.ref w_BOOLEAN)) (S_TEXT : Sta Z Z.heap "com/example/commitgate/commitgate/store/ColumnType" "TEXT" "Lcom/example/commitgate/commitgate/store/ColumnType;" (.ref w_TEXT)) (S_OTHER : Sta Z Z.heap "com/example/commitgate/commitgate/store/ColumnType" "OTHER" "Lcom/example/commitgate/commitgate/store/ColumnType;" (.ref w_OTHER)) (O0 : Old Z n0 h0) :
    MetFree l (⟨"com/example/commitgate/commitgate/store/ColumnTypeOfPinLaw", "expected", "(I)Lcom/example/commitgate/commitgate/store/ColumnType;"⟩ : MethodName) (head1 (Jvm.Cond.code (⟨"com/example/commitgate/commitgate/store/ColumnTypeOfPinLaw", "expected", "(I)Lcom/example/commitgate/commitgate/store/ColumnType;"⟩ : MethodName) method_2_code 1 (some (.object "com/example/commitgate/commitgate/store/ColumnType")) :: ws) ({ frames := 0, cells := 0, slots := 0, locals := 0 } : Room)) (fun a U => a = #[(.int (-6))] ∧ Z.Warmed39 U.vm ∧ U.heap = h0) (fun _ _ _ _ _ => True) (fun _ U o U' => ∃ v L, o = .returned v ∧ Q_ct w_INTEGER w_DECIMAL w_FLOAT w_BOOLEAN w_TEXT w_OTHER (-6 : Int32) h0 n0 v U'.heap L ∧ FrameEnd U o U' L ({ frames := 0, cells := 0, slots := 0, locals := 0 } : Room).cells ({ frames := 0, cells := 0, slots := 0, locals := 0 } : Room).slots) := by
  refine MetFree.of_bodySF (plainFor_of_name pn_3) hisR ?_
  intro p e s m args below meth c s₁ Bd hml0 hP hK
  obtain ⟨rfl, hZ, hh⟩ := hP
  have hx := Bd.exec
  have hby := Bd.bytes
  have hml : c.maxLocals = 1 := hml0
  have hown : s.vm.findClass "com/example/commitgate/commitgate/store/ColumnTypeOfPinLaw" = some m.cls := findClass_of_methodNamed Bd.named
  have hnm := (name_of_methodNamed Bd.named Bd.method).1
  have X0 : Stand p l e ({ frames := 0, cells := 0, slots := 0, locals := 0 } : Room) s m #[(.int (-6))] below meth c s₁ [] 0 0 := Stand.of_body Bd
  have e0 : s₁.heap = h0 := by rw [← hh, Bd.state]; rfl
  have N0 := Fr.nil n0
  have pre0 : ∀ t, Steps p.tables e below (s₁.setTop (mkF m 0 #[.val (.int (-6))] [])) t → Steps p.tables e below (s₁.setTop (entryFrame m #[(.int (-6))] 1)) t := fun t k => castTop (ef_3_I m (-6 : Int32)) k
  obtain ⟨T1, X1, e1, st1⟩ := getS2 X0 hx hZ hown (host := "") (Or.inl (hwi hw 6 rfl)) Via.refl e0 (S_INTEGER.ext O0.2) (g := (mkF m 22 #[.val (.int (-6))] [])) rfl (hb hby d3_22)
  obtain ⟨fs, hr, hrun, hended, hW, hsame⟩ := X1.leave (v := some (.ref w_INTEGER)) (fun h => by rw [Bd.returns] at h; cases h)
  refine ⟨_, _, pre0 _ ?_, hrun, hended, _, _, rfl, ?_, ⟨_, rfl⟩, hW, hsame.mono (by decide) (by decide)⟩
  · show St p e below s₁ (mkF m 0 #[.val (.int (-6))] []) _
    refine XS.iloadN X0.here hx rfl (hb hby d3_0) rfl ?_
    show St p e below s₁ (mkF m 1 #[.val (.int (-6))] [(.int (-6))]) _
    refine XS.bipush X0.here hx rfl (hb hby d3_1) ?_
    show St p e below s₁ (mkF m 3 #[.val (.int (-6))] [(.int (-6)), (.int (-6))]) _
    refine XS.icmpYes X0.here hx rfl (pc0 := 3) (pc' := 22) rfl (hb hby d3_3) rfl (teq (by decide : (-6 : Int32) = (-6 : Int32))).1 (by decide) (by decide) ?_
    show St p e below s₁ (mkF m 22 #[.val (.int (-6))] []) _
    refine st1 _ ?_
    show St p e below T1 (mkF m 25 #[.val (.int (-6))] [(.ref w_INTEGER)]) _
    jvm_step X1.here [X1.here.top, hx, (hb hby d3_25), X1.method', Bd.returns, Value.isRef, FieldType.isReference]
    first | (intro acts; rw [hr _ acts rfl rfl rfl]) | rw [hr _ _ rfl rfl rfl]
    exact Steps.refl _
  · show Q_ct w_INTEGER w_DECIMAL w_FLOAT w_BOOLEAN w_TEXT w_OTHER (-6 : Int32) h0 n0 _ T1.heap _
    rw [e1]
    exact ⟨by rfl, N0, rfl⟩
theorem d3_6 : decode method_2_code 6 = .ok (.iload_n 0, 1) := by decide +kernel
theorem d3_7 : decode method_2_code 7 = .ok (.iconst 5, 1) := by decide +kernel
theorem d3_8 : decode method_2_code 8 = .ok (.if_icmp .eq 14, 3) := by decide +kernel
set_option maxRecDepth 65536 in
set_option maxHeartbeats 40000000 in
theorem rm_exp_5 (l : Launch) (Z : State) (a0 : Array Value) (hw : ∀ d ∈ tables_1, d.before a0 Z = true) (ws : List Jvm.Cond) (w_INTEGER : Addr) (w_DECIMAL : Addr) (w_FLOAT : Addr) (w_BOOLEAN : Addr) (w_TEXT : Addr) (w_OTHER : Addr) (h0 : Heap) (n0 : Nat) (Z0 : n0 ≤ h0.size) (S_INTEGER : Sta Z Z.heap "com/example/commitgate/commitgate/store/ColumnType" "INTEGER" "Lcom/example/commitgate/commitgate/store/ColumnType;" (.ref w_INTEGER)) (S_DECIMAL : Sta Z Z.heap "com/example/commitgate/commitgate/store/ColumnType" "DECIMAL" "Lcom/example/commitgate/commitgate/store/ColumnType;" (.ref w_DECIMAL)) (S_FLOAT : Sta Z Z.heap "com/example/commitgate/commitgate/store/ColumnType" "FLOAT" "Lcom/example/commitgate/commitgate/store/ColumnType;" (.ref w_FLOAT)) (S_BOOLEAN : Sta Z Z.heap "com/example/commitgate/commitgate/store/ColumnType" "BOOLEAN" "Lcom/example/commitgate/commitgate/store/ColumnType;" (.ref w_BOOLEAN)) (S_TEXT : Sta Z Z.heap "com/example/commitgate/commitgate/store/ColumnType" "TEXT" "Lcom/example/commitgate/commitgate/store/ColumnType;" (.ref w_TEXT)) (S_OTHER : Sta Z Z.heap "com/example/commitgate/commitgate/store/ColumnType" "OTHER" "Lcom/example/commitgate/commitgate/store/ColumnType;" (.ref w_OTHER)) (O0 : Old Z n0 h0) :
    MetFree l (⟨"com/example/commitgate/commitgate/store/ColumnTypeOfPinLaw", "expected", "(I)Lcom/example/commitgate/commitgate/store/ColumnType;"⟩ : MethodName) (head1 (Jvm.Cond.code (⟨"com/example/commitgate/commitgate/store/ColumnTypeOfPinLaw", "expected", "(I)Lcom/example/commitgate/commitgate/store/ColumnType;"⟩ : MethodName) method_2_code 1 (some (.object "com/example/commitgate/commitgate/store/ColumnType")) :: ws) ({ frames := 0, cells := 0, slots := 0, locals := 0 } : Room)) (fun a U => a = #[(.int 5)] ∧ Z.Warmed39 U.vm ∧ U.heap = h0) (fun _ _ _ _ _ => True) (fun _ U o U' => ∃ v L, o = .returned v ∧ Q_ct w_INTEGER w_DECIMAL w_FLOAT w_BOOLEAN w_TEXT w_OTHER (5 : Int32) h0 n0 v U'.heap L ∧ FrameEnd U o U' L ({ frames := 0, cells := 0, slots := 0, locals := 0 } : Room).cells ({ frames := 0, cells := 0, slots := 0, locals := 0 } : Room).slots) := by
  refine MetFree.of_bodySF (plainFor_of_name pn_3) hisR ?_
  intro p e s m args below meth c s₁ Bd hml0 hP hK
  obtain ⟨rfl, hZ, hh⟩ := hP
  have hx := Bd.exec
  have hby := Bd.bytes
  have hml : c.maxLocals = 1 := hml0
  have hown : s.vm.findClass "com/example/commitgate/commitgate/store/ColumnTypeOfPinLaw" = some m.cls := findClass_of_methodNamed Bd.named
  have hnm := (name_of_methodNamed Bd.named Bd.method).1
  have X0 : Stand p l e ({ frames := 0, cells := 0, slots := 0, locals := 0 } : Room) s m #[(.int 5)] below meth c s₁ [] 0 0 := Stand.of_body Bd
  have e0 : s₁.heap = h0 := by rw [← hh, Bd.state]; rfl
  have N0 := Fr.nil n0
  have pre0 : ∀ t, Steps p.tables e below (s₁.setTop (mkF m 0 #[.val (.int 5)] [])) t → Steps p.tables e below (s₁.setTop (entryFrame m #[(.int 5)] 1)) t := fun t k => castTop (ef_3_I m (5 : Int32)) k
  obtain ⟨T1, X1, e1, st1⟩ := getS2 X0 hx hZ hown (host := "") (Or.inl (hwi hw 6 rfl)) Via.refl e0 (S_INTEGER.ext O0.2) (g := (mkF m 22 #[.val (.int 5)] [])) rfl (hb hby d3_22)
  obtain ⟨fs, hr, hrun, hended, hW, hsame⟩ := X1.leave (v := some (.ref w_INTEGER)) (fun h => by rw [Bd.returns] at h; cases h)
  refine ⟨_, _, pre0 _ ?_, hrun, hended, _, _, rfl, ?_, ⟨_, rfl⟩, hW, hsame.mono (by decide) (by decide)⟩
  · show St p e below s₁ (mkF m 0 #[.val (.int 5)] []) _
    refine XS.iloadN X0.here hx rfl (hb hby d3_0) rfl ?_
    show St p e below s₁ (mkF m 1 #[.val (.int 5)] [(.int 5)]) _
    refine XS.bipush X0.here hx rfl (hb hby d3_1) ?_
    show St p e below s₁ (mkF m 3 #[.val (.int 5)] [(.int (-6)), (.int 5)]) _
    refine XS.icmpNo X0.here hx rfl (hb hby d3_3) rfl (feq (by decide : ¬ ((5 : Int32) = (-6 : Int32)))).1 ?_
    show St p e below s₁ (mkF m 6 #[.val (.int 5)] []) _
    refine XS.iloadN X0.here hx rfl (hb hby d3_6) rfl ?_
    show St p e below s₁ (mkF m 7 #[.val (.int 5)] [(.int 5)]) _
    refine XS.iconst X0.here hx rfl (hb hby d3_7) ?_
    show St p e below s₁ (mkF m 8 #[.val (.int 5)] [(.int 5), (.int 5)]) _
    refine XS.icmpYes X0.here hx rfl (pc0 := 8) (pc' := 22) rfl (hb hby d3_8) rfl (teq (by decide : (5 : Int32) = (5 : Int32))).1 (by decide) (by decide) ?_
    show St p e below s₁ (mkF m 22 #[.val (.int 5)] []) _
    refine st1 _ ?_
    show St p e below T1 (mkF m 25 #[.val (.int 5)] [(.ref w_INTEGER)]) _
    jvm_step X1.here [X1.here.top, hx, (hb hby d3_25), X1.method', Bd.returns, Value.isRef, FieldType.isReference]
    first | (intro acts; rw [hr _ acts rfl rfl rfl]) | rw [hr _ _ rfl rfl rfl]
    exact Steps.refl _
  · show Q_ct w_INTEGER w_DECIMAL w_FLOAT w_BOOLEAN w_TEXT w_OTHER (5 : Int32) h0 n0 _ T1.heap _
    rw [e1]
    exact ⟨by rfl, N0, rfl⟩
theorem d3_11 : decode method_2_code 11 = .ok (.iload_n 0, 1) := by decide +kernel
theorem d3_12 : decode method_2_code 12 = .ok (.iconst 4, 1) := by decide +kernel
theorem d3_13 : decode method_2_code 13 = .ok (.if_icmp .eq 9, 3) := by decide +kernel
set_option maxRecDepth 65536 in
set_option maxHeartbeats 40000000 in
theorem rm_exp_4 (l : Launch) (Z : State) (a0 : Array Value) (hw : ∀ d ∈ tables_1, d.before a0 Z = true) (ws : List Jvm.Cond) (w_INTEGER : Addr) (w_DECIMAL : Addr) (w_FLOAT : Addr) (w_BOOLEAN : Addr) (w_TEXT : Addr) (w_OTHER : Addr) (h0 : Heap) (n0 : Nat) (Z0 : n0 ≤ h0.size) (S_INTEGER : Sta Z Z.heap "com/example/commitgate/commitgate/store/ColumnType" "INTEGER" "Lcom/example/commitgate/commitgate/store/ColumnType;" (.ref w_INTEGER)) (S_DECIMAL : Sta Z Z.heap "com/example/commitgate/commitgate/store/ColumnType" "DECIMAL" "Lcom/example/commitgate/commitgate/store/ColumnType;" (.ref w_DECIMAL)) (S_FLOAT : Sta Z Z.heap "com/example/commitgate/commitgate/store/ColumnType" "FLOAT" "Lcom/example/commitgate/commitgate/store/ColumnType;" (.ref w_FLOAT)) (S_BOOLEAN : Sta Z Z.heap "com/example/commitgate/commitgate/store/ColumnType" "BOOLEAN" "Lcom/example/commitgate/commitgate/store/ColumnType;" (.ref w_BOOLEAN)) (S_TEXT : Sta Z Z.heap "com/example/commitgate/commitgate/store/ColumnType" "TEXT" "Lcom/example/commitgate/commitgate/store/ColumnType;" (.ref w_TEXT)) (S_OTHER : Sta Z Z.heap "com/example/commitgate/commitgate/store/ColumnType" "OTHER" "Lcom/example/commitgate/commitgate/store/ColumnType;" (.ref w_OTHER)) (O0 : Old Z n0 h0) :
    MetFree l (⟨"com/example/commitgate/commitgate/store/ColumnTypeOfPinLaw", "expected", "(I)Lcom/example/commitgate/commitgate/store/ColumnType;"⟩ : MethodName) (head1 (Jvm.Cond.code (⟨"com/example/commitgate/commitgate/store/ColumnTypeOfPinLaw", "expected", "(I)Lcom/example/commitgate/commitgate/store/ColumnType;"⟩ : MethodName) method_2_code 1 (some (.object "com/example/commitgate/commitgate/store/ColumnType")) :: ws) ({ frames := 0, cells := 0, slots := 0, locals := 0 } : Room)) (fun a U => a = #[(.int 4)] ∧ Z.Warmed39 U.vm ∧ U.heap = h0) (fun _ _ _ _ _ => True) (fun _ U o U' => ∃ v L, o = .returned v ∧ Q_ct w_INTEGER w_DECIMAL w_FLOAT w_BOOLEAN w_TEXT w_OTHER (4 : Int32) h0 n0 v U'.heap L ∧ FrameEnd U o U' L ({ frames := 0, cells := 0, slots := 0, locals := 0 } : Room).cells ({ frames := 0, cells := 0, slots := 0, locals := 0 } : Room).slots) := by
  refine MetFree.of_bodySF (plainFor_of_name pn_3) hisR ?_
  intro p e s m args below meth c s₁ Bd hml0 hP hK
  obtain ⟨rfl, hZ, hh⟩ := hP
  have hx := Bd.exec
  have hby := Bd.bytes
  have hml : c.maxLocals = 1 := hml0
  have hown : s.vm.findClass "com/example/commitgate/commitgate/store/ColumnTypeOfPinLaw" = some m.cls := findClass_of_methodNamed Bd.named
  have hnm := (name_of_methodNamed Bd.named Bd.method).1
  have X0 : Stand p l e ({ frames := 0, cells := 0, slots := 0, locals := 0 } : Room) s m #[(.int 4)] below meth c s₁ [] 0 0 := Stand.of_body Bd
  have e0 : s₁.heap = h0 := by rw [← hh, Bd.state]; rfl
  have N0 := Fr.nil n0
  have pre0 : ∀ t, Steps p.tables e below (s₁.setTop (mkF m 0 #[.val (.int 4)] [])) t → Steps p.tables e below (s₁.setTop (entryFrame m #[(.int 4)] 1)) t := fun t k => castTop (ef_3_I m (4 : Int32)) k
  obtain ⟨T1, X1, e1, st1⟩ := getS2 X0 hx hZ hown (host := "") (Or.inl (hwi hw 6 rfl)) Via.refl e0 (S_INTEGER.ext O0.2) (g := (mkF m 22 #[.val (.int 4)] [])) rfl (hb hby d3_22)
  obtain ⟨fs, hr, hrun, hended, hW, hsame⟩ := X1.leave (v := some (.ref w_INTEGER)) (fun h => by rw [Bd.returns] at h; cases h)
  refine ⟨_, _, pre0 _ ?_, hrun, hended, _, _, rfl, ?_, ⟨_, rfl⟩, hW, hsame.mono (by decide) (by decide)⟩
  · show St p e below s₁ (mkF m 0 #[.val (.int 4)] []) _
    refine XS.iloadN X0.here hx rfl (hb hby d3_0) rfl ?_
    show St p e below s₁ (mkF m 1 #[.val (.int 4)] [(.int 4)]) _
    refine XS.bipush X0.here hx rfl (hb hby d3_1) ?_
    show St p e below s₁ (mkF m 3 #[.val (.int 4)] [(.int (-6)), (.int 4)]) _
    refine XS.icmpNo X0.here hx rfl (hb hby d3_3) rfl (feq (by decide : ¬ ((4 : Int32) = (-6 : Int32)))).1 ?_
    show St p e below s₁ (mkF m 6 #[.val (.int 4)] []) _
    refine XS.iloadN X0.here hx rfl (hb hby d3_6) rfl ?_
    show St p e below s₁ (mkF m 7 #[.val (.int 4)] [(.int 4)]) _
    refine XS.iconst X0.here hx rfl (hb hby d3_7) ?_
    show St p e below s₁ (mkF m 8 #[.val (.int 4)] [(.int 5), (.int 4)]) _
    refine XS.icmpNo X0.here hx rfl (hb hby d3_8) rfl (feq (by decide : ¬ ((4 : Int32) = (5 : Int32)))).1 ?_
    show St p e below s₁ (mkF m 11 #[.val (.int 4)] []) _
    refine XS.iloadN X0.here hx rfl (hb hby d3_11) rfl ?_
    show St p e below s₁ (mkF m 12 #[.val (.int 4)] [(.int 4)]) _
    refine XS.iconst X0.here hx rfl (hb hby d3_12) ?_
    show St p e below s₁ (mkF m 13 #[.val (.int 4)] [(.int 4), (.int 4)]) _
    refine XS.icmpYes X0.here hx rfl (pc0 := 13) (pc' := 22) rfl (hb hby d3_13) rfl (teq (by decide : (4 : Int32) = (4 : Int32))).1 (by decide) (by decide) ?_
    show St p e below s₁ (mkF m 22 #[.val (.int 4)] []) _
    refine st1 _ ?_
    show St p e below T1 (mkF m 25 #[.val (.int 4)] [(.ref w_INTEGER)]) _
    jvm_step X1.here [X1.here.top, hx, (hb hby d3_25), X1.method', Bd.returns, Value.isRef, FieldType.isReference]
    first | (intro acts; rw [hr _ acts rfl rfl rfl]) | rw [hr _ _ rfl rfl rfl]
    exact Steps.refl _
  · show Q_ct w_INTEGER w_DECIMAL w_FLOAT w_BOOLEAN w_TEXT w_OTHER (4 : Int32) h0 n0 _ T1.heap _
    rw [e1]
    exact ⟨by rfl, N0, rfl⟩
theorem d3_16 : decode method_2_code 16 = .ok (.iload_n 0, 1) := by decide +kernel
theorem d3_17 : decode method_2_code 17 = .ok (.bipush (-5), 2) := by decide +kernel
theorem d3_19 : decode method_2_code 19 = .ok (.if_icmp .ne 7, 3) := by decide +kernel
set_option maxRecDepth 65536 in
set_option maxHeartbeats 40000000 in
theorem rm_exp_m5 (l : Launch) (Z : State) (a0 : Array Value) (hw : ∀ d ∈ tables_1, d.before a0 Z = true) (ws : List Jvm.Cond) (w_INTEGER : Addr) (w_DECIMAL : Addr) (w_FLOAT : Addr) (w_BOOLEAN : Addr) (w_TEXT : Addr) (w_OTHER : Addr) (h0 : Heap) (n0 : Nat) (Z0 : n0 ≤ h0.size) (S_INTEGER : Sta Z Z.heap "com/example/commitgate/commitgate/store/ColumnType" "INTEGER" "Lcom/example/commitgate/commitgate/store/ColumnType;" (.ref w_INTEGER)) (S_DECIMAL : Sta Z Z.heap "com/example/commitgate/commitgate/store/ColumnType" "DECIMAL" "Lcom/example/commitgate/commitgate/store/ColumnType;" (.ref w_DECIMAL)) (S_FLOAT : Sta Z Z.heap "com/example/commitgate/commitgate/store/ColumnType" "FLOAT" "Lcom/example/commitgate/commitgate/store/ColumnType;" (.ref w_FLOAT)) (S_BOOLEAN : Sta Z Z.heap "com/example/commitgate/commitgate/store/ColumnType" "BOOLEAN" "Lcom/example/commitgate/commitgate/store/ColumnType;" (.ref w_BOOLEAN)) (S_TEXT : Sta Z Z.heap "com/example/commitgate/commitgate/store/ColumnType" "TEXT" "Lcom/example/commitgate/commitgate/store/ColumnType;" (.ref w_TEXT)) (S_OTHER : Sta Z Z.heap "com/example/commitgate/commitgate/store/ColumnType" "OTHER" "Lcom/example/commitgate/commitgate/store/ColumnType;" (.ref w_OTHER)) (O0 : Old Z n0 h0) :
    MetFree l (⟨"com/example/commitgate/commitgate/store/ColumnTypeOfPinLaw", "expected", "(I)Lcom/example/commitgate/commitgate/store/ColumnType;"⟩ : MethodName) (head1 (Jvm.Cond.code (⟨"com/example/commitgate/commitgate/store/ColumnTypeOfPinLaw", "expected", "(I)Lcom/example/commitgate/commitgate/store/ColumnType;"⟩ : MethodName) method_2_code 1 (some (.object "com/example/commitgate/commitgate/store/ColumnType")) :: ws) ({ frames := 0, cells := 0, slots := 0, locals := 0 } : Room)) (fun a U => a = #[(.int (-5))] ∧ Z.Warmed39 U.vm ∧ U.heap = h0) (fun _ _ _ _ _ => True) (fun _ U o U' => ∃ v L, o = .returned v ∧ Q_ct w_INTEGER w_DECIMAL w_FLOAT w_BOOLEAN w_TEXT w_OTHER (-5 : Int32) h0 n0 v U'.heap L ∧ FrameEnd U o U' L ({ frames := 0, cells := 0, slots := 0, locals := 0 } : Room).cells ({ frames := 0, cells := 0, slots := 0, locals := 0 } : Room).slots) := by
  refine MetFree.of_bodySF (plainFor_of_name pn_3) hisR ?_
  intro p e s m args below meth c s₁ Bd hml0 hP hK
  obtain ⟨rfl, hZ, hh⟩ := hP
  have hx := Bd.exec
  have hby := Bd.bytes
  have hml : c.maxLocals = 1 := hml0
  have hown : s.vm.findClass "com/example/commitgate/commitgate/store/ColumnTypeOfPinLaw" = some m.cls := findClass_of_methodNamed Bd.named
  have hnm := (name_of_methodNamed Bd.named Bd.method).1
  have X0 : Stand p l e ({ frames := 0, cells := 0, slots := 0, locals := 0 } : Room) s m #[(.int (-5))] below meth c s₁ [] 0 0 := Stand.of_body Bd
  have e0 : s₁.heap = h0 := by rw [← hh, Bd.state]; rfl
  have N0 := Fr.nil n0
  have pre0 : ∀ t, Steps p.tables e below (s₁.setTop (mkF m 0 #[.val (.int (-5))] [])) t → Steps p.tables e below (s₁.setTop (entryFrame m #[(.int (-5))] 1)) t := fun t k => castTop (ef_3_I m (-5 : Int32)) k
  obtain ⟨T1, X1, e1, st1⟩ := getS2 X0 hx hZ hown (host := "") (Or.inl (hwi hw 6 rfl)) Via.refl e0 (S_INTEGER.ext O0.2) (g := (mkF m 22 #[.val (.int (-5))] [])) rfl (hb hby d3_22)
  obtain ⟨fs, hr, hrun, hended, hW, hsame⟩ := X1.leave (v := some (.ref w_INTEGER)) (fun h => by rw [Bd.returns] at h; cases h)
  refine ⟨_, _, pre0 _ ?_, hrun, hended, _, _, rfl, ?_, ⟨_, rfl⟩, hW, hsame.mono (by decide) (by decide)⟩
  · show St p e below s₁ (mkF m 0 #[.val (.int (-5))] []) _
    refine XS.iloadN X0.here hx rfl (hb hby d3_0) rfl ?_
    show St p e below s₁ (mkF m 1 #[.val (.int (-5))] [(.int (-5))]) _
    refine XS.bipush X0.here hx rfl (hb hby d3_1) ?_
    show St p e below s₁ (mkF m 3 #[.val (.int (-5))] [(.int (-6)), (.int (-5))]) _
    refine XS.icmpNo X0.here hx rfl (hb hby d3_3) rfl (feq (by decide : ¬ ((-5 : Int32) = (-6 : Int32)))).1 ?_
    show St p e below s₁ (mkF m 6 #[.val (.int (-5))] []) _
    refine XS.iloadN X0.here hx rfl (hb hby d3_6) rfl ?_
    show St p e below s₁ (mkF m 7 #[.val (.int (-5))] [(.int (-5))]) _
    refine XS.iconst X0.here hx rfl (hb hby d3_7) ?_
    show St p e below s₁ (mkF m 8 #[.val (.int (-5))] [(.int 5), (.int (-5))]) _
    refine XS.icmpNo X0.here hx rfl (hb hby d3_8) rfl (feq (by decide : ¬ ((-5 : Int32) = (5 : Int32)))).1 ?_
    show St p e below s₁ (mkF m 11 #[.val (.int (-5))] []) _
    refine XS.iloadN X0.here hx rfl (hb hby d3_11) rfl ?_
    show St p e below s₁ (mkF m 12 #[.val (.int (-5))] [(.int (-5))]) _
    refine XS.iconst X0.here hx rfl (hb hby d3_12) ?_
    show St p e below s₁ (mkF m 13 #[.val (.int (-5))] [(.int 4), (.int (-5))]) _
    refine XS.icmpNo X0.here hx rfl (hb hby d3_13) rfl (feq (by decide : ¬ ((-5 : Int32) = (4 : Int32)))).1 ?_
    show St p e below s₁ (mkF m 16 #[.val (.int (-5))] []) _
    refine XS.iloadN X0.here hx rfl (hb hby d3_16) rfl ?_
    show St p e below s₁ (mkF m 17 #[.val (.int (-5))] [(.int (-5))]) _
    refine XS.bipush X0.here hx rfl (hb hby d3_17) ?_
    show St p e below s₁ (mkF m 19 #[.val (.int (-5))] [(.int (-5)), (.int (-5))]) _
    refine XS.icmpNo X0.here hx rfl (hb hby d3_19) rfl (teq (by decide : (-5 : Int32) = (-5 : Int32))).2 ?_
    show St p e below s₁ (mkF m 22 #[.val (.int (-5))] []) _
    refine st1 _ ?_
    show St p e below T1 (mkF m 25 #[.val (.int (-5))] [(.ref w_INTEGER)]) _
    jvm_step X1.here [X1.here.top, hx, (hb hby d3_25), X1.method', Bd.returns, Value.isRef, FieldType.isReference]
    first | (intro acts; rw [hr _ acts rfl rfl rfl]) | rw [hr _ _ rfl rfl rfl]
    exact Steps.refl _
  · show Q_ct w_INTEGER w_DECIMAL w_FLOAT w_BOOLEAN w_TEXT w_OTHER (-5 : Int32) h0 n0 _ T1.heap _
    rw [e1]
    exact ⟨by rfl, N0, rfl⟩
theorem d3_26 : decode method_2_code 26 = .ok (.iload_n 0, 1) := by decide +kernel
theorem d3_27 : decode method_2_code 27 = .ok (.iconst 2, 1) := by decide +kernel
theorem d3_28 : decode method_2_code 28 = .ok (.if_icmp .eq 8, 3) := by decide +kernel
theorem d3_36 : decode method_2_code 36 = .ok (.getstatic 15, 3) := by decide +kernel
theorem d3_39 : decode method_2_code 39 = .ok (.areturn, 1) := by decide +kernel
set_option maxRecDepth 65536 in
set_option maxHeartbeats 40000000 in
theorem rm_exp_2 (l : Launch) (Z : State) (a0 : Array Value) (hw : ∀ d ∈ tables_1, d.before a0 Z = true) (ws : List Jvm.Cond) (w_INTEGER : Addr) (w_DECIMAL : Addr) (w_FLOAT : Addr) (w_BOOLEAN : Addr) (w_TEXT : Addr) (w_OTHER : Addr) (h0 : Heap) (n0 : Nat) (Z0 : n0 ≤ h0.size) (S_INTEGER : Sta Z Z.heap "com/example/commitgate/commitgate/store/ColumnType" "INTEGER" "Lcom/example/commitgate/commitgate/store/ColumnType;" (.ref w_INTEGER)) (S_DECIMAL : Sta Z Z.heap "com/example/commitgate/commitgate/store/ColumnType" "DECIMAL" "Lcom/example/commitgate/commitgate/store/ColumnType;" (.ref w_DECIMAL)) (S_FLOAT : Sta Z Z.heap "com/example/commitgate/commitgate/store/ColumnType" "FLOAT" "Lcom/example/commitgate/commitgate/store/ColumnType;" (.ref w_FLOAT)) (S_BOOLEAN : Sta Z Z.heap "com/example/commitgate/commitgate/store/ColumnType" "BOOLEAN" "Lcom/example/commitgate/commitgate/store/ColumnType;" (.ref w_BOOLEAN)) (S_TEXT : Sta Z Z.heap "com/example/commitgate/commitgate/store/ColumnType" "TEXT" "Lcom/example/commitgate/commitgate/store/ColumnType;" (.ref w_TEXT)) (S_OTHER : Sta Z Z.heap "com/example/commitgate/commitgate/store/ColumnType" "OTHER" "Lcom/example/commitgate/commitgate/store/ColumnType;" (.ref w_OTHER)) (O0 : Old Z n0 h0) :
    MetFree l (⟨"com/example/commitgate/commitgate/store/ColumnTypeOfPinLaw", "expected", "(I)Lcom/example/commitgate/commitgate/store/ColumnType;"⟩ : MethodName) (head1 (Jvm.Cond.code (⟨"com/example/commitgate/commitgate/store/ColumnTypeOfPinLaw", "expected", "(I)Lcom/example/commitgate/commitgate/store/ColumnType;"⟩ : MethodName) method_2_code 1 (some (.object "com/example/commitgate/commitgate/store/ColumnType")) :: ws) ({ frames := 0, cells := 0, slots := 0, locals := 0 } : Room)) (fun a U => a = #[(.int 2)] ∧ Z.Warmed39 U.vm ∧ U.heap = h0) (fun _ _ _ _ _ => True) (fun _ U o U' => ∃ v L, o = .returned v ∧ Q_ct w_INTEGER w_DECIMAL w_FLOAT w_BOOLEAN w_TEXT w_OTHER (2 : Int32) h0 n0 v U'.heap L ∧ FrameEnd U o U' L ({ frames := 0, cells := 0, slots := 0, locals := 0 } : Room).cells ({ frames := 0, cells := 0, slots := 0, locals := 0 } : Room).slots) := by
  refine MetFree.of_bodySF (plainFor_of_name pn_3) hisR ?_
  intro p e s m args below meth c s₁ Bd hml0 hP hK
  obtain ⟨rfl, hZ, hh⟩ := hP
  have hx := Bd.exec
  have hby := Bd.bytes
  have hml : c.maxLocals = 1 := hml0
  have hown : s.vm.findClass "com/example/commitgate/commitgate/store/ColumnTypeOfPinLaw" = some m.cls := findClass_of_methodNamed Bd.named
  have hnm := (name_of_methodNamed Bd.named Bd.method).1
  have X0 : Stand p l e ({ frames := 0, cells := 0, slots := 0, locals := 0 } : Room) s m #[(.int 2)] below meth c s₁ [] 0 0 := Stand.of_body Bd
  have e0 : s₁.heap = h0 := by rw [← hh, Bd.state]; rfl
  have N0 := Fr.nil n0
  have pre0 : ∀ t, Steps p.tables e below (s₁.setTop (mkF m 0 #[.val (.int 2)] [])) t → Steps p.tables e below (s₁.setTop (entryFrame m #[(.int 2)] 1)) t := fun t k => castTop (ef_3_I m (2 : Int32)) k
  obtain ⟨T1, X1, e1, st1⟩ := getS2 X0 hx hZ hown (host := "") (Or.inl (hwi hw 25 rfl)) Via.refl e0 (S_DECIMAL.ext O0.2) (g := (mkF m 36 #[.val (.int 2)] [])) rfl (hb hby d3_36)
  obtain ⟨fs, hr, hrun, hended, hW, hsame⟩ := X1.leave (v := some (.ref w_DECIMAL)) (fun h => by rw [Bd.returns] at h; cases h)
  refine ⟨_, _, pre0 _ ?_, hrun, hended, _, _, rfl, ?_, ⟨_, rfl⟩, hW, hsame.mono (by decide) (by decide)⟩
  · show St p e below s₁ (mkF m 0 #[.val (.int 2)] []) _
    refine XS.iloadN X0.here hx rfl (hb hby d3_0) rfl ?_
    show St p e below s₁ (mkF m 1 #[.val (.int 2)] [(.int 2)]) _
    refine XS.bipush X0.here hx rfl (hb hby d3_1) ?_
    show St p e below s₁ (mkF m 3 #[.val (.int 2)] [(.int (-6)), (.int 2)]) _
    refine XS.icmpNo X0.here hx rfl (hb hby d3_3) rfl (feq (by decide : ¬ ((2 : Int32) = (-6 : Int32)))).1 ?_
    show St p e below s₁ (mkF m 6 #[.val (.int 2)] []) _
    refine XS.iloadN X0.here hx rfl (hb hby d3_6) rfl ?_
    show St p e below s₁ (mkF m 7 #[.val (.int 2)] [(.int 2)]) _
    refine XS.iconst X0.here hx rfl (hb hby d3_7) ?_
    show St p e below s₁ (mkF m 8 #[.val (.int 2)] [(.int 5), (.int 2)]) _
    refine XS.icmpNo X0.here hx rfl (hb hby d3_8) rfl (feq (by decide : ¬ ((2 : Int32) = (5 : Int32)))).1 ?_
    show St p e below s₁ (mkF m 11 #[.val (.int 2)] []) _
    refine XS.iloadN X0.here hx rfl (hb hby d3_11) rfl ?_
    show St p e below s₁ (mkF m 12 #[.val (.int 2)] [(.int 2)]) _
    refine XS.iconst X0.here hx rfl (hb hby d3_12) ?_
    show St p e below s₁ (mkF m 13 #[.val (.int 2)] [(.int 4), (.int 2)]) _
    refine XS.icmpNo X0.here hx rfl (hb hby d3_13) rfl (feq (by decide : ¬ ((2 : Int32) = (4 : Int32)))).1 ?_
    show St p e below s₁ (mkF m 16 #[.val (.int 2)] []) _
    refine XS.iloadN X0.here hx rfl (hb hby d3_16) rfl ?_
    show St p e below s₁ (mkF m 17 #[.val (.int 2)] [(.int 2)]) _
    refine XS.bipush X0.here hx rfl (hb hby d3_17) ?_
    show St p e below s₁ (mkF m 19 #[.val (.int 2)] [(.int (-5)), (.int 2)]) _
    refine XS.icmpYes X0.here hx rfl (pc0 := 19) (pc' := 26) rfl (hb hby d3_19) rfl (feq (by decide : ¬ ((2 : Int32) = (-5 : Int32)))).2 (by decide) (by decide) ?_
    show St p e below s₁ (mkF m 26 #[.val (.int 2)] []) _
    refine XS.iloadN X0.here hx rfl (hb hby d3_26) rfl ?_
    show St p e below s₁ (mkF m 27 #[.val (.int 2)] [(.int 2)]) _
    refine XS.iconst X0.here hx rfl (hb hby d3_27) ?_
    show St p e below s₁ (mkF m 28 #[.val (.int 2)] [(.int 2), (.int 2)]) _
    refine XS.icmpYes X0.here hx rfl (pc0 := 28) (pc' := 36) rfl (hb hby d3_28) rfl (teq (by decide : (2 : Int32) = (2 : Int32))).1 (by decide) (by decide) ?_
    show St p e below s₁ (mkF m 36 #[.val (.int 2)] []) _
    refine st1 _ ?_
    show St p e below T1 (mkF m 39 #[.val (.int 2)] [(.ref w_DECIMAL)]) _
    jvm_step X1.here [X1.here.top, hx, (hb hby d3_39), X1.method', Bd.returns, Value.isRef, FieldType.isReference]
    first | (intro acts; rw [hr _ acts rfl rfl rfl]) | rw [hr _ _ rfl rfl rfl]
    exact Steps.refl _
  · show Q_ct w_INTEGER w_DECIMAL w_FLOAT w_BOOLEAN w_TEXT w_OTHER (2 : Int32) h0 n0 _ T1.heap _
    rw [e1]
    exact ⟨by rfl, N0, rfl⟩
theorem d3_31 : decode method_2_code 31 = .ok (.iload_n 0, 1) := by decide +kernel
theorem d3_32 : decode method_2_code 32 = .ok (.iconst 3, 1) := by decide +kernel
theorem d3_33 : decode method_2_code 33 = .ok (.if_icmp .ne 7, 3) := by decide +kernel
set_option maxRecDepth 65536 in
set_option maxHeartbeats 40000000 in
theorem rm_exp_3 (l : Launch) (Z : State) (a0 : Array Value) (hw : ∀ d ∈ tables_1, d.before a0 Z = true) (ws : List Jvm.Cond) (w_INTEGER : Addr) (w_DECIMAL : Addr) (w_FLOAT : Addr) (w_BOOLEAN : Addr) (w_TEXT : Addr) (w_OTHER : Addr) (h0 : Heap) (n0 : Nat) (Z0 : n0 ≤ h0.size) (S_INTEGER : Sta Z Z.heap "com/example/commitgate/commitgate/store/ColumnType" "INTEGER" "Lcom/example/commitgate/commitgate/store/ColumnType;" (.ref w_INTEGER)) (S_DECIMAL : Sta Z Z.heap "com/example/commitgate/commitgate/store/ColumnType" "DECIMAL" "Lcom/example/commitgate/commitgate/store/ColumnType;" (.ref w_DECIMAL)) (S_FLOAT : Sta Z Z.heap "com/example/commitgate/commitgate/store/ColumnType" "FLOAT" "Lcom/example/commitgate/commitgate/store/ColumnType;" (.ref w_FLOAT)) (S_BOOLEAN : Sta Z Z.heap "com/example/commitgate/commitgate/store/ColumnType" "BOOLEAN" "Lcom/example/commitgate/commitgate/store/ColumnType;" (.ref w_BOOLEAN)) (S_TEXT : Sta Z Z.heap "com/example/commitgate/commitgate/store/ColumnType" "TEXT" "Lcom/example/commitgate/commitgate/store/ColumnType;" (.ref w_TEXT)) (S_OTHER : Sta Z Z.heap "com/example/commitgate/commitgate/store/ColumnType" "OTHER" "Lcom/example/commitgate/commitgate/store/ColumnType;" (.ref w_OTHER)) (O0 : Old Z n0 h0) :
    MetFree l (⟨"com/example/commitgate/commitgate/store/ColumnTypeOfPinLaw", "expected", "(I)Lcom/example/commitgate/commitgate/store/ColumnType;"⟩ : MethodName) (head1 (Jvm.Cond.code (⟨"com/example/commitgate/commitgate/store/ColumnTypeOfPinLaw", "expected", "(I)Lcom/example/commitgate/commitgate/store/ColumnType;"⟩ : MethodName) method_2_code 1 (some (.object "com/example/commitgate/commitgate/store/ColumnType")) :: ws) ({ frames := 0, cells := 0, slots := 0, locals := 0 } : Room)) (fun a U => a = #[(.int 3)] ∧ Z.Warmed39 U.vm ∧ U.heap = h0) (fun _ _ _ _ _ => True) (fun _ U o U' => ∃ v L, o = .returned v ∧ Q_ct w_INTEGER w_DECIMAL w_FLOAT w_BOOLEAN w_TEXT w_OTHER (3 : Int32) h0 n0 v U'.heap L ∧ FrameEnd U o U' L ({ frames := 0, cells := 0, slots := 0, locals := 0 } : Room).cells ({ frames := 0, cells := 0, slots := 0, locals := 0 } : Room).slots) := by
  refine MetFree.of_bodySF (plainFor_of_name pn_3) hisR ?_
  intro p e s m args below meth c s₁ Bd hml0 hP hK
  obtain ⟨rfl, hZ, hh⟩ := hP
  have hx := Bd.exec
  have hby := Bd.bytes
  have hml : c.maxLocals = 1 := hml0
  have hown : s.vm.findClass "com/example/commitgate/commitgate/store/ColumnTypeOfPinLaw" = some m.cls := findClass_of_methodNamed Bd.named
  have hnm := (name_of_methodNamed Bd.named Bd.method).1
  have X0 : Stand p l e ({ frames := 0, cells := 0, slots := 0, locals := 0 } : Room) s m #[(.int 3)] below meth c s₁ [] 0 0 := Stand.of_body Bd
  have e0 : s₁.heap = h0 := by rw [← hh, Bd.state]; rfl
  have N0 := Fr.nil n0
  have pre0 : ∀ t, Steps p.tables e below (s₁.setTop (mkF m 0 #[.val (.int 3)] [])) t → Steps p.tables e below (s₁.setTop (entryFrame m #[(.int 3)] 1)) t := fun t k => castTop (ef_3_I m (3 : Int32)) k
  obtain ⟨T1, X1, e1, st1⟩ := getS2 X0 hx hZ hown (host := "") (Or.inl (hwi hw 25 rfl)) Via.refl e0 (S_DECIMAL.ext O0.2) (g := (mkF m 36 #[.val (.int 3)] [])) rfl (hb hby d3_36)
  obtain ⟨fs, hr, hrun, hended, hW, hsame⟩ := X1.leave (v := some (.ref w_DECIMAL)) (fun h => by rw [Bd.returns] at h; cases h)
  refine ⟨_, _, pre0 _ ?_, hrun, hended, _, _, rfl, ?_, ⟨_, rfl⟩, hW, hsame.mono (by decide) (by decide)⟩
  · show St p e below s₁ (mkF m 0 #[.val (.int 3)] []) _
    refine XS.iloadN X0.here hx rfl (hb hby d3_0) rfl ?_
    show St p e below s₁ (mkF m 1 #[.val (.int 3)] [(.int 3)]) _
    refine XS.bipush X0.here hx rfl (hb hby d3_1) ?_
    show St p e below s₁ (mkF m 3 #[.val (.int 3)] [(.int (-6)), (.int 3)]) _
    refine XS.icmpNo X0.here hx rfl (hb hby d3_3) rfl (feq (by decide : ¬ ((3 : Int32) = (-6 : Int32)))).1 ?_
    show St p e below s₁ (mkF m 6 #[.val (.int 3)] []) _
    refine XS.iloadN X0.here hx rfl (hb hby d3_6) rfl ?_
    show St p e below s₁ (mkF m 7 #[.val (.int 3)] [(.int 3)]) _
    refine XS.iconst X0.here hx rfl (hb hby d3_7) ?_
    show St p e below s₁ (mkF m 8 #[.val (.int 3)] [(.int 5), (.int 3)]) _
    refine XS.icmpNo X0.here hx rfl (hb hby d3_8) rfl (feq (by decide : ¬ ((3 : Int32) = (5 : Int32)))).1 ?_
    show St p e below s₁ (mkF m 11 #[.val (.int 3)] []) _
    refine XS.iloadN X0.here hx rfl (hb hby d3_11) rfl ?_
    show St p e below s₁ (mkF m 12 #[.val (.int 3)] [(.int 3)]) _
    refine XS.iconst X0.here hx rfl (hb hby d3_12) ?_
    show St p e below s₁ (mkF m 13 #[.val (.int 3)] [(.int 4), (.int 3)]) _
    refine XS.icmpNo X0.here hx rfl (hb hby d3_13) rfl (feq (by decide : ¬ ((3 : Int32) = (4 : Int32)))).1 ?_
    show St p e below s₁ (mkF m 16 #[.val (.int 3)] []) _
    refine XS.iloadN X0.here hx rfl (hb hby d3_16) rfl ?_
    show St p e below s₁ (mkF m 17 #[.val (.int 3)] [(.int 3)]) _
    refine XS.bipush X0.here hx rfl (hb hby d3_17) ?_
    show St p e below s₁ (mkF m 19 #[.val (.int 3)] [(.int (-5)), (.int 3)]) _
    refine XS.icmpYes X0.here hx rfl (pc0 := 19) (pc' := 26) rfl (hb hby d3_19) rfl (feq (by decide : ¬ ((3 : Int32) = (-5 : Int32)))).2 (by decide) (by decide) ?_
    show St p e below s₁ (mkF m 26 #[.val (.int 3)] []) _
    refine XS.iloadN X0.here hx rfl (hb hby d3_26) rfl ?_
    show St p e below s₁ (mkF m 27 #[.val (.int 3)] [(.int 3)]) _
    refine XS.iconst X0.here hx rfl (hb hby d3_27) ?_
    show St p e below s₁ (mkF m 28 #[.val (.int 3)] [(.int 2), (.int 3)]) _
    refine XS.icmpNo X0.here hx rfl (hb hby d3_28) rfl (feq (by decide : ¬ ((3 : Int32) = (2 : Int32)))).1 ?_
    show St p e below s₁ (mkF m 31 #[.val (.int 3)] []) _
    refine XS.iloadN X0.here hx rfl (hb hby d3_31) rfl ?_
    show St p e below s₁ (mkF m 32 #[.val (.int 3)] [(.int 3)]) _
    refine XS.iconst X0.here hx rfl (hb hby d3_32) ?_
    show St p e below s₁ (mkF m 33 #[.val (.int 3)] [(.int 3), (.int 3)]) _
    refine XS.icmpNo X0.here hx rfl (hb hby d3_33) rfl (teq (by decide : (3 : Int32) = (3 : Int32))).2 ?_
    show St p e below s₁ (mkF m 36 #[.val (.int 3)] []) _
    refine st1 _ ?_
    show St p e below T1 (mkF m 39 #[.val (.int 3)] [(.ref w_DECIMAL)]) _
    jvm_step X1.here [X1.here.top, hx, (hb hby d3_39), X1.method', Bd.returns, Value.isRef, FieldType.isReference]
    first | (intro acts; rw [hr _ acts rfl rfl rfl]) | rw [hr _ _ rfl rfl rfl]
    exact Steps.refl _
  · show Q_ct w_INTEGER w_DECIMAL w_FLOAT w_BOOLEAN w_TEXT w_OTHER (3 : Int32) h0 n0 _ T1.heap _
    rw [e1]
    exact ⟨by rfl, N0, rfl⟩
theorem d3_40 : decode method_2_code 40 = .ok (.iload_n 0, 1) := by decide +kernel
theorem d3_41 : decode method_2_code 41 = .ok (.bipush 7, 2) := by decide +kernel
theorem d3_43 : decode method_2_code 43 = .ok (.if_icmp .eq 15, 3) := by decide +kernel
theorem d3_58 : decode method_2_code 58 = .ok (.getstatic 18, 3) := by decide +kernel
theorem d3_61 : decode method_2_code 61 = .ok (.areturn, 1) := by decide +kernel
set_option maxRecDepth 65536 in
set_option maxHeartbeats 40000000 in
theorem rm_exp_7 (l : Launch) (Z : State) (a0 : Array Value) (hw : ∀ d ∈ tables_1, d.before a0 Z = true) (ws : List Jvm.Cond) (w_INTEGER : Addr) (w_DECIMAL : Addr) (w_FLOAT : Addr) (w_BOOLEAN : Addr) (w_TEXT : Addr) (w_OTHER : Addr) (h0 : Heap) (n0 : Nat) (Z0 : n0 ≤ h0.size) (S_INTEGER : Sta Z Z.heap "com/example/commitgate/commitgate/store/ColumnType" "INTEGER" "Lcom/example/commitgate/commitgate/store/ColumnType;" (.ref w_INTEGER)) (S_DECIMAL : Sta Z Z.heap "com/example/commitgate/commitgate/store/ColumnType" "DECIMAL" "Lcom/example/commitgate/commitgate/store/ColumnType;" (.ref w_DECIMAL)) (S_FLOAT : Sta Z Z.heap "com/example/commitgate/commitgate/store/ColumnType" "FLOAT" "Lcom/example/commitgate/commitgate/store/ColumnType;" (.ref w_FLOAT)) (S_BOOLEAN : Sta Z Z.heap "com/example/commitgate/commitgate/store/ColumnType" "BOOLEAN" "Lcom/example/commitgate/commitgate/store/ColumnType;" (.ref w_BOOLEAN)) (S_TEXT : Sta Z Z.heap "com/example/commitgate/commitgate/store/ColumnType" "TEXT" "Lcom/example/commitgate/commitgate/store/ColumnType;" (.ref w_TEXT)) (S_OTHER : Sta Z Z.heap "com/example/commitgate/commitgate/store/ColumnType" "OTHER" "Lcom/example/commitgate/commitgate/store/ColumnType;" (.ref w_OTHER)) (O0 : Old Z n0 h0) :
    MetFree l (⟨"com/example/commitgate/commitgate/store/ColumnTypeOfPinLaw", "expected", "(I)Lcom/example/commitgate/commitgate/store/ColumnType;"⟩ : MethodName) (head1 (Jvm.Cond.code (⟨"com/example/commitgate/commitgate/store/ColumnTypeOfPinLaw", "expected", "(I)Lcom/example/commitgate/commitgate/store/ColumnType;"⟩ : MethodName) method_2_code 1 (some (.object "com/example/commitgate/commitgate/store/ColumnType")) :: ws) ({ frames := 0, cells := 0, slots := 0, locals := 0 } : Room)) (fun a U => a = #[(.int 7)] ∧ Z.Warmed39 U.vm ∧ U.heap = h0) (fun _ _ _ _ _ => True) (fun _ U o U' => ∃ v L, o = .returned v ∧ Q_ct w_INTEGER w_DECIMAL w_FLOAT w_BOOLEAN w_TEXT w_OTHER (7 : Int32) h0 n0 v U'.heap L ∧ FrameEnd U o U' L ({ frames := 0, cells := 0, slots := 0, locals := 0 } : Room).cells ({ frames := 0, cells := 0, slots := 0, locals := 0 } : Room).slots) := by
  refine MetFree.of_bodySF (plainFor_of_name pn_3) hisR ?_
  intro p e s m args below meth c s₁ Bd hml0 hP hK
  obtain ⟨rfl, hZ, hh⟩ := hP
  have hx := Bd.exec
  have hby := Bd.bytes
  have hml : c.maxLocals = 1 := hml0
  have hown : s.vm.findClass "com/example/commitgate/commitgate/store/ColumnTypeOfPinLaw" = some m.cls := findClass_of_methodNamed Bd.named
  have hnm := (name_of_methodNamed Bd.named Bd.method).1
  have X0 : Stand p l e ({ frames := 0, cells := 0, slots := 0, locals := 0 } : Room) s m #[(.int 7)] below meth c s₁ [] 0 0 := Stand.of_body Bd
  have e0 : s₁.heap = h0 := by rw [← hh, Bd.state]; rfl
  have N0 := Fr.nil n0
  have pre0 : ∀ t, Steps p.tables e below (s₁.setTop (mkF m 0 #[.val (.int 7)] [])) t → Steps p.tables e below (s₁.setTop (entryFrame m #[(.int 7)] 1)) t := fun t k => castTop (ef_3_I m (7 : Int32)) k
  obtain ⟨T1, X1, e1, st1⟩ := getS2 X0 hx hZ hown (host := "") (Or.inl (hwi hw 24 rfl)) Via.refl e0 (S_FLOAT.ext O0.2) (g := (mkF m 58 #[.val (.int 7)] [])) rfl (hb hby d3_58)
  obtain ⟨fs, hr, hrun, hended, hW, hsame⟩ := X1.leave (v := some (.ref w_FLOAT)) (fun h => by rw [Bd.returns] at h; cases h)
  refine ⟨_, _, pre0 _ ?_, hrun, hended, _, _, rfl, ?_, ⟨_, rfl⟩, hW, hsame.mono (by decide) (by decide)⟩
  · show St p e below s₁ (mkF m 0 #[.val (.int 7)] []) _
    refine XS.iloadN X0.here hx rfl (hb hby d3_0) rfl ?_
    show St p e below s₁ (mkF m 1 #[.val (.int 7)] [(.int 7)]) _
    refine XS.bipush X0.here hx rfl (hb hby d3_1) ?_
    show St p e below s₁ (mkF m 3 #[.val (.int 7)] [(.int (-6)), (.int 7)]) _
    refine XS.icmpNo X0.here hx rfl (hb hby d3_3) rfl (feq (by decide : ¬ ((7 : Int32) = (-6 : Int32)))).1 ?_
    show St p e below s₁ (mkF m 6 #[.val (.int 7)] []) _
    refine XS.iloadN X0.here hx rfl (hb hby d3_6) rfl ?_
    show St p e below s₁ (mkF m 7 #[.val (.int 7)] [(.int 7)]) _
    refine XS.iconst X0.here hx rfl (hb hby d3_7) ?_
    show St p e below s₁ (mkF m 8 #[.val (.int 7)] [(.int 5), (.int 7)]) _
    refine XS.icmpNo X0.here hx rfl (hb hby d3_8) rfl (feq (by decide : ¬ ((7 : Int32) = (5 : Int32)))).1 ?_
    show St p e below s₁ (mkF m 11 #[.val (.int 7)] []) _
    refine XS.iloadN X0.here hx rfl (hb hby d3_11) rfl ?_
    show St p e below s₁ (mkF m 12 #[.val (.int 7)] [(.int 7)]) _
    refine XS.iconst X0.here hx rfl (hb hby d3_12) ?_
    show St p e below s₁ (mkF m 13 #[.val (.int 7)] [(.int 4), (.int 7)]) _
    refine XS.icmpNo X0.here hx rfl (hb hby d3_13) rfl (feq (by decide : ¬ ((7 : Int32) = (4 : Int32)))).1 ?_
    show St p e below s₁ (mkF m 16 #[.val (.int 7)] []) _
    refine XS.iloadN X0.here hx rfl (hb hby d3_16) rfl ?_
    show St p e below s₁ (mkF m 17 #[.val (.int 7)] [(.int 7)]) _
    refine XS.bipush X0.here hx rfl (hb hby d3_17) ?_
    show St p e below s₁ (mkF m 19 #[.val (.int 7)] [(.int (-5)), (.int 7)]) _
    refine XS.icmpYes X0.here hx rfl (pc0 := 19) (pc' := 26) rfl (hb hby d3_19) rfl (feq (by decide : ¬ ((7 : Int32) = (-5 : Int32)))).2 (by decide) (by decide) ?_
    show St p e below s₁ (mkF m 26 #[.val (.int 7)] []) _
    refine XS.iloadN X0.here hx rfl (hb hby d3_26) rfl ?_
    show St p e below s₁ (mkF m 27 #[.val (.int 7)] [(.int 7)]) _
    refine XS.iconst X0.here hx rfl (hb hby d3_27) ?_
    show St p e below s₁ (mkF m 28 #[.val (.int 7)] [(.int 2), (.int 7)]) _
    refine XS.icmpNo X0.here hx rfl (hb hby d3_28) rfl (feq (by decide : ¬ ((7 : Int32) = (2 : Int32)))).1 ?_
    show St p e below s₁ (mkF m 31 #[.val (.int 7)] []) _
    refine XS.iloadN X0.here hx rfl (hb hby d3_31) rfl ?_
    show St p e below s₁ (mkF m 32 #[.val (.int 7)] [(.int 7)]) _
    refine XS.iconst X0.here hx rfl (hb hby d3_32) ?_
    show St p e below s₁ (mkF m 33 #[.val (.int 7)] [(.int 3), (.int 7)]) _
    refine XS.icmpYes X0.here hx rfl (pc0 := 33) (pc' := 40) rfl (hb hby d3_33) rfl (feq (by decide : ¬ ((7 : Int32) = (3 : Int32)))).2 (by decide) (by decide) ?_
    show St p e below s₁ (mkF m 40 #[.val (.int 7)] []) _
    refine XS.iloadN X0.here hx rfl (hb hby d3_40) rfl ?_
    show St p e below s₁ (mkF m 41 #[.val (.int 7)] [(.int 7)]) _
    refine XS.bipush X0.here hx rfl (hb hby d3_41) ?_
    show St p e below s₁ (mkF m 43 #[.val (.int 7)] [(.int 7), (.int 7)]) _
    refine XS.icmpYes X0.here hx rfl (pc0 := 43) (pc' := 58) rfl (hb hby d3_43) rfl (teq (by decide : (7 : Int32) = (7 : Int32))).1 (by decide) (by decide) ?_
    show St p e below s₁ (mkF m 58 #[.val (.int 7)] []) _
    refine st1 _ ?_
    show St p e below T1 (mkF m 61 #[.val (.int 7)] [(.ref w_FLOAT)]) _
    jvm_step X1.here [X1.here.top, hx, (hb hby d3_61), X1.method', Bd.returns, Value.isRef, FieldType.isReference]
    first | (intro acts; rw [hr _ acts rfl rfl rfl]) | rw [hr _ _ rfl rfl rfl]
    exact Steps.refl _
  · show Q_ct w_INTEGER w_DECIMAL w_FLOAT w_BOOLEAN w_TEXT w_OTHER (7 : Int32) h0 n0 _ T1.heap _
    rw [e1]
    exact ⟨by rfl, N0, rfl⟩
theorem d3_46 : decode method_2_code 46 = .ok (.iload_n 0, 1) := by decide +kernel
theorem d3_47 : decode method_2_code 47 = .ok (.bipush 6, 2) := by decide +kernel
theorem d3_49 : decode method_2_code 49 = .ok (.if_icmp .eq 9, 3) := by decide +kernel
set_option maxRecDepth 65536 in
set_option maxHeartbeats 40000000 in
theorem rm_exp_6 (l : Launch) (Z : State) (a0 : Array Value) (hw : ∀ d ∈ tables_1, d.before a0 Z = true) (ws : List Jvm.Cond) (w_INTEGER : Addr) (w_DECIMAL : Addr) (w_FLOAT : Addr) (w_BOOLEAN : Addr) (w_TEXT : Addr) (w_OTHER : Addr) (h0 : Heap) (n0 : Nat) (Z0 : n0 ≤ h0.size) (S_INTEGER : Sta Z Z.heap "com/example/commitgate/commitgate/store/ColumnType" "INTEGER" "Lcom/example/commitgate/commitgate/store/ColumnType;" (.ref w_INTEGER)) (S_DECIMAL : Sta Z Z.heap "com/example/commitgate/commitgate/store/ColumnType" "DECIMAL" "Lcom/example/commitgate/commitgate/store/ColumnType;" (.ref w_DECIMAL)) (S_FLOAT : Sta Z Z.heap "com/example/commitgate/commitgate/store/ColumnType" "FLOAT" "Lcom/example/commitgate/commitgate/store/ColumnType;" (.ref w_FLOAT)) (S_BOOLEAN : Sta Z Z.heap "com/example/commitgate/commitgate/store/ColumnType" "BOOLEAN" "Lcom/example/commitgate/commitgate/store/ColumnType;" (.ref w_BOOLEAN)) (S_TEXT : Sta Z Z.heap "com/example/commitgate/commitgate/store/ColumnType" "TEXT" "Lcom/example/commitgate/commitgate/store/ColumnType;" (.ref w_TEXT)) (S_OTHER : Sta Z Z.heap "com/example/commitgate/commitgate/store/ColumnType" "OTHER" "Lcom/example/commitgate/commitgate/store/ColumnType;" (.ref w_OTHER)) (O0 : Old Z n0 h0) :
    MetFree l (⟨"com/example/commitgate/commitgate/store/ColumnTypeOfPinLaw", "expected", "(I)Lcom/example/commitgate/commitgate/store/ColumnType;"⟩ : MethodName) (head1 (Jvm.Cond.code (⟨"com/example/commitgate/commitgate/store/ColumnTypeOfPinLaw", "expected", "(I)Lcom/example/commitgate/commitgate/store/ColumnType;"⟩ : MethodName) method_2_code 1 (some (.object "com/example/commitgate/commitgate/store/ColumnType")) :: ws) ({ frames := 0, cells := 0, slots := 0, locals := 0 } : Room)) (fun a U => a = #[(.int 6)] ∧ Z.Warmed39 U.vm ∧ U.heap = h0) (fun _ _ _ _ _ => True) (fun _ U o U' => ∃ v L, o = .returned v ∧ Q_ct w_INTEGER w_DECIMAL w_FLOAT w_BOOLEAN w_TEXT w_OTHER (6 : Int32) h0 n0 v U'.heap L ∧ FrameEnd U o U' L ({ frames := 0, cells := 0, slots := 0, locals := 0 } : Room).cells ({ frames := 0, cells := 0, slots := 0, locals := 0 } : Room).slots) := by
  refine MetFree.of_bodySF (plainFor_of_name pn_3) hisR ?_
  intro p e s m args below meth c s₁ Bd hml0 hP hK
  obtain ⟨rfl, hZ, hh⟩ := hP
  have hx := Bd.exec
  have hby := Bd.bytes
  have hml : c.maxLocals = 1 := hml0
  have hown : s.vm.findClass "com/example/commitgate/commitgate/store/ColumnTypeOfPinLaw" = some m.cls := findClass_of_methodNamed Bd.named
  have hnm := (name_of_methodNamed Bd.named Bd.method).1
  have X0 : Stand p l e ({ frames := 0, cells := 0, slots := 0, locals := 0 } : Room) s m #[(.int 6)] below meth c s₁ [] 0 0 := Stand.of_body Bd
  have e0 : s₁.heap = h0 := by rw [← hh, Bd.state]; rfl
  have N0 := Fr.nil n0
  have pre0 : ∀ t, Steps p.tables e below (s₁.setTop (mkF m 0 #[.val (.int 6)] [])) t → Steps p.tables e below (s₁.setTop (entryFrame m #[(.int 6)] 1)) t := fun t k => castTop (ef_3_I m (6 : Int32)) k
  obtain ⟨T1, X1, e1, st1⟩ := getS2 X0 hx hZ hown (host := "") (Or.inl (hwi hw 24 rfl)) Via.refl e0 (S_FLOAT.ext O0.2) (g := (mkF m 58 #[.val (.int 6)] [])) rfl (hb hby d3_58)
  obtain ⟨fs, hr, hrun, hended, hW, hsame⟩ := X1.leave (v := some (.ref w_FLOAT)) (fun h => by rw [Bd.returns] at h; cases h)
  refine ⟨_, _, pre0 _ ?_, hrun, hended, _, _, rfl, ?_, ⟨_, rfl⟩, hW, hsame.mono (by decide) (by decide)⟩
  · show St p e below s₁ (mkF m 0 #[.val (.int 6)] []) _
    refine XS.iloadN X0.here hx rfl (hb hby d3_0) rfl ?_
    show St p e below s₁ (mkF m 1 #[.val (.int 6)] [(.int 6)]) _
    refine XS.bipush X0.here hx rfl (hb hby d3_1) ?_
    show St p e below s₁ (mkF m 3 #[.val (.int 6)] [(.int (-6)), (.int 6)]) _
    refine XS.icmpNo X0.here hx rfl (hb hby d3_3) rfl (feq (by decide : ¬ ((6 : Int32) = (-6 : Int32)))).1 ?_
    show St p e below s₁ (mkF m 6 #[.val (.int 6)] []) _
    refine XS.iloadN X0.here hx rfl (hb hby d3_6) rfl ?_
    show St p e below s₁ (mkF m 7 #[.val (.int 6)] [(.int 6)]) _
    refine XS.iconst X0.here hx rfl (hb hby d3_7) ?_
    show St p e below s₁ (mkF m 8 #[.val (.int 6)] [(.int 5), (.int 6)]) _
    refine XS.icmpNo X0.here hx rfl (hb hby d3_8) rfl (feq (by decide : ¬ ((6 : Int32) = (5 : Int32)))).1 ?_
    show St p e below s₁ (mkF m 11 #[.val (.int 6)] []) _
    refine XS.iloadN X0.here hx rfl (hb hby d3_11) rfl ?_
    show St p e below s₁ (mkF m 12 #[.val (.int 6)] [(.int 6)]) _
    refine XS.iconst X0.here hx rfl (hb hby d3_12) ?_
    show St p e below s₁ (mkF m 13 #[.val (.int 6)] [(.int 4), (.int 6)]) _
    refine XS.icmpNo X0.here hx rfl (hb hby d3_13) rfl (feq (by decide : ¬ ((6 : Int32) = (4 : Int32)))).1 ?_
    show St p e below s₁ (mkF m 16 #[.val (.int 6)] []) _
    refine XS.iloadN X0.here hx rfl (hb hby d3_16) rfl ?_
    show St p e below s₁ (mkF m 17 #[.val (.int 6)] [(.int 6)]) _
    refine XS.bipush X0.here hx rfl (hb hby d3_17) ?_
    show St p e below s₁ (mkF m 19 #[.val (.int 6)] [(.int (-5)), (.int 6)]) _
    refine XS.icmpYes X0.here hx rfl (pc0 := 19) (pc' := 26) rfl (hb hby d3_19) rfl (feq (by decide : ¬ ((6 : Int32) = (-5 : Int32)))).2 (by decide) (by decide) ?_
    show St p e below s₁ (mkF m 26 #[.val (.int 6)] []) _
    refine XS.iloadN X0.here hx rfl (hb hby d3_26) rfl ?_
    show St p e below s₁ (mkF m 27 #[.val (.int 6)] [(.int 6)]) _
    refine XS.iconst X0.here hx rfl (hb hby d3_27) ?_
    show St p e below s₁ (mkF m 28 #[.val (.int 6)] [(.int 2), (.int 6)]) _
    refine XS.icmpNo X0.here hx rfl (hb hby d3_28) rfl (feq (by decide : ¬ ((6 : Int32) = (2 : Int32)))).1 ?_
    show St p e below s₁ (mkF m 31 #[.val (.int 6)] []) _
    refine XS.iloadN X0.here hx rfl (hb hby d3_31) rfl ?_
    show St p e below s₁ (mkF m 32 #[.val (.int 6)] [(.int 6)]) _
    refine XS.iconst X0.here hx rfl (hb hby d3_32) ?_
    show St p e below s₁ (mkF m 33 #[.val (.int 6)] [(.int 3), (.int 6)]) _
    refine XS.icmpYes X0.here hx rfl (pc0 := 33) (pc' := 40) rfl (hb hby d3_33) rfl (feq (by decide : ¬ ((6 : Int32) = (3 : Int32)))).2 (by decide) (by decide) ?_
    show St p e below s₁ (mkF m 40 #[.val (.int 6)] []) _
    refine XS.iloadN X0.here hx rfl (hb hby d3_40) rfl ?_
    show St p e below s₁ (mkF m 41 #[.val (.int 6)] [(.int 6)]) _
    refine XS.bipush X0.here hx rfl (hb hby d3_41) ?_
    show St p e below s₁ (mkF m 43 #[.val (.int 6)] [(.int 7), (.int 6)]) _
    refine XS.icmpNo X0.here hx rfl (hb hby d3_43) rfl (feq (by decide : ¬ ((6 : Int32) = (7 : Int32)))).1 ?_
    show St p e below s₁ (mkF m 46 #[.val (.int 6)] []) _
    refine XS.iloadN X0.here hx rfl (hb hby d3_46) rfl ?_
    show St p e below s₁ (mkF m 47 #[.val (.int 6)] [(.int 6)]) _
    refine XS.bipush X0.here hx rfl (hb hby d3_47) ?_
    show St p e below s₁ (mkF m 49 #[.val (.int 6)] [(.int 6), (.int 6)]) _
    refine XS.icmpYes X0.here hx rfl (pc0 := 49) (pc' := 58) rfl (hb hby d3_49) rfl (teq (by decide : (6 : Int32) = (6 : Int32))).1 (by decide) (by decide) ?_
    show St p e below s₁ (mkF m 58 #[.val (.int 6)] []) _
    refine st1 _ ?_
    show St p e below T1 (mkF m 61 #[.val (.int 6)] [(.ref w_FLOAT)]) _
    jvm_step X1.here [X1.here.top, hx, (hb hby d3_61), X1.method', Bd.returns, Value.isRef, FieldType.isReference]
    first | (intro acts; rw [hr _ acts rfl rfl rfl]) | rw [hr _ _ rfl rfl rfl]
    exact Steps.refl _
  · show Q_ct w_INTEGER w_DECIMAL w_FLOAT w_BOOLEAN w_TEXT w_OTHER (6 : Int32) h0 n0 _ T1.heap _
    rw [e1]
    exact ⟨by rfl, N0, rfl⟩
theorem d3_52 : decode method_2_code 52 = .ok (.iload_n 0, 1) := by decide +kernel
theorem d3_53 : decode method_2_code 53 = .ok (.bipush 8, 2) := by decide +kernel
theorem d3_55 : decode method_2_code 55 = .ok (.if_icmp .ne 7, 3) := by decide +kernel
set_option maxRecDepth 65536 in
set_option maxHeartbeats 40000000 in
theorem rm_exp_8 (l : Launch) (Z : State) (a0 : Array Value) (hw : ∀ d ∈ tables_1, d.before a0 Z = true) (ws : List Jvm.Cond) (w_INTEGER : Addr) (w_DECIMAL : Addr) (w_FLOAT : Addr) (w_BOOLEAN : Addr) (w_TEXT : Addr) (w_OTHER : Addr) (h0 : Heap) (n0 : Nat) (Z0 : n0 ≤ h0.size) (S_INTEGER : Sta Z Z.heap "com/example/commitgate/commitgate/store/ColumnType" "INTEGER" "Lcom/example/commitgate/commitgate/store/ColumnType;" (.ref w_INTEGER)) (S_DECIMAL : Sta Z Z.heap "com/example/commitgate/commitgate/store/ColumnType" "DECIMAL" "Lcom/example/commitgate/commitgate/store/ColumnType;" (.ref w_DECIMAL)) (S_FLOAT : Sta Z Z.heap "com/example/commitgate/commitgate/store/ColumnType" "FLOAT" "Lcom/example/commitgate/commitgate/store/ColumnType;" (.ref w_FLOAT)) (S_BOOLEAN : Sta Z Z.heap "com/example/commitgate/commitgate/store/ColumnType" "BOOLEAN" "Lcom/example/commitgate/commitgate/store/ColumnType;" (.ref w_BOOLEAN)) (S_TEXT : Sta Z Z.heap "com/example/commitgate/commitgate/store/ColumnType" "TEXT" "Lcom/example/commitgate/commitgate/store/ColumnType;" (.ref w_TEXT)) (S_OTHER : Sta Z Z.heap "com/example/commitgate/commitgate/store/ColumnType" "OTHER" "Lcom/example/commitgate/commitgate/store/ColumnType;" (.ref w_OTHER)) (O0 : Old Z n0 h0) :
    MetFree l (⟨"com/example/commitgate/commitgate/store/ColumnTypeOfPinLaw", "expected", "(I)Lcom/example/commitgate/commitgate/store/ColumnType;"⟩ : MethodName) (head1 (Jvm.Cond.code (⟨"com/example/commitgate/commitgate/store/ColumnTypeOfPinLaw", "expected", "(I)Lcom/example/commitgate/commitgate/store/ColumnType;"⟩ : MethodName) method_2_code 1 (some (.object "com/example/commitgate/commitgate/store/ColumnType")) :: ws) ({ frames := 0, cells := 0, slots := 0, locals := 0 } : Room)) (fun a U => a = #[(.int 8)] ∧ Z.Warmed39 U.vm ∧ U.heap = h0) (fun _ _ _ _ _ => True) (fun _ U o U' => ∃ v L, o = .returned v ∧ Q_ct w_INTEGER w_DECIMAL w_FLOAT w_BOOLEAN w_TEXT w_OTHER (8 : Int32) h0 n0 v U'.heap L ∧ FrameEnd U o U' L ({ frames := 0, cells := 0, slots := 0, locals := 0 } : Room).cells ({ frames := 0, cells := 0, slots := 0, locals := 0 } : Room).slots) := by
  refine MetFree.of_bodySF (plainFor_of_name pn_3) hisR ?_
  intro p e s m args below meth c s₁ Bd hml0 hP hK
  obtain ⟨rfl, hZ, hh⟩ := hP
  have hx := Bd.exec
  have hby := Bd.bytes
  have hml : c.maxLocals = 1 := hml0
  have hown : s.vm.findClass "com/example/commitgate/commitgate/store/ColumnTypeOfPinLaw" = some m.cls := findClass_of_methodNamed Bd.named
  have hnm := (name_of_methodNamed Bd.named Bd.method).1
  have X0 : Stand p l e ({ frames := 0, cells := 0, slots := 0, locals := 0 } : Room) s m #[(.int 8)] below meth c s₁ [] 0 0 := Stand.of_body Bd
  have e0 : s₁.heap = h0 := by rw [← hh, Bd.state]; rfl
  have N0 := Fr.nil n0
  have pre0 : ∀ t, Steps p.tables e below (s₁.setTop (mkF m 0 #[.val (.int 8)] [])) t → Steps p.tables e below (s₁.setTop (entryFrame m #[(.int 8)] 1)) t := fun t k => castTop (ef_3_I m (8 : Int32)) k
  obtain ⟨T1, X1, e1, st1⟩ := getS2 X0 hx hZ hown (host := "") (Or.inl (hwi hw 24 rfl)) Via.refl e0 (S_FLOAT.ext O0.2) (g := (mkF m 58 #[.val (.int 8)] [])) rfl (hb hby d3_58)
  obtain ⟨fs, hr, hrun, hended, hW, hsame⟩ := X1.leave (v := some (.ref w_FLOAT)) (fun h => by rw [Bd.returns] at h; cases h)
  refine ⟨_, _, pre0 _ ?_, hrun, hended, _, _, rfl, ?_, ⟨_, rfl⟩, hW, hsame.mono (by decide) (by decide)⟩
  · show St p e below s₁ (mkF m 0 #[.val (.int 8)] []) _
    refine XS.iloadN X0.here hx rfl (hb hby d3_0) rfl ?_
    show St p e below s₁ (mkF m 1 #[.val (.int 8)] [(.int 8)]) _
    refine XS.bipush X0.here hx rfl (hb hby d3_1) ?_
    show St p e below s₁ (mkF m 3 #[.val (.int 8)] [(.int (-6)), (.int 8)]) _
    refine XS.icmpNo X0.here hx rfl (hb hby d3_3) rfl (feq (by decide : ¬ ((8 : Int32) = (-6 : Int32)))).1 ?_
    show St p e below s₁ (mkF m 6 #[.val (.int 8)] []) _
    refine XS.iloadN X0.here hx rfl (hb hby d3_6) rfl ?_
    show St p e below s₁ (mkF m 7 #[.val (.int 8)] [(.int 8)]) _
    refine XS.iconst X0.here hx rfl (hb hby d3_7) ?_
    show St p e below s₁ (mkF m 8 #[.val (.int 8)] [(.int 5), (.int 8)]) _
    refine XS.icmpNo X0.here hx rfl (hb hby d3_8) rfl (feq (by decide : ¬ ((8 : Int32) = (5 : Int32)))).1 ?_
    show St p e below s₁ (mkF m 11 #[.val (.int 8)] []) _
    refine XS.iloadN X0.here hx rfl (hb hby d3_11) rfl ?_
    show St p e below s₁ (mkF m 12 #[.val (.int 8)] [(.int 8)]) _
    refine XS.iconst X0.here hx rfl (hb hby d3_12) ?_
    show St p e below s₁ (mkF m 13 #[.val (.int 8)] [(.int 4), (.int 8)]) _
    refine XS.icmpNo X0.here hx rfl (hb hby d3_13) rfl (feq (by decide : ¬ ((8 : Int32) = (4 : Int32)))).1 ?_
    show St p e below s₁ (mkF m 16 #[.val (.int 8)] []) _
    refine XS.iloadN X0.here hx rfl (hb hby d3_16) rfl ?_
    show St p e below s₁ (mkF m 17 #[.val (.int 8)] [(.int 8)]) _
    refine XS.bipush X0.here hx rfl (hb hby d3_17) ?_
    show St p e below s₁ (mkF m 19 #[.val (.int 8)] [(.int (-5)), (.int 8)]) _
    refine XS.icmpYes X0.here hx rfl (pc0 := 19) (pc' := 26) rfl (hb hby d3_19) rfl (feq (by decide : ¬ ((8 : Int32) = (-5 : Int32)))).2 (by decide) (by decide) ?_
    show St p e below s₁ (mkF m 26 #[.val (.int 8)] []) _
    refine XS.iloadN X0.here hx rfl (hb hby d3_26) rfl ?_
    show St p e below s₁ (mkF m 27 #[.val (.int 8)] [(.int 8)]) _
    refine XS.iconst X0.here hx rfl (hb hby d3_27) ?_
    show St p e below s₁ (mkF m 28 #[.val (.int 8)] [(.int 2), (.int 8)]) _
    refine XS.icmpNo X0.here hx rfl (hb hby d3_28) rfl (feq (by decide : ¬ ((8 : Int32) = (2 : Int32)))).1 ?_
    show St p e below s₁ (mkF m 31 #[.val (.int 8)] []) _
    refine XS.iloadN X0.here hx rfl (hb hby d3_31) rfl ?_
    show St p e below s₁ (mkF m 32 #[.val (.int 8)] [(.int 8)]) _
    refine XS.iconst X0.here hx rfl (hb hby d3_32) ?_
    show St p e below s₁ (mkF m 33 #[.val (.int 8)] [(.int 3), (.int 8)]) _
    refine XS.icmpYes X0.here hx rfl (pc0 := 33) (pc' := 40) rfl (hb hby d3_33) rfl (feq (by decide : ¬ ((8 : Int32) = (3 : Int32)))).2 (by decide) (by decide) ?_
    show St p e below s₁ (mkF m 40 #[.val (.int 8)] []) _
    refine XS.iloadN X0.here hx rfl (hb hby d3_40) rfl ?_
    show St p e below s₁ (mkF m 41 #[.val (.int 8)] [(.int 8)]) _
    refine XS.bipush X0.here hx rfl (hb hby d3_41) ?_
    show St p e below s₁ (mkF m 43 #[.val (.int 8)] [(.int 7), (.int 8)]) _
    refine XS.icmpNo X0.here hx rfl (hb hby d3_43) rfl (feq (by decide : ¬ ((8 : Int32) = (7 : Int32)))).1 ?_
    show St p e below s₁ (mkF m 46 #[.val (.int 8)] []) _
    refine XS.iloadN X0.here hx rfl (hb hby d3_46) rfl ?_
    show St p e below s₁ (mkF m 47 #[.val (.int 8)] [(.int 8)]) _
    refine XS.bipush X0.here hx rfl (hb hby d3_47) ?_
    show St p e below s₁ (mkF m 49 #[.val (.int 8)] [(.int 6), (.int 8)]) _
    refine XS.icmpNo X0.here hx rfl (hb hby d3_49) rfl (feq (by decide : ¬ ((8 : Int32) = (6 : Int32)))).1 ?_
    show St p e below s₁ (mkF m 52 #[.val (.int 8)] []) _
    refine XS.iloadN X0.here hx rfl (hb hby d3_52) rfl ?_
    show St p e below s₁ (mkF m 53 #[.val (.int 8)] [(.int 8)]) _
    refine XS.bipush X0.here hx rfl (hb hby d3_53) ?_
    show St p e below s₁ (mkF m 55 #[.val (.int 8)] [(.int 8), (.int 8)]) _
    refine XS.icmpNo X0.here hx rfl (hb hby d3_55) rfl (teq (by decide : (8 : Int32) = (8 : Int32))).2 ?_
    show St p e below s₁ (mkF m 58 #[.val (.int 8)] []) _
    refine st1 _ ?_
    show St p e below T1 (mkF m 61 #[.val (.int 8)] [(.ref w_FLOAT)]) _
    jvm_step X1.here [X1.here.top, hx, (hb hby d3_61), X1.method', Bd.returns, Value.isRef, FieldType.isReference]
    first | (intro acts; rw [hr _ acts rfl rfl rfl]) | rw [hr _ _ rfl rfl rfl]
    exact Steps.refl _
  · show Q_ct w_INTEGER w_DECIMAL w_FLOAT w_BOOLEAN w_TEXT w_OTHER (8 : Int32) h0 n0 _ T1.heap _
    rw [e1]
    exact ⟨by rfl, N0, rfl⟩
theorem d3_62 : decode method_2_code 62 = .ok (.iload_n 0, 1) := by decide +kernel
theorem d3_63 : decode method_2_code 63 = .ok (.bipush (-7), 2) := by decide +kernel
theorem d3_65 : decode method_2_code 65 = .ok (.if_icmp .eq 9, 3) := by decide +kernel
theorem d3_74 : decode method_2_code 74 = .ok (.getstatic 21, 3) := by decide +kernel
theorem d3_77 : decode method_2_code 77 = .ok (.areturn, 1) := by decide +kernel
set_option maxRecDepth 65536 in
set_option maxHeartbeats 40000000 in
theorem rm_exp_m7 (l : Launch) (Z : State) (a0 : Array Value) (hw : ∀ d ∈ tables_1, d.before a0 Z = true) (ws : List Jvm.Cond) (w_INTEGER : Addr) (w_DECIMAL : Addr) (w_FLOAT : Addr) (w_BOOLEAN : Addr) (w_TEXT : Addr) (w_OTHER : Addr) (h0 : Heap) (n0 : Nat) (Z0 : n0 ≤ h0.size) (S_INTEGER : Sta Z Z.heap "com/example/commitgate/commitgate/store/ColumnType" "INTEGER" "Lcom/example/commitgate/commitgate/store/ColumnType;" (.ref w_INTEGER)) (S_DECIMAL : Sta Z Z.heap "com/example/commitgate/commitgate/store/ColumnType" "DECIMAL" "Lcom/example/commitgate/commitgate/store/ColumnType;" (.ref w_DECIMAL)) (S_FLOAT : Sta Z Z.heap "com/example/commitgate/commitgate/store/ColumnType" "FLOAT" "Lcom/example/commitgate/commitgate/store/ColumnType;" (.ref w_FLOAT)) (S_BOOLEAN : Sta Z Z.heap "com/example/commitgate/commitgate/store/ColumnType" "BOOLEAN" "Lcom/example/commitgate/commitgate/store/ColumnType;" (.ref w_BOOLEAN)) (S_TEXT : Sta Z Z.heap "com/example/commitgate/commitgate/store/ColumnType" "TEXT" "Lcom/example/commitgate/commitgate/store/ColumnType;" (.ref w_TEXT)) (S_OTHER : Sta Z Z.heap "com/example/commitgate/commitgate/store/ColumnType" "OTHER" "Lcom/example/commitgate/commitgate/store/ColumnType;" (.ref w_OTHER)) (O0 : Old Z n0 h0) :
    MetFree l (⟨"com/example/commitgate/commitgate/store/ColumnTypeOfPinLaw", "expected", "(I)Lcom/example/commitgate/commitgate/store/ColumnType;"⟩ : MethodName) (head1 (Jvm.Cond.code (⟨"com/example/commitgate/commitgate/store/ColumnTypeOfPinLaw", "expected", "(I)Lcom/example/commitgate/commitgate/store/ColumnType;"⟩ : MethodName) method_2_code 1 (some (.object "com/example/commitgate/commitgate/store/ColumnType")) :: ws) ({ frames := 0, cells := 0, slots := 0, locals := 0 } : Room)) (fun a U => a = #[(.int (-7))] ∧ Z.Warmed39 U.vm ∧ U.heap = h0) (fun _ _ _ _ _ => True) (fun _ U o U' => ∃ v L, o = .returned v ∧ Q_ct w_INTEGER w_DECIMAL w_FLOAT w_BOOLEAN w_TEXT w_OTHER (-7 : Int32) h0 n0 v U'.heap L ∧ FrameEnd U o U' L ({ frames := 0, cells := 0, slots := 0, locals := 0 } : Room).cells ({ frames := 0, cells := 0, slots := 0, locals := 0 } : Room).slots) := by
  refine MetFree.of_bodySF (plainFor_of_name pn_3) hisR ?_
  intro p e s m args below meth c s₁ Bd hml0 hP hK
  obtain ⟨rfl, hZ, hh⟩ := hP
  have hx := Bd.exec
  have hby := Bd.bytes
  have hml : c.maxLocals = 1 := hml0
  have hown : s.vm.findClass "com/example/commitgate/commitgate/store/ColumnTypeOfPinLaw" = some m.cls := findClass_of_methodNamed Bd.named
  have hnm := (name_of_methodNamed Bd.named Bd.method).1
  have X0 : Stand p l e ({ frames := 0, cells := 0, slots := 0, locals := 0 } : Room) s m #[(.int (-7))] below meth c s₁ [] 0 0 := Stand.of_body Bd
  have e0 : s₁.heap = h0 := by rw [← hh, Bd.state]; rfl
  have N0 := Fr.nil n0
  have pre0 : ∀ t, Steps p.tables e below (s₁.setTop (mkF m 0 #[.val (.int (-7))] [])) t → Steps p.tables e below (s₁.setTop (entryFrame m #[(.int (-7))] 1)) t := fun t k => castTop (ef_3_I m (-7 : Int32)) k
  obtain ⟨T1, X1, e1, st1⟩ := getS2 X0 hx hZ hown (host := "") (Or.inl (hwi hw 28 rfl)) Via.refl e0 (S_BOOLEAN.ext O0.2) (g := (mkF m 74 #[.val (.int (-7))] [])) rfl (hb hby d3_74)
  obtain ⟨fs, hr, hrun, hended, hW, hsame⟩ := X1.leave (v := some (.ref w_BOOLEAN)) (fun h => by rw [Bd.returns] at h; cases h)
  refine ⟨_, _, pre0 _ ?_, hrun, hended, _, _, rfl, ?_, ⟨_, rfl⟩, hW, hsame.mono (by decide) (by decide)⟩
  · show St p e below s₁ (mkF m 0 #[.val (.int (-7))] []) _
    refine XS.iloadN X0.here hx rfl (hb hby d3_0) rfl ?_
    show St p e below s₁ (mkF m 1 #[.val (.int (-7))] [(.int (-7))]) _
    refine XS.bipush X0.here hx rfl (hb hby d3_1) ?_
    show St p e below s₁ (mkF m 3 #[.val (.int (-7))] [(.int (-6)), (.int (-7))]) _
    refine XS.icmpNo X0.here hx rfl (hb hby d3_3) rfl (feq (by decide : ¬ ((-7 : Int32) = (-6 : Int32)))).1 ?_
    show St p e below s₁ (mkF m 6 #[.val (.int (-7))] []) _
    refine XS.iloadN X0.here hx rfl (hb hby d3_6) rfl ?_
    show St p e below s₁ (mkF m 7 #[.val (.int (-7))] [(.int (-7))]) _
    refine XS.iconst X0.here hx rfl (hb hby d3_7) ?_
    show St p e below s₁ (mkF m 8 #[.val (.int (-7))] [(.int 5), (.int (-7))]) _
    refine XS.icmpNo X0.here hx rfl (hb hby d3_8) rfl (feq (by decide : ¬ ((-7 : Int32) = (5 : Int32)))).1 ?_
    show St p e below s₁ (mkF m 11 #[.val (.int (-7))] []) _
    refine XS.iloadN X0.here hx rfl (hb hby d3_11) rfl ?_
    show St p e below s₁ (mkF m 12 #[.val (.int (-7))] [(.int (-7))]) _
    refine XS.iconst X0.here hx rfl (hb hby d3_12) ?_
    show St p e below s₁ (mkF m 13 #[.val (.int (-7))] [(.int 4), (.int (-7))]) _
    refine XS.icmpNo X0.here hx rfl (hb hby d3_13) rfl (feq (by decide : ¬ ((-7 : Int32) = (4 : Int32)))).1 ?_
    show St p e below s₁ (mkF m 16 #[.val (.int (-7))] []) _
    refine XS.iloadN X0.here hx rfl (hb hby d3_16) rfl ?_
    show St p e below s₁ (mkF m 17 #[.val (.int (-7))] [(.int (-7))]) _
    refine XS.bipush X0.here hx rfl (hb hby d3_17) ?_
    show St p e below s₁ (mkF m 19 #[.val (.int (-7))] [(.int (-5)), (.int (-7))]) _
    refine XS.icmpYes X0.here hx rfl (pc0 := 19) (pc' := 26) rfl (hb hby d3_19) rfl (feq (by decide : ¬ ((-7 : Int32) = (-5 : Int32)))).2 (by decide) (by decide) ?_
    show St p e below s₁ (mkF m 26 #[.val (.int (-7))] []) _
    refine XS.iloadN X0.here hx rfl (hb hby d3_26) rfl ?_
    show St p e below s₁ (mkF m 27 #[.val (.int (-7))] [(.int (-7))]) _
    refine XS.iconst X0.here hx rfl (hb hby d3_27) ?_
    show St p e below s₁ (mkF m 28 #[.val (.int (-7))] [(.int 2), (.int (-7))]) _
    refine XS.icmpNo X0.here hx rfl (hb hby d3_28) rfl (feq (by decide : ¬ ((-7 : Int32) = (2 : Int32)))).1 ?_
    show St p e below s₁ (mkF m 31 #[.val (.int (-7))] []) _
    refine XS.iloadN X0.here hx rfl (hb hby d3_31) rfl ?_
    show St p e below s₁ (mkF m 32 #[.val (.int (-7))] [(.int (-7))]) _
    refine XS.iconst X0.here hx rfl (hb hby d3_32) ?_
    show St p e below s₁ (mkF m 33 #[.val (.int (-7))] [(.int 3), (.int (-7))]) _
    refine XS.icmpYes X0.here hx rfl (pc0 := 33) (pc' := 40) rfl (hb hby d3_33) rfl (feq (by decide : ¬ ((-7 : Int32) = (3 : Int32)))).2 (by decide) (by decide) ?_
    show St p e below s₁ (mkF m 40 #[.val (.int (-7))] []) _
    refine XS.iloadN X0.here hx rfl (hb hby d3_40) rfl ?_
    show St p e below s₁ (mkF m 41 #[.val (.int (-7))] [(.int (-7))]) _
    refine XS.bipush X0.here hx rfl (hb hby d3_41) ?_
    show St p e below s₁ (mkF m 43 #[.val (.int (-7))] [(.int 7), (.int (-7))]) _
    refine XS.icmpNo X0.here hx rfl (hb hby d3_43) rfl (feq (by decide : ¬ ((-7 : Int32) = (7 : Int32)))).1 ?_
    show St p e below s₁ (mkF m 46 #[.val (.int (-7))] []) _
    refine XS.iloadN X0.here hx rfl (hb hby d3_46) rfl ?_
    show St p e below s₁ (mkF m 47 #[.val (.int (-7))] [(.int (-7))]) _
    refine XS.bipush X0.here hx rfl (hb hby d3_47) ?_
    show St p e below s₁ (mkF m 49 #[.val (.int (-7))] [(.int 6), (.int (-7))]) _
    refine XS.icmpNo X0.here hx rfl (hb hby d3_49) rfl (feq (by decide : ¬ ((-7 : Int32) = (6 : Int32)))).1 ?_
    show St p e below s₁ (mkF m 52 #[.val (.int (-7))] []) _
    refine XS.iloadN X0.here hx rfl (hb hby d3_52) rfl ?_
    show St p e below s₁ (mkF m 53 #[.val (.int (-7))] [(.int (-7))]) _
    refine XS.bipush X0.here hx rfl (hb hby d3_53) ?_
    show St p e below s₁ (mkF m 55 #[.val (.int (-7))] [(.int 8), (.int (-7))]) _
    refine XS.icmpYes X0.here hx rfl (pc0 := 55) (pc' := 62) rfl (hb hby d3_55) rfl (feq (by decide : ¬ ((-7 : Int32) = (8 : Int32)))).2 (by decide) (by decide) ?_
    show St p e below s₁ (mkF m 62 #[.val (.int (-7))] []) _
    refine XS.iloadN X0.here hx rfl (hb hby d3_62) rfl ?_
    show St p e below s₁ (mkF m 63 #[.val (.int (-7))] [(.int (-7))]) _
    refine XS.bipush X0.here hx rfl (hb hby d3_63) ?_
    show St p e below s₁ (mkF m 65 #[.val (.int (-7))] [(.int (-7)), (.int (-7))]) _
    refine XS.icmpYes X0.here hx rfl (pc0 := 65) (pc' := 74) rfl (hb hby d3_65) rfl (teq (by decide : (-7 : Int32) = (-7 : Int32))).1 (by decide) (by decide) ?_
    show St p e below s₁ (mkF m 74 #[.val (.int (-7))] []) _
    refine st1 _ ?_
    show St p e below T1 (mkF m 77 #[.val (.int (-7))] [(.ref w_BOOLEAN)]) _
    jvm_step X1.here [X1.here.top, hx, (hb hby d3_77), X1.method', Bd.returns, Value.isRef, FieldType.isReference]
    first | (intro acts; rw [hr _ acts rfl rfl rfl]) | rw [hr _ _ rfl rfl rfl]
    exact Steps.refl _
  · show Q_ct w_INTEGER w_DECIMAL w_FLOAT w_BOOLEAN w_TEXT w_OTHER (-7 : Int32) h0 n0 _ T1.heap _
    rw [e1]
    exact ⟨by rfl, N0, rfl⟩
theorem d3_68 : decode method_2_code 68 = .ok (.iload_n 0, 1) := by decide +kernel
theorem d3_69 : decode method_2_code 69 = .ok (.bipush 16, 2) := by decide +kernel
theorem d3_71 : decode method_2_code 71 = .ok (.if_icmp .ne 7, 3) := by decide +kernel
set_option maxRecDepth 65536 in
set_option maxHeartbeats 40000000 in
theorem rm_exp_16 (l : Launch) (Z : State) (a0 : Array Value) (hw : ∀ d ∈ tables_1, d.before a0 Z = true) (ws : List Jvm.Cond) (w_INTEGER : Addr) (w_DECIMAL : Addr) (w_FLOAT : Addr) (w_BOOLEAN : Addr) (w_TEXT : Addr) (w_OTHER : Addr) (h0 : Heap) (n0 : Nat) (Z0 : n0 ≤ h0.size) (S_INTEGER : Sta Z Z.heap "com/example/commitgate/commitgate/store/ColumnType" "INTEGER" "Lcom/example/commitgate/commitgate/store/ColumnType;" (.ref w_INTEGER)) (S_DECIMAL : Sta Z Z.heap "com/example/commitgate/commitgate/store/ColumnType" "DECIMAL" "Lcom/example/commitgate/commitgate/store/ColumnType;" (.ref w_DECIMAL)) (S_FLOAT : Sta Z Z.heap "com/example/commitgate/commitgate/store/ColumnType" "FLOAT" "Lcom/example/commitgate/commitgate/store/ColumnType;" (.ref w_FLOAT)) (S_BOOLEAN : Sta Z Z.heap "com/example/commitgate/commitgate/store/ColumnType" "BOOLEAN" "Lcom/example/commitgate/commitgate/store/ColumnType;" (.ref w_BOOLEAN)) (S_TEXT : Sta Z Z.heap "com/example/commitgate/commitgate/store/ColumnType" "TEXT" "Lcom/example/commitgate/commitgate/store/ColumnType;" (.ref w_TEXT)) (S_OTHER : Sta Z Z.heap "com/example/commitgate/commitgate/store/ColumnType" "OTHER" "Lcom/example/commitgate/commitgate/store/ColumnType;" (.ref w_OTHER)) (O0 : Old Z n0 h0) :
    MetFree l (⟨"com/example/commitgate/commitgate/store/ColumnTypeOfPinLaw", "expected", "(I)Lcom/example/commitgate/commitgate/store/ColumnType;"⟩ : MethodName) (head1 (Jvm.Cond.code (⟨"com/example/commitgate/commitgate/store/ColumnTypeOfPinLaw", "expected", "(I)Lcom/example/commitgate/commitgate/store/ColumnType;"⟩ : MethodName) method_2_code 1 (some (.object "com/example/commitgate/commitgate/store/ColumnType")) :: ws) ({ frames := 0, cells := 0, slots := 0, locals := 0 } : Room)) (fun a U => a = #[(.int 16)] ∧ Z.Warmed39 U.vm ∧ U.heap = h0) (fun _ _ _ _ _ => True) (fun _ U o U' => ∃ v L, o = .returned v ∧ Q_ct w_INTEGER w_DECIMAL w_FLOAT w_BOOLEAN w_TEXT w_OTHER (16 : Int32) h0 n0 v U'.heap L ∧ FrameEnd U o U' L ({ frames := 0, cells := 0, slots := 0, locals := 0 } : Room).cells ({ frames := 0, cells := 0, slots := 0, locals := 0 } : Room).slots) := by
  refine MetFree.of_bodySF (plainFor_of_name pn_3) hisR ?_
  intro p e s m args below meth c s₁ Bd hml0 hP hK
  obtain ⟨rfl, hZ, hh⟩ := hP
  have hx := Bd.exec
  have hby := Bd.bytes
  have hml : c.maxLocals = 1 := hml0
  have hown : s.vm.findClass "com/example/commitgate/commitgate/store/ColumnTypeOfPinLaw" = some m.cls := findClass_of_methodNamed Bd.named
  have hnm := (name_of_methodNamed Bd.named Bd.method).1
  have X0 : Stand p l e ({ frames := 0, cells := 0, slots := 0, locals := 0 } : Room) s m #[(.int 16)] below meth c s₁ [] 0 0 := Stand.of_body Bd
  have e0 : s₁.heap = h0 := by rw [← hh, Bd.state]; rfl
  have N0 := Fr.nil n0
  have pre0 : ∀ t, Steps p.tables e below (s₁.setTop (mkF m 0 #[.val (.int 16)] [])) t → Steps p.tables e below (s₁.setTop (entryFrame m #[(.int 16)] 1)) t := fun t k => castTop (ef_3_I m (16 : Int32)) k
  obtain ⟨T1, X1, e1, st1⟩ := getS2 X0 hx hZ hown (host := "") (Or.inl (hwi hw 28 rfl)) Via.refl e0 (S_BOOLEAN.ext O0.2) (g := (mkF m 74 #[.val (.int 16)] [])) rfl (hb hby d3_74)
  obtain ⟨fs, hr, hrun, hended, hW, hsame⟩ := X1.leave (v := some (.ref w_BOOLEAN)) (fun h => by rw [Bd.returns] at h; cases h)
  refine ⟨_, _, pre0 _ ?_, hrun, hended, _, _, rfl, ?_, ⟨_, rfl⟩, hW, hsame.mono (by decide) (by decide)⟩
  · show St p e below s₁ (mkF m 0 #[.val (.int 16)] []) _
    refine XS.iloadN X0.here hx rfl (hb hby d3_0) rfl ?_
    show St p e below s₁ (mkF m 1 #[.val (.int 16)] [(.int 16)]) _
    refine XS.bipush X0.here hx rfl (hb hby d3_1) ?_
    show St p e below s₁ (mkF m 3 #[.val (.int 16)] [(.int (-6)), (.int 16)]) _
    refine XS.icmpNo X0.here hx rfl (hb hby d3_3) rfl (feq (by decide : ¬ ((16 : Int32) = (-6 : Int32)))).1 ?_
    show St p e below s₁ (mkF m 6 #[.val (.int 16)] []) _
    refine XS.iloadN X0.here hx rfl (hb hby d3_6) rfl ?_
    show St p e below s₁ (mkF m 7 #[.val (.int 16)] [(.int 16)]) _
    refine XS.iconst X0.here hx rfl (hb hby d3_7) ?_
    show St p e below s₁ (mkF m 8 #[.val (.int 16)] [(.int 5), (.int 16)]) _
    refine XS.icmpNo X0.here hx rfl (hb hby d3_8) rfl (feq (by decide : ¬ ((16 : Int32) = (5 : Int32)))).1 ?_
    show St p e below s₁ (mkF m 11 #[.val (.int 16)] []) _
    refine XS.iloadN X0.here hx rfl (hb hby d3_11) rfl ?_
    show St p e below s₁ (mkF m 12 #[.val (.int 16)] [(.int 16)]) _
    refine XS.iconst X0.here hx rfl (hb hby d3_12) ?_
    show St p e below s₁ (mkF m 13 #[.val (.int 16)] [(.int 4), (.int 16)]) _
    refine XS.icmpNo X0.here hx rfl (hb hby d3_13) rfl (feq (by decide : ¬ ((16 : Int32) = (4 : Int32)))).1 ?_
    show St p e below s₁ (mkF m 16 #[.val (.int 16)] []) _
    refine XS.iloadN X0.here hx rfl (hb hby d3_16) rfl ?_
    show St p e below s₁ (mkF m 17 #[.val (.int 16)] [(.int 16)]) _
    refine XS.bipush X0.here hx rfl (hb hby d3_17) ?_
    show St p e below s₁ (mkF m 19 #[.val (.int 16)] [(.int (-5)), (.int 16)]) _
    refine XS.icmpYes X0.here hx rfl (pc0 := 19) (pc' := 26) rfl (hb hby d3_19) rfl (feq (by decide : ¬ ((16 : Int32) = (-5 : Int32)))).2 (by decide) (by decide) ?_
    show St p e below s₁ (mkF m 26 #[.val (.int 16)] []) _
    refine XS.iloadN X0.here hx rfl (hb hby d3_26) rfl ?_
    show St p e below s₁ (mkF m 27 #[.val (.int 16)] [(.int 16)]) _
    refine XS.iconst X0.here hx rfl (hb hby d3_27) ?_
    show St p e below s₁ (mkF m 28 #[.val (.int 16)] [(.int 2), (.int 16)]) _
    refine XS.icmpNo X0.here hx rfl (hb hby d3_28) rfl (feq (by decide : ¬ ((16 : Int32) = (2 : Int32)))).1 ?_
    show St p e below s₁ (mkF m 31 #[.val (.int 16)] []) _
    refine XS.iloadN X0.here hx rfl (hb hby d3_31) rfl ?_
    show St p e below s₁ (mkF m 32 #[.val (.int 16)] [(.int 16)]) _
    refine XS.iconst X0.here hx rfl (hb hby d3_32) ?_
    show St p e below s₁ (mkF m 33 #[.val (.int 16)] [(.int 3), (.int 16)]) _
    refine XS.icmpYes X0.here hx rfl (pc0 := 33) (pc' := 40) rfl (hb hby d3_33) rfl (feq (by decide : ¬ ((16 : Int32) = (3 : Int32)))).2 (by decide) (by decide) ?_
    show St p e below s₁ (mkF m 40 #[.val (.int 16)] []) _
    refine XS.iloadN X0.here hx rfl (hb hby d3_40) rfl ?_
    show St p e below s₁ (mkF m 41 #[.val (.int 16)] [(.int 16)]) _
    refine XS.bipush X0.here hx rfl (hb hby d3_41) ?_
    show St p e below s₁ (mkF m 43 #[.val (.int 16)] [(.int 7), (.int 16)]) _
    refine XS.icmpNo X0.here hx rfl (hb hby d3_43) rfl (feq (by decide : ¬ ((16 : Int32) = (7 : Int32)))).1 ?_
    show St p e below s₁ (mkF m 46 #[.val (.int 16)] []) _
    refine XS.iloadN X0.here hx rfl (hb hby d3_46) rfl ?_
    show St p e below s₁ (mkF m 47 #[.val (.int 16)] [(.int 16)]) _
    refine XS.bipush X0.here hx rfl (hb hby d3_47) ?_
    show St p e below s₁ (mkF m 49 #[.val (.int 16)] [(.int 6), (.int 16)]) _
    refine XS.icmpNo X0.here hx rfl (hb hby d3_49) rfl (feq (by decide : ¬ ((16 : Int32) = (6 : Int32)))).1 ?_
    show St p e below s₁ (mkF m 52 #[.val (.int 16)] []) _
    refine XS.iloadN X0.here hx rfl (hb hby d3_52) rfl ?_
    show St p e below s₁ (mkF m 53 #[.val (.int 16)] [(.int 16)]) _
    refine XS.bipush X0.here hx rfl (hb hby d3_53) ?_
    show St p e below s₁ (mkF m 55 #[.val (.int 16)] [(.int 8), (.int 16)]) _
    refine XS.icmpYes X0.here hx rfl (pc0 := 55) (pc' := 62) rfl (hb hby d3_55) rfl (feq (by decide : ¬ ((16 : Int32) = (8 : Int32)))).2 (by decide) (by decide) ?_
    show St p e below s₁ (mkF m 62 #[.val (.int 16)] []) _
    refine XS.iloadN X0.here hx rfl (hb hby d3_62) rfl ?_
    show St p e below s₁ (mkF m 63 #[.val (.int 16)] [(.int 16)]) _
    refine XS.bipush X0.here hx rfl (hb hby d3_63) ?_
    show St p e below s₁ (mkF m 65 #[.val (.int 16)] [(.int (-7)), (.int 16)]) _
    refine XS.icmpNo X0.here hx rfl (hb hby d3_65) rfl (feq (by decide : ¬ ((16 : Int32) = (-7 : Int32)))).1 ?_
    show St p e below s₁ (mkF m 68 #[.val (.int 16)] []) _
    refine XS.iloadN X0.here hx rfl (hb hby d3_68) rfl ?_
    show St p e below s₁ (mkF m 69 #[.val (.int 16)] [(.int 16)]) _
    refine XS.bipush X0.here hx rfl (hb hby d3_69) ?_
    show St p e below s₁ (mkF m 71 #[.val (.int 16)] [(.int 16), (.int 16)]) _
    refine XS.icmpNo X0.here hx rfl (hb hby d3_71) rfl (teq (by decide : (16 : Int32) = (16 : Int32))).2 ?_
    show St p e below s₁ (mkF m 74 #[.val (.int 16)] []) _
    refine st1 _ ?_
    show St p e below T1 (mkF m 77 #[.val (.int 16)] [(.ref w_BOOLEAN)]) _
    jvm_step X1.here [X1.here.top, hx, (hb hby d3_77), X1.method', Bd.returns, Value.isRef, FieldType.isReference]
    first | (intro acts; rw [hr _ acts rfl rfl rfl]) | rw [hr _ _ rfl rfl rfl]
    exact Steps.refl _
  · show Q_ct w_INTEGER w_DECIMAL w_FLOAT w_BOOLEAN w_TEXT w_OTHER (16 : Int32) h0 n0 _ T1.heap _
    rw [e1]
    exact ⟨by rfl, N0, rfl⟩
theorem d3_78 : decode method_2_code 78 = .ok (.iload_n 0, 1) := by decide +kernel
theorem d3_79 : decode method_2_code 79 = .ok (.iconst 1, 1) := by decide +kernel
theorem d3_80 : decode method_2_code 80 = .ok (.if_icmp .eq 46, 3) := by decide +kernel
theorem d3_126 : decode method_2_code 126 = .ok (.getstatic 24, 3) := by decide +kernel
theorem d3_129 : decode method_2_code 129 = .ok (.areturn, 1) := by decide +kernel
set_option maxRecDepth 65536 in
set_option maxHeartbeats 40000000 in
theorem rm_exp_1 (l : Launch) (Z : State) (a0 : Array Value) (hw : ∀ d ∈ tables_1, d.before a0 Z = true) (ws : List Jvm.Cond) (w_INTEGER : Addr) (w_DECIMAL : Addr) (w_FLOAT : Addr) (w_BOOLEAN : Addr) (w_TEXT : Addr) (w_OTHER : Addr) (h0 : Heap) (n0 : Nat) (Z0 : n0 ≤ h0.size) (S_INTEGER : Sta Z Z.heap "com/example/commitgate/commitgate/store/ColumnType" "INTEGER" "Lcom/example/commitgate/commitgate/store/ColumnType;" (.ref w_INTEGER)) (S_DECIMAL : Sta Z Z.heap "com/example/commitgate/commitgate/store/ColumnType" "DECIMAL" "Lcom/example/commitgate/commitgate/store/ColumnType;" (.ref w_DECIMAL)) (S_FLOAT : Sta Z Z.heap "com/example/commitgate/commitgate/store/ColumnType" "FLOAT" "Lcom/example/commitgate/commitgate/store/ColumnType;" (.ref w_FLOAT)) (S_BOOLEAN : Sta Z Z.heap "com/example/commitgate/commitgate/store/ColumnType" "BOOLEAN" "Lcom/example/commitgate/commitgate/store/ColumnType;" (.ref w_BOOLEAN)) (S_TEXT : Sta Z Z.heap "com/example/commitgate/commitgate/store/ColumnType" "TEXT" "Lcom/example/commitgate/commitgate/store/ColumnType;" (.ref w_TEXT)) (S_OTHER : Sta Z Z.heap "com/example/commitgate/commitgate/store/ColumnType" "OTHER" "Lcom/example/commitgate/commitgate/store/ColumnType;" (.ref w_OTHER)) (O0 : Old Z n0 h0) :
    MetFree l (⟨"com/example/commitgate/commitgate/store/ColumnTypeOfPinLaw", "expected", "(I)Lcom/example/commitgate/commitgate/store/ColumnType;"⟩ : MethodName) (head1 (Jvm.Cond.code (⟨"com/example/commitgate/commitgate/store/ColumnTypeOfPinLaw", "expected", "(I)Lcom/example/commitgate/commitgate/store/ColumnType;"⟩ : MethodName) method_2_code 1 (some (.object "com/example/commitgate/commitgate/store/ColumnType")) :: ws) ({ frames := 0, cells := 0, slots := 0, locals := 0 } : Room)) (fun a U => a = #[(.int 1)] ∧ Z.Warmed39 U.vm ∧ U.heap = h0) (fun _ _ _ _ _ => True) (fun _ U o U' => ∃ v L, o = .returned v ∧ Q_ct w_INTEGER w_DECIMAL w_FLOAT w_BOOLEAN w_TEXT w_OTHER (1 : Int32) h0 n0 v U'.heap L ∧ FrameEnd U o U' L ({ frames := 0, cells := 0, slots := 0, locals := 0 } : Room).cells ({ frames := 0, cells := 0, slots := 0, locals := 0 } : Room).slots) := by
  refine MetFree.of_bodySF (plainFor_of_name pn_3) hisR ?_
  intro p e s m args below meth c s₁ Bd hml0 hP hK
  obtain ⟨rfl, hZ, hh⟩ := hP
  have hx := Bd.exec
  have hby := Bd.bytes
  have hml : c.maxLocals = 1 := hml0
  have hown : s.vm.findClass "com/example/commitgate/commitgate/store/ColumnTypeOfPinLaw" = some m.cls := findClass_of_methodNamed Bd.named
  have hnm := (name_of_methodNamed Bd.named Bd.method).1
  have X0 : Stand p l e ({ frames := 0, cells := 0, slots := 0, locals := 0 } : Room) s m #[(.int 1)] below meth c s₁ [] 0 0 := Stand.of_body Bd
  have e0 : s₁.heap = h0 := by rw [← hh, Bd.state]; rfl
  have N0 := Fr.nil n0
  have pre0 : ∀ t, Steps p.tables e below (s₁.setTop (mkF m 0 #[.val (.int 1)] [])) t → Steps p.tables e below (s₁.setTop (entryFrame m #[(.int 1)] 1)) t := fun t k => castTop (ef_3_I m (1 : Int32)) k
  obtain ⟨T1, X1, e1, st1⟩ := getS2 X0 hx hZ hown (host := "") (Or.inl (hwi hw 19 rfl)) Via.refl e0 (S_TEXT.ext O0.2) (g := (mkF m 126 #[.val (.int 1)] [])) rfl (hb hby d3_126)
  obtain ⟨fs, hr, hrun, hended, hW, hsame⟩ := X1.leave (v := some (.ref w_TEXT)) (fun h => by rw [Bd.returns] at h; cases h)
  refine ⟨_, _, pre0 _ ?_, hrun, hended, _, _, rfl, ?_, ⟨_, rfl⟩, hW, hsame.mono (by decide) (by decide)⟩
  · show St p e below s₁ (mkF m 0 #[.val (.int 1)] []) _
    refine XS.iloadN X0.here hx rfl (hb hby d3_0) rfl ?_
    show St p e below s₁ (mkF m 1 #[.val (.int 1)] [(.int 1)]) _
    refine XS.bipush X0.here hx rfl (hb hby d3_1) ?_
    show St p e below s₁ (mkF m 3 #[.val (.int 1)] [(.int (-6)), (.int 1)]) _
    refine XS.icmpNo X0.here hx rfl (hb hby d3_3) rfl (feq (by decide : ¬ ((1 : Int32) = (-6 : Int32)))).1 ?_
    show St p e below s₁ (mkF m 6 #[.val (.int 1)] []) _
    refine XS.iloadN X0.here hx rfl (hb hby d3_6) rfl ?_
    show St p e below s₁ (mkF m 7 #[.val (.int 1)] [(.int 1)]) _
    refine XS.iconst X0.here hx rfl (hb hby d3_7) ?_
    show St p e below s₁ (mkF m 8 #[.val (.int 1)] [(.int 5), (.int 1)]) _
    refine XS.icmpNo X0.here hx rfl (hb hby d3_8) rfl (feq (by decide : ¬ ((1 : Int32) = (5 : Int32)))).1 ?_
    show St p e below s₁ (mkF m 11 #[.val (.int 1)] []) _
    refine XS.iloadN X0.here hx rfl (hb hby d3_11) rfl ?_
    show St p e below s₁ (mkF m 12 #[.val (.int 1)] [(.int 1)]) _
    refine XS.iconst X0.here hx rfl (hb hby d3_12) ?_
    show St p e below s₁ (mkF m 13 #[.val (.int 1)] [(.int 4), (.int 1)]) _
    refine XS.icmpNo X0.here hx rfl (hb hby d3_13) rfl (feq (by decide : ¬ ((1 : Int32) = (4 : Int32)))).1 ?_
    show St p e below s₁ (mkF m 16 #[.val (.int 1)] []) _
    refine XS.iloadN X0.here hx rfl (hb hby d3_16) rfl ?_
    show St p e below s₁ (mkF m 17 #[.val (.int 1)] [(.int 1)]) _
    refine XS.bipush X0.here hx rfl (hb hby d3_17) ?_
    show St p e below s₁ (mkF m 19 #[.val (.int 1)] [(.int (-5)), (.int 1)]) _
    refine XS.icmpYes X0.here hx rfl (pc0 := 19) (pc' := 26) rfl (hb hby d3_19) rfl (feq (by decide : ¬ ((1 : Int32) = (-5 : Int32)))).2 (by decide) (by decide) ?_
    show St p e below s₁ (mkF m 26 #[.val (.int 1)] []) _
    refine XS.iloadN X0.here hx rfl (hb hby d3_26) rfl ?_
    show St p e below s₁ (mkF m 27 #[.val (.int 1)] [(.int 1)]) _
    refine XS.iconst X0.here hx rfl (hb hby d3_27) ?_
    show St p e below s₁ (mkF m 28 #[.val (.int 1)] [(.int 2), (.int 1)]) _
    refine XS.icmpNo X0.here hx rfl (hb hby d3_28) rfl (feq (by decide : ¬ ((1 : Int32) = (2 : Int32)))).1 ?_
    show St p e below s₁ (mkF m 31 #[.val (.int 1)] []) _
    refine XS.iloadN X0.here hx rfl (hb hby d3_31) rfl ?_
    show St p e below s₁ (mkF m 32 #[.val (.int 1)] [(.int 1)]) _
    refine XS.iconst X0.here hx rfl (hb hby d3_32) ?_
    show St p e below s₁ (mkF m 33 #[.val (.int 1)] [(.int 3), (.int 1)]) _
    refine XS.icmpYes X0.here hx rfl (pc0 := 33) (pc' := 40) rfl (hb hby d3_33) rfl (feq (by decide : ¬ ((1 : Int32) = (3 : Int32)))).2 (by decide) (by decide) ?_
    show St p e below s₁ (mkF m 40 #[.val (.int 1)] []) _
    refine XS.iloadN X0.here hx rfl (hb hby d3_40) rfl ?_
    show St p e below s₁ (mkF m 41 #[.val (.int 1)] [(.int 1)]) _
    refine XS.bipush X0.here hx rfl (hb hby d3_41) ?_
    show St p e below s₁ (mkF m 43 #[.val (.int 1)] [(.int 7), (.int 1)]) _
    refine XS.icmpNo X0.here hx rfl (hb hby d3_43) rfl (feq (by decide : ¬ ((1 : Int32) = (7 : Int32)))).1 ?_
    show St p e below s₁ (mkF m 46 #[.val (.int 1)] []) _
    refine XS.iloadN X0.here hx rfl (hb hby d3_46) rfl ?_
    show St p e below s₁ (mkF m 47 #[.val (.int 1)] [(.int 1)]) _
    refine XS.bipush X0.here hx rfl (hb hby d3_47) ?_
    show St p e below s₁ (mkF m 49 #[.val (.int 1)] [(.int 6), (.int 1)]) _
    refine XS.icmpNo X0.here hx rfl (hb hby d3_49) rfl (feq (by decide : ¬ ((1 : Int32) = (6 : Int32)))).1 ?_
    show St p e below s₁ (mkF m 52 #[.val (.int 1)] []) _
    refine XS.iloadN X0.here hx rfl (hb hby d3_52) rfl ?_
    show St p e below s₁ (mkF m 53 #[.val (.int 1)] [(.int 1)]) _
    refine XS.bipush X0.here hx rfl (hb hby d3_53) ?_
    show St p e below s₁ (mkF m 55 #[.val (.int 1)] [(.int 8), (.int 1)]) _
    refine XS.icmpYes X0.here hx rfl (pc0 := 55) (pc' := 62) rfl (hb hby d3_55) rfl (feq (by decide : ¬ ((1 : Int32) = (8 : Int32)))).2 (by decide) (by decide) ?_
    show St p e below s₁ (mkF m 62 #[.val (.int 1)] []) _
    refine XS.iloadN X0.here hx rfl (hb hby d3_62) rfl ?_
    show St p e below s₁ (mkF m 63 #[.val (.int 1)] [(.int 1)]) _
    refine XS.bipush X0.here hx rfl (hb hby d3_63) ?_
    show St p e below s₁ (mkF m 65 #[.val (.int 1)] [(.int (-7)), (.int 1)]) _
    refine XS.icmpNo X0.here hx rfl (hb hby d3_65) rfl (feq (by decide : ¬ ((1 : Int32) = (-7 : Int32)))).1 ?_
    show St p e below s₁ (mkF m 68 #[.val (.int 1)] []) _
    refine XS.iloadN X0.here hx rfl (hb hby d3_68) rfl ?_
    show St p e below s₁ (mkF m 69 #[.val (.int 1)] [(.int 1)]) _
    refine XS.bipush X0.here hx rfl (hb hby d3_69) ?_
    show St p e below s₁ (mkF m 71 #[.val (.int 1)] [(.int 16), (.int 1)]) _
    refine XS.icmpYes X0.here hx rfl (pc0 := 71) (pc' := 78) rfl (hb hby d3_71) rfl (feq (by decide : ¬ ((1 : Int32) = (16 : Int32)))).2 (by decide) (by decide) ?_
    show St p e below s₁ (mkF m 78 #[.val (.int 1)] []) _
    refine XS.iloadN X0.here hx rfl (hb hby d3_78) rfl ?_
    show St p e below s₁ (mkF m 79 #[.val (.int 1)] [(.int 1)]) _
    refine XS.iconst X0.here hx rfl (hb hby d3_79) ?_
    show St p e below s₁ (mkF m 80 #[.val (.int 1)] [(.int 1), (.int 1)]) _
    refine XS.icmpYes X0.here hx rfl (pc0 := 80) (pc' := 126) rfl (hb hby d3_80) rfl (teq (by decide : (1 : Int32) = (1 : Int32))).1 (by decide) (by decide) ?_
    show St p e below s₁ (mkF m 126 #[.val (.int 1)] []) _
    refine st1 _ ?_
    show St p e below T1 (mkF m 129 #[.val (.int 1)] [(.ref w_TEXT)]) _
    jvm_step X1.here [X1.here.top, hx, (hb hby d3_129), X1.method', Bd.returns, Value.isRef, FieldType.isReference]
    first | (intro acts; rw [hr _ acts rfl rfl rfl]) | rw [hr _ _ rfl rfl rfl]
    exact Steps.refl _
  · show Q_ct w_INTEGER w_DECIMAL w_FLOAT w_BOOLEAN w_TEXT w_OTHER (1 : Int32) h0 n0 _ T1.heap _
    rw [e1]
    exact ⟨by rfl, N0, rfl⟩
theorem d3_83 : decode method_2_code 83 = .ok (.iload_n 0, 1) := by decide +kernel
theorem d3_84 : decode method_2_code 84 = .ok (.bipush 12, 2) := by decide +kernel
theorem d3_86 : decode method_2_code 86 = .ok (.if_icmp .eq 40, 3) := by decide +kernel
set_option maxRecDepth 65536 in
set_option maxHeartbeats 40000000 in
theorem rm_exp_12 (l : Launch) (Z : State) (a0 : Array Value) (hw : ∀ d ∈ tables_1, d.before a0 Z = true) (ws : List Jvm.Cond) (w_INTEGER : Addr) (w_DECIMAL : Addr) (w_FLOAT : Addr) (w_BOOLEAN : Addr) (w_TEXT : Addr) (w_OTHER : Addr) (h0 : Heap) (n0 : Nat) (Z0 : n0 ≤ h0.size) (S_INTEGER : Sta Z Z.heap "com/example/commitgate/commitgate/store/ColumnType" "INTEGER" "Lcom/example/commitgate/commitgate/store/ColumnType;" (.ref w_INTEGER)) (S_DECIMAL : Sta Z Z.heap "com/example/commitgate/commitgate/store/ColumnType" "DECIMAL" "Lcom/example/commitgate/commitgate/store/ColumnType;" (.ref w_DECIMAL)) (S_FLOAT : Sta Z Z.heap "com/example/commitgate/commitgate/store/ColumnType" "FLOAT" "Lcom/example/commitgate/commitgate/store/ColumnType;" (.ref w_FLOAT)) (S_BOOLEAN : Sta Z Z.heap "com/example/commitgate/commitgate/store/ColumnType" "BOOLEAN" "Lcom/example/commitgate/commitgate/store/ColumnType;" (.ref w_BOOLEAN)) (S_TEXT : Sta Z Z.heap "com/example/commitgate/commitgate/store/ColumnType" "TEXT" "Lcom/example/commitgate/commitgate/store/ColumnType;" (.ref w_TEXT)) (S_OTHER : Sta Z Z.heap "com/example/commitgate/commitgate/store/ColumnType" "OTHER" "Lcom/example/commitgate/commitgate/store/ColumnType;" (.ref w_OTHER)) (O0 : Old Z n0 h0) :
    MetFree l (⟨"com/example/commitgate/commitgate/store/ColumnTypeOfPinLaw", "expected", "(I)Lcom/example/commitgate/commitgate/store/ColumnType;"⟩ : MethodName) (head1 (Jvm.Cond.code (⟨"com/example/commitgate/commitgate/store/ColumnTypeOfPinLaw", "expected", "(I)Lcom/example/commitgate/commitgate/store/ColumnType;"⟩ : MethodName) method_2_code 1 (some (.object "com/example/commitgate/commitgate/store/ColumnType")) :: ws) ({ frames := 0, cells := 0, slots := 0, locals := 0 } : Room)) (fun a U => a = #[(.int 12)] ∧ Z.Warmed39 U.vm ∧ U.heap = h0) (fun _ _ _ _ _ => True) (fun _ U o U' => ∃ v L, o = .returned v ∧ Q_ct w_INTEGER w_DECIMAL w_FLOAT w_BOOLEAN w_TEXT w_OTHER (12 : Int32) h0 n0 v U'.heap L ∧ FrameEnd U o U' L ({ frames := 0, cells := 0, slots := 0, locals := 0 } : Room).cells ({ frames := 0, cells := 0, slots := 0, locals := 0 } : Room).slots) := by
  refine MetFree.of_bodySF (plainFor_of_name pn_3) hisR ?_
  intro p e s m args below meth c s₁ Bd hml0 hP hK
  obtain ⟨rfl, hZ, hh⟩ := hP
  have hx := Bd.exec
  have hby := Bd.bytes
  have hml : c.maxLocals = 1 := hml0
  have hown : s.vm.findClass "com/example/commitgate/commitgate/store/ColumnTypeOfPinLaw" = some m.cls := findClass_of_methodNamed Bd.named
  have hnm := (name_of_methodNamed Bd.named Bd.method).1
  have X0 : Stand p l e ({ frames := 0, cells := 0, slots := 0, locals := 0 } : Room) s m #[(.int 12)] below meth c s₁ [] 0 0 := Stand.of_body Bd
  have e0 : s₁.heap = h0 := by rw [← hh, Bd.state]; rfl
  have N0 := Fr.nil n0
  have pre0 : ∀ t, Steps p.tables e below (s₁.setTop (mkF m 0 #[.val (.int 12)] [])) t → Steps p.tables e below (s₁.setTop (entryFrame m #[(.int 12)] 1)) t := fun t k => castTop (ef_3_I m (12 : Int32)) k
  obtain ⟨T1, X1, e1, st1⟩ := getS2 X0 hx hZ hown (host := "") (Or.inl (hwi hw 19 rfl)) Via.refl e0 (S_TEXT.ext O0.2) (g := (mkF m 126 #[.val (.int 12)] [])) rfl (hb hby d3_126)
  obtain ⟨fs, hr, hrun, hended, hW, hsame⟩ := X1.leave (v := some (.ref w_TEXT)) (fun h => by rw [Bd.returns] at h; cases h)
  refine ⟨_, _, pre0 _ ?_, hrun, hended, _, _, rfl, ?_, ⟨_, rfl⟩, hW, hsame.mono (by decide) (by decide)⟩
  · show St p e below s₁ (mkF m 0 #[.val (.int 12)] []) _
    refine XS.iloadN X0.here hx rfl (hb hby d3_0) rfl ?_
    show St p e below s₁ (mkF m 1 #[.val (.int 12)] [(.int 12)]) _
    refine XS.bipush X0.here hx rfl (hb hby d3_1) ?_
    show St p e below s₁ (mkF m 3 #[.val (.int 12)] [(.int (-6)), (.int 12)]) _
    refine XS.icmpNo X0.here hx rfl (hb hby d3_3) rfl (feq (by decide : ¬ ((12 : Int32) = (-6 : Int32)))).1 ?_
    show St p e below s₁ (mkF m 6 #[.val (.int 12)] []) _
    refine XS.iloadN X0.here hx rfl (hb hby d3_6) rfl ?_
    show St p e below s₁ (mkF m 7 #[.val (.int 12)] [(.int 12)]) _
    refine XS.iconst X0.here hx rfl (hb hby d3_7) ?_
    show St p e below s₁ (mkF m 8 #[.val (.int 12)] [(.int 5), (.int 12)]) _
    refine XS.icmpNo X0.here hx rfl (hb hby d3_8) rfl (feq (by decide : ¬ ((12 : Int32) = (5 : Int32)))).1 ?_
    show St p e below s₁ (mkF m 11 #[.val (.int 12)] []) _
    refine XS.iloadN X0.here hx rfl (hb hby d3_11) rfl ?_
    show St p e below s₁ (mkF m 12 #[.val (.int 12)] [(.int 12)]) _
    refine XS.iconst X0.here hx rfl (hb hby d3_12) ?_
    show St p e below s₁ (mkF m 13 #[.val (.int 12)] [(.int 4), (.int 12)]) _
    refine XS.icmpNo X0.here hx rfl (hb hby d3_13) rfl (feq (by decide : ¬ ((12 : Int32) = (4 : Int32)))).1 ?_
    show St p e below s₁ (mkF m 16 #[.val (.int 12)] []) _
    refine XS.iloadN X0.here hx rfl (hb hby d3_16) rfl ?_
    show St p e below s₁ (mkF m 17 #[.val (.int 12)] [(.int 12)]) _
    refine XS.bipush X0.here hx rfl (hb hby d3_17) ?_
    show St p e below s₁ (mkF m 19 #[.val (.int 12)] [(.int (-5)), (.int 12)]) _
    refine XS.icmpYes X0.here hx rfl (pc0 := 19) (pc' := 26) rfl (hb hby d3_19) rfl (feq (by decide : ¬ ((12 : Int32) = (-5 : Int32)))).2 (by decide) (by decide) ?_
    show St p e below s₁ (mkF m 26 #[.val (.int 12)] []) _
    refine XS.iloadN X0.here hx rfl (hb hby d3_26) rfl ?_
    show St p e below s₁ (mkF m 27 #[.val (.int 12)] [(.int 12)]) _
    refine XS.iconst X0.here hx rfl (hb hby d3_27) ?_
    show St p e below s₁ (mkF m 28 #[.val (.int 12)] [(.int 2), (.int 12)]) _
    refine XS.icmpNo X0.here hx rfl (hb hby d3_28) rfl (feq (by decide : ¬ ((12 : Int32) = (2 : Int32)))).1 ?_
    show St p e below s₁ (mkF m 31 #[.val (.int 12)] []) _
    refine XS.iloadN X0.here hx rfl (hb hby d3_31) rfl ?_
    show St p e below s₁ (mkF m 32 #[.val (.int 12)] [(.int 12)]) _
    refine XS.iconst X0.here hx rfl (hb hby d3_32) ?_
    show St p e below s₁ (mkF m 33 #[.val (.int 12)] [(.int 3), (.int 12)]) _
    refine XS.icmpYes X0.here hx rfl (pc0 := 33) (pc' := 40) rfl (hb hby d3_33) rfl (feq (by decide : ¬ ((12 : Int32) = (3 : Int32)))).2 (by decide) (by decide) ?_
    show St p e below s₁ (mkF m 40 #[.val (.int 12)] []) _
    refine XS.iloadN X0.here hx rfl (hb hby d3_40) rfl ?_
    show St p e below s₁ (mkF m 41 #[.val (.int 12)] [(.int 12)]) _
    refine XS.bipush X0.here hx rfl (hb hby d3_41) ?_
    show St p e below s₁ (mkF m 43 #[.val (.int 12)] [(.int 7), (.int 12)]) _
    refine XS.icmpNo X0.here hx rfl (hb hby d3_43) rfl (feq (by decide : ¬ ((12 : Int32) = (7 : Int32)))).1 ?_
    show St p e below s₁ (mkF m 46 #[.val (.int 12)] []) _
    refine XS.iloadN X0.here hx rfl (hb hby d3_46) rfl ?_
    show St p e below s₁ (mkF m 47 #[.val (.int 12)] [(.int 12)]) _
    refine XS.bipush X0.here hx rfl (hb hby d3_47) ?_
    show St p e below s₁ (mkF m 49 #[.val (.int 12)] [(.int 6), (.int 12)]) _
    refine XS.icmpNo X0.here hx rfl (hb hby d3_49) rfl (feq (by decide : ¬ ((12 : Int32) = (6 : Int32)))).1 ?_
    show St p e below s₁ (mkF m 52 #[.val (.int 12)] []) _
    refine XS.iloadN X0.here hx rfl (hb hby d3_52) rfl ?_
    show St p e below s₁ (mkF m 53 #[.val (.int 12)] [(.int 12)]) _
    refine XS.bipush X0.here hx rfl (hb hby d3_53) ?_
    show St p e below s₁ (mkF m 55 #[.val (.int 12)] [(.int 8), (.int 12)]) _
    refine XS.icmpYes X0.here hx rfl (pc0 := 55) (pc' := 62) rfl (hb hby d3_55) rfl (feq (by decide : ¬ ((12 : Int32) = (8 : Int32)))).2 (by decide) (by decide) ?_
    show St p e below s₁ (mkF m 62 #[.val (.int 12)] []) _
    refine XS.iloadN X0.here hx rfl (hb hby d3_62) rfl ?_
    show St p e below s₁ (mkF m 63 #[.val (.int 12)] [(.int 12)]) _
    refine XS.bipush X0.here hx rfl (hb hby d3_63) ?_
    show St p e below s₁ (mkF m 65 #[.val (.int 12)] [(.int (-7)), (.int 12)]) _
    refine XS.icmpNo X0.here hx rfl (hb hby d3_65) rfl (feq (by decide : ¬ ((12 : Int32) = (-7 : Int32)))).1 ?_
    show St p e below s₁ (mkF m 68 #[.val (.int 12)] []) _
    refine XS.iloadN X0.here hx rfl (hb hby d3_68) rfl ?_
    show St p e below s₁ (mkF m 69 #[.val (.int 12)] [(.int 12)]) _
    refine XS.bipush X0.here hx rfl (hb hby d3_69) ?_
    show St p e below s₁ (mkF m 71 #[.val (.int 12)] [(.int 16), (.int 12)]) _
    refine XS.icmpYes X0.here hx rfl (pc0 := 71) (pc' := 78) rfl (hb hby d3_71) rfl (feq (by decide : ¬ ((12 : Int32) = (16 : Int32)))).2 (by decide) (by decide) ?_
    show St p e below s₁ (mkF m 78 #[.val (.int 12)] []) _
    refine XS.iloadN X0.here hx rfl (hb hby d3_78) rfl ?_
    show St p e below s₁ (mkF m 79 #[.val (.int 12)] [(.int 12)]) _
    refine XS.iconst X0.here hx rfl (hb hby d3_79) ?_
    show St p e below s₁ (mkF m 80 #[.val (.int 12)] [(.int 1), (.int 12)]) _
    refine XS.icmpNo X0.here hx rfl (hb hby d3_80) rfl (feq (by decide : ¬ ((12 : Int32) = (1 : Int32)))).1 ?_
    show St p e below s₁ (mkF m 83 #[.val (.int 12)] []) _
    refine XS.iloadN X0.here hx rfl (hb hby d3_83) rfl ?_
    show St p e below s₁ (mkF m 84 #[.val (.int 12)] [(.int 12)]) _
    refine XS.bipush X0.here hx rfl (hb hby d3_84) ?_
    show St p e below s₁ (mkF m 86 #[.val (.int 12)] [(.int 12), (.int 12)]) _
    refine XS.icmpYes X0.here hx rfl (pc0 := 86) (pc' := 126) rfl (hb hby d3_86) rfl (teq (by decide : (12 : Int32) = (12 : Int32))).1 (by decide) (by decide) ?_
    show St p e below s₁ (mkF m 126 #[.val (.int 12)] []) _
    refine st1 _ ?_
    show St p e below T1 (mkF m 129 #[.val (.int 12)] [(.ref w_TEXT)]) _
    jvm_step X1.here [X1.here.top, hx, (hb hby d3_129), X1.method', Bd.returns, Value.isRef, FieldType.isReference]
    first | (intro acts; rw [hr _ acts rfl rfl rfl]) | rw [hr _ _ rfl rfl rfl]
    exact Steps.refl _
  · show Q_ct w_INTEGER w_DECIMAL w_FLOAT w_BOOLEAN w_TEXT w_OTHER (12 : Int32) h0 n0 _ T1.heap _
    rw [e1]
    exact ⟨by rfl, N0, rfl⟩
theorem d3_89 : decode method_2_code 89 = .ok (.iload_n 0, 1) := by decide +kernel
theorem d3_90 : decode method_2_code 90 = .ok (.iconst (-1), 1) := by decide +kernel
theorem d3_91 : decode method_2_code 91 = .ok (.if_icmp .eq 35, 3) := by decide +kernel
set_option maxRecDepth 65536 in
set_option maxHeartbeats 40000000 in
theorem rm_exp_m1 (l : Launch) (Z : State) (a0 : Array Value) (hw : ∀ d ∈ tables_1, d.before a0 Z = true) (ws : List Jvm.Cond) (w_INTEGER : Addr) (w_DECIMAL : Addr) (w_FLOAT : Addr) (w_BOOLEAN : Addr) (w_TEXT : Addr) (w_OTHER : Addr) (h0 : Heap) (n0 : Nat) (Z0 : n0 ≤ h0.size) (S_INTEGER : Sta Z Z.heap "com/example/commitgate/commitgate/store/ColumnType" "INTEGER" "Lcom/example/commitgate/commitgate/store/ColumnType;" (.ref w_INTEGER)) (S_DECIMAL : Sta Z Z.heap "com/example/commitgate/commitgate/store/ColumnType" "DECIMAL" "Lcom/example/commitgate/commitgate/store/ColumnType;" (.ref w_DECIMAL)) (S_FLOAT : Sta Z Z.heap "com/example/commitgate/commitgate/store/ColumnType" "FLOAT" "Lcom/example/commitgate/commitgate/store/ColumnType;" (.ref w_FLOAT)) (S_BOOLEAN : Sta Z Z.heap "com/example/commitgate/commitgate/store/ColumnType" "BOOLEAN" "Lcom/example/commitgate/commitgate/store/ColumnType;" (.ref w_BOOLEAN)) (S_TEXT : Sta Z Z.heap "com/example/commitgate/commitgate/store/ColumnType" "TEXT" "Lcom/example/commitgate/commitgate/store/ColumnType;" (.ref w_TEXT)) (S_OTHER : Sta Z Z.heap "com/example/commitgate/commitgate/store/ColumnType" "OTHER" "Lcom/example/commitgate/commitgate/store/ColumnType;" (.ref w_OTHER)) (O0 : Old Z n0 h0) :
    MetFree l (⟨"com/example/commitgate/commitgate/store/ColumnTypeOfPinLaw", "expected", "(I)Lcom/example/commitgate/commitgate/store/ColumnType;"⟩ : MethodName) (head1 (Jvm.Cond.code (⟨"com/example/commitgate/commitgate/store/ColumnTypeOfPinLaw", "expected", "(I)Lcom/example/commitgate/commitgate/store/ColumnType;"⟩ : MethodName) method_2_code 1 (some (.object "com/example/commitgate/commitgate/store/ColumnType")) :: ws) ({ frames := 0, cells := 0, slots := 0, locals := 0 } : Room)) (fun a U => a = #[(.int (-1))] ∧ Z.Warmed39 U.vm ∧ U.heap = h0) (fun _ _ _ _ _ => True) (fun _ U o U' => ∃ v L, o = .returned v ∧ Q_ct w_INTEGER w_DECIMAL w_FLOAT w_BOOLEAN w_TEXT w_OTHER (-1 : Int32) h0 n0 v U'.heap L ∧ FrameEnd U o U' L ({ frames := 0, cells := 0, slots := 0, locals := 0 } : Room).cells ({ frames := 0, cells := 0, slots := 0, locals := 0 } : Room).slots) := by
  refine MetFree.of_bodySF (plainFor_of_name pn_3) hisR ?_
  intro p e s m args below meth c s₁ Bd hml0 hP hK
  obtain ⟨rfl, hZ, hh⟩ := hP
  have hx := Bd.exec
  have hby := Bd.bytes
  have hml : c.maxLocals = 1 := hml0
  have hown : s.vm.findClass "com/example/commitgate/commitgate/store/ColumnTypeOfPinLaw" = some m.cls := findClass_of_methodNamed Bd.named
  have hnm := (name_of_methodNamed Bd.named Bd.method).1
  have X0 : Stand p l e ({ frames := 0, cells := 0, slots := 0, locals := 0 } : Room) s m #[(.int (-1))] below meth c s₁ [] 0 0 := Stand.of_body Bd
  have e0 : s₁.heap = h0 := by rw [← hh, Bd.state]; rfl
  have N0 := Fr.nil n0
  have pre0 : ∀ t, Steps p.tables e below (s₁.setTop (mkF m 0 #[.val (.int (-1))] [])) t → Steps p.tables e below (s₁.setTop (entryFrame m #[(.int (-1))] 1)) t := fun t k => castTop (ef_3_I m (-1 : Int32)) k
  obtain ⟨T1, X1, e1, st1⟩ := getS2 X0 hx hZ hown (host := "") (Or.inl (hwi hw 19 rfl)) Via.refl e0 (S_TEXT.ext O0.2) (g := (mkF m 126 #[.val (.int (-1))] [])) rfl (hb hby d3_126)
  obtain ⟨fs, hr, hrun, hended, hW, hsame⟩ := X1.leave (v := some (.ref w_TEXT)) (fun h => by rw [Bd.returns] at h; cases h)
  refine ⟨_, _, pre0 _ ?_, hrun, hended, _, _, rfl, ?_, ⟨_, rfl⟩, hW, hsame.mono (by decide) (by decide)⟩
  · show St p e below s₁ (mkF m 0 #[.val (.int (-1))] []) _
    refine XS.iloadN X0.here hx rfl (hb hby d3_0) rfl ?_
    show St p e below s₁ (mkF m 1 #[.val (.int (-1))] [(.int (-1))]) _
    refine XS.bipush X0.here hx rfl (hb hby d3_1) ?_
    show St p e below s₁ (mkF m 3 #[.val (.int (-1))] [(.int (-6)), (.int (-1))]) _
    refine XS.icmpNo X0.here hx rfl (hb hby d3_3) rfl (feq (by decide : ¬ ((-1 : Int32) = (-6 : Int32)))).1 ?_
    show St p e below s₁ (mkF m 6 #[.val (.int (-1))] []) _
    refine XS.iloadN X0.here hx rfl (hb hby d3_6) rfl ?_
    show St p e below s₁ (mkF m 7 #[.val (.int (-1))] [(.int (-1))]) _
    refine XS.iconst X0.here hx rfl (hb hby d3_7) ?_
    show St p e below s₁ (mkF m 8 #[.val (.int (-1))] [(.int 5), (.int (-1))]) _
    refine XS.icmpNo X0.here hx rfl (hb hby d3_8) rfl (feq (by decide : ¬ ((-1 : Int32) = (5 : Int32)))).1 ?_
    show St p e below s₁ (mkF m 11 #[.val (.int (-1))] []) _
    refine XS.iloadN X0.here hx rfl (hb hby d3_11) rfl ?_
    show St p e below s₁ (mkF m 12 #[.val (.int (-1))] [(.int (-1))]) _
    refine XS.iconst X0.here hx rfl (hb hby d3_12) ?_
    show St p e below s₁ (mkF m 13 #[.val (.int (-1))] [(.int 4), (.int (-1))]) _
    refine XS.icmpNo X0.here hx rfl (hb hby d3_13) rfl (feq (by decide : ¬ ((-1 : Int32) = (4 : Int32)))).1 ?_
    show St p e below s₁ (mkF m 16 #[.val (.int (-1))] []) _
    refine XS.iloadN X0.here hx rfl (hb hby d3_16) rfl ?_
    show St p e below s₁ (mkF m 17 #[.val (.int (-1))] [(.int (-1))]) _
    refine XS.bipush X0.here hx rfl (hb hby d3_17) ?_
    show St p e below s₁ (mkF m 19 #[.val (.int (-1))] [(.int (-5)), (.int (-1))]) _
    refine XS.icmpYes X0.here hx rfl (pc0 := 19) (pc' := 26) rfl (hb hby d3_19) rfl (feq (by decide : ¬ ((-1 : Int32) = (-5 : Int32)))).2 (by decide) (by decide) ?_
    show St p e below s₁ (mkF m 26 #[.val (.int (-1))] []) _
    refine XS.iloadN X0.here hx rfl (hb hby d3_26) rfl ?_
    show St p e below s₁ (mkF m 27 #[.val (.int (-1))] [(.int (-1))]) _
    refine XS.iconst X0.here hx rfl (hb hby d3_27) ?_
    show St p e below s₁ (mkF m 28 #[.val (.int (-1))] [(.int 2), (.int (-1))]) _
    refine XS.icmpNo X0.here hx rfl (hb hby d3_28) rfl (feq (by decide : ¬ ((-1 : Int32) = (2 : Int32)))).1 ?_
    show St p e below s₁ (mkF m 31 #[.val (.int (-1))] []) _
    refine XS.iloadN X0.here hx rfl (hb hby d3_31) rfl ?_
    show St p e below s₁ (mkF m 32 #[.val (.int (-1))] [(.int (-1))]) _
    refine XS.iconst X0.here hx rfl (hb hby d3_32) ?_
    show St p e below s₁ (mkF m 33 #[.val (.int (-1))] [(.int 3), (.int (-1))]) _
    refine XS.icmpYes X0.here hx rfl (pc0 := 33) (pc' := 40) rfl (hb hby d3_33) rfl (feq (by decide : ¬ ((-1 : Int32) = (3 : Int32)))).2 (by decide) (by decide) ?_
    show St p e below s₁ (mkF m 40 #[.val (.int (-1))] []) _
    refine XS.iloadN X0.here hx rfl (hb hby d3_40) rfl ?_
    show St p e below s₁ (mkF m 41 #[.val (.int (-1))] [(.int (-1))]) _
    refine XS.bipush X0.here hx rfl (hb hby d3_41) ?_
    show St p e below s₁ (mkF m 43 #[.val (.int (-1))] [(.int 7), (.int (-1))]) _
    refine XS.icmpNo X0.here hx rfl (hb hby d3_43) rfl (feq (by decide : ¬ ((-1 : Int32) = (7 : Int32)))).1 ?_
    show St p e below s₁ (mkF m 46 #[.val (.int (-1))] []) _
    refine XS.iloadN X0.here hx rfl (hb hby d3_46) rfl ?_
    show St p e below s₁ (mkF m 47 #[.val (.int (-1))] [(.int (-1))]) _
    refine XS.bipush X0.here hx rfl (hb hby d3_47) ?_
    show St p e below s₁ (mkF m 49 #[.val (.int (-1))] [(.int 6), (.int (-1))]) _
    refine XS.icmpNo X0.here hx rfl (hb hby d3_49) rfl (feq (by decide : ¬ ((-1 : Int32) = (6 : Int32)))).1 ?_
    show St p e below s₁ (mkF m 52 #[.val (.int (-1))] []) _
    refine XS.iloadN X0.here hx rfl (hb hby d3_52) rfl ?_
    show St p e below s₁ (mkF m 53 #[.val (.int (-1))] [(.int (-1))]) _
    refine XS.bipush X0.here hx rfl (hb hby d3_53) ?_
    show St p e below s₁ (mkF m 55 #[.val (.int (-1))] [(.int 8), (.int (-1))]) _
    refine XS.icmpYes X0.here hx rfl (pc0 := 55) (pc' := 62) rfl (hb hby d3_55) rfl (feq (by decide : ¬ ((-1 : Int32) = (8 : Int32)))).2 (by decide) (by decide) ?_
    show St p e below s₁ (mkF m 62 #[.val (.int (-1))] []) _
    refine XS.iloadN X0.here hx rfl (hb hby d3_62) rfl ?_
    show St p e below s₁ (mkF m 63 #[.val (.int (-1))] [(.int (-1))]) _
    refine XS.bipush X0.here hx rfl (hb hby d3_63) ?_
    show St p e below s₁ (mkF m 65 #[.val (.int (-1))] [(.int (-7)), (.int (-1))]) _
    refine XS.icmpNo X0.here hx rfl (hb hby d3_65) rfl (feq (by decide : ¬ ((-1 : Int32) = (-7 : Int32)))).1 ?_
    show St p e below s₁ (mkF m 68 #[.val (.int (-1))] []) _
    refine XS.iloadN X0.here hx rfl (hb hby d3_68) rfl ?_
    show St p e below s₁ (mkF m 69 #[.val (.int (-1))] [(.int (-1))]) _
    refine XS.bipush X0.here hx rfl (hb hby d3_69) ?_
    show St p e below s₁ (mkF m 71 #[.val (.int (-1))] [(.int 16), (.int (-1))]) _
    refine XS.icmpYes X0.here hx rfl (pc0 := 71) (pc' := 78) rfl (hb hby d3_71) rfl (feq (by decide : ¬ ((-1 : Int32) = (16 : Int32)))).2 (by decide) (by decide) ?_
    show St p e below s₁ (mkF m 78 #[.val (.int (-1))] []) _
    refine XS.iloadN X0.here hx rfl (hb hby d3_78) rfl ?_
    show St p e below s₁ (mkF m 79 #[.val (.int (-1))] [(.int (-1))]) _
    refine XS.iconst X0.here hx rfl (hb hby d3_79) ?_
    show St p e below s₁ (mkF m 80 #[.val (.int (-1))] [(.int 1), (.int (-1))]) _
    refine XS.icmpNo X0.here hx rfl (hb hby d3_80) rfl (feq (by decide : ¬ ((-1 : Int32) = (1 : Int32)))).1 ?_
    show St p e below s₁ (mkF m 83 #[.val (.int (-1))] []) _
    refine XS.iloadN X0.here hx rfl (hb hby d3_83) rfl ?_
    show St p e below s₁ (mkF m 84 #[.val (.int (-1))] [(.int (-1))]) _
    refine XS.bipush X0.here hx rfl (hb hby d3_84) ?_
    show St p e below s₁ (mkF m 86 #[.val (.int (-1))] [(.int 12), (.int (-1))]) _
    refine XS.icmpNo X0.here hx rfl (hb hby d3_86) rfl (feq (by decide : ¬ ((-1 : Int32) = (12 : Int32)))).1 ?_
    show St p e below s₁ (mkF m 89 #[.val (.int (-1))] []) _
    refine XS.iloadN X0.here hx rfl (hb hby d3_89) rfl ?_
    show St p e below s₁ (mkF m 90 #[.val (.int (-1))] [(.int (-1))]) _
    refine XS.iconst X0.here hx rfl (hb hby d3_90) ?_
    show St p e below s₁ (mkF m 91 #[.val (.int (-1))] [(.int (-1)), (.int (-1))]) _
    refine XS.icmpYes X0.here hx rfl (pc0 := 91) (pc' := 126) rfl (hb hby d3_91) rfl (teq (by decide : (-1 : Int32) = (-1 : Int32))).1 (by decide) (by decide) ?_
    show St p e below s₁ (mkF m 126 #[.val (.int (-1))] []) _
    refine st1 _ ?_
    show St p e below T1 (mkF m 129 #[.val (.int (-1))] [(.ref w_TEXT)]) _
    jvm_step X1.here [X1.here.top, hx, (hb hby d3_129), X1.method', Bd.returns, Value.isRef, FieldType.isReference]
    first | (intro acts; rw [hr _ acts rfl rfl rfl]) | rw [hr _ _ rfl rfl rfl]
    exact Steps.refl _
  · show Q_ct w_INTEGER w_DECIMAL w_FLOAT w_BOOLEAN w_TEXT w_OTHER (-1 : Int32) h0 n0 _ T1.heap _
    rw [e1]
    exact ⟨by rfl, N0, rfl⟩
theorem d3_94 : decode method_2_code 94 = .ok (.iload_n 0, 1) := by decide +kernel
theorem d3_95 : decode method_2_code 95 = .ok (.bipush (-15), 2) := by decide +kernel
theorem d3_97 : decode method_2_code 97 = .ok (.if_icmp .eq 29, 3) := by decide +kernel
set_option maxRecDepth 65536 in
set_option maxHeartbeats 40000000 in
theorem rm_exp_m15 (l : Launch) (Z : State) (a0 : Array Value) (hw : ∀ d ∈ tables_1, d.before a0 Z = true) (ws : List Jvm.Cond) (w_INTEGER : Addr) (w_DECIMAL : Addr) (w_FLOAT : Addr) (w_BOOLEAN : Addr) (w_TEXT : Addr) (w_OTHER : Addr) (h0 : Heap) (n0 : Nat) (Z0 : n0 ≤ h0.size) (S_INTEGER : Sta Z Z.heap "com/example/commitgate/commitgate/store/ColumnType" "INTEGER" "Lcom/example/commitgate/commitgate/store/ColumnType;" (.ref w_INTEGER)) (S_DECIMAL : Sta Z Z.heap "com/example/commitgate/commitgate/store/ColumnType" "DECIMAL" "Lcom/example/commitgate/commitgate/store/ColumnType;" (.ref w_DECIMAL)) (S_FLOAT : Sta Z Z.heap "com/example/commitgate/commitgate/store/ColumnType" "FLOAT" "Lcom/example/commitgate/commitgate/store/ColumnType;" (.ref w_FLOAT)) (S_BOOLEAN : Sta Z Z.heap "com/example/commitgate/commitgate/store/ColumnType" "BOOLEAN" "Lcom/example/commitgate/commitgate/store/ColumnType;" (.ref w_BOOLEAN)) (S_TEXT : Sta Z Z.heap "com/example/commitgate/commitgate/store/ColumnType" "TEXT" "Lcom/example/commitgate/commitgate/store/ColumnType;" (.ref w_TEXT)) (S_OTHER : Sta Z Z.heap "com/example/commitgate/commitgate/store/ColumnType" "OTHER" "Lcom/example/commitgate/commitgate/store/ColumnType;" (.ref w_OTHER)) (O0 : Old Z n0 h0) :
    MetFree l (⟨"com/example/commitgate/commitgate/store/ColumnTypeOfPinLaw", "expected", "(I)Lcom/example/commitgate/commitgate/store/ColumnType;"⟩ : MethodName) (head1 (Jvm.Cond.code (⟨"com/example/commitgate/commitgate/store/ColumnTypeOfPinLaw", "expected", "(I)Lcom/example/commitgate/commitgate/store/ColumnType;"⟩ : MethodName) method_2_code 1 (some (.object "com/example/commitgate/commitgate/store/ColumnType")) :: ws) ({ frames := 0, cells := 0, slots := 0, locals := 0 } : Room)) (fun a U => a = #[(.int (-15))] ∧ Z.Warmed39 U.vm ∧ U.heap = h0) (fun _ _ _ _ _ => True) (fun _ U o U' => ∃ v L, o = .returned v ∧ Q_ct w_INTEGER w_DECIMAL w_FLOAT w_BOOLEAN w_TEXT w_OTHER (-15 : Int32) h0 n0 v U'.heap L ∧ FrameEnd U o U' L ({ frames := 0, cells := 0, slots := 0, locals := 0 } : Room).cells ({ frames := 0, cells := 0, slots := 0, locals := 0 } : Room).slots) := by
  refine MetFree.of_bodySF (plainFor_of_name pn_3) hisR ?_
  intro p e s m args below meth c s₁ Bd hml0 hP hK
  obtain ⟨rfl, hZ, hh⟩ := hP
  have hx := Bd.exec
  have hby := Bd.bytes
  have hml : c.maxLocals = 1 := hml0
  have hown : s.vm.findClass "com/example/commitgate/commitgate/store/ColumnTypeOfPinLaw" = some m.cls := findClass_of_methodNamed Bd.named
  have hnm := (name_of_methodNamed Bd.named Bd.method).1
  have X0 : Stand p l e ({ frames := 0, cells := 0, slots := 0, locals := 0 } : Room) s m #[(.int (-15))] below meth c s₁ [] 0 0 := Stand.of_body Bd
  have e0 : s₁.heap = h0 := by rw [← hh, Bd.state]; rfl
  have N0 := Fr.nil n0
  have pre0 : ∀ t, Steps p.tables e below (s₁.setTop (mkF m 0 #[.val (.int (-15))] [])) t → Steps p.tables e below (s₁.setTop (entryFrame m #[(.int (-15))] 1)) t := fun t k => castTop (ef_3_I m (-15 : Int32)) k
  obtain ⟨T1, X1, e1, st1⟩ := getS2 X0 hx hZ hown (host := "") (Or.inl (hwi hw 19 rfl)) Via.refl e0 (S_TEXT.ext O0.2) (g := (mkF m 126 #[.val (.int (-15))] [])) rfl (hb hby d3_126)
  obtain ⟨fs, hr, hrun, hended, hW, hsame⟩ := X1.leave (v := some (.ref w_TEXT)) (fun h => by rw [Bd.returns] at h; cases h)
  refine ⟨_, _, pre0 _ ?_, hrun, hended, _, _, rfl, ?_, ⟨_, rfl⟩, hW, hsame.mono (by decide) (by decide)⟩
  · show St p e below s₁ (mkF m 0 #[.val (.int (-15))] []) _
    refine XS.iloadN X0.here hx rfl (hb hby d3_0) rfl ?_
    show St p e below s₁ (mkF m 1 #[.val (.int (-15))] [(.int (-15))]) _
    refine XS.bipush X0.here hx rfl (hb hby d3_1) ?_
    show St p e below s₁ (mkF m 3 #[.val (.int (-15))] [(.int (-6)), (.int (-15))]) _
    refine XS.icmpNo X0.here hx rfl (hb hby d3_3) rfl (feq (by decide : ¬ ((-15 : Int32) = (-6 : Int32)))).1 ?_
    show St p e below s₁ (mkF m 6 #[.val (.int (-15))] []) _
    refine XS.iloadN X0.here hx rfl (hb hby d3_6) rfl ?_
    show St p e below s₁ (mkF m 7 #[.val (.int (-15))] [(.int (-15))]) _
    refine XS.iconst X0.here hx rfl (hb hby d3_7) ?_
    show St p e below s₁ (mkF m 8 #[.val (.int (-15))] [(.int 5), (.int (-15))]) _
    refine XS.icmpNo X0.here hx rfl (hb hby d3_8) rfl (feq (by decide : ¬ ((-15 : Int32) = (5 : Int32)))).1 ?_
    show St p e below s₁ (mkF m 11 #[.val (.int (-15))] []) _
    refine XS.iloadN X0.here hx rfl (hb hby d3_11) rfl ?_
    show St p e below s₁ (mkF m 12 #[.val (.int (-15))] [(.int (-15))]) _
    refine XS.iconst X0.here hx rfl (hb hby d3_12) ?_
    show St p e below s₁ (mkF m 13 #[.val (.int (-15))] [(.int 4), (.int (-15))]) _
    refine XS.icmpNo X0.here hx rfl (hb hby d3_13) rfl (feq (by decide : ¬ ((-15 : Int32) = (4 : Int32)))).1 ?_
    show St p e below s₁ (mkF m 16 #[.val (.int (-15))] []) _
    refine XS.iloadN X0.here hx rfl (hb hby d3_16) rfl ?_
    show St p e below s₁ (mkF m 17 #[.val (.int (-15))] [(.int (-15))]) _
    refine XS.bipush X0.here hx rfl (hb hby d3_17) ?_
    show St p e below s₁ (mkF m 19 #[.val (.int (-15))] [(.int (-5)), (.int (-15))]) _
    refine XS.icmpYes X0.here hx rfl (pc0 := 19) (pc' := 26) rfl (hb hby d3_19) rfl (feq (by decide : ¬ ((-15 : Int32) = (-5 : Int32)))).2 (by decide) (by decide) ?_
    show St p e below s₁ (mkF m 26 #[.val (.int (-15))] []) _
    refine XS.iloadN X0.here hx rfl (hb hby d3_26) rfl ?_
    show St p e below s₁ (mkF m 27 #[.val (.int (-15))] [(.int (-15))]) _
    refine XS.iconst X0.here hx rfl (hb hby d3_27) ?_
    show St p e below s₁ (mkF m 28 #[.val (.int (-15))] [(.int 2), (.int (-15))]) _
    refine XS.icmpNo X0.here hx rfl (hb hby d3_28) rfl (feq (by decide : ¬ ((-15 : Int32) = (2 : Int32)))).1 ?_
    show St p e below s₁ (mkF m 31 #[.val (.int (-15))] []) _
    refine XS.iloadN X0.here hx rfl (hb hby d3_31) rfl ?_
    show St p e below s₁ (mkF m 32 #[.val (.int (-15))] [(.int (-15))]) _
    refine XS.iconst X0.here hx rfl (hb hby d3_32) ?_
    show St p e below s₁ (mkF m 33 #[.val (.int (-15))] [(.int 3), (.int (-15))]) _
    refine XS.icmpYes X0.here hx rfl (pc0 := 33) (pc' := 40) rfl (hb hby d3_33) rfl (feq (by decide : ¬ ((-15 : Int32) = (3 : Int32)))).2 (by decide) (by decide) ?_
    show St p e below s₁ (mkF m 40 #[.val (.int (-15))] []) _
    refine XS.iloadN X0.here hx rfl (hb hby d3_40) rfl ?_
    show St p e below s₁ (mkF m 41 #[.val (.int (-15))] [(.int (-15))]) _
    refine XS.bipush X0.here hx rfl (hb hby d3_41) ?_
    show St p e below s₁ (mkF m 43 #[.val (.int (-15))] [(.int 7), (.int (-15))]) _
    refine XS.icmpNo X0.here hx rfl (hb hby d3_43) rfl (feq (by decide : ¬ ((-15 : Int32) = (7 : Int32)))).1 ?_
    show St p e below s₁ (mkF m 46 #[.val (.int (-15))] []) _
    refine XS.iloadN X0.here hx rfl (hb hby d3_46) rfl ?_
    show St p e below s₁ (mkF m 47 #[.val (.int (-15))] [(.int (-15))]) _
    refine XS.bipush X0.here hx rfl (hb hby d3_47) ?_
    show St p e below s₁ (mkF m 49 #[.val (.int (-15))] [(.int 6), (.int (-15))]) _
    refine XS.icmpNo X0.here hx rfl (hb hby d3_49) rfl (feq (by decide : ¬ ((-15 : Int32) = (6 : Int32)))).1 ?_
    show St p e below s₁ (mkF m 52 #[.val (.int (-15))] []) _
    refine XS.iloadN X0.here hx rfl (hb hby d3_52) rfl ?_
    show St p e below s₁ (mkF m 53 #[.val (.int (-15))] [(.int (-15))]) _
    refine XS.bipush X0.here hx rfl (hb hby d3_53) ?_
    show St p e below s₁ (mkF m 55 #[.val (.int (-15))] [(.int 8), (.int (-15))]) _
    refine XS.icmpYes X0.here hx rfl (pc0 := 55) (pc' := 62) rfl (hb hby d3_55) rfl (feq (by decide : ¬ ((-15 : Int32) = (8 : Int32)))).2 (by decide) (by decide) ?_
    show St p e below s₁ (mkF m 62 #[.val (.int (-15))] []) _
    refine XS.iloadN X0.here hx rfl (hb hby d3_62) rfl ?_
    show St p e below s₁ (mkF m 63 #[.val (.int (-15))] [(.int (-15))]) _
    refine XS.bipush X0.here hx rfl (hb hby d3_63) ?_
    show St p e below s₁ (mkF m 65 #[.val (.int (-15))] [(.int (-7)), (.int (-15))]) _
    refine XS.icmpNo X0.here hx rfl (hb hby d3_65) rfl (feq (by decide : ¬ ((-15 : Int32) = (-7 : Int32)))).1 ?_
    show St p e below s₁ (mkF m 68 #[.val (.int (-15))] []) _
    refine XS.iloadN X0.here hx rfl (hb hby d3_68) rfl ?_
    show St p e below s₁ (mkF m 69 #[.val (.int (-15))] [(.int (-15))]) _
    refine XS.bipush X0.here hx rfl (hb hby d3_69) ?_
    show St p e below s₁ (mkF m 71 #[.val (.int (-15))] [(.int 16), (.int (-15))]) _
    refine XS.icmpYes X0.here hx rfl (pc0 := 71) (pc' := 78) rfl (hb hby d3_71) rfl (feq (by decide : ¬ ((-15 : Int32) = (16 : Int32)))).2 (by decide) (by decide) ?_
    show St p e below s₁ (mkF m 78 #[.val (.int (-15))] []) _
    refine XS.iloadN X0.here hx rfl (hb hby d3_78) rfl ?_
    show St p e below s₁ (mkF m 79 #[.val (.int (-15))] [(.int (-15))]) _
    refine XS.iconst X0.here hx rfl (hb hby d3_79) ?_
    show St p e below s₁ (mkF m 80 #[.val (.int (-15))] [(.int 1), (.int (-15))]) _
    refine XS.icmpNo X0.here hx rfl (hb hby d3_80) rfl (feq (by decide : ¬ ((-15 : Int32) = (1 : Int32)))).1 ?_
    show St p e below s₁ (mkF m 83 #[.val (.int (-15))] []) _
    refine XS.iloadN X0.here hx rfl (hb hby d3_83) rfl ?_
    show St p e below s₁ (mkF m 84 #[.val (.int (-15))] [(.int (-15))]) _
    refine XS.bipush X0.here hx rfl (hb hby d3_84) ?_
    show St p e below s₁ (mkF m 86 #[.val (.int (-15))] [(.int 12), (.int (-15))]) _
    refine XS.icmpNo X0.here hx rfl (hb hby d3_86) rfl (feq (by decide : ¬ ((-15 : Int32) = (12 : Int32)))).1 ?_
    show St p e below s₁ (mkF m 89 #[.val (.int (-15))] []) _
    refine XS.iloadN X0.here hx rfl (hb hby d3_89) rfl ?_
    show St p e below s₁ (mkF m 90 #[.val (.int (-15))] [(.int (-15))]) _
    refine XS.iconst X0.here hx rfl (hb hby d3_90) ?_
    show St p e below s₁ (mkF m 91 #[.val (.int (-15))] [(.int (-1)), (.int (-15))]) _
    refine XS.icmpNo X0.here hx rfl (hb hby d3_91) rfl (feq (by decide : ¬ ((-15 : Int32) = (-1 : Int32)))).1 ?_
    show St p e below s₁ (mkF m 94 #[.val (.int (-15))] []) _
    refine XS.iloadN X0.here hx rfl (hb hby d3_94) rfl ?_
    show St p e below s₁ (mkF m 95 #[.val (.int (-15))] [(.int (-15))]) _
    refine XS.bipush X0.here hx rfl (hb hby d3_95) ?_
    show St p e below s₁ (mkF m 97 #[.val (.int (-15))] [(.int (-15)), (.int (-15))]) _
    refine XS.icmpYes X0.here hx rfl (pc0 := 97) (pc' := 126) rfl (hb hby d3_97) rfl (teq (by decide : (-15 : Int32) = (-15 : Int32))).1 (by decide) (by decide) ?_
    show St p e below s₁ (mkF m 126 #[.val (.int (-15))] []) _
    refine st1 _ ?_
    show St p e below T1 (mkF m 129 #[.val (.int (-15))] [(.ref w_TEXT)]) _
    jvm_step X1.here [X1.here.top, hx, (hb hby d3_129), X1.method', Bd.returns, Value.isRef, FieldType.isReference]
    first | (intro acts; rw [hr _ acts rfl rfl rfl]) | rw [hr _ _ rfl rfl rfl]
    exact Steps.refl _
  · show Q_ct w_INTEGER w_DECIMAL w_FLOAT w_BOOLEAN w_TEXT w_OTHER (-15 : Int32) h0 n0 _ T1.heap _
    rw [e1]
    exact ⟨by rfl, N0, rfl⟩
theorem d3_100 : decode method_2_code 100 = .ok (.iload_n 0, 1) := by decide +kernel
theorem d3_101 : decode method_2_code 101 = .ok (.bipush (-9), 2) := by decide +kernel
theorem d3_103 : decode method_2_code 103 = .ok (.if_icmp .eq 23, 3) := by decide +kernel
set_option maxRecDepth 65536 in
set_option maxHeartbeats 40000000 in
theorem rm_exp_m9 (l : Launch) (Z : State) (a0 : Array Value) (hw : ∀ d ∈ tables_1, d.before a0 Z = true) (ws : List Jvm.Cond) (w_INTEGER : Addr) (w_DECIMAL : Addr) (w_FLOAT : Addr) (w_BOOLEAN : Addr) (w_TEXT : Addr) (w_OTHER : Addr) (h0 : Heap) (n0 : Nat) (Z0 : n0 ≤ h0.size) (S_INTEGER : Sta Z Z.heap "com/example/commitgate/commitgate/store/ColumnType" "INTEGER" "Lcom/example/commitgate/commitgate/store/ColumnType;" (.ref w_INTEGER)) (S_DECIMAL : Sta Z Z.heap "com/example/commitgate/commitgate/store/ColumnType" "DECIMAL" "Lcom/example/commitgate/commitgate/store/ColumnType;" (.ref w_DECIMAL)) (S_FLOAT : Sta Z Z.heap "com/example/commitgate/commitgate/store/ColumnType" "FLOAT" "Lcom/example/commitgate/commitgate/store/ColumnType;" (.ref w_FLOAT)) (S_BOOLEAN : Sta Z Z.heap "com/example/commitgate/commitgate/store/ColumnType" "BOOLEAN" "Lcom/example/commitgate/commitgate/store/ColumnType;" (.ref w_BOOLEAN)) (S_TEXT : Sta Z Z.heap "com/example/commitgate/commitgate/store/ColumnType" "TEXT" "Lcom/example/commitgate/commitgate/store/ColumnType;" (.ref w_TEXT)) (S_OTHER : Sta Z Z.heap "com/example/commitgate/commitgate/store/ColumnType" "OTHER" "Lcom/example/commitgate/commitgate/store/ColumnType;" (.ref w_OTHER)) (O0 : Old Z n0 h0) :
    MetFree l (⟨"com/example/commitgate/commitgate/store/ColumnTypeOfPinLaw", "expected", "(I)Lcom/example/commitgate/commitgate/store/ColumnType;"⟩ : MethodName) (head1 (Jvm.Cond.code (⟨"com/example/commitgate/commitgate/store/ColumnTypeOfPinLaw", "expected", "(I)Lcom/example/commitgate/commitgate/store/ColumnType;"⟩ : MethodName) method_2_code 1 (some (.object "com/example/commitgate/commitgate/store/ColumnType")) :: ws) ({ frames := 0, cells := 0, slots := 0, locals := 0 } : Room)) (fun a U => a = #[(.int (-9))] ∧ Z.Warmed39 U.vm ∧ U.heap = h0) (fun _ _ _ _ _ => True) (fun _ U o U' => ∃ v L, o = .returned v ∧ Q_ct w_INTEGER w_DECIMAL w_FLOAT w_BOOLEAN w_TEXT w_OTHER (-9 : Int32) h0 n0 v U'.heap L ∧ FrameEnd U o U' L ({ frames := 0, cells := 0, slots := 0, locals := 0 } : Room).cells ({ frames := 0, cells := 0, slots := 0, locals := 0 } : Room).slots) := by
  refine MetFree.of_bodySF (plainFor_of_name pn_3) hisR ?_
  intro p e s m args below meth c s₁ Bd hml0 hP hK
  obtain ⟨rfl, hZ, hh⟩ := hP
  have hx := Bd.exec
  have hby := Bd.bytes
  have hml : c.maxLocals = 1 := hml0
  have hown : s.vm.findClass "com/example/commitgate/commitgate/store/ColumnTypeOfPinLaw" = some m.cls := findClass_of_methodNamed Bd.named
  have hnm := (name_of_methodNamed Bd.named Bd.method).1
  have X0 : Stand p l e ({ frames := 0, cells := 0, slots := 0, locals := 0 } : Room) s m #[(.int (-9))] below meth c s₁ [] 0 0 := Stand.of_body Bd
  have e0 : s₁.heap = h0 := by rw [← hh, Bd.state]; rfl
  have N0 := Fr.nil n0
  have pre0 : ∀ t, Steps p.tables e below (s₁.setTop (mkF m 0 #[.val (.int (-9))] [])) t → Steps p.tables e below (s₁.setTop (entryFrame m #[(.int (-9))] 1)) t := fun t k => castTop (ef_3_I m (-9 : Int32)) k
  obtain ⟨T1, X1, e1, st1⟩ := getS2 X0 hx hZ hown (host := "") (Or.inl (hwi hw 19 rfl)) Via.refl e0 (S_TEXT.ext O0.2) (g := (mkF m 126 #[.val (.int (-9))] [])) rfl (hb hby d3_126)
  obtain ⟨fs, hr, hrun, hended, hW, hsame⟩ := X1.leave (v := some (.ref w_TEXT)) (fun h => by rw [Bd.returns] at h; cases h)
  refine ⟨_, _, pre0 _ ?_, hrun, hended, _, _, rfl, ?_, ⟨_, rfl⟩, hW, hsame.mono (by decide) (by decide)⟩
  · show St p e below s₁ (mkF m 0 #[.val (.int (-9))] []) _
    refine XS.iloadN X0.here hx rfl (hb hby d3_0) rfl ?_
    show St p e below s₁ (mkF m 1 #[.val (.int (-9))] [(.int (-9))]) _
    refine XS.bipush X0.here hx rfl (hb hby d3_1) ?_
    show St p e below s₁ (mkF m 3 #[.val (.int (-9))] [(.int (-6)), (.int (-9))]) _
    refine XS.icmpNo X0.here hx rfl (hb hby d3_3) rfl (feq (by decide : ¬ ((-9 : Int32) = (-6 : Int32)))).1 ?_
    show St p e below s₁ (mkF m 6 #[.val (.int (-9))] []) _
    refine XS.iloadN X0.here hx rfl (hb hby d3_6) rfl ?_
    show St p e below s₁ (mkF m 7 #[.val (.int (-9))] [(.int (-9))]) _
    refine XS.iconst X0.here hx rfl (hb hby d3_7) ?_
    show St p e below s₁ (mkF m 8 #[.val (.int (-9))] [(.int 5), (.int (-9))]) _
    refine XS.icmpNo X0.here hx rfl (hb hby d3_8) rfl (feq (by decide : ¬ ((-9 : Int32) = (5 : Int32)))).1 ?_
    show St p e below s₁ (mkF m 11 #[.val (.int (-9))] []) _
    refine XS.iloadN X0.here hx rfl (hb hby d3_11) rfl ?_
    show St p e below s₁ (mkF m 12 #[.val (.int (-9))] [(.int (-9))]) _
    refine XS.iconst X0.here hx rfl (hb hby d3_12) ?_
    show St p e below s₁ (mkF m 13 #[.val (.int (-9))] [(.int 4), (.int (-9))]) _
    refine XS.icmpNo X0.here hx rfl (hb hby d3_13) rfl (feq (by decide : ¬ ((-9 : Int32) = (4 : Int32)))).1 ?_
    show St p e below s₁ (mkF m 16 #[.val (.int (-9))] []) _
    refine XS.iloadN X0.here hx rfl (hb hby d3_16) rfl ?_
    show St p e below s₁ (mkF m 17 #[.val (.int (-9))] [(.int (-9))]) _
    refine XS.bipush X0.here hx rfl (hb hby d3_17) ?_
    show St p e below s₁ (mkF m 19 #[.val (.int (-9))] [(.int (-5)), (.int (-9))]) _
    refine XS.icmpYes X0.here hx rfl (pc0 := 19) (pc' := 26) rfl (hb hby d3_19) rfl (feq (by decide : ¬ ((-9 : Int32) = (-5 : Int32)))).2 (by decide) (by decide) ?_
    show St p e below s₁ (mkF m 26 #[.val (.int (-9))] []) _
    refine XS.iloadN X0.here hx rfl (hb hby d3_26) rfl ?_
    show St p e below s₁ (mkF m 27 #[.val (.int (-9))] [(.int (-9))]) _
    refine XS.iconst X0.here hx rfl (hb hby d3_27) ?_
    show St p e below s₁ (mkF m 28 #[.val (.int (-9))] [(.int 2), (.int (-9))]) _
    refine XS.icmpNo X0.here hx rfl (hb hby d3_28) rfl (feq (by decide : ¬ ((-9 : Int32) = (2 : Int32)))).1 ?_
    show St p e below s₁ (mkF m 31 #[.val (.int (-9))] []) _
    refine XS.iloadN X0.here hx rfl (hb hby d3_31) rfl ?_
    show St p e below s₁ (mkF m 32 #[.val (.int (-9))] [(.int (-9))]) _
    refine XS.iconst X0.here hx rfl (hb hby d3_32) ?_
    show St p e below s₁ (mkF m 33 #[.val (.int (-9))] [(.int 3), (.int (-9))]) _
    refine XS.icmpYes X0.here hx rfl (pc0 := 33) (pc' := 40) rfl (hb hby d3_33) rfl (feq (by decide : ¬ ((-9 : Int32) = (3 : Int32)))).2 (by decide) (by decide) ?_
    show St p e below s₁ (mkF m 40 #[.val (.int (-9))] []) _
    refine XS.iloadN X0.here hx rfl (hb hby d3_40) rfl ?_
    show St p e below s₁ (mkF m 41 #[.val (.int (-9))] [(.int (-9))]) _
    refine XS.bipush X0.here hx rfl (hb hby d3_41) ?_
    show St p e below s₁ (mkF m 43 #[.val (.int (-9))] [(.int 7), (.int (-9))]) _
    refine XS.icmpNo X0.here hx rfl (hb hby d3_43) rfl (feq (by decide : ¬ ((-9 : Int32) = (7 : Int32)))).1 ?_
    show St p e below s₁ (mkF m 46 #[.val (.int (-9))] []) _
    refine XS.iloadN X0.here hx rfl (hb hby d3_46) rfl ?_
    show St p e below s₁ (mkF m 47 #[.val (.int (-9))] [(.int (-9))]) _
    refine XS.bipush X0.here hx rfl (hb hby d3_47) ?_
    show St p e below s₁ (mkF m 49 #[.val (.int (-9))] [(.int 6), (.int (-9))]) _
    refine XS.icmpNo X0.here hx rfl (hb hby d3_49) rfl (feq (by decide : ¬ ((-9 : Int32) = (6 : Int32)))).1 ?_
    show St p e below s₁ (mkF m 52 #[.val (.int (-9))] []) _
    refine XS.iloadN X0.here hx rfl (hb hby d3_52) rfl ?_
    show St p e below s₁ (mkF m 53 #[.val (.int (-9))] [(.int (-9))]) _
    refine XS.bipush X0.here hx rfl (hb hby d3_53) ?_
    show St p e below s₁ (mkF m 55 #[.val (.int (-9))] [(.int 8), (.int (-9))]) _
    refine XS.icmpYes X0.here hx rfl (pc0 := 55) (pc' := 62) rfl (hb hby d3_55) rfl (feq (by decide : ¬ ((-9 : Int32) = (8 : Int32)))).2 (by decide) (by decide) ?_
    show St p e below s₁ (mkF m 62 #[.val (.int (-9))] []) _
    refine XS.iloadN X0.here hx rfl (hb hby d3_62) rfl ?_
    show St p e below s₁ (mkF m 63 #[.val (.int (-9))] [(.int (-9))]) _
    refine XS.bipush X0.here hx rfl (hb hby d3_63) ?_
    show St p e below s₁ (mkF m 65 #[.val (.int (-9))] [(.int (-7)), (.int (-9))]) _
    refine XS.icmpNo X0.here hx rfl (hb hby d3_65) rfl (feq (by decide : ¬ ((-9 : Int32) = (-7 : Int32)))).1 ?_
    show St p e below s₁ (mkF m 68 #[.val (.int (-9))] []) _
    refine XS.iloadN X0.here hx rfl (hb hby d3_68) rfl ?_
    show St p e below s₁ (mkF m 69 #[.val (.int (-9))] [(.int (-9))]) _
    refine XS.bipush X0.here hx rfl (hb hby d3_69) ?_
    show St p e below s₁ (mkF m 71 #[.val (.int (-9))] [(.int 16), (.int (-9))]) _
    refine XS.icmpYes X0.here hx rfl (pc0 := 71) (pc' := 78) rfl (hb hby d3_71) rfl (feq (by decide : ¬ ((-9 : Int32) = (16 : Int32)))).2 (by decide) (by decide) ?_
    show St p e below s₁ (mkF m 78 #[.val (.int (-9))] []) _
    refine XS.iloadN X0.here hx rfl (hb hby d3_78) rfl ?_
    show St p e below s₁ (mkF m 79 #[.val (.int (-9))] [(.int (-9))]) _
    refine XS.iconst X0.here hx rfl (hb hby d3_79) ?_
    show St p e below s₁ (mkF m 80 #[.val (.int (-9))] [(.int 1), (.int (-9))]) _
    refine XS.icmpNo X0.here hx rfl (hb hby d3_80) rfl (feq (by decide : ¬ ((-9 : Int32) = (1 : Int32)))).1 ?_
    show St p e below s₁ (mkF m 83 #[.val (.int (-9))] []) _
    refine XS.iloadN X0.here hx rfl (hb hby d3_83) rfl ?_
    show St p e below s₁ (mkF m 84 #[.val (.int (-9))] [(.int (-9))]) _
    refine XS.bipush X0.here hx rfl (hb hby d3_84) ?_
    show St p e below s₁ (mkF m 86 #[.val (.int (-9))] [(.int 12), (.int (-9))]) _
    refine XS.icmpNo X0.here hx rfl (hb hby d3_86) rfl (feq (by decide : ¬ ((-9 : Int32) = (12 : Int32)))).1 ?_
    show St p e below s₁ (mkF m 89 #[.val (.int (-9))] []) _
    refine XS.iloadN X0.here hx rfl (hb hby d3_89) rfl ?_
    show St p e below s₁ (mkF m 90 #[.val (.int (-9))] [(.int (-9))]) _
    refine XS.iconst X0.here hx rfl (hb hby d3_90) ?_
    show St p e below s₁ (mkF m 91 #[.val (.int (-9))] [(.int (-1)), (.int (-9))]) _
    refine XS.icmpNo X0.here hx rfl (hb hby d3_91) rfl (feq (by decide : ¬ ((-9 : Int32) = (-1 : Int32)))).1 ?_
    show St p e below s₁ (mkF m 94 #[.val (.int (-9))] []) _
    refine XS.iloadN X0.here hx rfl (hb hby d3_94) rfl ?_
    show St p e below s₁ (mkF m 95 #[.val (.int (-9))] [(.int (-9))]) _
    refine XS.bipush X0.here hx rfl (hb hby d3_95) ?_
    show St p e below s₁ (mkF m 97 #[.val (.int (-9))] [(.int (-15)), (.int (-9))]) _
    refine XS.icmpNo X0.here hx rfl (hb hby d3_97) rfl (feq (by decide : ¬ ((-9 : Int32) = (-15 : Int32)))).1 ?_
    show St p e below s₁ (mkF m 100 #[.val (.int (-9))] []) _
    refine XS.iloadN X0.here hx rfl (hb hby d3_100) rfl ?_
    show St p e below s₁ (mkF m 101 #[.val (.int (-9))] [(.int (-9))]) _
    refine XS.bipush X0.here hx rfl (hb hby d3_101) ?_
    show St p e below s₁ (mkF m 103 #[.val (.int (-9))] [(.int (-9)), (.int (-9))]) _
    refine XS.icmpYes X0.here hx rfl (pc0 := 103) (pc' := 126) rfl (hb hby d3_103) rfl (teq (by decide : (-9 : Int32) = (-9 : Int32))).1 (by decide) (by decide) ?_
    show St p e below s₁ (mkF m 126 #[.val (.int (-9))] []) _
    refine st1 _ ?_
    show St p e below T1 (mkF m 129 #[.val (.int (-9))] [(.ref w_TEXT)]) _
    jvm_step X1.here [X1.here.top, hx, (hb hby d3_129), X1.method', Bd.returns, Value.isRef, FieldType.isReference]
    first | (intro acts; rw [hr _ acts rfl rfl rfl]) | rw [hr _ _ rfl rfl rfl]
    exact Steps.refl _
  · show Q_ct w_INTEGER w_DECIMAL w_FLOAT w_BOOLEAN w_TEXT w_OTHER (-9 : Int32) h0 n0 _ T1.heap _
    rw [e1]
    exact ⟨by rfl, N0, rfl⟩
theorem d3_106 : decode method_2_code 106 = .ok (.iload_n 0, 1) := by decide +kernel
theorem d3_107 : decode method_2_code 107 = .ok (.bipush (-16), 2) := by decide +kernel
theorem d3_109 : decode method_2_code 109 = .ok (.if_icmp .eq 17, 3) := by decide +kernel
set_option maxRecDepth 65536 in
set_option maxHeartbeats 40000000 in
theorem rm_exp_m16 (l : Launch) (Z : State) (a0 : Array Value) (hw : ∀ d ∈ tables_1, d.before a0 Z = true) (ws : List Jvm.Cond) (w_INTEGER : Addr) (w_DECIMAL : Addr) (w_FLOAT : Addr) (w_BOOLEAN : Addr) (w_TEXT : Addr) (w_OTHER : Addr) (h0 : Heap) (n0 : Nat) (Z0 : n0 ≤ h0.size) (S_INTEGER : Sta Z Z.heap "com/example/commitgate/commitgate/store/ColumnType" "INTEGER" "Lcom/example/commitgate/commitgate/store/ColumnType;" (.ref w_INTEGER)) (S_DECIMAL : Sta Z Z.heap "com/example/commitgate/commitgate/store/ColumnType" "DECIMAL" "Lcom/example/commitgate/commitgate/store/ColumnType;" (.ref w_DECIMAL)) (S_FLOAT : Sta Z Z.heap "com/example/commitgate/commitgate/store/ColumnType" "FLOAT" "Lcom/example/commitgate/commitgate/store/ColumnType;" (.ref w_FLOAT)) (S_BOOLEAN : Sta Z Z.heap "com/example/commitgate/commitgate/store/ColumnType" "BOOLEAN" "Lcom/example/commitgate/commitgate/store/ColumnType;" (.ref w_BOOLEAN)) (S_TEXT : Sta Z Z.heap "com/example/commitgate/commitgate/store/ColumnType" "TEXT" "Lcom/example/commitgate/commitgate/store/ColumnType;" (.ref w_TEXT)) (S_OTHER : Sta Z Z.heap "com/example/commitgate/commitgate/store/ColumnType" "OTHER" "Lcom/example/commitgate/commitgate/store/ColumnType;" (.ref w_OTHER)) (O0 : Old Z n0 h0) :
    MetFree l (⟨"com/example/commitgate/commitgate/store/ColumnTypeOfPinLaw", "expected", "(I)Lcom/example/commitgate/commitgate/store/ColumnType;"⟩ : MethodName) (head1 (Jvm.Cond.code (⟨"com/example/commitgate/commitgate/store/ColumnTypeOfPinLaw", "expected", "(I)Lcom/example/commitgate/commitgate/store/ColumnType;"⟩ : MethodName) method_2_code 1 (some (.object "com/example/commitgate/commitgate/store/ColumnType")) :: ws) ({ frames := 0, cells := 0, slots := 0, locals := 0 } : Room)) (fun a U => a = #[(.int (-16))] ∧ Z.Warmed39 U.vm ∧ U.heap = h0) (fun _ _ _ _ _ => True) (fun _ U o U' => ∃ v L, o = .returned v ∧ Q_ct w_INTEGER w_DECIMAL w_FLOAT w_BOOLEAN w_TEXT w_OTHER (-16 : Int32) h0 n0 v U'.heap L ∧ FrameEnd U o U' L ({ frames := 0, cells := 0, slots := 0, locals := 0 } : Room).cells ({ frames := 0, cells := 0, slots := 0, locals := 0 } : Room).slots) := by
  refine MetFree.of_bodySF (plainFor_of_name pn_3) hisR ?_
  intro p e s m args below meth c s₁ Bd hml0 hP hK
  obtain ⟨rfl, hZ, hh⟩ := hP
  have hx := Bd.exec
  have hby := Bd.bytes
  have hml : c.maxLocals = 1 := hml0
  have hown : s.vm.findClass "com/example/commitgate/commitgate/store/ColumnTypeOfPinLaw" = some m.cls := findClass_of_methodNamed Bd.named
  have hnm := (name_of_methodNamed Bd.named Bd.method).1
  have X0 : Stand p l e ({ frames := 0, cells := 0, slots := 0, locals := 0 } : Room) s m #[(.int (-16))] below meth c s₁ [] 0 0 := Stand.of_body Bd
  have e0 : s₁.heap = h0 := by rw [← hh, Bd.state]; rfl
  have N0 := Fr.nil n0
  have pre0 : ∀ t, Steps p.tables e below (s₁.setTop (mkF m 0 #[.val (.int (-16))] [])) t → Steps p.tables e below (s₁.setTop (entryFrame m #[(.int (-16))] 1)) t := fun t k => castTop (ef_3_I m (-16 : Int32)) k
  obtain ⟨T1, X1, e1, st1⟩ := getS2 X0 hx hZ hown (host := "") (Or.inl (hwi hw 19 rfl)) Via.refl e0 (S_TEXT.ext O0.2) (g := (mkF m 126 #[.val (.int (-16))] [])) rfl (hb hby d3_126)
  obtain ⟨fs, hr, hrun, hended, hW, hsame⟩ := X1.leave (v := some (.ref w_TEXT)) (fun h => by rw [Bd.returns] at h; cases h)
  refine ⟨_, _, pre0 _ ?_, hrun, hended, _, _, rfl, ?_, ⟨_, rfl⟩, hW, hsame.mono (by decide) (by decide)⟩
  · show St p e below s₁ (mkF m 0 #[.val (.int (-16))] []) _
    refine XS.iloadN X0.here hx rfl (hb hby d3_0) rfl ?_
    show St p e below s₁ (mkF m 1 #[.val (.int (-16))] [(.int (-16))]) _
    refine XS.bipush X0.here hx rfl (hb hby d3_1) ?_
    show St p e below s₁ (mkF m 3 #[.val (.int (-16))] [(.int (-6)), (.int (-16))]) _
    refine XS.icmpNo X0.here hx rfl (hb hby d3_3) rfl (feq (by decide : ¬ ((-16 : Int32) = (-6 : Int32)))).1 ?_
    show St p e below s₁ (mkF m 6 #[.val (.int (-16))] []) _
    refine XS.iloadN X0.here hx rfl (hb hby d3_6) rfl ?_
    show St p e below s₁ (mkF m 7 #[.val (.int (-16))] [(.int (-16))]) _
    refine XS.iconst X0.here hx rfl (hb hby d3_7) ?_
    show St p e below s₁ (mkF m 8 #[.val (.int (-16))] [(.int 5), (.int (-16))]) _
    refine XS.icmpNo X0.here hx rfl (hb hby d3_8) rfl (feq (by decide : ¬ ((-16 : Int32) = (5 : Int32)))).1 ?_
    show St p e below s₁ (mkF m 11 #[.val (.int (-16))] []) _
    refine XS.iloadN X0.here hx rfl (hb hby d3_11) rfl ?_
    show St p e below s₁ (mkF m 12 #[.val (.int (-16))] [(.int (-16))]) _
    refine XS.iconst X0.here hx rfl (hb hby d3_12) ?_
    show St p e below s₁ (mkF m 13 #[.val (.int (-16))] [(.int 4), (.int (-16))]) _
    refine XS.icmpNo X0.here hx rfl (hb hby d3_13) rfl (feq (by decide : ¬ ((-16 : Int32) = (4 : Int32)))).1 ?_
    show St p e below s₁ (mkF m 16 #[.val (.int (-16))] []) _
    refine XS.iloadN X0.here hx rfl (hb hby d3_16) rfl ?_
    show St p e below s₁ (mkF m 17 #[.val (.int (-16))] [(.int (-16))]) _
    refine XS.bipush X0.here hx rfl (hb hby d3_17) ?_
    show St p e below s₁ (mkF m 19 #[.val (.int (-16))] [(.int (-5)), (.int (-16))]) _
    refine XS.icmpYes X0.here hx rfl (pc0 := 19) (pc' := 26) rfl (hb hby d3_19) rfl (feq (by decide : ¬ ((-16 : Int32) = (-5 : Int32)))).2 (by decide) (by decide) ?_
    show St p e below s₁ (mkF m 26 #[.val (.int (-16))] []) _
    refine XS.iloadN X0.here hx rfl (hb hby d3_26) rfl ?_
    show St p e below s₁ (mkF m 27 #[.val (.int (-16))] [(.int (-16))]) _
    refine XS.iconst X0.here hx rfl (hb hby d3_27) ?_
    show St p e below s₁ (mkF m 28 #[.val (.int (-16))] [(.int 2), (.int (-16))]) _
    refine XS.icmpNo X0.here hx rfl (hb hby d3_28) rfl (feq (by decide : ¬ ((-16 : Int32) = (2 : Int32)))).1 ?_
    show St p e below s₁ (mkF m 31 #[.val (.int (-16))] []) _
    refine XS.iloadN X0.here hx rfl (hb hby d3_31) rfl ?_
    show St p e below s₁ (mkF m 32 #[.val (.int (-16))] [(.int (-16))]) _
    refine XS.iconst X0.here hx rfl (hb hby d3_32) ?_
    show St p e below s₁ (mkF m 33 #[.val (.int (-16))] [(.int 3), (.int (-16))]) _
    refine XS.icmpYes X0.here hx rfl (pc0 := 33) (pc' := 40) rfl (hb hby d3_33) rfl (feq (by decide : ¬ ((-16 : Int32) = (3 : Int32)))).2 (by decide) (by decide) ?_
    show St p e below s₁ (mkF m 40 #[.val (.int (-16))] []) _
    refine XS.iloadN X0.here hx rfl (hb hby d3_40) rfl ?_
    show St p e below s₁ (mkF m 41 #[.val (.int (-16))] [(.int (-16))]) _
    refine XS.bipush X0.here hx rfl (hb hby d3_41) ?_
    show St p e below s₁ (mkF m 43 #[.val (.int (-16))] [(.int 7), (.int (-16))]) _
    refine XS.icmpNo X0.here hx rfl (hb hby d3_43) rfl (feq (by decide : ¬ ((-16 : Int32) = (7 : Int32)))).1 ?_
    show St p e below s₁ (mkF m 46 #[.val (.int (-16))] []) _
    refine XS.iloadN X0.here hx rfl (hb hby d3_46) rfl ?_
    show St p e below s₁ (mkF m 47 #[.val (.int (-16))] [(.int (-16))]) _
    refine XS.bipush X0.here hx rfl (hb hby d3_47) ?_
    show St p e below s₁ (mkF m 49 #[.val (.int (-16))] [(.int 6), (.int (-16))]) _
    refine XS.icmpNo X0.here hx rfl (hb hby d3_49) rfl (feq (by decide : ¬ ((-16 : Int32) = (6 : Int32)))).1 ?_
    show St p e below s₁ (mkF m 52 #[.val (.int (-16))] []) _
    refine XS.iloadN X0.here hx rfl (hb hby d3_52) rfl ?_
    show St p e below s₁ (mkF m 53 #[.val (.int (-16))] [(.int (-16))]) _
    refine XS.bipush X0.here hx rfl (hb hby d3_53) ?_
    show St p e below s₁ (mkF m 55 #[.val (.int (-16))] [(.int 8), (.int (-16))]) _
    refine XS.icmpYes X0.here hx rfl (pc0 := 55) (pc' := 62) rfl (hb hby d3_55) rfl (feq (by decide : ¬ ((-16 : Int32) = (8 : Int32)))).2 (by decide) (by decide) ?_
    show St p e below s₁ (mkF m 62 #[.val (.int (-16))] []) _
    refine XS.iloadN X0.here hx rfl (hb hby d3_62) rfl ?_
    show St p e below s₁ (mkF m 63 #[.val (.int (-16))] [(.int (-16))]) _
    refine XS.bipush X0.here hx rfl (hb hby d3_63) ?_
    show St p e below s₁ (mkF m 65 #[.val (.int (-16))] [(.int (-7)), (.int (-16))]) _
    refine XS.icmpNo X0.here hx rfl (hb hby d3_65) rfl (feq (by decide : ¬ ((-16 : Int32) = (-7 : Int32)))).1 ?_
    show St p e below s₁ (mkF m 68 #[.val (.int (-16))] []) _
    refine XS.iloadN X0.here hx rfl (hb hby d3_68) rfl ?_
    show St p e below s₁ (mkF m 69 #[.val (.int (-16))] [(.int (-16))]) _
    refine XS.bipush X0.here hx rfl (hb hby d3_69) ?_
    show St p e below s₁ (mkF m 71 #[.val (.int (-16))] [(.int 16), (.int (-16))]) _
    refine XS.icmpYes X0.here hx rfl (pc0 := 71) (pc' := 78) rfl (hb hby d3_71) rfl (feq (by decide : ¬ ((-16 : Int32) = (16 : Int32)))).2 (by decide) (by decide) ?_
    show St p e below s₁ (mkF m 78 #[.val (.int (-16))] []) _
    refine XS.iloadN X0.here hx rfl (hb hby d3_78) rfl ?_
    show St p e below s₁ (mkF m 79 #[.val (.int (-16))] [(.int (-16))]) _
    refine XS.iconst X0.here hx rfl (hb hby d3_79) ?_
    show St p e below s₁ (mkF m 80 #[.val (.int (-16))] [(.int 1), (.int (-16))]) _
    refine XS.icmpNo X0.here hx rfl (hb hby d3_80) rfl (feq (by decide : ¬ ((-16 : Int32) = (1 : Int32)))).1 ?_
    show St p e below s₁ (mkF m 83 #[.val (.int (-16))] []) _
    refine XS.iloadN X0.here hx rfl (hb hby d3_83) rfl ?_
    show St p e below s₁ (mkF m 84 #[.val (.int (-16))] [(.int (-16))]) _
    refine XS.bipush X0.here hx rfl (hb hby d3_84) ?_
    show St p e below s₁ (mkF m 86 #[.val (.int (-16))] [(.int 12), (.int (-16))]) _
    refine XS.icmpNo X0.here hx rfl (hb hby d3_86) rfl (feq (by decide : ¬ ((-16 : Int32) = (12 : Int32)))).1 ?_
    show St p e below s₁ (mkF m 89 #[.val (.int (-16))] []) _
    refine XS.iloadN X0.here hx rfl (hb hby d3_89) rfl ?_
    show St p e below s₁ (mkF m 90 #[.val (.int (-16))] [(.int (-16))]) _
    refine XS.iconst X0.here hx rfl (hb hby d3_90) ?_
    show St p e below s₁ (mkF m 91 #[.val (.int (-16))] [(.int (-1)), (.int (-16))]) _
    refine XS.icmpNo X0.here hx rfl (hb hby d3_91) rfl (feq (by decide : ¬ ((-16 : Int32) = (-1 : Int32)))).1 ?_
    show St p e below s₁ (mkF m 94 #[.val (.int (-16))] []) _
    refine XS.iloadN X0.here hx rfl (hb hby d3_94) rfl ?_
    show St p e below s₁ (mkF m 95 #[.val (.int (-16))] [(.int (-16))]) _
    refine XS.bipush X0.here hx rfl (hb hby d3_95) ?_
    show St p e below s₁ (mkF m 97 #[.val (.int (-16))] [(.int (-15)), (.int (-16))]) _
    refine XS.icmpNo X0.here hx rfl (hb hby d3_97) rfl (feq (by decide : ¬ ((-16 : Int32) = (-15 : Int32)))).1 ?_
    show St p e below s₁ (mkF m 100 #[.val (.int (-16))] []) _
    refine XS.iloadN X0.here hx rfl (hb hby d3_100) rfl ?_
    show St p e below s₁ (mkF m 101 #[.val (.int (-16))] [(.int (-16))]) _
    refine XS.bipush X0.here hx rfl (hb hby d3_101) ?_
    show St p e below s₁ (mkF m 103 #[.val (.int (-16))] [(.int (-9)), (.int (-16))]) _
    refine XS.icmpNo X0.here hx rfl (hb hby d3_103) rfl (feq (by decide : ¬ ((-16 : Int32) = (-9 : Int32)))).1 ?_
    show St p e below s₁ (mkF m 106 #[.val (.int (-16))] []) _
    refine XS.iloadN X0.here hx rfl (hb hby d3_106) rfl ?_
    show St p e below s₁ (mkF m 107 #[.val (.int (-16))] [(.int (-16))]) _
    refine XS.bipush X0.here hx rfl (hb hby d3_107) ?_
    show St p e below s₁ (mkF m 109 #[.val (.int (-16))] [(.int (-16)), (.int (-16))]) _
    refine XS.icmpYes X0.here hx rfl (pc0 := 109) (pc' := 126) rfl (hb hby d3_109) rfl (teq (by decide : (-16 : Int32) = (-16 : Int32))).1 (by decide) (by decide) ?_
    show St p e below s₁ (mkF m 126 #[.val (.int (-16))] []) _
    refine st1 _ ?_
    show St p e below T1 (mkF m 129 #[.val (.int (-16))] [(.ref w_TEXT)]) _
    jvm_step X1.here [X1.here.top, hx, (hb hby d3_129), X1.method', Bd.returns, Value.isRef, FieldType.isReference]
    first | (intro acts; rw [hr _ acts rfl rfl rfl]) | rw [hr _ _ rfl rfl rfl]
    exact Steps.refl _
  · show Q_ct w_INTEGER w_DECIMAL w_FLOAT w_BOOLEAN w_TEXT w_OTHER (-16 : Int32) h0 n0 _ T1.heap _
    rw [e1]
    exact ⟨by rfl, N0, rfl⟩
theorem d3_112 : decode method_2_code 112 = .ok (.iload_n 0, 1) := by decide +kernel
theorem d3_113 : decode method_2_code 113 = .ok (.sipush 2005, 3) := by decide +kernel
theorem d3_116 : decode method_2_code 116 = .ok (.if_icmp .eq 10, 3) := by decide +kernel
set_option maxRecDepth 65536 in
set_option maxHeartbeats 40000000 in
theorem rm_exp_2005 (l : Launch) (Z : State) (a0 : Array Value) (hw : ∀ d ∈ tables_1, d.before a0 Z = true) (ws : List Jvm.Cond) (w_INTEGER : Addr) (w_DECIMAL : Addr) (w_FLOAT : Addr) (w_BOOLEAN : Addr) (w_TEXT : Addr) (w_OTHER : Addr) (h0 : Heap) (n0 : Nat) (Z0 : n0 ≤ h0.size) (S_INTEGER : Sta Z Z.heap "com/example/commitgate/commitgate/store/ColumnType" "INTEGER" "Lcom/example/commitgate/commitgate/store/ColumnType;" (.ref w_INTEGER)) (S_DECIMAL : Sta Z Z.heap "com/example/commitgate/commitgate/store/ColumnType" "DECIMAL" "Lcom/example/commitgate/commitgate/store/ColumnType;" (.ref w_DECIMAL)) (S_FLOAT : Sta Z Z.heap "com/example/commitgate/commitgate/store/ColumnType" "FLOAT" "Lcom/example/commitgate/commitgate/store/ColumnType;" (.ref w_FLOAT)) (S_BOOLEAN : Sta Z Z.heap "com/example/commitgate/commitgate/store/ColumnType" "BOOLEAN" "Lcom/example/commitgate/commitgate/store/ColumnType;" (.ref w_BOOLEAN)) (S_TEXT : Sta Z Z.heap "com/example/commitgate/commitgate/store/ColumnType" "TEXT" "Lcom/example/commitgate/commitgate/store/ColumnType;" (.ref w_TEXT)) (S_OTHER : Sta Z Z.heap "com/example/commitgate/commitgate/store/ColumnType" "OTHER" "Lcom/example/commitgate/commitgate/store/ColumnType;" (.ref w_OTHER)) (O0 : Old Z n0 h0) :
    MetFree l (⟨"com/example/commitgate/commitgate/store/ColumnTypeOfPinLaw", "expected", "(I)Lcom/example/commitgate/commitgate/store/ColumnType;"⟩ : MethodName) (head1 (Jvm.Cond.code (⟨"com/example/commitgate/commitgate/store/ColumnTypeOfPinLaw", "expected", "(I)Lcom/example/commitgate/commitgate/store/ColumnType;"⟩ : MethodName) method_2_code 1 (some (.object "com/example/commitgate/commitgate/store/ColumnType")) :: ws) ({ frames := 0, cells := 0, slots := 0, locals := 0 } : Room)) (fun a U => a = #[(.int 2005)] ∧ Z.Warmed39 U.vm ∧ U.heap = h0) (fun _ _ _ _ _ => True) (fun _ U o U' => ∃ v L, o = .returned v ∧ Q_ct w_INTEGER w_DECIMAL w_FLOAT w_BOOLEAN w_TEXT w_OTHER (2005 : Int32) h0 n0 v U'.heap L ∧ FrameEnd U o U' L ({ frames := 0, cells := 0, slots := 0, locals := 0 } : Room).cells ({ frames := 0, cells := 0, slots := 0, locals := 0 } : Room).slots) := by
  refine MetFree.of_bodySF (plainFor_of_name pn_3) hisR ?_
  intro p e s m args below meth c s₁ Bd hml0 hP hK
  obtain ⟨rfl, hZ, hh⟩ := hP
  have hx := Bd.exec
  have hby := Bd.bytes
  have hml : c.maxLocals = 1 := hml0
  have hown : s.vm.findClass "com/example/commitgate/commitgate/store/ColumnTypeOfPinLaw" = some m.cls := findClass_of_methodNamed Bd.named
  have hnm := (name_of_methodNamed Bd.named Bd.method).1
  have X0 : Stand p l e ({ frames := 0, cells := 0, slots := 0, locals := 0 } : Room) s m #[(.int 2005)] below meth c s₁ [] 0 0 := Stand.of_body Bd
  have e0 : s₁.heap = h0 := by rw [← hh, Bd.state]; rfl
  have N0 := Fr.nil n0
  have pre0 : ∀ t, Steps p.tables e below (s₁.setTop (mkF m 0 #[.val (.int 2005)] [])) t → Steps p.tables e below (s₁.setTop (entryFrame m #[(.int 2005)] 1)) t := fun t k => castTop (ef_3_I m (2005 : Int32)) k
  obtain ⟨T1, X1, e1, st1⟩ := getS2 X0 hx hZ hown (host := "") (Or.inl (hwi hw 19 rfl)) Via.refl e0 (S_TEXT.ext O0.2) (g := (mkF m 126 #[.val (.int 2005)] [])) rfl (hb hby d3_126)
  obtain ⟨fs, hr, hrun, hended, hW, hsame⟩ := X1.leave (v := some (.ref w_TEXT)) (fun h => by rw [Bd.returns] at h; cases h)
  refine ⟨_, _, pre0 _ ?_, hrun, hended, _, _, rfl, ?_, ⟨_, rfl⟩, hW, hsame.mono (by decide) (by decide)⟩
  · show St p e below s₁ (mkF m 0 #[.val (.int 2005)] []) _
    refine XS.iloadN X0.here hx rfl (hb hby d3_0) rfl ?_
    show St p e below s₁ (mkF m 1 #[.val (.int 2005)] [(.int 2005)]) _
    refine XS.bipush X0.here hx rfl (hb hby d3_1) ?_
    show St p e below s₁ (mkF m 3 #[.val (.int 2005)] [(.int (-6)), (.int 2005)]) _
    refine XS.icmpNo X0.here hx rfl (hb hby d3_3) rfl (feq (by decide : ¬ ((2005 : Int32) = (-6 : Int32)))).1 ?_
    show St p e below s₁ (mkF m 6 #[.val (.int 2005)] []) _
    refine XS.iloadN X0.here hx rfl (hb hby d3_6) rfl ?_
    show St p e below s₁ (mkF m 7 #[.val (.int 2005)] [(.int 2005)]) _
    refine XS.iconst X0.here hx rfl (hb hby d3_7) ?_
    show St p e below s₁ (mkF m 8 #[.val (.int 2005)] [(.int 5), (.int 2005)]) _
    refine XS.icmpNo X0.here hx rfl (hb hby d3_8) rfl (feq (by decide : ¬ ((2005 : Int32) = (5 : Int32)))).1 ?_
    show St p e below s₁ (mkF m 11 #[.val (.int 2005)] []) _
    refine XS.iloadN X0.here hx rfl (hb hby d3_11) rfl ?_
    show St p e below s₁ (mkF m 12 #[.val (.int 2005)] [(.int 2005)]) _
    refine XS.iconst X0.here hx rfl (hb hby d3_12) ?_
    show St p e below s₁ (mkF m 13 #[.val (.int 2005)] [(.int 4), (.int 2005)]) _
    refine XS.icmpNo X0.here hx rfl (hb hby d3_13) rfl (feq (by decide : ¬ ((2005 : Int32) = (4 : Int32)))).1 ?_
    show St p e below s₁ (mkF m 16 #[.val (.int 2005)] []) _
    refine XS.iloadN X0.here hx rfl (hb hby d3_16) rfl ?_
    show St p e below s₁ (mkF m 17 #[.val (.int 2005)] [(.int 2005)]) _
    refine XS.bipush X0.here hx rfl (hb hby d3_17) ?_
    show St p e below s₁ (mkF m 19 #[.val (.int 2005)] [(.int (-5)), (.int 2005)]) _
    refine XS.icmpYes X0.here hx rfl (pc0 := 19) (pc' := 26) rfl (hb hby d3_19) rfl (feq (by decide : ¬ ((2005 : Int32) = (-5 : Int32)))).2 (by decide) (by decide) ?_
    show St p e below s₁ (mkF m 26 #[.val (.int 2005)] []) _
    refine XS.iloadN X0.here hx rfl (hb hby d3_26) rfl ?_
    show St p e below s₁ (mkF m 27 #[.val (.int 2005)] [(.int 2005)]) _
    refine XS.iconst X0.here hx rfl (hb hby d3_27) ?_
    show St p e below s₁ (mkF m 28 #[.val (.int 2005)] [(.int 2), (.int 2005)]) _
    refine XS.icmpNo X0.here hx rfl (hb hby d3_28) rfl (feq (by decide : ¬ ((2005 : Int32) = (2 : Int32)))).1 ?_
    show St p e below s₁ (mkF m 31 #[.val (.int 2005)] []) _
    refine XS.iloadN X0.here hx rfl (hb hby d3_31) rfl ?_
    show St p e below s₁ (mkF m 32 #[.val (.int 2005)] [(.int 2005)]) _
    refine XS.iconst X0.here hx rfl (hb hby d3_32) ?_
    show St p e below s₁ (mkF m 33 #[.val (.int 2005)] [(.int 3), (.int 2005)]) _
    refine XS.icmpYes X0.here hx rfl (pc0 := 33) (pc' := 40) rfl (hb hby d3_33) rfl (feq (by decide : ¬ ((2005 : Int32) = (3 : Int32)))).2 (by decide) (by decide) ?_
    show St p e below s₁ (mkF m 40 #[.val (.int 2005)] []) _
    refine XS.iloadN X0.here hx rfl (hb hby d3_40) rfl ?_
    show St p e below s₁ (mkF m 41 #[.val (.int 2005)] [(.int 2005)]) _
    refine XS.bipush X0.here hx rfl (hb hby d3_41) ?_
    show St p e below s₁ (mkF m 43 #[.val (.int 2005)] [(.int 7), (.int 2005)]) _
    refine XS.icmpNo X0.here hx rfl (hb hby d3_43) rfl (feq (by decide : ¬ ((2005 : Int32) = (7 : Int32)))).1 ?_
    show St p e below s₁ (mkF m 46 #[.val (.int 2005)] []) _
    refine XS.iloadN X0.here hx rfl (hb hby d3_46) rfl ?_
    show St p e below s₁ (mkF m 47 #[.val (.int 2005)] [(.int 2005)]) _
    refine XS.bipush X0.here hx rfl (hb hby d3_47) ?_
    show St p e below s₁ (mkF m 49 #[.val (.int 2005)] [(.int 6), (.int 2005)]) _
    refine XS.icmpNo X0.here hx rfl (hb hby d3_49) rfl (feq (by decide : ¬ ((2005 : Int32) = (6 : Int32)))).1 ?_
    show St p e below s₁ (mkF m 52 #[.val (.int 2005)] []) _
    refine XS.iloadN X0.here hx rfl (hb hby d3_52) rfl ?_
    show St p e below s₁ (mkF m 53 #[.val (.int 2005)] [(.int 2005)]) _
    refine XS.bipush X0.here hx rfl (hb hby d3_53) ?_
    show St p e below s₁ (mkF m 55 #[.val (.int 2005)] [(.int 8), (.int 2005)]) _
    refine XS.icmpYes X0.here hx rfl (pc0 := 55) (pc' := 62) rfl (hb hby d3_55) rfl (feq (by decide : ¬ ((2005 : Int32) = (8 : Int32)))).2 (by decide) (by decide) ?_
    show St p e below s₁ (mkF m 62 #[.val (.int 2005)] []) _
    refine XS.iloadN X0.here hx rfl (hb hby d3_62) rfl ?_
    show St p e below s₁ (mkF m 63 #[.val (.int 2005)] [(.int 2005)]) _
    refine XS.bipush X0.here hx rfl (hb hby d3_63) ?_
    show St p e below s₁ (mkF m 65 #[.val (.int 2005)] [(.int (-7)), (.int 2005)]) _
    refine XS.icmpNo X0.here hx rfl (hb hby d3_65) rfl (feq (by decide : ¬ ((2005 : Int32) = (-7 : Int32)))).1 ?_
    show St p e below s₁ (mkF m 68 #[.val (.int 2005)] []) _
    refine XS.iloadN X0.here hx rfl (hb hby d3_68) rfl ?_
    show St p e below s₁ (mkF m 69 #[.val (.int 2005)] [(.int 2005)]) _
    refine XS.bipush X0.here hx rfl (hb hby d3_69) ?_
    show St p e below s₁ (mkF m 71 #[.val (.int 2005)] [(.int 16), (.int 2005)]) _
    refine XS.icmpYes X0.here hx rfl (pc0 := 71) (pc' := 78) rfl (hb hby d3_71) rfl (feq (by decide : ¬ ((2005 : Int32) = (16 : Int32)))).2 (by decide) (by decide) ?_
    show St p e below s₁ (mkF m 78 #[.val (.int 2005)] []) _
    refine XS.iloadN X0.here hx rfl (hb hby d3_78) rfl ?_
    show St p e below s₁ (mkF m 79 #[.val (.int 2005)] [(.int 2005)]) _
    refine XS.iconst X0.here hx rfl (hb hby d3_79) ?_
    show St p e below s₁ (mkF m 80 #[.val (.int 2005)] [(.int 1), (.int 2005)]) _
    refine XS.icmpNo X0.here hx rfl (hb hby d3_80) rfl (feq (by decide : ¬ ((2005 : Int32) = (1 : Int32)))).1 ?_
    show St p e below s₁ (mkF m 83 #[.val (.int 2005)] []) _
    refine XS.iloadN X0.here hx rfl (hb hby d3_83) rfl ?_
    show St p e below s₁ (mkF m 84 #[.val (.int 2005)] [(.int 2005)]) _
    refine XS.bipush X0.here hx rfl (hb hby d3_84) ?_
    show St p e below s₁ (mkF m 86 #[.val (.int 2005)] [(.int 12), (.int 2005)]) _
    refine XS.icmpNo X0.here hx rfl (hb hby d3_86) rfl (feq (by decide : ¬ ((2005 : Int32) = (12 : Int32)))).1 ?_
    show St p e below s₁ (mkF m 89 #[.val (.int 2005)] []) _
    refine XS.iloadN X0.here hx rfl (hb hby d3_89) rfl ?_
    show St p e below s₁ (mkF m 90 #[.val (.int 2005)] [(.int 2005)]) _
    refine XS.iconst X0.here hx rfl (hb hby d3_90) ?_
    show St p e below s₁ (mkF m 91 #[.val (.int 2005)] [(.int (-1)), (.int 2005)]) _
    refine XS.icmpNo X0.here hx rfl (hb hby d3_91) rfl (feq (by decide : ¬ ((2005 : Int32) = (-1 : Int32)))).1 ?_
    show St p e below s₁ (mkF m 94 #[.val (.int 2005)] []) _
    refine XS.iloadN X0.here hx rfl (hb hby d3_94) rfl ?_
    show St p e below s₁ (mkF m 95 #[.val (.int 2005)] [(.int 2005)]) _
    refine XS.bipush X0.here hx rfl (hb hby d3_95) ?_
    show St p e below s₁ (mkF m 97 #[.val (.int 2005)] [(.int (-15)), (.int 2005)]) _
    refine XS.icmpNo X0.here hx rfl (hb hby d3_97) rfl (feq (by decide : ¬ ((2005 : Int32) = (-15 : Int32)))).1 ?_
    show St p e below s₁ (mkF m 100 #[.val (.int 2005)] []) _
    refine XS.iloadN X0.here hx rfl (hb hby d3_100) rfl ?_
    show St p e below s₁ (mkF m 101 #[.val (.int 2005)] [(.int 2005)]) _
    refine XS.bipush X0.here hx rfl (hb hby d3_101) ?_
    show St p e below s₁ (mkF m 103 #[.val (.int 2005)] [(.int (-9)), (.int 2005)]) _
    refine XS.icmpNo X0.here hx rfl (hb hby d3_103) rfl (feq (by decide : ¬ ((2005 : Int32) = (-9 : Int32)))).1 ?_
    show St p e below s₁ (mkF m 106 #[.val (.int 2005)] []) _
    refine XS.iloadN X0.here hx rfl (hb hby d3_106) rfl ?_
    show St p e below s₁ (mkF m 107 #[.val (.int 2005)] [(.int 2005)]) _
    refine XS.bipush X0.here hx rfl (hb hby d3_107) ?_
    show St p e below s₁ (mkF m 109 #[.val (.int 2005)] [(.int (-16)), (.int 2005)]) _
    refine XS.icmpNo X0.here hx rfl (hb hby d3_109) rfl (feq (by decide : ¬ ((2005 : Int32) = (-16 : Int32)))).1 ?_
    show St p e below s₁ (mkF m 112 #[.val (.int 2005)] []) _
    refine XS.iloadN X0.here hx rfl (hb hby d3_112) rfl ?_
    show St p e below s₁ (mkF m 113 #[.val (.int 2005)] [(.int 2005)]) _
    refine XS.sipush X0.here hx rfl (hb hby d3_113) ?_
    show St p e below s₁ (mkF m 116 #[.val (.int 2005)] [(.int 2005), (.int 2005)]) _
    refine XS.icmpYes X0.here hx rfl (pc0 := 116) (pc' := 126) rfl (hb hby d3_116) rfl (teq (by decide : (2005 : Int32) = (2005 : Int32))).1 (by decide) (by decide) ?_
    show St p e below s₁ (mkF m 126 #[.val (.int 2005)] []) _
    refine st1 _ ?_
    show St p e below T1 (mkF m 129 #[.val (.int 2005)] [(.ref w_TEXT)]) _
    jvm_step X1.here [X1.here.top, hx, (hb hby d3_129), X1.method', Bd.returns, Value.isRef, FieldType.isReference]
    first | (intro acts; rw [hr _ acts rfl rfl rfl]) | rw [hr _ _ rfl rfl rfl]
    exact Steps.refl _
  · show Q_ct w_INTEGER w_DECIMAL w_FLOAT w_BOOLEAN w_TEXT w_OTHER (2005 : Int32) h0 n0 _ T1.heap _
    rw [e1]
    exact ⟨by rfl, N0, rfl⟩
theorem d3_119 : decode method_2_code 119 = .ok (.iload_n 0, 1) := by decide +kernel
theorem d3_120 : decode method_2_code 120 = .ok (.sipush 2011, 3) := by decide +kernel
theorem d3_123 : decode method_2_code 123 = .ok (.if_icmp .ne 7, 3) := by decide +kernel
set_option maxRecDepth 65536 in
set_option maxHeartbeats 40000000 in
theorem rm_exp_2011 (l : Launch) (Z : State) (a0 : Array Value) (hw : ∀ d ∈ tables_1, d.before a0 Z = true) (ws : List Jvm.Cond) (w_INTEGER : Addr) (w_DECIMAL : Addr) (w_FLOAT : Addr) (w_BOOLEAN : Addr) (w_TEXT : Addr) (w_OTHER : Addr) (h0 : Heap) (n0 : Nat) (Z0 : n0 ≤ h0.size) (S_INTEGER : Sta Z Z.heap "com/example/commitgate/commitgate/store/ColumnType" "INTEGER" "Lcom/example/commitgate/commitgate/store/ColumnType;" (.ref w_INTEGER)) (S_DECIMAL : Sta Z Z.heap "com/example/commitgate/commitgate/store/ColumnType" "DECIMAL" "Lcom/example/commitgate/commitgate/store/ColumnType;" (.ref w_DECIMAL)) (S_FLOAT : Sta Z Z.heap "com/example/commitgate/commitgate/store/ColumnType" "FLOAT" "Lcom/example/commitgate/commitgate/store/ColumnType;" (.ref w_FLOAT)) (S_BOOLEAN : Sta Z Z.heap "com/example/commitgate/commitgate/store/ColumnType" "BOOLEAN" "Lcom/example/commitgate/commitgate/store/ColumnType;" (.ref w_BOOLEAN)) (S_TEXT : Sta Z Z.heap "com/example/commitgate/commitgate/store/ColumnType" "TEXT" "Lcom/example/commitgate/commitgate/store/ColumnType;" (.ref w_TEXT)) (S_OTHER : Sta Z Z.heap "com/example/commitgate/commitgate/store/ColumnType" "OTHER" "Lcom/example/commitgate/commitgate/store/ColumnType;" (.ref w_OTHER)) (O0 : Old Z n0 h0) :
    MetFree l (⟨"com/example/commitgate/commitgate/store/ColumnTypeOfPinLaw", "expected", "(I)Lcom/example/commitgate/commitgate/store/ColumnType;"⟩ : MethodName) (head1 (Jvm.Cond.code (⟨"com/example/commitgate/commitgate/store/ColumnTypeOfPinLaw", "expected", "(I)Lcom/example/commitgate/commitgate/store/ColumnType;"⟩ : MethodName) method_2_code 1 (some (.object "com/example/commitgate/commitgate/store/ColumnType")) :: ws) ({ frames := 0, cells := 0, slots := 0, locals := 0 } : Room)) (fun a U => a = #[(.int 2011)] ∧ Z.Warmed39 U.vm ∧ U.heap = h0) (fun _ _ _ _ _ => True) (fun _ U o U' => ∃ v L, o = .returned v ∧ Q_ct w_INTEGER w_DECIMAL w_FLOAT w_BOOLEAN w_TEXT w_OTHER (2011 : Int32) h0 n0 v U'.heap L ∧ FrameEnd U o U' L ({ frames := 0, cells := 0, slots := 0, locals := 0 } : Room).cells ({ frames := 0, cells := 0, slots := 0, locals := 0 } : Room).slots) := by
  refine MetFree.of_bodySF (plainFor_of_name pn_3) hisR ?_
  intro p e s m args below meth c s₁ Bd hml0 hP hK
  obtain ⟨rfl, hZ, hh⟩ := hP
  have hx := Bd.exec
  have hby := Bd.bytes
  have hml : c.maxLocals = 1 := hml0
  have hown : s.vm.findClass "com/example/commitgate/commitgate/store/ColumnTypeOfPinLaw" = some m.cls := findClass_of_methodNamed Bd.named
  have hnm := (name_of_methodNamed Bd.named Bd.method).1
  have X0 : Stand p l e ({ frames := 0, cells := 0, slots := 0, locals := 0 } : Room) s m #[(.int 2011)] below meth c s₁ [] 0 0 := Stand.of_body Bd
  have e0 : s₁.heap = h0 := by rw [← hh, Bd.state]; rfl
  have N0 := Fr.nil n0
  have pre0 : ∀ t, Steps p.tables e below (s₁.setTop (mkF m 0 #[.val (.int 2011)] [])) t → Steps p.tables e below (s₁.setTop (entryFrame m #[(.int 2011)] 1)) t := fun t k => castTop (ef_3_I m (2011 : Int32)) k
  obtain ⟨T1, X1, e1, st1⟩ := getS2 X0 hx hZ hown (host := "") (Or.inl (hwi hw 19 rfl)) Via.refl e0 (S_TEXT.ext O0.2) (g := (mkF m 126 #[.val (.int 2011)] [])) rfl (hb hby d3_126)
  obtain ⟨fs, hr, hrun, hended, hW, hsame⟩ := X1.leave (v := some (.ref w_TEXT)) (fun h => by rw [Bd.returns] at h; cases h)
  refine ⟨_, _, pre0 _ ?_, hrun, hended, _, _, rfl, ?_, ⟨_, rfl⟩, hW, hsame.mono (by decide) (by decide)⟩
  · show St p e below s₁ (mkF m 0 #[.val (.int 2011)] []) _
    refine XS.iloadN X0.here hx rfl (hb hby d3_0) rfl ?_
    show St p e below s₁ (mkF m 1 #[.val (.int 2011)] [(.int 2011)]) _
    refine XS.bipush X0.here hx rfl (hb hby d3_1) ?_
    show St p e below s₁ (mkF m 3 #[.val (.int 2011)] [(.int (-6)), (.int 2011)]) _
    refine XS.icmpNo X0.here hx rfl (hb hby d3_3) rfl (feq (by decide : ¬ ((2011 : Int32) = (-6 : Int32)))).1 ?_
    show St p e below s₁ (mkF m 6 #[.val (.int 2011)] []) _
    refine XS.iloadN X0.here hx rfl (hb hby d3_6) rfl ?_
    show St p e below s₁ (mkF m 7 #[.val (.int 2011)] [(.int 2011)]) _
    refine XS.iconst X0.here hx rfl (hb hby d3_7) ?_
    show St p e below s₁ (mkF m 8 #[.val (.int 2011)] [(.int 5), (.int 2011)]) _
    refine XS.icmpNo X0.here hx rfl (hb hby d3_8) rfl (feq (by decide : ¬ ((2011 : Int32) = (5 : Int32)))).1 ?_
    show St p e below s₁ (mkF m 11 #[.val (.int 2011)] []) _
    refine XS.iloadN X0.here hx rfl (hb hby d3_11) rfl ?_
    show St p e below s₁ (mkF m 12 #[.val (.int 2011)] [(.int 2011)]) _
    refine XS.iconst X0.here hx rfl (hb hby d3_12) ?_
    show St p e below s₁ (mkF m 13 #[.val (.int 2011)] [(.int 4), (.int 2011)]) _
    refine XS.icmpNo X0.here hx rfl (hb hby d3_13) rfl (feq (by decide : ¬ ((2011 : Int32) = (4 : Int32)))).1 ?_
    show St p e below s₁ (mkF m 16 #[.val (.int 2011)] []) _
    refine XS.iloadN X0.here hx rfl (hb hby d3_16) rfl ?_
    show St p e below s₁ (mkF m 17 #[.val (.int 2011)] [(.int 2011)]) _
    refine XS.bipush X0.here hx rfl (hb hby d3_17) ?_
    show St p e below s₁ (mkF m 19 #[.val (.int 2011)] [(.int (-5)), (.int 2011)]) _
    refine XS.icmpYes X0.here hx rfl (pc0 := 19) (pc' := 26) rfl (hb hby d3_19) rfl (feq (by decide : ¬ ((2011 : Int32) = (-5 : Int32)))).2 (by decide) (by decide) ?_
    show St p e below s₁ (mkF m 26 #[.val (.int 2011)] []) _
    refine XS.iloadN X0.here hx rfl (hb hby d3_26) rfl ?_
    show St p e below s₁ (mkF m 27 #[.val (.int 2011)] [(.int 2011)]) _
    refine XS.iconst X0.here hx rfl (hb hby d3_27) ?_
    show St p e below s₁ (mkF m 28 #[.val (.int 2011)] [(.int 2), (.int 2011)]) _
    refine XS.icmpNo X0.here hx rfl (hb hby d3_28) rfl (feq (by decide : ¬ ((2011 : Int32) = (2 : Int32)))).1 ?_
    show St p e below s₁ (mkF m 31 #[.val (.int 2011)] []) _
    refine XS.iloadN X0.here hx rfl (hb hby d3_31) rfl ?_
    show St p e below s₁ (mkF m 32 #[.val (.int 2011)] [(.int 2011)]) _
    refine XS.iconst X0.here hx rfl (hb hby d3_32) ?_
    show St p e below s₁ (mkF m 33 #[.val (.int 2011)] [(.int 3), (.int 2011)]) _
    refine XS.icmpYes X0.here hx rfl (pc0 := 33) (pc' := 40) rfl (hb hby d3_33) rfl (feq (by decide : ¬ ((2011 : Int32) = (3 : Int32)))).2 (by decide) (by decide) ?_
    show St p e below s₁ (mkF m 40 #[.val (.int 2011)] []) _
    refine XS.iloadN X0.here hx rfl (hb hby d3_40) rfl ?_
    show St p e below s₁ (mkF m 41 #[.val (.int 2011)] [(.int 2011)]) _
    refine XS.bipush X0.here hx rfl (hb hby d3_41) ?_
    show St p e below s₁ (mkF m 43 #[.val (.int 2011)] [(.int 7), (.int 2011)]) _
    refine XS.icmpNo X0.here hx rfl (hb hby d3_43) rfl (feq (by decide : ¬ ((2011 : Int32) = (7 : Int32)))).1 ?_
    show St p e below s₁ (mkF m 46 #[.val (.int 2011)] []) _
    refine XS.iloadN X0.here hx rfl (hb hby d3_46) rfl ?_
    show St p e below s₁ (mkF m 47 #[.val (.int 2011)] [(.int 2011)]) _
    refine XS.bipush X0.here hx rfl (hb hby d3_47) ?_
    show St p e below s₁ (mkF m 49 #[.val (.int 2011)] [(.int 6), (.int 2011)]) _
    refine XS.icmpNo X0.here hx rfl (hb hby d3_49) rfl (feq (by decide : ¬ ((2011 : Int32) = (6 : Int32)))).1 ?_
    show St p e below s₁ (mkF m 52 #[.val (.int 2011)] []) _
    refine XS.iloadN X0.here hx rfl (hb hby d3_52) rfl ?_
    show St p e below s₁ (mkF m 53 #[.val (.int 2011)] [(.int 2011)]) _
    refine XS.bipush X0.here hx rfl (hb hby d3_53) ?_
    show St p e below s₁ (mkF m 55 #[.val (.int 2011)] [(.int 8), (.int 2011)]) _
    refine XS.icmpYes X0.here hx rfl (pc0 := 55) (pc' := 62) rfl (hb hby d3_55) rfl (feq (by decide : ¬ ((2011 : Int32) = (8 : Int32)))).2 (by decide) (by decide) ?_
    show St p e below s₁ (mkF m 62 #[.val (.int 2011)] []) _
    refine XS.iloadN X0.here hx rfl (hb hby d3_62) rfl ?_
    show St p e below s₁ (mkF m 63 #[.val (.int 2011)] [(.int 2011)]) _
    refine XS.bipush X0.here hx rfl (hb hby d3_63) ?_
    show St p e below s₁ (mkF m 65 #[.val (.int 2011)] [(.int (-7)), (.int 2011)]) _
    refine XS.icmpNo X0.here hx rfl (hb hby d3_65) rfl (feq (by decide : ¬ ((2011 : Int32) = (-7 : Int32)))).1 ?_
    show St p e below s₁ (mkF m 68 #[.val (.int 2011)] []) _
    refine XS.iloadN X0.here hx rfl (hb hby d3_68) rfl ?_
    show St p e below s₁ (mkF m 69 #[.val (.int 2011)] [(.int 2011)]) _
    refine XS.bipush X0.here hx rfl (hb hby d3_69) ?_
    show St p e below s₁ (mkF m 71 #[.val (.int 2011)] [(.int 16), (.int 2011)]) _
    refine XS.icmpYes X0.here hx rfl (pc0 := 71) (pc' := 78) rfl (hb hby d3_71) rfl (feq (by decide : ¬ ((2011 : Int32) = (16 : Int32)))).2 (by decide) (by decide) ?_
    show St p e below s₁ (mkF m 78 #[.val (.int 2011)] []) _
    refine XS.iloadN X0.here hx rfl (hb hby d3_78) rfl ?_
    show St p e below s₁ (mkF m 79 #[.val (.int 2011)] [(.int 2011)]) _
    refine XS.iconst X0.here hx rfl (hb hby d3_79) ?_
    show St p e below s₁ (mkF m 80 #[.val (.int 2011)] [(.int 1), (.int 2011)]) _
    refine XS.icmpNo X0.here hx rfl (hb hby d3_80) rfl (feq (by decide : ¬ ((2011 : Int32) = (1 : Int32)))).1 ?_
    show St p e below s₁ (mkF m 83 #[.val (.int 2011)] []) _
    refine XS.iloadN X0.here hx rfl (hb hby d3_83) rfl ?_
    show St p e below s₁ (mkF m 84 #[.val (.int 2011)] [(.int 2011)]) _
    refine XS.bipush X0.here hx rfl (hb hby d3_84) ?_
    show St p e below s₁ (mkF m 86 #[.val (.int 2011)] [(.int 12), (.int 2011)]) _
    refine XS.icmpNo X0.here hx rfl (hb hby d3_86) rfl (feq (by decide : ¬ ((2011 : Int32) = (12 : Int32)))).1 ?_
    show St p e below s₁ (mkF m 89 #[.val (.int 2011)] []) _
    refine XS.iloadN X0.here hx rfl (hb hby d3_89) rfl ?_
    show St p e below s₁ (mkF m 90 #[.val (.int 2011)] [(.int 2011)]) _
    refine XS.iconst X0.here hx rfl (hb hby d3_90) ?_
    show St p e below s₁ (mkF m 91 #[.val (.int 2011)] [(.int (-1)), (.int 2011)]) _
    refine XS.icmpNo X0.here hx rfl (hb hby d3_91) rfl (feq (by decide : ¬ ((2011 : Int32) = (-1 : Int32)))).1 ?_
    show St p e below s₁ (mkF m 94 #[.val (.int 2011)] []) _
    refine XS.iloadN X0.here hx rfl (hb hby d3_94) rfl ?_
    show St p e below s₁ (mkF m 95 #[.val (.int 2011)] [(.int 2011)]) _
    refine XS.bipush X0.here hx rfl (hb hby d3_95) ?_
    show St p e below s₁ (mkF m 97 #[.val (.int 2011)] [(.int (-15)), (.int 2011)]) _
    refine XS.icmpNo X0.here hx rfl (hb hby d3_97) rfl (feq (by decide : ¬ ((2011 : Int32) = (-15 : Int32)))).1 ?_
    show St p e below s₁ (mkF m 100 #[.val (.int 2011)] []) _
    refine XS.iloadN X0.here hx rfl (hb hby d3_100) rfl ?_
    show St p e below s₁ (mkF m 101 #[.val (.int 2011)] [(.int 2011)]) _
    refine XS.bipush X0.here hx rfl (hb hby d3_101) ?_
    show St p e below s₁ (mkF m 103 #[.val (.int 2011)] [(.int (-9)), (.int 2011)]) _
    refine XS.icmpNo X0.here hx rfl (hb hby d3_103) rfl (feq (by decide : ¬ ((2011 : Int32) = (-9 : Int32)))).1 ?_
    show St p e below s₁ (mkF m 106 #[.val (.int 2011)] []) _
    refine XS.iloadN X0.here hx rfl (hb hby d3_106) rfl ?_
    show St p e below s₁ (mkF m 107 #[.val (.int 2011)] [(.int 2011)]) _
    refine XS.bipush X0.here hx rfl (hb hby d3_107) ?_
    show St p e below s₁ (mkF m 109 #[.val (.int 2011)] [(.int (-16)), (.int 2011)]) _
    refine XS.icmpNo X0.here hx rfl (hb hby d3_109) rfl (feq (by decide : ¬ ((2011 : Int32) = (-16 : Int32)))).1 ?_
    show St p e below s₁ (mkF m 112 #[.val (.int 2011)] []) _
    refine XS.iloadN X0.here hx rfl (hb hby d3_112) rfl ?_
    show St p e below s₁ (mkF m 113 #[.val (.int 2011)] [(.int 2011)]) _
    refine XS.sipush X0.here hx rfl (hb hby d3_113) ?_
    show St p e below s₁ (mkF m 116 #[.val (.int 2011)] [(.int 2005), (.int 2011)]) _
    refine XS.icmpNo X0.here hx rfl (hb hby d3_116) rfl (feq (by decide : ¬ ((2011 : Int32) = (2005 : Int32)))).1 ?_
    show St p e below s₁ (mkF m 119 #[.val (.int 2011)] []) _
    refine XS.iloadN X0.here hx rfl (hb hby d3_119) rfl ?_
    show St p e below s₁ (mkF m 120 #[.val (.int 2011)] [(.int 2011)]) _
    refine XS.sipush X0.here hx rfl (hb hby d3_120) ?_
    show St p e below s₁ (mkF m 123 #[.val (.int 2011)] [(.int 2011), (.int 2011)]) _
    refine XS.icmpNo X0.here hx rfl (hb hby d3_123) rfl (teq (by decide : (2011 : Int32) = (2011 : Int32))).2 ?_
    show St p e below s₁ (mkF m 126 #[.val (.int 2011)] []) _
    refine st1 _ ?_
    show St p e below T1 (mkF m 129 #[.val (.int 2011)] [(.ref w_TEXT)]) _
    jvm_step X1.here [X1.here.top, hx, (hb hby d3_129), X1.method', Bd.returns, Value.isRef, FieldType.isReference]
    first | (intro acts; rw [hr _ acts rfl rfl rfl]) | rw [hr _ _ rfl rfl rfl]
    exact Steps.refl _
  · show Q_ct w_INTEGER w_DECIMAL w_FLOAT w_BOOLEAN w_TEXT w_OTHER (2011 : Int32) h0 n0 _ T1.heap _
    rw [e1]
    exact ⟨by rfl, N0, rfl⟩
theorem d3_130 : decode method_2_code 130 = .ok (.getstatic 27, 3) := by decide +kernel
theorem d3_133 : decode method_2_code 133 = .ok (.areturn, 1) := by decide +kernel
set_option maxRecDepth 65536 in
set_option maxHeartbeats 40000000 in
theorem rm_exp_dflt (l : Launch) (Z : State) (a0 : Array Value) (hw : ∀ d ∈ tables_1, d.before a0 Z = true) (ws : List Jvm.Cond) (p1 : Int32) (w_INTEGER : Addr) (w_DECIMAL : Addr) (w_FLOAT : Addr) (w_BOOLEAN : Addr) (w_TEXT : Addr) (w_OTHER : Addr) (h0 : Heap) (n0 : Nat) (Z0 : n0 ≤ h0.size) (S_INTEGER : Sta Z Z.heap "com/example/commitgate/commitgate/store/ColumnType" "INTEGER" "Lcom/example/commitgate/commitgate/store/ColumnType;" (.ref w_INTEGER)) (S_DECIMAL : Sta Z Z.heap "com/example/commitgate/commitgate/store/ColumnType" "DECIMAL" "Lcom/example/commitgate/commitgate/store/ColumnType;" (.ref w_DECIMAL)) (S_FLOAT : Sta Z Z.heap "com/example/commitgate/commitgate/store/ColumnType" "FLOAT" "Lcom/example/commitgate/commitgate/store/ColumnType;" (.ref w_FLOAT)) (S_BOOLEAN : Sta Z Z.heap "com/example/commitgate/commitgate/store/ColumnType" "BOOLEAN" "Lcom/example/commitgate/commitgate/store/ColumnType;" (.ref w_BOOLEAN)) (S_TEXT : Sta Z Z.heap "com/example/commitgate/commitgate/store/ColumnType" "TEXT" "Lcom/example/commitgate/commitgate/store/ColumnType;" (.ref w_TEXT)) (S_OTHER : Sta Z Z.heap "com/example/commitgate/commitgate/store/ColumnType" "OTHER" "Lcom/example/commitgate/commitgate/store/ColumnType;" (.ref w_OTHER)) (O0 : Old Z n0 h0) (hm_m6 : ¬ (p1 = (-6 : Int32))) (hm_5 : ¬ (p1 = (5 : Int32))) (hm_4 : ¬ (p1 = (4 : Int32))) (hm_m5 : ¬ (p1 = (-5 : Int32))) (hm_2 : ¬ (p1 = (2 : Int32))) (hm_3 : ¬ (p1 = (3 : Int32))) (hm_7 : ¬ (p1 = (7 : Int32))) (hm_6 : ¬ (p1 = (6 : Int32))) (hm_8 : ¬ (p1 = (8 : Int32))) (hm_m7 : ¬ (p1 = (-7 : Int32))) (hm_16 : ¬ (p1 = (16 : Int32))) (hm_1 : ¬ (p1 = (1 : Int32))) (hm_12 : ¬ (p1 = (12 : Int32))) (hm_m1 : ¬ (p1 = (-1 : Int32))) (hm_m15 : ¬ (p1 = (-15 : Int32))) (hm_m9 : ¬ (p1 = (-9 : Int32))) (hm_m16 : ¬ (p1 = (-16 : Int32))) (hm_2005 : ¬ (p1 = (2005 : Int32))) (hm_2011 : ¬ (p1 = (2011 : Int32))) :
    MetFree l (⟨"com/example/commitgate/commitgate/store/ColumnTypeOfPinLaw", "expected", "(I)Lcom/example/commitgate/commitgate/store/ColumnType;"⟩ : MethodName) (head1 (Jvm.Cond.code (⟨"com/example/commitgate/commitgate/store/ColumnTypeOfPinLaw", "expected", "(I)Lcom/example/commitgate/commitgate/store/ColumnType;"⟩ : MethodName) method_2_code 1 (some (.object "com/example/commitgate/commitgate/store/ColumnType")) :: ws) ({ frames := 0, cells := 0, slots := 0, locals := 0 } : Room)) (fun a U => a = #[(.int p1)] ∧ Z.Warmed39 U.vm ∧ U.heap = h0) (fun _ _ _ _ _ => True) (fun _ U o U' => ∃ v L, o = .returned v ∧ Q_ct w_INTEGER w_DECIMAL w_FLOAT w_BOOLEAN w_TEXT w_OTHER p1 h0 n0 v U'.heap L ∧ FrameEnd U o U' L ({ frames := 0, cells := 0, slots := 0, locals := 0 } : Room).cells ({ frames := 0, cells := 0, slots := 0, locals := 0 } : Room).slots) := by
  refine MetFree.of_bodySF (plainFor_of_name pn_3) hisR ?_
  intro p e s m args below meth c s₁ Bd hml0 hP hK
  obtain ⟨rfl, hZ, hh⟩ := hP
  have hx := Bd.exec
  have hby := Bd.bytes
  have hml : c.maxLocals = 1 := hml0
  have hown : s.vm.findClass "com/example/commitgate/commitgate/store/ColumnTypeOfPinLaw" = some m.cls := findClass_of_methodNamed Bd.named
  have hnm := (name_of_methodNamed Bd.named Bd.method).1
  have X0 : Stand p l e ({ frames := 0, cells := 0, slots := 0, locals := 0 } : Room) s m #[(.int p1)] below meth c s₁ [] 0 0 := Stand.of_body Bd
  have e0 : s₁.heap = h0 := by rw [← hh, Bd.state]; rfl
  have N0 := Fr.nil n0
  have pre0 : ∀ t, Steps p.tables e below (s₁.setTop (mkF m 0 #[.val (.int p1)] [])) t → Steps p.tables e below (s₁.setTop (entryFrame m #[(.int p1)] 1)) t := fun t k => castTop (ef_3_I m p1) k
  obtain ⟨T1, X1, e1, st1⟩ := getS2 X0 hx hZ hown (host := "") (Or.inl (hwi hw 18 rfl)) Via.refl e0 (S_OTHER.ext O0.2) (g := (mkF m 130 #[.val (.int p1)] [])) rfl (hb hby d3_130)
  obtain ⟨fs, hr, hrun, hended, hW, hsame⟩ := X1.leave (v := some (.ref w_OTHER)) (fun h => by rw [Bd.returns] at h; cases h)
  refine ⟨_, _, pre0 _ ?_, hrun, hended, _, _, rfl, ?_, ⟨_, rfl⟩, hW, hsame.mono (by decide) (by decide)⟩
  · show St p e below s₁ (mkF m 0 #[.val (.int p1)] []) _
    refine XS.iloadN X0.here hx rfl (hb hby d3_0) rfl ?_
    show St p e below s₁ (mkF m 1 #[.val (.int p1)] [(.int p1)]) _
    refine XS.bipush X0.here hx rfl (hb hby d3_1) ?_
    show St p e below s₁ (mkF m 3 #[.val (.int p1)] [(.int (-6)), (.int p1)]) _
    refine XS.icmpNo X0.here hx rfl (hb hby d3_3) rfl (feq hm_m6).1 ?_
    show St p e below s₁ (mkF m 6 #[.val (.int p1)] []) _
    refine XS.iloadN X0.here hx rfl (hb hby d3_6) rfl ?_
    show St p e below s₁ (mkF m 7 #[.val (.int p1)] [(.int p1)]) _
    refine XS.iconst X0.here hx rfl (hb hby d3_7) ?_
    show St p e below s₁ (mkF m 8 #[.val (.int p1)] [(.int 5), (.int p1)]) _
    refine XS.icmpNo X0.here hx rfl (hb hby d3_8) rfl (feq hm_5).1 ?_
    show St p e below s₁ (mkF m 11 #[.val (.int p1)] []) _
    refine XS.iloadN X0.here hx rfl (hb hby d3_11) rfl ?_
    show St p e below s₁ (mkF m 12 #[.val (.int p1)] [(.int p1)]) _
    refine XS.iconst X0.here hx rfl (hb hby d3_12) ?_
    show St p e below s₁ (mkF m 13 #[.val (.int p1)] [(.int 4), (.int p1)]) _
    refine XS.icmpNo X0.here hx rfl (hb hby d3_13) rfl (feq hm_4).1 ?_
    show St p e below s₁ (mkF m 16 #[.val (.int p1)] []) _
    refine XS.iloadN X0.here hx rfl (hb hby d3_16) rfl ?_
    show St p e below s₁ (mkF m 17 #[.val (.int p1)] [(.int p1)]) _
    refine XS.bipush X0.here hx rfl (hb hby d3_17) ?_
    show St p e below s₁ (mkF m 19 #[.val (.int p1)] [(.int (-5)), (.int p1)]) _
    refine XS.icmpYes X0.here hx rfl (pc0 := 19) (pc' := 26) rfl (hb hby d3_19) rfl (feq hm_m5).2 (by decide) (by decide) ?_
    show St p e below s₁ (mkF m 26 #[.val (.int p1)] []) _
    refine XS.iloadN X0.here hx rfl (hb hby d3_26) rfl ?_
    show St p e below s₁ (mkF m 27 #[.val (.int p1)] [(.int p1)]) _
    refine XS.iconst X0.here hx rfl (hb hby d3_27) ?_
    show St p e below s₁ (mkF m 28 #[.val (.int p1)] [(.int 2), (.int p1)]) _
    refine XS.icmpNo X0.here hx rfl (hb hby d3_28) rfl (feq hm_2).1 ?_
    show St p e below s₁ (mkF m 31 #[.val (.int p1)] []) _
    refine XS.iloadN X0.here hx rfl (hb hby d3_31) rfl ?_
    show St p e below s₁ (mkF m 32 #[.val (.int p1)] [(.int p1)]) _
    refine XS.iconst X0.here hx rfl (hb hby d3_32) ?_
    show St p e below s₁ (mkF m 33 #[.val (.int p1)] [(.int 3), (.int p1)]) _
    refine XS.icmpYes X0.here hx rfl (pc0 := 33) (pc' := 40) rfl (hb hby d3_33) rfl (feq hm_3).2 (by decide) (by decide) ?_
    show St p e below s₁ (mkF m 40 #[.val (.int p1)] []) _
    refine XS.iloadN X0.here hx rfl (hb hby d3_40) rfl ?_
    show St p e below s₁ (mkF m 41 #[.val (.int p1)] [(.int p1)]) _
    refine XS.bipush X0.here hx rfl (hb hby d3_41) ?_
    show St p e below s₁ (mkF m 43 #[.val (.int p1)] [(.int 7), (.int p1)]) _
    refine XS.icmpNo X0.here hx rfl (hb hby d3_43) rfl (feq hm_7).1 ?_
    show St p e below s₁ (mkF m 46 #[.val (.int p1)] []) _
    refine XS.iloadN X0.here hx rfl (hb hby d3_46) rfl ?_
    show St p e below s₁ (mkF m 47 #[.val (.int p1)] [(.int p1)]) _
    refine XS.bipush X0.here hx rfl (hb hby d3_47) ?_
    show St p e below s₁ (mkF m 49 #[.val (.int p1)] [(.int 6), (.int p1)]) _
    refine XS.icmpNo X0.here hx rfl (hb hby d3_49) rfl (feq hm_6).1 ?_
    show St p e below s₁ (mkF m 52 #[.val (.int p1)] []) _
    refine XS.iloadN X0.here hx rfl (hb hby d3_52) rfl ?_
    show St p e below s₁ (mkF m 53 #[.val (.int p1)] [(.int p1)]) _
    refine XS.bipush X0.here hx rfl (hb hby d3_53) ?_
    show St p e below s₁ (mkF m 55 #[.val (.int p1)] [(.int 8), (.int p1)]) _
    refine XS.icmpYes X0.here hx rfl (pc0 := 55) (pc' := 62) rfl (hb hby d3_55) rfl (feq hm_8).2 (by decide) (by decide) ?_
    show St p e below s₁ (mkF m 62 #[.val (.int p1)] []) _
    refine XS.iloadN X0.here hx rfl (hb hby d3_62) rfl ?_
    show St p e below s₁ (mkF m 63 #[.val (.int p1)] [(.int p1)]) _
    refine XS.bipush X0.here hx rfl (hb hby d3_63) ?_
    show St p e below s₁ (mkF m 65 #[.val (.int p1)] [(.int (-7)), (.int p1)]) _
    refine XS.icmpNo X0.here hx rfl (hb hby d3_65) rfl (feq hm_m7).1 ?_
    show St p e below s₁ (mkF m 68 #[.val (.int p1)] []) _
    refine XS.iloadN X0.here hx rfl (hb hby d3_68) rfl ?_
    show St p e below s₁ (mkF m 69 #[.val (.int p1)] [(.int p1)]) _
    refine XS.bipush X0.here hx rfl (hb hby d3_69) ?_
    show St p e below s₁ (mkF m 71 #[.val (.int p1)] [(.int 16), (.int p1)]) _
    refine XS.icmpYes X0.here hx rfl (pc0 := 71) (pc' := 78) rfl (hb hby d3_71) rfl (feq hm_16).2 (by decide) (by decide) ?_
    show St p e below s₁ (mkF m 78 #[.val (.int p1)] []) _
    refine XS.iloadN X0.here hx rfl (hb hby d3_78) rfl ?_
    show St p e below s₁ (mkF m 79 #[.val (.int p1)] [(.int p1)]) _
    refine XS.iconst X0.here hx rfl (hb hby d3_79) ?_
    show St p e below s₁ (mkF m 80 #[.val (.int p1)] [(.int 1), (.int p1)]) _
    refine XS.icmpNo X0.here hx rfl (hb hby d3_80) rfl (feq hm_1).1 ?_
    show St p e below s₁ (mkF m 83 #[.val (.int p1)] []) _
    refine XS.iloadN X0.here hx rfl (hb hby d3_83) rfl ?_
    show St p e below s₁ (mkF m 84 #[.val (.int p1)] [(.int p1)]) _
    refine XS.bipush X0.here hx rfl (hb hby d3_84) ?_
    show St p e below s₁ (mkF m 86 #[.val (.int p1)] [(.int 12), (.int p1)]) _
    refine XS.icmpNo X0.here hx rfl (hb hby d3_86) rfl (feq hm_12).1 ?_
    show St p e below s₁ (mkF m 89 #[.val (.int p1)] []) _
    refine XS.iloadN X0.here hx rfl (hb hby d3_89) rfl ?_
    show St p e below s₁ (mkF m 90 #[.val (.int p1)] [(.int p1)]) _
    refine XS.iconst X0.here hx rfl (hb hby d3_90) ?_
    show St p e below s₁ (mkF m 91 #[.val (.int p1)] [(.int (-1)), (.int p1)]) _
    refine XS.icmpNo X0.here hx rfl (hb hby d3_91) rfl (feq hm_m1).1 ?_
    show St p e below s₁ (mkF m 94 #[.val (.int p1)] []) _
    refine XS.iloadN X0.here hx rfl (hb hby d3_94) rfl ?_
    show St p e below s₁ (mkF m 95 #[.val (.int p1)] [(.int p1)]) _
    refine XS.bipush X0.here hx rfl (hb hby d3_95) ?_
    show St p e below s₁ (mkF m 97 #[.val (.int p1)] [(.int (-15)), (.int p1)]) _
    refine XS.icmpNo X0.here hx rfl (hb hby d3_97) rfl (feq hm_m15).1 ?_
    show St p e below s₁ (mkF m 100 #[.val (.int p1)] []) _
    refine XS.iloadN X0.here hx rfl (hb hby d3_100) rfl ?_
    show St p e below s₁ (mkF m 101 #[.val (.int p1)] [(.int p1)]) _
    refine XS.bipush X0.here hx rfl (hb hby d3_101) ?_
    show St p e below s₁ (mkF m 103 #[.val (.int p1)] [(.int (-9)), (.int p1)]) _
    refine XS.icmpNo X0.here hx rfl (hb hby d3_103) rfl (feq hm_m9).1 ?_
    show St p e below s₁ (mkF m 106 #[.val (.int p1)] []) _
    refine XS.iloadN X0.here hx rfl (hb hby d3_106) rfl ?_
    show St p e below s₁ (mkF m 107 #[.val (.int p1)] [(.int p1)]) _
    refine XS.bipush X0.here hx rfl (hb hby d3_107) ?_
    show St p e below s₁ (mkF m 109 #[.val (.int p1)] [(.int (-16)), (.int p1)]) _
    refine XS.icmpNo X0.here hx rfl (hb hby d3_109) rfl (feq hm_m16).1 ?_
    show St p e below s₁ (mkF m 112 #[.val (.int p1)] []) _
    refine XS.iloadN X0.here hx rfl (hb hby d3_112) rfl ?_
    show St p e below s₁ (mkF m 113 #[.val (.int p1)] [(.int p1)]) _
    refine XS.sipush X0.here hx rfl (hb hby d3_113) ?_
    show St p e below s₁ (mkF m 116 #[.val (.int p1)] [(.int 2005), (.int p1)]) _
    refine XS.icmpNo X0.here hx rfl (hb hby d3_116) rfl (feq hm_2005).1 ?_
    show St p e below s₁ (mkF m 119 #[.val (.int p1)] []) _
    refine XS.iloadN X0.here hx rfl (hb hby d3_119) rfl ?_
    show St p e below s₁ (mkF m 120 #[.val (.int p1)] [(.int p1)]) _
    refine XS.sipush X0.here hx rfl (hb hby d3_120) ?_
    show St p e below s₁ (mkF m 123 #[.val (.int p1)] [(.int 2011), (.int p1)]) _
    refine XS.icmpYes X0.here hx rfl (pc0 := 123) (pc' := 130) rfl (hb hby d3_123) rfl (feq hm_2011).2 (by decide) (by decide) ?_
    show St p e below s₁ (mkF m 130 #[.val (.int p1)] []) _
    refine st1 _ ?_
    show St p e below T1 (mkF m 133 #[.val (.int p1)] [(.ref w_OTHER)]) _
    jvm_step X1.here [X1.here.top, hx, (hb hby d3_133), X1.method', Bd.returns, Value.isRef, FieldType.isReference]
    first | (intro acts; rw [hr _ acts rfl rfl rfl]) | rw [hr _ _ rfl rfl rfl]
    exact Steps.refl _
  · show Q_ct w_INTEGER w_DECIMAL w_FLOAT w_BOOLEAN w_TEXT w_OTHER p1 h0 n0 _ T1.heap _
    rw [e1]
    exact ⟨by unfold own_ct; simp only [hm_m6, hm_5, hm_4, hm_m5, hm_2, hm_3, hm_7, hm_6, hm_8, hm_m7, hm_16, hm_1, hm_12, hm_m1, hm_m15, hm_m9, hm_m16, hm_2005, hm_2011, or_self, if_false], N0, rfl⟩
theorem rm_exp_all (l : Launch) (Z : State) (a0 : Array Value) (hw : ∀ d ∈ tables_1, d.before a0 Z = true) (ws : List Jvm.Cond) (p1 : Int32) (w_INTEGER : Addr) (w_DECIMAL : Addr) (w_FLOAT : Addr) (w_BOOLEAN : Addr) (w_TEXT : Addr) (w_OTHER : Addr) (h0 : Heap) (n0 : Nat) (Z0 : n0 ≤ h0.size) (S_INTEGER : Sta Z Z.heap "com/example/commitgate/commitgate/store/ColumnType" "INTEGER" "Lcom/example/commitgate/commitgate/store/ColumnType;" (.ref w_INTEGER)) (S_DECIMAL : Sta Z Z.heap "com/example/commitgate/commitgate/store/ColumnType" "DECIMAL" "Lcom/example/commitgate/commitgate/store/ColumnType;" (.ref w_DECIMAL)) (S_FLOAT : Sta Z Z.heap "com/example/commitgate/commitgate/store/ColumnType" "FLOAT" "Lcom/example/commitgate/commitgate/store/ColumnType;" (.ref w_FLOAT)) (S_BOOLEAN : Sta Z Z.heap "com/example/commitgate/commitgate/store/ColumnType" "BOOLEAN" "Lcom/example/commitgate/commitgate/store/ColumnType;" (.ref w_BOOLEAN)) (S_TEXT : Sta Z Z.heap "com/example/commitgate/commitgate/store/ColumnType" "TEXT" "Lcom/example/commitgate/commitgate/store/ColumnType;" (.ref w_TEXT)) (S_OTHER : Sta Z Z.heap "com/example/commitgate/commitgate/store/ColumnType" "OTHER" "Lcom/example/commitgate/commitgate/store/ColumnType;" (.ref w_OTHER)) (O0 : Old Z n0 h0) :
    MetFree l (⟨"com/example/commitgate/commitgate/store/ColumnTypeOfPinLaw", "expected", "(I)Lcom/example/commitgate/commitgate/store/ColumnType;"⟩ : MethodName) (head1 (Jvm.Cond.code (⟨"com/example/commitgate/commitgate/store/ColumnTypeOfPinLaw", "expected", "(I)Lcom/example/commitgate/commitgate/store/ColumnType;"⟩ : MethodName) method_2_code 1 (some (.object "com/example/commitgate/commitgate/store/ColumnType")) :: ws) ({ frames := 0, cells := 0, slots := 0, locals := 0 } : Room)) (fun a U => a = #[(.int p1)] ∧ Z.Warmed39 U.vm ∧ U.heap = h0) (fun _ _ _ _ _ => True) (fun _ U o U' => ∃ v L, o = .returned v ∧ Q_ct w_INTEGER w_DECIMAL w_FLOAT w_BOOLEAN w_TEXT w_OTHER p1 h0 n0 v U'.heap L ∧ FrameEnd U o U' L ({ frames := 0, cells := 0, slots := 0, locals := 0 } : Room).cells ({ frames := 0, cells := 0, slots := 0, locals := 0 } : Room).slots) := by
  by_cases hm_m6 : p1 = (-6 : Int32)
  · subst hm_m6; exact rm_exp_m6 l Z a0 hw ws w_INTEGER w_DECIMAL w_FLOAT w_BOOLEAN w_TEXT w_OTHER h0 n0 Z0 S_INTEGER S_DECIMAL S_FLOAT S_BOOLEAN S_TEXT S_OTHER O0
  by_cases hm_5 : p1 = (5 : Int32)
  · subst hm_5; exact rm_exp_5 l Z a0 hw ws w_INTEGER w_DECIMAL w_FLOAT w_BOOLEAN w_TEXT w_OTHER h0 n0 Z0 S_INTEGER S_DECIMAL S_FLOAT S_BOOLEAN S_TEXT S_OTHER O0
  by_cases hm_4 : p1 = (4 : Int32)
  · subst hm_4; exact rm_exp_4 l Z a0 hw ws w_INTEGER w_DECIMAL w_FLOAT w_BOOLEAN w_TEXT w_OTHER h0 n0 Z0 S_INTEGER S_DECIMAL S_FLOAT S_BOOLEAN S_TEXT S_OTHER O0
  by_cases hm_m5 : p1 = (-5 : Int32)
  · subst hm_m5; exact rm_exp_m5 l Z a0 hw ws w_INTEGER w_DECIMAL w_FLOAT w_BOOLEAN w_TEXT w_OTHER h0 n0 Z0 S_INTEGER S_DECIMAL S_FLOAT S_BOOLEAN S_TEXT S_OTHER O0
  by_cases hm_2 : p1 = (2 : Int32)
  · subst hm_2; exact rm_exp_2 l Z a0 hw ws w_INTEGER w_DECIMAL w_FLOAT w_BOOLEAN w_TEXT w_OTHER h0 n0 Z0 S_INTEGER S_DECIMAL S_FLOAT S_BOOLEAN S_TEXT S_OTHER O0
  by_cases hm_3 : p1 = (3 : Int32)
  · subst hm_3; exact rm_exp_3 l Z a0 hw ws w_INTEGER w_DECIMAL w_FLOAT w_BOOLEAN w_TEXT w_OTHER h0 n0 Z0 S_INTEGER S_DECIMAL S_FLOAT S_BOOLEAN S_TEXT S_OTHER O0
  by_cases hm_7 : p1 = (7 : Int32)
  · subst hm_7; exact rm_exp_7 l Z a0 hw ws w_INTEGER w_DECIMAL w_FLOAT w_BOOLEAN w_TEXT w_OTHER h0 n0 Z0 S_INTEGER S_DECIMAL S_FLOAT S_BOOLEAN S_TEXT S_OTHER O0
  by_cases hm_6 : p1 = (6 : Int32)
  · subst hm_6; exact rm_exp_6 l Z a0 hw ws w_INTEGER w_DECIMAL w_FLOAT w_BOOLEAN w_TEXT w_OTHER h0 n0 Z0 S_INTEGER S_DECIMAL S_FLOAT S_BOOLEAN S_TEXT S_OTHER O0
  by_cases hm_8 : p1 = (8 : Int32)
  · subst hm_8; exact rm_exp_8 l Z a0 hw ws w_INTEGER w_DECIMAL w_FLOAT w_BOOLEAN w_TEXT w_OTHER h0 n0 Z0 S_INTEGER S_DECIMAL S_FLOAT S_BOOLEAN S_TEXT S_OTHER O0
  by_cases hm_m7 : p1 = (-7 : Int32)
  · subst hm_m7; exact rm_exp_m7 l Z a0 hw ws w_INTEGER w_DECIMAL w_FLOAT w_BOOLEAN w_TEXT w_OTHER h0 n0 Z0 S_INTEGER S_DECIMAL S_FLOAT S_BOOLEAN S_TEXT S_OTHER O0
  by_cases hm_16 : p1 = (16 : Int32)
  · subst hm_16; exact rm_exp_16 l Z a0 hw ws w_INTEGER w_DECIMAL w_FLOAT w_BOOLEAN w_TEXT w_OTHER h0 n0 Z0 S_INTEGER S_DECIMAL S_FLOAT S_BOOLEAN S_TEXT S_OTHER O0
  by_cases hm_1 : p1 = (1 : Int32)
  · subst hm_1; exact rm_exp_1 l Z a0 hw ws w_INTEGER w_DECIMAL w_FLOAT w_BOOLEAN w_TEXT w_OTHER h0 n0 Z0 S_INTEGER S_DECIMAL S_FLOAT S_BOOLEAN S_TEXT S_OTHER O0
  by_cases hm_12 : p1 = (12 : Int32)
  · subst hm_12; exact rm_exp_12 l Z a0 hw ws w_INTEGER w_DECIMAL w_FLOAT w_BOOLEAN w_TEXT w_OTHER h0 n0 Z0 S_INTEGER S_DECIMAL S_FLOAT S_BOOLEAN S_TEXT S_OTHER O0
  by_cases hm_m1 : p1 = (-1 : Int32)
  · subst hm_m1; exact rm_exp_m1 l Z a0 hw ws w_INTEGER w_DECIMAL w_FLOAT w_BOOLEAN w_TEXT w_OTHER h0 n0 Z0 S_INTEGER S_DECIMAL S_FLOAT S_BOOLEAN S_TEXT S_OTHER O0
  by_cases hm_m15 : p1 = (-15 : Int32)
  · subst hm_m15; exact rm_exp_m15 l Z a0 hw ws w_INTEGER w_DECIMAL w_FLOAT w_BOOLEAN w_TEXT w_OTHER h0 n0 Z0 S_INTEGER S_DECIMAL S_FLOAT S_BOOLEAN S_TEXT S_OTHER O0
  by_cases hm_m9 : p1 = (-9 : Int32)
  · subst hm_m9; exact rm_exp_m9 l Z a0 hw ws w_INTEGER w_DECIMAL w_FLOAT w_BOOLEAN w_TEXT w_OTHER h0 n0 Z0 S_INTEGER S_DECIMAL S_FLOAT S_BOOLEAN S_TEXT S_OTHER O0
  by_cases hm_m16 : p1 = (-16 : Int32)
  · subst hm_m16; exact rm_exp_m16 l Z a0 hw ws w_INTEGER w_DECIMAL w_FLOAT w_BOOLEAN w_TEXT w_OTHER h0 n0 Z0 S_INTEGER S_DECIMAL S_FLOAT S_BOOLEAN S_TEXT S_OTHER O0
  by_cases hm_2005 : p1 = (2005 : Int32)
  · subst hm_2005; exact rm_exp_2005 l Z a0 hw ws w_INTEGER w_DECIMAL w_FLOAT w_BOOLEAN w_TEXT w_OTHER h0 n0 Z0 S_INTEGER S_DECIMAL S_FLOAT S_BOOLEAN S_TEXT S_OTHER O0
  by_cases hm_2011 : p1 = (2011 : Int32)
  · subst hm_2011; exact rm_exp_2011 l Z a0 hw ws w_INTEGER w_DECIMAL w_FLOAT w_BOOLEAN w_TEXT w_OTHER h0 n0 Z0 S_INTEGER S_DECIMAL S_FLOAT S_BOOLEAN S_TEXT S_OTHER O0
  exact rm_exp_dflt l Z a0 hw ws p1 w_INTEGER w_DECIMAL w_FLOAT w_BOOLEAN w_TEXT w_OTHER h0 n0 Z0 S_INTEGER S_DECIMAL S_FLOAT S_BOOLEAN S_TEXT S_OTHER O0 hm_m6 hm_5 hm_4 hm_m5 hm_2 hm_3 hm_7 hm_6 hm_8 hm_m7 hm_16 hm_1 hm_12 hm_m1 hm_m15 hm_m9 hm_m16 hm_2005 hm_2011
def own_bi (w_INTEGER w_DECIMAL w_FLOAT w_BOOLEAN w_TEXT w_OTHER : Addr) (x : Int32) : Addr := if x < (4 : Int32) then w_INTEGER else if x < (6 : Int32) then w_DECIMAL else if x < (9 : Int32) then w_FLOAT else if x < (11 : Int32) then w_BOOLEAN else if x < (19 : Int32) then w_TEXT else w_OTHER
theorem d1_0 : decode method_3_code 0 = .ok (.iload_n 0, 1) := by decide +kernel
theorem d1_1 : decode method_3_code 1 = .ok (.iconst 4, 1) := by decide +kernel
theorem d1_2 : decode method_3_code 2 = .ok (.if_icmp .ge 7, 3) := by decide +kernel
theorem d1_5 : decode method_3_code 5 = .ok (.getstatic 9, 3) := by decide +kernel
theorem d1_8 : decode method_3_code 8 = .ok (.areturn, 1) := by decide +kernel
theorem pn_1 : plainName "com/example/commitgate/commitgate/store/ColumnTypeOfPinLaw" = true := by first | (simp [plainName, overriddenIn]; done) | decide +kernel
theorem ef_1_I (m : MethodId) (x0 : Int32) : entryFrame m #[(.int x0)] 1 = mkF m 0 #[.val (.int x0)] [] := by first | (simp [entryFrame, mkF, argsToLocals, Value.category]; done) | rfl
def Q_bi (w_INTEGER w_DECIMAL w_FLOAT w_BOOLEAN w_TEXT w_OTHER : Addr) (p1 : Int32) (h0 : Heap) (n0 : Nat) (v : Option Value) (h : Heap) (L : List Loc) : Prop := v = some (.ref (own_bi w_INTEGER w_DECIMAL w_FLOAT w_BOOLEAN w_TEXT w_OTHER p1)) ∧ Fr n0 L ∧ h = h0
set_option maxRecDepth 65536 in
set_option maxHeartbeats 40000000 in
theorem rm_byi_0 (l : Launch) (Z : State) (a0 : Array Value) (hw : ∀ d ∈ tables_1, d.before a0 Z = true) (ws : List Jvm.Cond) (p1 : Int32) (w_INTEGER : Addr) (w_DECIMAL : Addr) (w_FLOAT : Addr) (w_BOOLEAN : Addr) (w_TEXT : Addr) (w_OTHER : Addr) (h0 : Heap) (n0 : Nat) (Z0 : n0 ≤ h0.size) (S_INTEGER : Sta Z Z.heap "com/example/commitgate/commitgate/store/ColumnType" "INTEGER" "Lcom/example/commitgate/commitgate/store/ColumnType;" (.ref w_INTEGER)) (S_DECIMAL : Sta Z Z.heap "com/example/commitgate/commitgate/store/ColumnType" "DECIMAL" "Lcom/example/commitgate/commitgate/store/ColumnType;" (.ref w_DECIMAL)) (S_FLOAT : Sta Z Z.heap "com/example/commitgate/commitgate/store/ColumnType" "FLOAT" "Lcom/example/commitgate/commitgate/store/ColumnType;" (.ref w_FLOAT)) (S_BOOLEAN : Sta Z Z.heap "com/example/commitgate/commitgate/store/ColumnType" "BOOLEAN" "Lcom/example/commitgate/commitgate/store/ColumnType;" (.ref w_BOOLEAN)) (S_TEXT : Sta Z Z.heap "com/example/commitgate/commitgate/store/ColumnType" "TEXT" "Lcom/example/commitgate/commitgate/store/ColumnType;" (.ref w_TEXT)) (S_OTHER : Sta Z Z.heap "com/example/commitgate/commitgate/store/ColumnType" "OTHER" "Lcom/example/commitgate/commitgate/store/ColumnType;" (.ref w_OTHER)) (O0 : Old Z n0 h0) (hm_4 : p1 < (4 : Int32)) :
    MetFree l (⟨"com/example/commitgate/commitgate/store/ColumnTypeOfPinLaw", "byIndex", "(I)Lcom/example/commitgate/commitgate/store/ColumnType;"⟩ : MethodName) (head1 (Jvm.Cond.code (⟨"com/example/commitgate/commitgate/store/ColumnTypeOfPinLaw", "byIndex", "(I)Lcom/example/commitgate/commitgate/store/ColumnType;"⟩ : MethodName) method_3_code 1 (some (.object "com/example/commitgate/commitgate/store/ColumnType")) :: ws) ({ frames := 0, cells := 0, slots := 0, locals := 0 } : Room)) (fun a U => a = #[(.int p1)] ∧ Z.Warmed39 U.vm ∧ U.heap = h0) (fun _ _ _ _ _ => True) (fun _ U o U' => ∃ v L, o = .returned v ∧ Q_bi w_INTEGER w_DECIMAL w_FLOAT w_BOOLEAN w_TEXT w_OTHER p1 h0 n0 v U'.heap L ∧ FrameEnd U o U' L ({ frames := 0, cells := 0, slots := 0, locals := 0 } : Room).cells ({ frames := 0, cells := 0, slots := 0, locals := 0 } : Room).slots) := by
  refine MetFree.of_bodySF (plainFor_of_name pn_1) hisR ?_
  intro p e s m args below meth c s₁ Bd hml0 hP hK
  obtain ⟨rfl, hZ, hh⟩ := hP
  have hx := Bd.exec
  have hby := Bd.bytes
  have hml : c.maxLocals = 1 := hml0
  have hown : s.vm.findClass "com/example/commitgate/commitgate/store/ColumnTypeOfPinLaw" = some m.cls := findClass_of_methodNamed Bd.named
  have hnm := (name_of_methodNamed Bd.named Bd.method).1
  have X0 : Stand p l e ({ frames := 0, cells := 0, slots := 0, locals := 0 } : Room) s m #[(.int p1)] below meth c s₁ [] 0 0 := Stand.of_body Bd
  have e0 : s₁.heap = h0 := by rw [← hh, Bd.state]; rfl
  have N0 := Fr.nil n0
  have pre0 : ∀ t, Steps p.tables e below (s₁.setTop (mkF m 0 #[.val (.int p1)] [])) t → Steps p.tables e below (s₁.setTop (entryFrame m #[(.int p1)] 1)) t := fun t k => castTop (ef_1_I m p1) k
  obtain ⟨T1, X1, e1, st1⟩ := getS2 X0 hx hZ hown (host := "") (Or.inl (hwi hw 6 rfl)) Via.refl e0 (S_INTEGER.ext O0.2) (g := (mkF m 5 #[.val (.int p1)] [])) rfl (hb hby d1_5)
  obtain ⟨fs, hr, hrun, hended, hW, hsame⟩ := X1.leave (v := some (.ref w_INTEGER)) (fun h => by rw [Bd.returns] at h; cases h)
  refine ⟨_, _, pre0 _ ?_, hrun, hended, _, _, rfl, ?_, ⟨_, rfl⟩, hW, hsame.mono (by decide) (by decide)⟩
  · show St p e below s₁ (mkF m 0 #[.val (.int p1)] []) _
    refine XS.iloadN X0.here hx rfl (hb hby d1_0) rfl ?_
    show St p e below s₁ (mkF m 1 #[.val (.int p1)] [(.int p1)]) _
    refine XS.iconst X0.here hx rfl (hb hby d1_1) ?_
    show St p e below s₁ (mkF m 2 #[.val (.int p1)] [(.int 4), (.int p1)]) _
    refine XS.icmpNo X0.here hx rfl (hb hby d1_2) rfl (tlt hm_4).2.1 ?_
    show St p e below s₁ (mkF m 5 #[.val (.int p1)] []) _
    refine st1 _ ?_
    show St p e below T1 (mkF m 8 #[.val (.int p1)] [(.ref w_INTEGER)]) _
    jvm_step X1.here [X1.here.top, hx, (hb hby d1_8), X1.method', Bd.returns, Value.isRef, FieldType.isReference]
    first | (intro acts; rw [hr _ acts rfl rfl rfl]) | rw [hr _ _ rfl rfl rfl]
    exact Steps.refl _
  · show Q_bi w_INTEGER w_DECIMAL w_FLOAT w_BOOLEAN w_TEXT w_OTHER p1 h0 n0 _ T1.heap _
    rw [e1]
    exact ⟨by unfold own_bi; simp only [hm_4, if_true, if_false], N0, rfl⟩
theorem d1_9 : decode method_3_code 9 = .ok (.iload_n 0, 1) := by decide +kernel
theorem d1_10 : decode method_3_code 10 = .ok (.bipush 6, 2) := by decide +kernel
theorem d1_12 : decode method_3_code 12 = .ok (.if_icmp .ge 7, 3) := by decide +kernel
theorem d1_15 : decode method_3_code 15 = .ok (.getstatic 15, 3) := by decide +kernel
theorem d1_18 : decode method_3_code 18 = .ok (.areturn, 1) := by decide +kernel
set_option maxRecDepth 65536 in
set_option maxHeartbeats 40000000 in
theorem rm_byi_1 (l : Launch) (Z : State) (a0 : Array Value) (hw : ∀ d ∈ tables_1, d.before a0 Z = true) (ws : List Jvm.Cond) (p1 : Int32) (w_INTEGER : Addr) (w_DECIMAL : Addr) (w_FLOAT : Addr) (w_BOOLEAN : Addr) (w_TEXT : Addr) (w_OTHER : Addr) (h0 : Heap) (n0 : Nat) (Z0 : n0 ≤ h0.size) (S_INTEGER : Sta Z Z.heap "com/example/commitgate/commitgate/store/ColumnType" "INTEGER" "Lcom/example/commitgate/commitgate/store/ColumnType;" (.ref w_INTEGER)) (S_DECIMAL : Sta Z Z.heap "com/example/commitgate/commitgate/store/ColumnType" "DECIMAL" "Lcom/example/commitgate/commitgate/store/ColumnType;" (.ref w_DECIMAL)) (S_FLOAT : Sta Z Z.heap "com/example/commitgate/commitgate/store/ColumnType" "FLOAT" "Lcom/example/commitgate/commitgate/store/ColumnType;" (.ref w_FLOAT)) (S_BOOLEAN : Sta Z Z.heap "com/example/commitgate/commitgate/store/ColumnType" "BOOLEAN" "Lcom/example/commitgate/commitgate/store/ColumnType;" (.ref w_BOOLEAN)) (S_TEXT : Sta Z Z.heap "com/example/commitgate/commitgate/store/ColumnType" "TEXT" "Lcom/example/commitgate/commitgate/store/ColumnType;" (.ref w_TEXT)) (S_OTHER : Sta Z Z.heap "com/example/commitgate/commitgate/store/ColumnType" "OTHER" "Lcom/example/commitgate/commitgate/store/ColumnType;" (.ref w_OTHER)) (O0 : Old Z n0 h0) (hm_4 : ¬ (p1 < (4 : Int32))) (hm_6 : p1 < (6 : Int32)) :
    MetFree l (⟨"com/example/commitgate/commitgate/store/ColumnTypeOfPinLaw", "byIndex", "(I)Lcom/example/commitgate/commitgate/store/ColumnType;"⟩ : MethodName) (head1 (Jvm.Cond.code (⟨"com/example/commitgate/commitgate/store/ColumnTypeOfPinLaw", "byIndex", "(I)Lcom/example/commitgate/commitgate/store/ColumnType;"⟩ : MethodName) method_3_code 1 (some (.object "com/example/commitgate/commitgate/store/ColumnType")) :: ws) ({ frames := 0, cells := 0, slots := 0, locals := 0 } : Room)) (fun a U => a = #[(.int p1)] ∧ Z.Warmed39 U.vm ∧ U.heap = h0) (fun _ _ _ _ _ => True) (fun _ U o U' => ∃ v L, o = .returned v ∧ Q_bi w_INTEGER w_DECIMAL w_FLOAT w_BOOLEAN w_TEXT w_OTHER p1 h0 n0 v U'.heap L ∧ FrameEnd U o U' L ({ frames := 0, cells := 0, slots := 0, locals := 0 } : Room).cells ({ frames := 0, cells := 0, slots := 0, locals := 0 } : Room).slots) := by
  refine MetFree.of_bodySF (plainFor_of_name pn_1) hisR ?_
  intro p e s m args below meth c s₁ Bd hml0 hP hK
  obtain ⟨rfl, hZ, hh⟩ := hP
  have hx := Bd.exec
  have hby := Bd.bytes
  have hml : c.maxLocals = 1 := hml0
  have hown : s.vm.findClass "com/example/commitgate/commitgate/store/ColumnTypeOfPinLaw" = some m.cls := findClass_of_methodNamed Bd.named
  have hnm := (name_of_methodNamed Bd.named Bd.method).1
  have X0 : Stand p l e ({ frames := 0, cells := 0, slots := 0, locals := 0 } : Room) s m #[(.int p1)] below meth c s₁ [] 0 0 := Stand.of_body Bd
  have e0 : s₁.heap = h0 := by rw [← hh, Bd.state]; rfl
  have N0 := Fr.nil n0
  have pre0 : ∀ t, Steps p.tables e below (s₁.setTop (mkF m 0 #[.val (.int p1)] [])) t → Steps p.tables e below (s₁.setTop (entryFrame m #[(.int p1)] 1)) t := fun t k => castTop (ef_1_I m p1) k
  obtain ⟨T1, X1, e1, st1⟩ := getS2 X0 hx hZ hown (host := "") (Or.inl (hwi hw 25 rfl)) Via.refl e0 (S_DECIMAL.ext O0.2) (g := (mkF m 15 #[.val (.int p1)] [])) rfl (hb hby d1_15)
  obtain ⟨fs, hr, hrun, hended, hW, hsame⟩ := X1.leave (v := some (.ref w_DECIMAL)) (fun h => by rw [Bd.returns] at h; cases h)
  refine ⟨_, _, pre0 _ ?_, hrun, hended, _, _, rfl, ?_, ⟨_, rfl⟩, hW, hsame.mono (by decide) (by decide)⟩
  · show St p e below s₁ (mkF m 0 #[.val (.int p1)] []) _
    refine XS.iloadN X0.here hx rfl (hb hby d1_0) rfl ?_
    show St p e below s₁ (mkF m 1 #[.val (.int p1)] [(.int p1)]) _
    refine XS.iconst X0.here hx rfl (hb hby d1_1) ?_
    show St p e below s₁ (mkF m 2 #[.val (.int p1)] [(.int 4), (.int p1)]) _
    refine XS.icmpYes X0.here hx rfl (pc0 := 2) (pc' := 9) rfl (hb hby d1_2) rfl (flt hm_4).2.1 (by decide) (by decide) ?_
    show St p e below s₁ (mkF m 9 #[.val (.int p1)] []) _
    refine XS.iloadN X0.here hx rfl (hb hby d1_9) rfl ?_
    show St p e below s₁ (mkF m 10 #[.val (.int p1)] [(.int p1)]) _
    refine XS.bipush X0.here hx rfl (hb hby d1_10) ?_
    show St p e below s₁ (mkF m 12 #[.val (.int p1)] [(.int 6), (.int p1)]) _
    refine XS.icmpNo X0.here hx rfl (hb hby d1_12) rfl (tlt hm_6).2.1 ?_
    show St p e below s₁ (mkF m 15 #[.val (.int p1)] []) _
    refine st1 _ ?_
    show St p e below T1 (mkF m 18 #[.val (.int p1)] [(.ref w_DECIMAL)]) _
    jvm_step X1.here [X1.here.top, hx, (hb hby d1_18), X1.method', Bd.returns, Value.isRef, FieldType.isReference]
    first | (intro acts; rw [hr _ acts rfl rfl rfl]) | rw [hr _ _ rfl rfl rfl]
    exact Steps.refl _
  · show Q_bi w_INTEGER w_DECIMAL w_FLOAT w_BOOLEAN w_TEXT w_OTHER p1 h0 n0 _ T1.heap _
    rw [e1]
    exact ⟨by unfold own_bi; simp only [hm_4, hm_6, if_true, if_false], N0, rfl⟩
theorem d1_19 : decode method_3_code 19 = .ok (.iload_n 0, 1) := by decide +kernel
theorem d1_20 : decode method_3_code 20 = .ok (.bipush 9, 2) := by decide +kernel
theorem d1_22 : decode method_3_code 22 = .ok (.if_icmp .ge 7, 3) := by decide +kernel
theorem d1_25 : decode method_3_code 25 = .ok (.getstatic 18, 3) := by decide +kernel
theorem d1_28 : decode method_3_code 28 = .ok (.areturn, 1) := by decide +kernel
set_option maxRecDepth 65536 in
set_option maxHeartbeats 40000000 in
theorem rm_byi_2 (l : Launch) (Z : State) (a0 : Array Value) (hw : ∀ d ∈ tables_1, d.before a0 Z = true) (ws : List Jvm.Cond) (p1 : Int32) (w_INTEGER : Addr) (w_DECIMAL : Addr) (w_FLOAT : Addr) (w_BOOLEAN : Addr) (w_TEXT : Addr) (w_OTHER : Addr) (h0 : Heap) (n0 : Nat) (Z0 : n0 ≤ h0.size) (S_INTEGER : Sta Z Z.heap "com/example/commitgate/commitgate/store/ColumnType" "INTEGER" "Lcom/example/commitgate/commitgate/store/ColumnType;" (.ref w_INTEGER)) (S_DECIMAL : Sta Z Z.heap "com/example/commitgate/commitgate/store/ColumnType" "DECIMAL" "Lcom/example/commitgate/commitgate/store/ColumnType;" (.ref w_DECIMAL)) (S_FLOAT : Sta Z Z.heap "com/example/commitgate/commitgate/store/ColumnType" "FLOAT" "Lcom/example/commitgate/commitgate/store/ColumnType;" (.ref w_FLOAT)) (S_BOOLEAN : Sta Z Z.heap "com/example/commitgate/commitgate/store/ColumnType" "BOOLEAN" "Lcom/example/commitgate/commitgate/store/ColumnType;" (.ref w_BOOLEAN)) (S_TEXT : Sta Z Z.heap "com/example/commitgate/commitgate/store/ColumnType" "TEXT" "Lcom/example/commitgate/commitgate/store/ColumnType;" (.ref w_TEXT)) (S_OTHER : Sta Z Z.heap "com/example/commitgate/commitgate/store/ColumnType" "OTHER" "Lcom/example/commitgate/commitgate/store/ColumnType;" (.ref w_OTHER)) (O0 : Old Z n0 h0) (hm_4 : ¬ (p1 < (4 : Int32))) (hm_6 : ¬ (p1 < (6 : Int32))) (hm_9 : p1 < (9 : Int32)) :
    MetFree l (⟨"com/example/commitgate/commitgate/store/ColumnTypeOfPinLaw", "byIndex", "(I)Lcom/example/commitgate/commitgate/store/ColumnType;"⟩ : MethodName) (head1 (Jvm.Cond.code (⟨"com/example/commitgate/commitgate/store/ColumnTypeOfPinLaw", "byIndex", "(I)Lcom/example/commitgate/commitgate/store/ColumnType;"⟩ : MethodName) method_3_code 1 (some (.object "com/example/commitgate/commitgate/store/ColumnType")) :: ws) ({ frames := 0, cells := 0, slots := 0, locals := 0 } : Room)) (fun a U => a = #[(.int p1)] ∧ Z.Warmed39 U.vm ∧ U.heap = h0) (fun _ _ _ _ _ => True) (fun _ U o U' => ∃ v L, o = .returned v ∧ Q_bi w_INTEGER w_DECIMAL w_FLOAT w_BOOLEAN w_TEXT w_OTHER p1 h0 n0 v U'.heap L ∧ FrameEnd U o U' L ({ frames := 0, cells := 0, slots := 0, locals := 0 } : Room).cells ({ frames := 0, cells := 0, slots := 0, locals := 0 } : Room).slots) := by
  refine MetFree.of_bodySF (plainFor_of_name pn_1) hisR ?_
  intro p e s m args below meth c s₁ Bd hml0 hP hK
  obtain ⟨rfl, hZ, hh⟩ := hP
  have hx := Bd.exec
  have hby := Bd.bytes
  have hml : c.maxLocals = 1 := hml0
  have hown : s.vm.findClass "com/example/commitgate/commitgate/store/ColumnTypeOfPinLaw" = some m.cls := findClass_of_methodNamed Bd.named
  have hnm := (name_of_methodNamed Bd.named Bd.method).1
  have X0 : Stand p l e ({ frames := 0, cells := 0, slots := 0, locals := 0 } : Room) s m #[(.int p1)] below meth c s₁ [] 0 0 := Stand.of_body Bd
  have e0 : s₁.heap = h0 := by rw [← hh, Bd.state]; rfl
  have N0 := Fr.nil n0
  have pre0 : ∀ t, Steps p.tables e below (s₁.setTop (mkF m 0 #[.val (.int p1)] [])) t → Steps p.tables e below (s₁.setTop (entryFrame m #[(.int p1)] 1)) t := fun t k => castTop (ef_1_I m p1) k
  obtain ⟨T1, X1, e1, st1⟩ := getS2 X0 hx hZ hown (host := "") (Or.inl (hwi hw 24 rfl)) Via.refl e0 (S_FLOAT.ext O0.2) (g := (mkF m 25 #[.val (.int p1)] [])) rfl (hb hby d1_25)
  obtain ⟨fs, hr, hrun, hended, hW, hsame⟩ := X1.leave (v := some (.ref w_FLOAT)) (fun h => by rw [Bd.returns] at h; cases h)
  refine ⟨_, _, pre0 _ ?_, hrun, hended, _, _, rfl, ?_, ⟨_, rfl⟩, hW, hsame.mono (by decide) (by decide)⟩
  · show St p e below s₁ (mkF m 0 #[.val (.int p1)] []) _
    refine XS.iloadN X0.here hx rfl (hb hby d1_0) rfl ?_
    show St p e below s₁ (mkF m 1 #[.val (.int p1)] [(.int p1)]) _
    refine XS.iconst X0.here hx rfl (hb hby d1_1) ?_
    show St p e below s₁ (mkF m 2 #[.val (.int p1)] [(.int 4), (.int p1)]) _
    refine XS.icmpYes X0.here hx rfl (pc0 := 2) (pc' := 9) rfl (hb hby d1_2) rfl (flt hm_4).2.1 (by decide) (by decide) ?_
    show St p e below s₁ (mkF m 9 #[.val (.int p1)] []) _
    refine XS.iloadN X0.here hx rfl (hb hby d1_9) rfl ?_
    show St p e below s₁ (mkF m 10 #[.val (.int p1)] [(.int p1)]) _
    refine XS.bipush X0.here hx rfl (hb hby d1_10) ?_
    show St p e below s₁ (mkF m 12 #[.val (.int p1)] [(.int 6), (.int p1)]) _
    refine XS.icmpYes X0.here hx rfl (pc0 := 12) (pc' := 19) rfl (hb hby d1_12) rfl (flt hm_6).2.1 (by decide) (by decide) ?_
    show St p e below s₁ (mkF m 19 #[.val (.int p1)] []) _
    refine XS.iloadN X0.here hx rfl (hb hby d1_19) rfl ?_
    show St p e below s₁ (mkF m 20 #[.val (.int p1)] [(.int p1)]) _
    refine XS.bipush X0.here hx rfl (hb hby d1_20) ?_
    show St p e below s₁ (mkF m 22 #[.val (.int p1)] [(.int 9), (.int p1)]) _
    refine XS.icmpNo X0.here hx rfl (hb hby d1_22) rfl (tlt hm_9).2.1 ?_
    show St p e below s₁ (mkF m 25 #[.val (.int p1)] []) _
    refine st1 _ ?_
    show St p e below T1 (mkF m 28 #[.val (.int p1)] [(.ref w_FLOAT)]) _
    jvm_step X1.here [X1.here.top, hx, (hb hby d1_28), X1.method', Bd.returns, Value.isRef, FieldType.isReference]
    first | (intro acts; rw [hr _ acts rfl rfl rfl]) | rw [hr _ _ rfl rfl rfl]
    exact Steps.refl _
  · show Q_bi w_INTEGER w_DECIMAL w_FLOAT w_BOOLEAN w_TEXT w_OTHER p1 h0 n0 _ T1.heap _
    rw [e1]
    exact ⟨by unfold own_bi; simp only [hm_4, hm_6, hm_9, if_true, if_false], N0, rfl⟩
theorem d1_29 : decode method_3_code 29 = .ok (.iload_n 0, 1) := by decide +kernel
theorem d1_30 : decode method_3_code 30 = .ok (.bipush 11, 2) := by decide +kernel
theorem d1_32 : decode method_3_code 32 = .ok (.if_icmp .ge 7, 3) := by decide +kernel
theorem d1_35 : decode method_3_code 35 = .ok (.getstatic 21, 3) := by decide +kernel
theorem d1_38 : decode method_3_code 38 = .ok (.areturn, 1) := by decide +kernel
set_option maxRecDepth 65536 in
set_option maxHeartbeats 40000000 in
theorem rm_byi_3 (l : Launch) (Z : State) (a0 : Array Value) (hw : ∀ d ∈ tables_1, d.before a0 Z = true) (ws : List Jvm.Cond) (p1 : Int32) (w_INTEGER : Addr) (w_DECIMAL : Addr) (w_FLOAT : Addr) (w_BOOLEAN : Addr) (w_TEXT : Addr) (w_OTHER : Addr) (h0 : Heap) (n0 : Nat) (Z0 : n0 ≤ h0.size) (S_INTEGER : Sta Z Z.heap "com/example/commitgate/commitgate/store/ColumnType" "INTEGER" "Lcom/example/commitgate/commitgate/store/ColumnType;" (.ref w_INTEGER)) (S_DECIMAL : Sta Z Z.heap "com/example/commitgate/commitgate/store/ColumnType" "DECIMAL" "Lcom/example/commitgate/commitgate/store/ColumnType;" (.ref w_DECIMAL)) (S_FLOAT : Sta Z Z.heap "com/example/commitgate/commitgate/store/ColumnType" "FLOAT" "Lcom/example/commitgate/commitgate/store/ColumnType;" (.ref w_FLOAT)) (S_BOOLEAN : Sta Z Z.heap "com/example/commitgate/commitgate/store/ColumnType" "BOOLEAN" "Lcom/example/commitgate/commitgate/store/ColumnType;" (.ref w_BOOLEAN)) (S_TEXT : Sta Z Z.heap "com/example/commitgate/commitgate/store/ColumnType" "TEXT" "Lcom/example/commitgate/commitgate/store/ColumnType;" (.ref w_TEXT)) (S_OTHER : Sta Z Z.heap "com/example/commitgate/commitgate/store/ColumnType" "OTHER" "Lcom/example/commitgate/commitgate/store/ColumnType;" (.ref w_OTHER)) (O0 : Old Z n0 h0) (hm_4 : ¬ (p1 < (4 : Int32))) (hm_6 : ¬ (p1 < (6 : Int32))) (hm_9 : ¬ (p1 < (9 : Int32))) (hm_11 : p1 < (11 : Int32)) :
    MetFree l (⟨"com/example/commitgate/commitgate/store/ColumnTypeOfPinLaw", "byIndex", "(I)Lcom/example/commitgate/commitgate/store/ColumnType;"⟩ : MethodName) (head1 (Jvm.Cond.code (⟨"com/example/commitgate/commitgate/store/ColumnTypeOfPinLaw", "byIndex", "(I)Lcom/example/commitgate/commitgate/store/ColumnType;"⟩ : MethodName) method_3_code 1 (some (.object "com/example/commitgate/commitgate/store/ColumnType")) :: ws) ({ frames := 0, cells := 0, slots := 0, locals := 0 } : Room)) (fun a U => a = #[(.int p1)] ∧ Z.Warmed39 U.vm ∧ U.heap = h0) (fun _ _ _ _ _ => True) (fun _ U o U' => ∃ v L, o = .returned v ∧ Q_bi w_INTEGER w_DECIMAL w_FLOAT w_BOOLEAN w_TEXT w_OTHER p1 h0 n0 v U'.heap L ∧ FrameEnd U o U' L ({ frames := 0, cells := 0, slots := 0, locals := 0 } : Room).cells ({ frames := 0, cells := 0, slots := 0, locals := 0 } : Room).slots) := by
  refine MetFree.of_bodySF (plainFor_of_name pn_1) hisR ?_
  intro p e s m args below meth c s₁ Bd hml0 hP hK
  obtain ⟨rfl, hZ, hh⟩ := hP
  have hx := Bd.exec
  have hby := Bd.bytes
  have hml : c.maxLocals = 1 := hml0
  have hown : s.vm.findClass "com/example/commitgate/commitgate/store/ColumnTypeOfPinLaw" = some m.cls := findClass_of_methodNamed Bd.named
  have hnm := (name_of_methodNamed Bd.named Bd.method).1
  have X0 : Stand p l e ({ frames := 0, cells := 0, slots := 0, locals := 0 } : Room) s m #[(.int p1)] below meth c s₁ [] 0 0 := Stand.of_body Bd
  have e0 : s₁.heap = h0 := by rw [← hh, Bd.state]; rfl
  have N0 := Fr.nil n0
  have pre0 : ∀ t, Steps p.tables e below (s₁.setTop (mkF m 0 #[.val (.int p1)] [])) t → Steps p.tables e below (s₁.setTop (entryFrame m #[(.int p1)] 1)) t := fun t k => castTop (ef_1_I m p1) k
  obtain ⟨T1, X1, e1, st1⟩ := getS2 X0 hx hZ hown (host := "") (Or.inl (hwi hw 28 rfl)) Via.refl e0 (S_BOOLEAN.ext O0.2) (g := (mkF m 35 #[.val (.int p1)] [])) rfl (hb hby d1_35)
  obtain ⟨fs, hr, hrun, hended, hW, hsame⟩ := X1.leave (v := some (.ref w_BOOLEAN)) (fun h => by rw [Bd.returns] at h; cases h)
  refine ⟨_, _, pre0 _ ?_, hrun, hended, _, _, rfl, ?_, ⟨_, rfl⟩, hW, hsame.mono (by decide) (by decide)⟩
  · show St p e below s₁ (mkF m 0 #[.val (.int p1)] []) _
    refine XS.iloadN X0.here hx rfl (hb hby d1_0) rfl ?_
    show St p e below s₁ (mkF m 1 #[.val (.int p1)] [(.int p1)]) _
    refine XS.iconst X0.here hx rfl (hb hby d1_1) ?_
    show St p e below s₁ (mkF m 2 #[.val (.int p1)] [(.int 4), (.int p1)]) _
    refine XS.icmpYes X0.here hx rfl (pc0 := 2) (pc' := 9) rfl (hb hby d1_2) rfl (flt hm_4).2.1 (by decide) (by decide) ?_
    show St p e below s₁ (mkF m 9 #[.val (.int p1)] []) _
    refine XS.iloadN X0.here hx rfl (hb hby d1_9) rfl ?_
    show St p e below s₁ (mkF m 10 #[.val (.int p1)] [(.int p1)]) _
    refine XS.bipush X0.here hx rfl (hb hby d1_10) ?_
    show St p e below s₁ (mkF m 12 #[.val (.int p1)] [(.int 6), (.int p1)]) _
    refine XS.icmpYes X0.here hx rfl (pc0 := 12) (pc' := 19) rfl (hb hby d1_12) rfl (flt hm_6).2.1 (by decide) (by decide) ?_
    show St p e below s₁ (mkF m 19 #[.val (.int p1)] []) _
    refine XS.iloadN X0.here hx rfl (hb hby d1_19) rfl ?_
    show St p e below s₁ (mkF m 20 #[.val (.int p1)] [(.int p1)]) _
    refine XS.bipush X0.here hx rfl (hb hby d1_20) ?_
    show St p e below s₁ (mkF m 22 #[.val (.int p1)] [(.int 9), (.int p1)]) _
    refine XS.icmpYes X0.here hx rfl (pc0 := 22) (pc' := 29) rfl (hb hby d1_22) rfl (flt hm_9).2.1 (by decide) (by decide) ?_
    show St p e below s₁ (mkF m 29 #[.val (.int p1)] []) _
    refine XS.iloadN X0.here hx rfl (hb hby d1_29) rfl ?_
    show St p e below s₁ (mkF m 30 #[.val (.int p1)] [(.int p1)]) _
    refine XS.bipush X0.here hx rfl (hb hby d1_30) ?_
    show St p e below s₁ (mkF m 32 #[.val (.int p1)] [(.int 11), (.int p1)]) _
    refine XS.icmpNo X0.here hx rfl (hb hby d1_32) rfl (tlt hm_11).2.1 ?_
    show St p e below s₁ (mkF m 35 #[.val (.int p1)] []) _
    refine st1 _ ?_
    show St p e below T1 (mkF m 38 #[.val (.int p1)] [(.ref w_BOOLEAN)]) _
    jvm_step X1.here [X1.here.top, hx, (hb hby d1_38), X1.method', Bd.returns, Value.isRef, FieldType.isReference]
    first | (intro acts; rw [hr _ acts rfl rfl rfl]) | rw [hr _ _ rfl rfl rfl]
    exact Steps.refl _
  · show Q_bi w_INTEGER w_DECIMAL w_FLOAT w_BOOLEAN w_TEXT w_OTHER p1 h0 n0 _ T1.heap _
    rw [e1]
    exact ⟨by unfold own_bi; simp only [hm_4, hm_6, hm_9, hm_11, if_true, if_false], N0, rfl⟩
theorem d1_39 : decode method_3_code 39 = .ok (.iload_n 0, 1) := by decide +kernel
theorem d1_40 : decode method_3_code 40 = .ok (.bipush 19, 2) := by decide +kernel
theorem d1_42 : decode method_3_code 42 = .ok (.if_icmp .ge 7, 3) := by decide +kernel
theorem d1_45 : decode method_3_code 45 = .ok (.getstatic 24, 3) := by decide +kernel
theorem d1_48 : decode method_3_code 48 = .ok (.areturn, 1) := by decide +kernel
set_option maxRecDepth 65536 in
set_option maxHeartbeats 40000000 in
theorem rm_byi_4 (l : Launch) (Z : State) (a0 : Array Value) (hw : ∀ d ∈ tables_1, d.before a0 Z = true) (ws : List Jvm.Cond) (p1 : Int32) (w_INTEGER : Addr) (w_DECIMAL : Addr) (w_FLOAT : Addr) (w_BOOLEAN : Addr) (w_TEXT : Addr) (w_OTHER : Addr) (h0 : Heap) (n0 : Nat) (Z0 : n0 ≤ h0.size) (S_INTEGER : Sta Z Z.heap "com/example/commitgate/commitgate/store/ColumnType" "INTEGER" "Lcom/example/commitgate/commitgate/store/ColumnType;" (.ref w_INTEGER)) (S_DECIMAL : Sta Z Z.heap "com/example/commitgate/commitgate/store/ColumnType" "DECIMAL" "Lcom/example/commitgate/commitgate/store/ColumnType;" (.ref w_DECIMAL)) (S_FLOAT : Sta Z Z.heap "com/example/commitgate/commitgate/store/ColumnType" "FLOAT" "Lcom/example/commitgate/commitgate/store/ColumnType;" (.ref w_FLOAT)) (S_BOOLEAN : Sta Z Z.heap "com/example/commitgate/commitgate/store/ColumnType" "BOOLEAN" "Lcom/example/commitgate/commitgate/store/ColumnType;" (.ref w_BOOLEAN)) (S_TEXT : Sta Z Z.heap "com/example/commitgate/commitgate/store/ColumnType" "TEXT" "Lcom/example/commitgate/commitgate/store/ColumnType;" (.ref w_TEXT)) (S_OTHER : Sta Z Z.heap "com/example/commitgate/commitgate/store/ColumnType" "OTHER" "Lcom/example/commitgate/commitgate/store/ColumnType;" (.ref w_OTHER)) (O0 : Old Z n0 h0) (hm_4 : ¬ (p1 < (4 : Int32))) (hm_6 : ¬ (p1 < (6 : Int32))) (hm_9 : ¬ (p1 < (9 : Int32))) (hm_11 : ¬ (p1 < (11 : Int32))) (hm_19 : p1 < (19 : Int32)) :
    MetFree l (⟨"com/example/commitgate/commitgate/store/ColumnTypeOfPinLaw", "byIndex", "(I)Lcom/example/commitgate/commitgate/store/ColumnType;"⟩ : MethodName) (head1 (Jvm.Cond.code (⟨"com/example/commitgate/commitgate/store/ColumnTypeOfPinLaw", "byIndex", "(I)Lcom/example/commitgate/commitgate/store/ColumnType;"⟩ : MethodName) method_3_code 1 (some (.object "com/example/commitgate/commitgate/store/ColumnType")) :: ws) ({ frames := 0, cells := 0, slots := 0, locals := 0 } : Room)) (fun a U => a = #[(.int p1)] ∧ Z.Warmed39 U.vm ∧ U.heap = h0) (fun _ _ _ _ _ => True) (fun _ U o U' => ∃ v L, o = .returned v ∧ Q_bi w_INTEGER w_DECIMAL w_FLOAT w_BOOLEAN w_TEXT w_OTHER p1 h0 n0 v U'.heap L ∧ FrameEnd U o U' L ({ frames := 0, cells := 0, slots := 0, locals := 0 } : Room).cells ({ frames := 0, cells := 0, slots := 0, locals := 0 } : Room).slots) := by
  refine MetFree.of_bodySF (plainFor_of_name pn_1) hisR ?_
  intro p e s m args below meth c s₁ Bd hml0 hP hK
  obtain ⟨rfl, hZ, hh⟩ := hP
  have hx := Bd.exec
  have hby := Bd.bytes
  have hml : c.maxLocals = 1 := hml0
  have hown : s.vm.findClass "com/example/commitgate/commitgate/store/ColumnTypeOfPinLaw" = some m.cls := findClass_of_methodNamed Bd.named
  have hnm := (name_of_methodNamed Bd.named Bd.method).1
  have X0 : Stand p l e ({ frames := 0, cells := 0, slots := 0, locals := 0 } : Room) s m #[(.int p1)] below meth c s₁ [] 0 0 := Stand.of_body Bd
  have e0 : s₁.heap = h0 := by rw [← hh, Bd.state]; rfl
  have N0 := Fr.nil n0
  have pre0 : ∀ t, Steps p.tables e below (s₁.setTop (mkF m 0 #[.val (.int p1)] [])) t → Steps p.tables e below (s₁.setTop (entryFrame m #[(.int p1)] 1)) t := fun t k => castTop (ef_1_I m p1) k
  obtain ⟨T1, X1, e1, st1⟩ := getS2 X0 hx hZ hown (host := "") (Or.inl (hwi hw 19 rfl)) Via.refl e0 (S_TEXT.ext O0.2) (g := (mkF m 45 #[.val (.int p1)] [])) rfl (hb hby d1_45)
  obtain ⟨fs, hr, hrun, hended, hW, hsame⟩ := X1.leave (v := some (.ref w_TEXT)) (fun h => by rw [Bd.returns] at h; cases h)
  refine ⟨_, _, pre0 _ ?_, hrun, hended, _, _, rfl, ?_, ⟨_, rfl⟩, hW, hsame.mono (by decide) (by decide)⟩
  · show St p e below s₁ (mkF m 0 #[.val (.int p1)] []) _
    refine XS.iloadN X0.here hx rfl (hb hby d1_0) rfl ?_
    show St p e below s₁ (mkF m 1 #[.val (.int p1)] [(.int p1)]) _
    refine XS.iconst X0.here hx rfl (hb hby d1_1) ?_
    show St p e below s₁ (mkF m 2 #[.val (.int p1)] [(.int 4), (.int p1)]) _
    refine XS.icmpYes X0.here hx rfl (pc0 := 2) (pc' := 9) rfl (hb hby d1_2) rfl (flt hm_4).2.1 (by decide) (by decide) ?_
    show St p e below s₁ (mkF m 9 #[.val (.int p1)] []) _
    refine XS.iloadN X0.here hx rfl (hb hby d1_9) rfl ?_
    show St p e below s₁ (mkF m 10 #[.val (.int p1)] [(.int p1)]) _
    refine XS.bipush X0.here hx rfl (hb hby d1_10) ?_
    show St p e below s₁ (mkF m 12 #[.val (.int p1)] [(.int 6), (.int p1)]) _
    refine XS.icmpYes X0.here hx rfl (pc0 := 12) (pc' := 19) rfl (hb hby d1_12) rfl (flt hm_6).2.1 (by decide) (by decide) ?_
    show St p e below s₁ (mkF m 19 #[.val (.int p1)] []) _
    refine XS.iloadN X0.here hx rfl (hb hby d1_19) rfl ?_
    show St p e below s₁ (mkF m 20 #[.val (.int p1)] [(.int p1)]) _
    refine XS.bipush X0.here hx rfl (hb hby d1_20) ?_
    show St p e below s₁ (mkF m 22 #[.val (.int p1)] [(.int 9), (.int p1)]) _
    refine XS.icmpYes X0.here hx rfl (pc0 := 22) (pc' := 29) rfl (hb hby d1_22) rfl (flt hm_9).2.1 (by decide) (by decide) ?_
    show St p e below s₁ (mkF m 29 #[.val (.int p1)] []) _
    refine XS.iloadN X0.here hx rfl (hb hby d1_29) rfl ?_
    show St p e below s₁ (mkF m 30 #[.val (.int p1)] [(.int p1)]) _
    refine XS.bipush X0.here hx rfl (hb hby d1_30) ?_
    show St p e below s₁ (mkF m 32 #[.val (.int p1)] [(.int 11), (.int p1)]) _
    refine XS.icmpYes X0.here hx rfl (pc0 := 32) (pc' := 39) rfl (hb hby d1_32) rfl (flt hm_11).2.1 (by decide) (by decide) ?_
    show St p e below s₁ (mkF m 39 #[.val (.int p1)] []) _
    refine XS.iloadN X0.here hx rfl (hb hby d1_39) rfl ?_
    show St p e below s₁ (mkF m 40 #[.val (.int p1)] [(.int p1)]) _
    refine XS.bipush X0.here hx rfl (hb hby d1_40) ?_
    show St p e below s₁ (mkF m 42 #[.val (.int p1)] [(.int 19), (.int p1)]) _
    refine XS.icmpNo X0.here hx rfl (hb hby d1_42) rfl (tlt hm_19).2.1 ?_
    show St p e below s₁ (mkF m 45 #[.val (.int p1)] []) _
    refine st1 _ ?_
    show St p e below T1 (mkF m 48 #[.val (.int p1)] [(.ref w_TEXT)]) _
    jvm_step X1.here [X1.here.top, hx, (hb hby d1_48), X1.method', Bd.returns, Value.isRef, FieldType.isReference]
    first | (intro acts; rw [hr _ acts rfl rfl rfl]) | rw [hr _ _ rfl rfl rfl]
    exact Steps.refl _
  · show Q_bi w_INTEGER w_DECIMAL w_FLOAT w_BOOLEAN w_TEXT w_OTHER p1 h0 n0 _ T1.heap _
    rw [e1]
    exact ⟨by unfold own_bi; simp only [hm_4, hm_6, hm_9, hm_11, hm_19, if_true, if_false], N0, rfl⟩
theorem d1_49 : decode method_3_code 49 = .ok (.getstatic 27, 3) := by decide +kernel
theorem d1_52 : decode method_3_code 52 = .ok (.areturn, 1) := by decide +kernel
set_option maxRecDepth 65536 in
set_option maxHeartbeats 40000000 in
theorem rm_byi_5 (l : Launch) (Z : State) (a0 : Array Value) (hw : ∀ d ∈ tables_1, d.before a0 Z = true) (ws : List Jvm.Cond) (p1 : Int32) (w_INTEGER : Addr) (w_DECIMAL : Addr) (w_FLOAT : Addr) (w_BOOLEAN : Addr) (w_TEXT : Addr) (w_OTHER : Addr) (h0 : Heap) (n0 : Nat) (Z0 : n0 ≤ h0.size) (S_INTEGER : Sta Z Z.heap "com/example/commitgate/commitgate/store/ColumnType" "INTEGER" "Lcom/example/commitgate/commitgate/store/ColumnType;" (.ref w_INTEGER)) (S_DECIMAL : Sta Z Z.heap "com/example/commitgate/commitgate/store/ColumnType" "DECIMAL" "Lcom/example/commitgate/commitgate/store/ColumnType;" (.ref w_DECIMAL)) (S_FLOAT : Sta Z Z.heap "com/example/commitgate/commitgate/store/ColumnType" "FLOAT" "Lcom/example/commitgate/commitgate/store/ColumnType;" (.ref w_FLOAT)) (S_BOOLEAN : Sta Z Z.heap "com/example/commitgate/commitgate/store/ColumnType" "BOOLEAN" "Lcom/example/commitgate/commitgate/store/ColumnType;" (.ref w_BOOLEAN)) (S_TEXT : Sta Z Z.heap "com/example/commitgate/commitgate/store/ColumnType" "TEXT" "Lcom/example/commitgate/commitgate/store/ColumnType;" (.ref w_TEXT)) (S_OTHER : Sta Z Z.heap "com/example/commitgate/commitgate/store/ColumnType" "OTHER" "Lcom/example/commitgate/commitgate/store/ColumnType;" (.ref w_OTHER)) (O0 : Old Z n0 h0) (hm_4 : ¬ (p1 < (4 : Int32))) (hm_6 : ¬ (p1 < (6 : Int32))) (hm_9 : ¬ (p1 < (9 : Int32))) (hm_11 : ¬ (p1 < (11 : Int32))) (hm_19 : ¬ (p1 < (19 : Int32))) :
    MetFree l (⟨"com/example/commitgate/commitgate/store/ColumnTypeOfPinLaw", "byIndex", "(I)Lcom/example/commitgate/commitgate/store/ColumnType;"⟩ : MethodName) (head1 (Jvm.Cond.code (⟨"com/example/commitgate/commitgate/store/ColumnTypeOfPinLaw", "byIndex", "(I)Lcom/example/commitgate/commitgate/store/ColumnType;"⟩ : MethodName) method_3_code 1 (some (.object "com/example/commitgate/commitgate/store/ColumnType")) :: ws) ({ frames := 0, cells := 0, slots := 0, locals := 0 } : Room)) (fun a U => a = #[(.int p1)] ∧ Z.Warmed39 U.vm ∧ U.heap = h0) (fun _ _ _ _ _ => True) (fun _ U o U' => ∃ v L, o = .returned v ∧ Q_bi w_INTEGER w_DECIMAL w_FLOAT w_BOOLEAN w_TEXT w_OTHER p1 h0 n0 v U'.heap L ∧ FrameEnd U o U' L ({ frames := 0, cells := 0, slots := 0, locals := 0 } : Room).cells ({ frames := 0, cells := 0, slots := 0, locals := 0 } : Room).slots) := by
  refine MetFree.of_bodySF (plainFor_of_name pn_1) hisR ?_
  intro p e s m args below meth c s₁ Bd hml0 hP hK
  obtain ⟨rfl, hZ, hh⟩ := hP
  have hx := Bd.exec
  have hby := Bd.bytes
  have hml : c.maxLocals = 1 := hml0
  have hown : s.vm.findClass "com/example/commitgate/commitgate/store/ColumnTypeOfPinLaw" = some m.cls := findClass_of_methodNamed Bd.named
  have hnm := (name_of_methodNamed Bd.named Bd.method).1
  have X0 : Stand p l e ({ frames := 0, cells := 0, slots := 0, locals := 0 } : Room) s m #[(.int p1)] below meth c s₁ [] 0 0 := Stand.of_body Bd
  have e0 : s₁.heap = h0 := by rw [← hh, Bd.state]; rfl
  have N0 := Fr.nil n0
  have pre0 : ∀ t, Steps p.tables e below (s₁.setTop (mkF m 0 #[.val (.int p1)] [])) t → Steps p.tables e below (s₁.setTop (entryFrame m #[(.int p1)] 1)) t := fun t k => castTop (ef_1_I m p1) k
  obtain ⟨T1, X1, e1, st1⟩ := getS2 X0 hx hZ hown (host := "") (Or.inl (hwi hw 18 rfl)) Via.refl e0 (S_OTHER.ext O0.2) (g := (mkF m 49 #[.val (.int p1)] [])) rfl (hb hby d1_49)
  obtain ⟨fs, hr, hrun, hended, hW, hsame⟩ := X1.leave (v := some (.ref w_OTHER)) (fun h => by rw [Bd.returns] at h; cases h)
  refine ⟨_, _, pre0 _ ?_, hrun, hended, _, _, rfl, ?_, ⟨_, rfl⟩, hW, hsame.mono (by decide) (by decide)⟩
  · show St p e below s₁ (mkF m 0 #[.val (.int p1)] []) _
    refine XS.iloadN X0.here hx rfl (hb hby d1_0) rfl ?_
    show St p e below s₁ (mkF m 1 #[.val (.int p1)] [(.int p1)]) _
    refine XS.iconst X0.here hx rfl (hb hby d1_1) ?_
    show St p e below s₁ (mkF m 2 #[.val (.int p1)] [(.int 4), (.int p1)]) _
    refine XS.icmpYes X0.here hx rfl (pc0 := 2) (pc' := 9) rfl (hb hby d1_2) rfl (flt hm_4).2.1 (by decide) (by decide) ?_
    show St p e below s₁ (mkF m 9 #[.val (.int p1)] []) _
    refine XS.iloadN X0.here hx rfl (hb hby d1_9) rfl ?_
    show St p e below s₁ (mkF m 10 #[.val (.int p1)] [(.int p1)]) _
    refine XS.bipush X0.here hx rfl (hb hby d1_10) ?_
    show St p e below s₁ (mkF m 12 #[.val (.int p1)] [(.int 6), (.int p1)]) _
    refine XS.icmpYes X0.here hx rfl (pc0 := 12) (pc' := 19) rfl (hb hby d1_12) rfl (flt hm_6).2.1 (by decide) (by decide) ?_
    show St p e below s₁ (mkF m 19 #[.val (.int p1)] []) _
    refine XS.iloadN X0.here hx rfl (hb hby d1_19) rfl ?_
    show St p e below s₁ (mkF m 20 #[.val (.int p1)] [(.int p1)]) _
    refine XS.bipush X0.here hx rfl (hb hby d1_20) ?_
    show St p e below s₁ (mkF m 22 #[.val (.int p1)] [(.int 9), (.int p1)]) _
    refine XS.icmpYes X0.here hx rfl (pc0 := 22) (pc' := 29) rfl (hb hby d1_22) rfl (flt hm_9).2.1 (by decide) (by decide) ?_
    show St p e below s₁ (mkF m 29 #[.val (.int p1)] []) _
    refine XS.iloadN X0.here hx rfl (hb hby d1_29) rfl ?_
    show St p e below s₁ (mkF m 30 #[.val (.int p1)] [(.int p1)]) _
    refine XS.bipush X0.here hx rfl (hb hby d1_30) ?_
    show St p e below s₁ (mkF m 32 #[.val (.int p1)] [(.int 11), (.int p1)]) _
    refine XS.icmpYes X0.here hx rfl (pc0 := 32) (pc' := 39) rfl (hb hby d1_32) rfl (flt hm_11).2.1 (by decide) (by decide) ?_
    show St p e below s₁ (mkF m 39 #[.val (.int p1)] []) _
    refine XS.iloadN X0.here hx rfl (hb hby d1_39) rfl ?_
    show St p e below s₁ (mkF m 40 #[.val (.int p1)] [(.int p1)]) _
    refine XS.bipush X0.here hx rfl (hb hby d1_40) ?_
    show St p e below s₁ (mkF m 42 #[.val (.int p1)] [(.int 19), (.int p1)]) _
    refine XS.icmpYes X0.here hx rfl (pc0 := 42) (pc' := 49) rfl (hb hby d1_42) rfl (flt hm_19).2.1 (by decide) (by decide) ?_
    show St p e below s₁ (mkF m 49 #[.val (.int p1)] []) _
    refine st1 _ ?_
    show St p e below T1 (mkF m 52 #[.val (.int p1)] [(.ref w_OTHER)]) _
    jvm_step X1.here [X1.here.top, hx, (hb hby d1_52), X1.method', Bd.returns, Value.isRef, FieldType.isReference]
    first | (intro acts; rw [hr _ acts rfl rfl rfl]) | rw [hr _ _ rfl rfl rfl]
    exact Steps.refl _
  · show Q_bi w_INTEGER w_DECIMAL w_FLOAT w_BOOLEAN w_TEXT w_OTHER p1 h0 n0 _ T1.heap _
    rw [e1]
    exact ⟨by unfold own_bi; simp only [hm_4, hm_6, hm_9, hm_11, hm_19, if_true, if_false], N0, rfl⟩
theorem rm_byi_all (l : Launch) (Z : State) (a0 : Array Value) (hw : ∀ d ∈ tables_1, d.before a0 Z = true) (ws : List Jvm.Cond) (p1 : Int32) (w_INTEGER : Addr) (w_DECIMAL : Addr) (w_FLOAT : Addr) (w_BOOLEAN : Addr) (w_TEXT : Addr) (w_OTHER : Addr) (h0 : Heap) (n0 : Nat) (Z0 : n0 ≤ h0.size) (S_INTEGER : Sta Z Z.heap "com/example/commitgate/commitgate/store/ColumnType" "INTEGER" "Lcom/example/commitgate/commitgate/store/ColumnType;" (.ref w_INTEGER)) (S_DECIMAL : Sta Z Z.heap "com/example/commitgate/commitgate/store/ColumnType" "DECIMAL" "Lcom/example/commitgate/commitgate/store/ColumnType;" (.ref w_DECIMAL)) (S_FLOAT : Sta Z Z.heap "com/example/commitgate/commitgate/store/ColumnType" "FLOAT" "Lcom/example/commitgate/commitgate/store/ColumnType;" (.ref w_FLOAT)) (S_BOOLEAN : Sta Z Z.heap "com/example/commitgate/commitgate/store/ColumnType" "BOOLEAN" "Lcom/example/commitgate/commitgate/store/ColumnType;" (.ref w_BOOLEAN)) (S_TEXT : Sta Z Z.heap "com/example/commitgate/commitgate/store/ColumnType" "TEXT" "Lcom/example/commitgate/commitgate/store/ColumnType;" (.ref w_TEXT)) (S_OTHER : Sta Z Z.heap "com/example/commitgate/commitgate/store/ColumnType" "OTHER" "Lcom/example/commitgate/commitgate/store/ColumnType;" (.ref w_OTHER)) (O0 : Old Z n0 h0) :
    MetFree l (⟨"com/example/commitgate/commitgate/store/ColumnTypeOfPinLaw", "byIndex", "(I)Lcom/example/commitgate/commitgate/store/ColumnType;"⟩ : MethodName) (head1 (Jvm.Cond.code (⟨"com/example/commitgate/commitgate/store/ColumnTypeOfPinLaw", "byIndex", "(I)Lcom/example/commitgate/commitgate/store/ColumnType;"⟩ : MethodName) method_3_code 1 (some (.object "com/example/commitgate/commitgate/store/ColumnType")) :: ws) ({ frames := 0, cells := 0, slots := 0, locals := 0 } : Room)) (fun a U => a = #[(.int p1)] ∧ Z.Warmed39 U.vm ∧ U.heap = h0) (fun _ _ _ _ _ => True) (fun _ U o U' => ∃ v L, o = .returned v ∧ Q_bi w_INTEGER w_DECIMAL w_FLOAT w_BOOLEAN w_TEXT w_OTHER p1 h0 n0 v U'.heap L ∧ FrameEnd U o U' L ({ frames := 0, cells := 0, slots := 0, locals := 0 } : Room).cells ({ frames := 0, cells := 0, slots := 0, locals := 0 } : Room).slots) := by
  by_cases hm_4 : p1 < (4 : Int32)
  · exact rm_byi_0 l Z a0 hw ws p1 w_INTEGER w_DECIMAL w_FLOAT w_BOOLEAN w_TEXT w_OTHER h0 n0 Z0 S_INTEGER S_DECIMAL S_FLOAT S_BOOLEAN S_TEXT S_OTHER O0 hm_4
  by_cases hm_6 : p1 < (6 : Int32)
  · exact rm_byi_1 l Z a0 hw ws p1 w_INTEGER w_DECIMAL w_FLOAT w_BOOLEAN w_TEXT w_OTHER h0 n0 Z0 S_INTEGER S_DECIMAL S_FLOAT S_BOOLEAN S_TEXT S_OTHER O0 hm_4 hm_6
  by_cases hm_9 : p1 < (9 : Int32)
  · exact rm_byi_2 l Z a0 hw ws p1 w_INTEGER w_DECIMAL w_FLOAT w_BOOLEAN w_TEXT w_OTHER h0 n0 Z0 S_INTEGER S_DECIMAL S_FLOAT S_BOOLEAN S_TEXT S_OTHER O0 hm_4 hm_6 hm_9
  by_cases hm_11 : p1 < (11 : Int32)
  · exact rm_byi_3 l Z a0 hw ws p1 w_INTEGER w_DECIMAL w_FLOAT w_BOOLEAN w_TEXT w_OTHER h0 n0 Z0 S_INTEGER S_DECIMAL S_FLOAT S_BOOLEAN S_TEXT S_OTHER O0 hm_4 hm_6 hm_9 hm_11
  by_cases hm_19 : p1 < (19 : Int32)
  · exact rm_byi_4 l Z a0 hw ws p1 w_INTEGER w_DECIMAL w_FLOAT w_BOOLEAN w_TEXT w_OTHER h0 n0 Z0 S_INTEGER S_DECIMAL S_FLOAT S_BOOLEAN S_TEXT S_OTHER O0 hm_4 hm_6 hm_9 hm_11 hm_19
  exact rm_byi_5 l Z a0 hw ws p1 w_INTEGER w_DECIMAL w_FLOAT w_BOOLEAN w_TEXT w_OTHER h0 n0 Z0 S_INTEGER S_DECIMAL S_FLOAT S_BOOLEAN S_TEXT S_OTHER O0 hm_4 hm_6 hm_9 hm_11 hm_19
set_option maxRecDepth 65536 in
set_option maxHeartbeats 40000000 in
theorem sg_arr {p : Program} {l : Launch} {e : Env} {s : State} {m : MethodId} {args : Array Value} {below : List Frame} {meth : Method} {c : Code} {T0 : State} {locs : List Loc} {Z : State} {a0 : Array Value} {h0 : Heap} {n0 : Nat} (p1 : Int32) (p2 : Int32)
    (X0 : Stand p l e room_1 s m args below meth c T0 locs 0 0) (hx : p.tables.exec = Jvm.exec) (hZ : Z.Warmed39 s.vm) (hw : ∀ d ∈ tables_1, d.before a0 Z = true) (hby : c.code = code) (hml : c.maxLocals = 8) (hown : s.vm.findClass "com/example/commitgate/commitgate/store/ColumnTypeOfPinLaw" = some m.cls) (e0 : T0.heap = h0) (N0 : Fr n0 locs) (Z0 : n0 ≤ h0.size) (O0 : Old Z n0 h0) :
    ∃ (T' : State) (locs' : List Loc) (ar : Addr) (kc : ClassId), Stand p l e room_1 s m args below meth c T' locs' 1 27 ∧ Fr n0 locs' ∧ Keep h0 T'.heap [] ∧ h0.size ≤ ar ∧ Arv Z T'.heap ar kc .int (27 : Int32) [(.int (-6)), (.int 5), (.int 4), (.int (-5)), (.int 2), (.int 3), (.int 7), (.int 6), (.int 8), (.int (-7)), (.int 16), (.int 1), (.int 12), (.int (-1)), (.int (-15)), (.int (-9)), (.int (-16)), (.int 2005), (.int 2011), (.int 0), (.int 91), (.int 92), (.int 93), (.int (-2)), (.int (-3)), (.int 1111), (.int 2004)] (.int 0) ∧ ∀ target, Steps p.tables e below (T'.setTop (mkF m 158 #[.val (.int p1), .val (.int p2), .val (.ref ar), .unset, .unset, .unset, .unset, .unset] [])) target → Steps p.tables e below (T0.setTop (mkF m 0 #[.val (.int p1), .val (.int p2), .unset, .unset, .unset, .unset, .unset, .unset] [])) target := by
  obtain ⟨T1, h1, k1, X1, e1, E1, A1, st1⟩ := newP X0 hx hZ (hwi hw 0 rfl) e0 (g := (mkF m 2 #[.val (.int p1), .val (.int p2), .unset, .unset, .unset, .unset, .unset, .unset] [(.int 27)])) rfl (hb hby at_2) rfl (by decide) (cap := 27) (by decide) (by decide) (by decide) (by decide)
  obtain ⟨b1, g1⟩ : ∃ z, z = h0.size := ⟨_, rfl⟩
  rw [← g1] at A1 st1
  have bn_b1 : h0.size ≤ b1 := Nat.le_of_eq g1.symm
  have sz2 : h0.size ≤ h1.size := E1.1
  have Z2 : n0 ≤ h1.size := Nat.le_trans Z0 sz2
  have O2 := O0.ext E1
  have K2 : Keep h0 h1 [] := (Keep.refl h0 []).ext E1
  have V1 : Arv Z h1 b1 k1 .int (27 : Int32) [(.int 0), (.int 0), (.int 0), (.int 0), (.int 0), (.int 0), (.int 0), (.int 0), (.int 0), (.int 0), (.int 0), (.int 0), (.int 0), (.int 0), (.int 0), (.int 0), (.int 0), (.int 0), (.int 0), (.int 0), (.int 0), (.int 0), (.int 0), (.int 0), (.int 0), (.int 0), (.int 0)] (.int 0) := (Arv.new A1 (by decide)).pad (pad_rep [] (.int 0) 27)
  obtain ⟨cl3, Ar3, q3, S3, M3, H3, G3⟩ := id V1
  have hin3 : ¬ ((0 : Int32) < 0 ∨ cl3.slots.size ≤ ((0 : Int32)).toNatClampNeg) := inb_of S3 ⟨by decide, by decide⟩
  obtain ⟨T4, h4, X4, e4, W4, st4⟩ := stI X1 hx hZ e1 Ar3 (j := (0 : Int32)) hin3 (g := (mkF m 8 #[.val (.int p1), .val (.int p2), .unset, .unset, .unset, .unset, .unset, .unset] [(.int (-6)), (.int 0), (.ref b1), (.ref b1)])) rfl rfl (hb hby at_8)
  have N4 := Fr.snoc X4 N0 (Nat.le_trans Z0 bn_b1)
  have V4 : Arv Z h4 b1 k1 .int (27 : Int32) [(.int (-6)), (.int 0), (.int 0), (.int 0), (.int 0), (.int 0), (.int 0), (.int 0), (.int 0), (.int 0), (.int 0), (.int 0), (.int 0), (.int 0), (.int 0), (.int 0), (.int 0), (.int 0), (.int 0), (.int 0), (.int 0), (.int 0), (.int 0), (.int 0), (.int 0), (.int 0), (.int 0)] (.int 0) := Arv.set Ar3 q3 S3 M3 H3 G3 rfl W4 0 rfl (Nat.le_of_ble_eq_true rfl)
  have sz5 : h1.size ≤ h4.size := Nat.le_of_eq W4.size.symm
  have Z5 : n0 ≤ h4.size := Nat.le_trans Z2 sz5
  have O5 := O2.wr W4 (Nat.le_trans Z0 bn_b1)
  have K5 : Keep h0 h4 [] := K2.wr W4 (Or.inr bn_b1)
  obtain ⟨cl6, Ar6, q6, S6, M6, H6, G6⟩ := id V4
  have hin6 : ¬ ((1 : Int32) < 0 ∨ cl6.slots.size ≤ ((1 : Int32)).toNatClampNeg) := inb_of S6 ⟨by decide, by decide⟩
  obtain ⟨T7, h7, X7, e7, W7, st7⟩ := stI X4 hx hZ e4 Ar6 (j := (1 : Int32)) hin6 (g := (mkF m 12 #[.val (.int p1), .val (.int p2), .unset, .unset, .unset, .unset, .unset, .unset] [(.int 5), (.int 1), (.ref b1), (.ref b1)])) rfl rfl (hb hby at_12)
  have N7 := Fr.snoc X7 N4 (Nat.le_trans Z0 bn_b1)
  have V7 : Arv Z h7 b1 k1 .int (27 : Int32) [(.int (-6)), (.int 5), (.int 0), (.int 0), (.int 0), (.int 0), (.int 0), (.int 0), (.int 0), (.int 0), (.int 0), (.int 0), (.int 0), (.int 0), (.int 0), (.int 0), (.int 0), (.int 0), (.int 0), (.int 0), (.int 0), (.int 0), (.int 0), (.int 0), (.int 0), (.int 0), (.int 0)] (.int 0) := Arv.set Ar6 q6 S6 M6 H6 G6 rfl W7 1 rfl (Nat.le_of_ble_eq_true rfl)
  have sz8 : h4.size ≤ h7.size := Nat.le_of_eq W7.size.symm
  have Z8 : n0 ≤ h7.size := Nat.le_trans Z5 sz8
  have O8 := O5.wr W7 (Nat.le_trans Z0 bn_b1)
  have K8 : Keep h0 h7 [] := K5.wr W7 (Or.inr bn_b1)
  obtain ⟨cl9, Ar9, q9, S9, M9, H9, G9⟩ := id V7
  have hin9 : ¬ ((2 : Int32) < 0 ∨ cl9.slots.size ≤ ((2 : Int32)).toNatClampNeg) := inb_of S9 ⟨by decide, by decide⟩
  obtain ⟨T10, h10, X10, e10, W10, st10⟩ := stI X7 hx hZ e7 Ar9 (j := (2 : Int32)) hin9 (g := (mkF m 16 #[.val (.int p1), .val (.int p2), .unset, .unset, .unset, .unset, .unset, .unset] [(.int 4), (.int 2), (.ref b1), (.ref b1)])) rfl rfl (hb hby at_16)
  have N10 := Fr.snoc X10 N7 (Nat.le_trans Z0 bn_b1)
  have V10 : Arv Z h10 b1 k1 .int (27 : Int32) [(.int (-6)), (.int 5), (.int 4), (.int 0), (.int 0), (.int 0), (.int 0), (.int 0), (.int 0), (.int 0), (.int 0), (.int 0), (.int 0), (.int 0), (.int 0), (.int 0), (.int 0), (.int 0), (.int 0), (.int 0), (.int 0), (.int 0), (.int 0), (.int 0), (.int 0), (.int 0), (.int 0)] (.int 0) := Arv.set Ar9 q9 S9 M9 H9 G9 rfl W10 2 rfl (Nat.le_of_ble_eq_true rfl)
  have sz11 : h7.size ≤ h10.size := Nat.le_of_eq W10.size.symm
  have Z11 : n0 ≤ h10.size := Nat.le_trans Z8 sz11
  have O11 := O8.wr W10 (Nat.le_trans Z0 bn_b1)
  have K11 : Keep h0 h10 [] := K8.wr W10 (Or.inr bn_b1)
  obtain ⟨cl12, Ar12, q12, S12, M12, H12, G12⟩ := id V10
  have hin12 : ¬ ((3 : Int32) < 0 ∨ cl12.slots.size ≤ ((3 : Int32)).toNatClampNeg) := inb_of S12 ⟨by decide, by decide⟩
  obtain ⟨T13, h13, X13, e13, W13, st13⟩ := stI X10 hx hZ e10 Ar12 (j := (3 : Int32)) hin12 (g := (mkF m 21 #[.val (.int p1), .val (.int p2), .unset, .unset, .unset, .unset, .unset, .unset] [(.int (-5)), (.int 3), (.ref b1), (.ref b1)])) rfl rfl (hb hby at_21)
  have N13 := Fr.snoc X13 N10 (Nat.le_trans Z0 bn_b1)
  have V13 : Arv Z h13 b1 k1 .int (27 : Int32) [(.int (-6)), (.int 5), (.int 4), (.int (-5)), (.int 0), (.int 0), (.int 0), (.int 0), (.int 0), (.int 0), (.int 0), (.int 0), (.int 0), (.int 0), (.int 0), (.int 0), (.int 0), (.int 0), (.int 0), (.int 0), (.int 0), (.int 0), (.int 0), (.int 0), (.int 0), (.int 0), (.int 0)] (.int 0) := Arv.set Ar12 q12 S12 M12 H12 G12 rfl W13 3 rfl (Nat.le_of_ble_eq_true rfl)
  have sz14 : h10.size ≤ h13.size := Nat.le_of_eq W13.size.symm
  have Z14 : n0 ≤ h13.size := Nat.le_trans Z11 sz14
  have O14 := O11.wr W13 (Nat.le_trans Z0 bn_b1)
  have K14 : Keep h0 h13 [] := K11.wr W13 (Or.inr bn_b1)
  obtain ⟨cl15, Ar15, q15, S15, M15, H15, G15⟩ := id V13
  have hin15 : ¬ ((4 : Int32) < 0 ∨ cl15.slots.size ≤ ((4 : Int32)).toNatClampNeg) := inb_of S15 ⟨by decide, by decide⟩
  obtain ⟨T16, h16, X16, e16, W16, st16⟩ := stI X13 hx hZ e13 Ar15 (j := (4 : Int32)) hin15 (g := (mkF m 25 #[.val (.int p1), .val (.int p2), .unset, .unset, .unset, .unset, .unset, .unset] [(.int 2), (.int 4), (.ref b1), (.ref b1)])) rfl rfl (hb hby at_25)
  have N16 := Fr.snoc X16 N13 (Nat.le_trans Z0 bn_b1)
  have V16 : Arv Z h16 b1 k1 .int (27 : Int32) [(.int (-6)), (.int 5), (.int 4), (.int (-5)), (.int 2), (.int 0), (.int 0), (.int 0), (.int 0), (.int 0), (.int 0), (.int 0), (.int 0), (.int 0), (.int 0), (.int 0), (.int 0), (.int 0), (.int 0), (.int 0), (.int 0), (.int 0), (.int 0), (.int 0), (.int 0), (.int 0), (.int 0)] (.int 0) := Arv.set Ar15 q15 S15 M15 H15 G15 rfl W16 4 rfl (Nat.le_of_ble_eq_true rfl)
  have sz17 : h13.size ≤ h16.size := Nat.le_of_eq W16.size.symm
  have Z17 : n0 ≤ h16.size := Nat.le_trans Z14 sz17
  have O17 := O14.wr W16 (Nat.le_trans Z0 bn_b1)
  have K17 : Keep h0 h16 [] := K14.wr W16 (Or.inr bn_b1)
  obtain ⟨cl18, Ar18, q18, S18, M18, H18, G18⟩ := id V16
  have hin18 : ¬ ((5 : Int32) < 0 ∨ cl18.slots.size ≤ ((5 : Int32)).toNatClampNeg) := inb_of S18 ⟨by decide, by decide⟩
  obtain ⟨T19, h19, X19, e19, W19, st19⟩ := stI X16 hx hZ e16 Ar18 (j := (5 : Int32)) hin18 (g := (mkF m 29 #[.val (.int p1), .val (.int p2), .unset, .unset, .unset, .unset, .unset, .unset] [(.int 3), (.int 5), (.ref b1), (.ref b1)])) rfl rfl (hb hby at_29)
  have N19 := Fr.snoc X19 N16 (Nat.le_trans Z0 bn_b1)
  have V19 : Arv Z h19 b1 k1 .int (27 : Int32) [(.int (-6)), (.int 5), (.int 4), (.int (-5)), (.int 2), (.int 3), (.int 0), (.int 0), (.int 0), (.int 0), (.int 0), (.int 0), (.int 0), (.int 0), (.int 0), (.int 0), (.int 0), (.int 0), (.int 0), (.int 0), (.int 0), (.int 0), (.int 0), (.int 0), (.int 0), (.int 0), (.int 0)] (.int 0) := Arv.set Ar18 q18 S18 M18 H18 G18 rfl W19 5 rfl (Nat.le_of_ble_eq_true rfl)
  have sz20 : h16.size ≤ h19.size := Nat.le_of_eq W19.size.symm
  have Z20 : n0 ≤ h19.size := Nat.le_trans Z17 sz20
  have O20 := O17.wr W19 (Nat.le_trans Z0 bn_b1)
  have K20 : Keep h0 h19 [] := K17.wr W19 (Or.inr bn_b1)
  obtain ⟨cl21, Ar21, q21, S21, M21, H21, G21⟩ := id V19
  have hin21 : ¬ ((6 : Int32) < 0 ∨ cl21.slots.size ≤ ((6 : Int32)).toNatClampNeg) := inb_of S21 ⟨by decide, by decide⟩
  obtain ⟨T22, h22, X22, e22, W22, st22⟩ := stI X19 hx hZ e19 Ar21 (j := (6 : Int32)) hin21 (g := (mkF m 35 #[.val (.int p1), .val (.int p2), .unset, .unset, .unset, .unset, .unset, .unset] [(.int 7), (.int 6), (.ref b1), (.ref b1)])) rfl rfl (hb hby at_35)
  have N22 := Fr.snoc X22 N19 (Nat.le_trans Z0 bn_b1)
  have V22 : Arv Z h22 b1 k1 .int (27 : Int32) [(.int (-6)), (.int 5), (.int 4), (.int (-5)), (.int 2), (.int 3), (.int 7), (.int 0), (.int 0), (.int 0), (.int 0), (.int 0), (.int 0), (.int 0), (.int 0), (.int 0), (.int 0), (.int 0), (.int 0), (.int 0), (.int 0), (.int 0), (.int 0), (.int 0), (.int 0), (.int 0), (.int 0)] (.int 0) := Arv.set Ar21 q21 S21 M21 H21 G21 rfl W22 6 rfl (Nat.le_of_ble_eq_true rfl)
  have sz23 : h19.size ≤ h22.size := Nat.le_of_eq W22.size.symm
  have Z23 : n0 ≤ h22.size := Nat.le_trans Z20 sz23
  have O23 := O20.wr W22 (Nat.le_trans Z0 bn_b1)
  have K23 : Keep h0 h22 [] := K20.wr W22 (Or.inr bn_b1)
  obtain ⟨cl24, Ar24, q24, S24, M24, H24, G24⟩ := id V22
  have hin24 : ¬ ((7 : Int32) < 0 ∨ cl24.slots.size ≤ ((7 : Int32)).toNatClampNeg) := inb_of S24 ⟨by decide, by decide⟩
  obtain ⟨T25, h25, X25, e25, W25, st25⟩ := stI X22 hx hZ e22 Ar24 (j := (7 : Int32)) hin24 (g := (mkF m 41 #[.val (.int p1), .val (.int p2), .unset, .unset, .unset, .unset, .unset, .unset] [(.int 6), (.int 7), (.ref b1), (.ref b1)])) rfl rfl (hb hby at_41)
  have N25 := Fr.snoc X25 N22 (Nat.le_trans Z0 bn_b1)
  have V25 : Arv Z h25 b1 k1 .int (27 : Int32) [(.int (-6)), (.int 5), (.int 4), (.int (-5)), (.int 2), (.int 3), (.int 7), (.int 6), (.int 0), (.int 0), (.int 0), (.int 0), (.int 0), (.int 0), (.int 0), (.int 0), (.int 0), (.int 0), (.int 0), (.int 0), (.int 0), (.int 0), (.int 0), (.int 0), (.int 0), (.int 0), (.int 0)] (.int 0) := Arv.set Ar24 q24 S24 M24 H24 G24 rfl W25 7 rfl (Nat.le_of_ble_eq_true rfl)
  have sz26 : h22.size ≤ h25.size := Nat.le_of_eq W25.size.symm
  have Z26 : n0 ≤ h25.size := Nat.le_trans Z23 sz26
  have O26 := O23.wr W25 (Nat.le_trans Z0 bn_b1)
  have K26 : Keep h0 h25 [] := K23.wr W25 (Or.inr bn_b1)
  obtain ⟨cl27, Ar27, q27, S27, M27, H27, G27⟩ := id V25
  have hin27 : ¬ ((8 : Int32) < 0 ∨ cl27.slots.size ≤ ((8 : Int32)).toNatClampNeg) := inb_of S27 ⟨by decide, by decide⟩
  obtain ⟨T28, h28, X28, e28, W28, st28⟩ := stI X25 hx hZ e25 Ar27 (j := (8 : Int32)) hin27 (g := (mkF m 47 #[.val (.int p1), .val (.int p2), .unset, .unset, .unset, .unset, .unset, .unset] [(.int 8), (.int 8), (.ref b1), (.ref b1)])) rfl rfl (hb hby at_47)
  have N28 := Fr.snoc X28 N25 (Nat.le_trans Z0 bn_b1)
  have V28 : Arv Z h28 b1 k1 .int (27 : Int32) [(.int (-6)), (.int 5), (.int 4), (.int (-5)), (.int 2), (.int 3), (.int 7), (.int 6), (.int 8), (.int 0), (.int 0), (.int 0), (.int 0), (.int 0), (.int 0), (.int 0), (.int 0), (.int 0), (.int 0), (.int 0), (.int 0), (.int 0), (.int 0), (.int 0), (.int 0), (.int 0), (.int 0)] (.int 0) := Arv.set Ar27 q27 S27 M27 H27 G27 rfl W28 8 rfl (Nat.le_of_ble_eq_true rfl)
  have sz29 : h25.size ≤ h28.size := Nat.le_of_eq W28.size.symm
  have Z29 : n0 ≤ h28.size := Nat.le_trans Z26 sz29
  have O29 := O26.wr W28 (Nat.le_trans Z0 bn_b1)
  have K29 : Keep h0 h28 [] := K26.wr W28 (Or.inr bn_b1)
  obtain ⟨cl30, Ar30, q30, S30, M30, H30, G30⟩ := id V28
  have hin30 : ¬ ((9 : Int32) < 0 ∨ cl30.slots.size ≤ ((9 : Int32)).toNatClampNeg) := inb_of S30 ⟨by decide, by decide⟩
  obtain ⟨T31, h31, X31, e31, W31, st31⟩ := stI X28 hx hZ e28 Ar30 (j := (9 : Int32)) hin30 (g := (mkF m 53 #[.val (.int p1), .val (.int p2), .unset, .unset, .unset, .unset, .unset, .unset] [(.int (-7)), (.int 9), (.ref b1), (.ref b1)])) rfl rfl (hb hby at_53)
  have N31 := Fr.snoc X31 N28 (Nat.le_trans Z0 bn_b1)
  have V31 : Arv Z h31 b1 k1 .int (27 : Int32) [(.int (-6)), (.int 5), (.int 4), (.int (-5)), (.int 2), (.int 3), (.int 7), (.int 6), (.int 8), (.int (-7)), (.int 0), (.int 0), (.int 0), (.int 0), (.int 0), (.int 0), (.int 0), (.int 0), (.int 0), (.int 0), (.int 0), (.int 0), (.int 0), (.int 0), (.int 0), (.int 0), (.int 0)] (.int 0) := Arv.set Ar30 q30 S30 M30 H30 G30 rfl W31 9 rfl (Nat.le_of_ble_eq_true rfl)
  have sz32 : h28.size ≤ h31.size := Nat.le_of_eq W31.size.symm
  have Z32 : n0 ≤ h31.size := Nat.le_trans Z29 sz32
  have O32 := O29.wr W31 (Nat.le_trans Z0 bn_b1)
  have K32 : Keep h0 h31 [] := K29.wr W31 (Or.inr bn_b1)
  obtain ⟨cl33, Ar33, q33, S33, M33, H33, G33⟩ := id V31
  have hin33 : ¬ ((10 : Int32) < 0 ∨ cl33.slots.size ≤ ((10 : Int32)).toNatClampNeg) := inb_of S33 ⟨by decide, by decide⟩
  obtain ⟨T34, h34, X34, e34, W34, st34⟩ := stI X31 hx hZ e31 Ar33 (j := (10 : Int32)) hin33 (g := (mkF m 59 #[.val (.int p1), .val (.int p2), .unset, .unset, .unset, .unset, .unset, .unset] [(.int 16), (.int 10), (.ref b1), (.ref b1)])) rfl rfl (hb hby at_59)
  have N34 := Fr.snoc X34 N31 (Nat.le_trans Z0 bn_b1)
  have V34 : Arv Z h34 b1 k1 .int (27 : Int32) [(.int (-6)), (.int 5), (.int 4), (.int (-5)), (.int 2), (.int 3), (.int 7), (.int 6), (.int 8), (.int (-7)), (.int 16), (.int 0), (.int 0), (.int 0), (.int 0), (.int 0), (.int 0), (.int 0), (.int 0), (.int 0), (.int 0), (.int 0), (.int 0), (.int 0), (.int 0), (.int 0), (.int 0)] (.int 0) := Arv.set Ar33 q33 S33 M33 H33 G33 rfl W34 10 rfl (Nat.le_of_ble_eq_true rfl)
  have sz35 : h31.size ≤ h34.size := Nat.le_of_eq W34.size.symm
  have Z35 : n0 ≤ h34.size := Nat.le_trans Z32 sz35
  have O35 := O32.wr W34 (Nat.le_trans Z0 bn_b1)
  have K35 : Keep h0 h34 [] := K32.wr W34 (Or.inr bn_b1)
  obtain ⟨cl36, Ar36, q36, S36, M36, H36, G36⟩ := id V34
  have hin36 : ¬ ((11 : Int32) < 0 ∨ cl36.slots.size ≤ ((11 : Int32)).toNatClampNeg) := inb_of S36 ⟨by decide, by decide⟩
  obtain ⟨T37, h37, X37, e37, W37, st37⟩ := stI X34 hx hZ e34 Ar36 (j := (11 : Int32)) hin36 (g := (mkF m 64 #[.val (.int p1), .val (.int p2), .unset, .unset, .unset, .unset, .unset, .unset] [(.int 1), (.int 11), (.ref b1), (.ref b1)])) rfl rfl (hb hby at_64)
  have N37 := Fr.snoc X37 N34 (Nat.le_trans Z0 bn_b1)
  have V37 : Arv Z h37 b1 k1 .int (27 : Int32) [(.int (-6)), (.int 5), (.int 4), (.int (-5)), (.int 2), (.int 3), (.int 7), (.int 6), (.int 8), (.int (-7)), (.int 16), (.int 1), (.int 0), (.int 0), (.int 0), (.int 0), (.int 0), (.int 0), (.int 0), (.int 0), (.int 0), (.int 0), (.int 0), (.int 0), (.int 0), (.int 0), (.int 0)] (.int 0) := Arv.set Ar36 q36 S36 M36 H36 G36 rfl W37 11 rfl (Nat.le_of_ble_eq_true rfl)
  have sz38 : h34.size ≤ h37.size := Nat.le_of_eq W37.size.symm
  have Z38 : n0 ≤ h37.size := Nat.le_trans Z35 sz38
  have O38 := O35.wr W37 (Nat.le_trans Z0 bn_b1)
  have K38 : Keep h0 h37 [] := K35.wr W37 (Or.inr bn_b1)
  obtain ⟨cl39, Ar39, q39, S39, M39, H39, G39⟩ := id V37
  have hin39 : ¬ ((12 : Int32) < 0 ∨ cl39.slots.size ≤ ((12 : Int32)).toNatClampNeg) := inb_of S39 ⟨by decide, by decide⟩
  obtain ⟨T40, h40, X40, e40, W40, st40⟩ := stI X37 hx hZ e37 Ar39 (j := (12 : Int32)) hin39 (g := (mkF m 70 #[.val (.int p1), .val (.int p2), .unset, .unset, .unset, .unset, .unset, .unset] [(.int 12), (.int 12), (.ref b1), (.ref b1)])) rfl rfl (hb hby at_70)
  have N40 := Fr.snoc X40 N37 (Nat.le_trans Z0 bn_b1)
  have V40 : Arv Z h40 b1 k1 .int (27 : Int32) [(.int (-6)), (.int 5), (.int 4), (.int (-5)), (.int 2), (.int 3), (.int 7), (.int 6), (.int 8), (.int (-7)), (.int 16), (.int 1), (.int 12), (.int 0), (.int 0), (.int 0), (.int 0), (.int 0), (.int 0), (.int 0), (.int 0), (.int 0), (.int 0), (.int 0), (.int 0), (.int 0), (.int 0)] (.int 0) := Arv.set Ar39 q39 S39 M39 H39 G39 rfl W40 12 rfl (Nat.le_of_ble_eq_true rfl)
  have sz41 : h37.size ≤ h40.size := Nat.le_of_eq W40.size.symm
  have Z41 : n0 ≤ h40.size := Nat.le_trans Z38 sz41
  have O41 := O38.wr W40 (Nat.le_trans Z0 bn_b1)
  have K41 : Keep h0 h40 [] := K38.wr W40 (Or.inr bn_b1)
  obtain ⟨cl42, Ar42, q42, S42, M42, H42, G42⟩ := id V40
  have hin42 : ¬ ((13 : Int32) < 0 ∨ cl42.slots.size ≤ ((13 : Int32)).toNatClampNeg) := inb_of S42 ⟨by decide, by decide⟩
  obtain ⟨T43, h43, X43, e43, W43, st43⟩ := stI X40 hx hZ e40 Ar42 (j := (13 : Int32)) hin42 (g := (mkF m 75 #[.val (.int p1), .val (.int p2), .unset, .unset, .unset, .unset, .unset, .unset] [(.int (-1)), (.int 13), (.ref b1), (.ref b1)])) rfl rfl (hb hby at_75)
  have N43 := Fr.snoc X43 N40 (Nat.le_trans Z0 bn_b1)
  have V43 : Arv Z h43 b1 k1 .int (27 : Int32) [(.int (-6)), (.int 5), (.int 4), (.int (-5)), (.int 2), (.int 3), (.int 7), (.int 6), (.int 8), (.int (-7)), (.int 16), (.int 1), (.int 12), (.int (-1)), (.int 0), (.int 0), (.int 0), (.int 0), (.int 0), (.int 0), (.int 0), (.int 0), (.int 0), (.int 0), (.int 0), (.int 0), (.int 0)] (.int 0) := Arv.set Ar42 q42 S42 M42 H42 G42 rfl W43 13 rfl (Nat.le_of_ble_eq_true rfl)
  have sz44 : h40.size ≤ h43.size := Nat.le_of_eq W43.size.symm
  have Z44 : n0 ≤ h43.size := Nat.le_trans Z41 sz44
  have O44 := O41.wr W43 (Nat.le_trans Z0 bn_b1)
  have K44 : Keep h0 h43 [] := K41.wr W43 (Or.inr bn_b1)
  obtain ⟨cl45, Ar45, q45, S45, M45, H45, G45⟩ := id V43
  have hin45 : ¬ ((14 : Int32) < 0 ∨ cl45.slots.size ≤ ((14 : Int32)).toNatClampNeg) := inb_of S45 ⟨by decide, by decide⟩
  obtain ⟨T46, h46, X46, e46, W46, st46⟩ := stI X43 hx hZ e43 Ar45 (j := (14 : Int32)) hin45 (g := (mkF m 81 #[.val (.int p1), .val (.int p2), .unset, .unset, .unset, .unset, .unset, .unset] [(.int (-15)), (.int 14), (.ref b1), (.ref b1)])) rfl rfl (hb hby at_81)
  have N46 := Fr.snoc X46 N43 (Nat.le_trans Z0 bn_b1)
  have V46 : Arv Z h46 b1 k1 .int (27 : Int32) [(.int (-6)), (.int 5), (.int 4), (.int (-5)), (.int 2), (.int 3), (.int 7), (.int 6), (.int 8), (.int (-7)), (.int 16), (.int 1), (.int 12), (.int (-1)), (.int (-15)), (.int 0), (.int 0), (.int 0), (.int 0), (.int 0), (.int 0), (.int 0), (.int 0), (.int 0), (.int 0), (.int 0), (.int 0)] (.int 0) := Arv.set Ar45 q45 S45 M45 H45 G45 rfl W46 14 rfl (Nat.le_of_ble_eq_true rfl)
  have sz47 : h43.size ≤ h46.size := Nat.le_of_eq W46.size.symm
  have Z47 : n0 ≤ h46.size := Nat.le_trans Z44 sz47
  have O47 := O44.wr W46 (Nat.le_trans Z0 bn_b1)
  have K47 : Keep h0 h46 [] := K44.wr W46 (Or.inr bn_b1)
  obtain ⟨cl48, Ar48, q48, S48, M48, H48, G48⟩ := id V46
  have hin48 : ¬ ((15 : Int32) < 0 ∨ cl48.slots.size ≤ ((15 : Int32)).toNatClampNeg) := inb_of S48 ⟨by decide, by decide⟩
  obtain ⟨T49, h49, X49, e49, W49, st49⟩ := stI X46 hx hZ e46 Ar48 (j := (15 : Int32)) hin48 (g := (mkF m 87 #[.val (.int p1), .val (.int p2), .unset, .unset, .unset, .unset, .unset, .unset] [(.int (-9)), (.int 15), (.ref b1), (.ref b1)])) rfl rfl (hb hby at_87)
  have N49 := Fr.snoc X49 N46 (Nat.le_trans Z0 bn_b1)
  have V49 : Arv Z h49 b1 k1 .int (27 : Int32) [(.int (-6)), (.int 5), (.int 4), (.int (-5)), (.int 2), (.int 3), (.int 7), (.int 6), (.int 8), (.int (-7)), (.int 16), (.int 1), (.int 12), (.int (-1)), (.int (-15)), (.int (-9)), (.int 0), (.int 0), (.int 0), (.int 0), (.int 0), (.int 0), (.int 0), (.int 0), (.int 0), (.int 0), (.int 0)] (.int 0) := Arv.set Ar48 q48 S48 M48 H48 G48 rfl W49 15 rfl (Nat.le_of_ble_eq_true rfl)
  have sz50 : h46.size ≤ h49.size := Nat.le_of_eq W49.size.symm
  have Z50 : n0 ≤ h49.size := Nat.le_trans Z47 sz50
  have O50 := O47.wr W49 (Nat.le_trans Z0 bn_b1)
  have K50 : Keep h0 h49 [] := K47.wr W49 (Or.inr bn_b1)
  obtain ⟨cl51, Ar51, q51, S51, M51, H51, G51⟩ := id V49
  have hin51 : ¬ ((16 : Int32) < 0 ∨ cl51.slots.size ≤ ((16 : Int32)).toNatClampNeg) := inb_of S51 ⟨by decide, by decide⟩
  obtain ⟨T52, h52, X52, e52, W52, st52⟩ := stI X49 hx hZ e49 Ar51 (j := (16 : Int32)) hin51 (g := (mkF m 93 #[.val (.int p1), .val (.int p2), .unset, .unset, .unset, .unset, .unset, .unset] [(.int (-16)), (.int 16), (.ref b1), (.ref b1)])) rfl rfl (hb hby at_93)
  have N52 := Fr.snoc X52 N49 (Nat.le_trans Z0 bn_b1)
  have V52 : Arv Z h52 b1 k1 .int (27 : Int32) [(.int (-6)), (.int 5), (.int 4), (.int (-5)), (.int 2), (.int 3), (.int 7), (.int 6), (.int 8), (.int (-7)), (.int 16), (.int 1), (.int 12), (.int (-1)), (.int (-15)), (.int (-9)), (.int (-16)), (.int 0), (.int 0), (.int 0), (.int 0), (.int 0), (.int 0), (.int 0), (.int 0), (.int 0), (.int 0)] (.int 0) := Arv.set Ar51 q51 S51 M51 H51 G51 rfl W52 16 rfl (Nat.le_of_ble_eq_true rfl)
  have sz53 : h49.size ≤ h52.size := Nat.le_of_eq W52.size.symm
  have Z53 : n0 ≤ h52.size := Nat.le_trans Z50 sz53
  have O53 := O50.wr W52 (Nat.le_trans Z0 bn_b1)
  have K53 : Keep h0 h52 [] := K50.wr W52 (Or.inr bn_b1)
  obtain ⟨cl54, Ar54, q54, S54, M54, H54, G54⟩ := id V52
  have hin54 : ¬ ((17 : Int32) < 0 ∨ cl54.slots.size ≤ ((17 : Int32)).toNatClampNeg) := inb_of S54 ⟨by decide, by decide⟩
  obtain ⟨T55, h55, X55, e55, W55, st55⟩ := stI X52 hx hZ e52 Ar54 (j := (17 : Int32)) hin54 (g := (mkF m 100 #[.val (.int p1), .val (.int p2), .unset, .unset, .unset, .unset, .unset, .unset] [(.int 2005), (.int 17), (.ref b1), (.ref b1)])) rfl rfl (hb hby at_100)
  have N55 := Fr.snoc X55 N52 (Nat.le_trans Z0 bn_b1)
  have V55 : Arv Z h55 b1 k1 .int (27 : Int32) [(.int (-6)), (.int 5), (.int 4), (.int (-5)), (.int 2), (.int 3), (.int 7), (.int 6), (.int 8), (.int (-7)), (.int 16), (.int 1), (.int 12), (.int (-1)), (.int (-15)), (.int (-9)), (.int (-16)), (.int 2005), (.int 0), (.int 0), (.int 0), (.int 0), (.int 0), (.int 0), (.int 0), (.int 0), (.int 0)] (.int 0) := Arv.set Ar54 q54 S54 M54 H54 G54 rfl W55 17 rfl (Nat.le_of_ble_eq_true rfl)
  have sz56 : h52.size ≤ h55.size := Nat.le_of_eq W55.size.symm
  have Z56 : n0 ≤ h55.size := Nat.le_trans Z53 sz56
  have O56 := O53.wr W55 (Nat.le_trans Z0 bn_b1)
  have K56 : Keep h0 h55 [] := K53.wr W55 (Or.inr bn_b1)
  obtain ⟨cl57, Ar57, q57, S57, M57, H57, G57⟩ := id V55
  have hin57 : ¬ ((18 : Int32) < 0 ∨ cl57.slots.size ≤ ((18 : Int32)).toNatClampNeg) := inb_of S57 ⟨by decide, by decide⟩
  obtain ⟨T58, h58, X58, e58, W58, st58⟩ := stI X55 hx hZ e55 Ar57 (j := (18 : Int32)) hin57 (g := (mkF m 107 #[.val (.int p1), .val (.int p2), .unset, .unset, .unset, .unset, .unset, .unset] [(.int 2011), (.int 18), (.ref b1), (.ref b1)])) rfl rfl (hb hby at_107)
  have N58 := Fr.snoc X58 N55 (Nat.le_trans Z0 bn_b1)
  have V58 : Arv Z h58 b1 k1 .int (27 : Int32) [(.int (-6)), (.int 5), (.int 4), (.int (-5)), (.int 2), (.int 3), (.int 7), (.int 6), (.int 8), (.int (-7)), (.int 16), (.int 1), (.int 12), (.int (-1)), (.int (-15)), (.int (-9)), (.int (-16)), (.int 2005), (.int 2011), (.int 0), (.int 0), (.int 0), (.int 0), (.int 0), (.int 0), (.int 0), (.int 0)] (.int 0) := Arv.set Ar57 q57 S57 M57 H57 G57 rfl W58 18 rfl (Nat.le_of_ble_eq_true rfl)
  have sz59 : h55.size ≤ h58.size := Nat.le_of_eq W58.size.symm
  have Z59 : n0 ≤ h58.size := Nat.le_trans Z56 sz59
  have O59 := O56.wr W58 (Nat.le_trans Z0 bn_b1)
  have K59 : Keep h0 h58 [] := K56.wr W58 (Or.inr bn_b1)
  obtain ⟨cl60, Ar60, q60, S60, M60, H60, G60⟩ := id V58
  have hin60 : ¬ ((19 : Int32) < 0 ∨ cl60.slots.size ≤ ((19 : Int32)).toNatClampNeg) := inb_of S60 ⟨by decide, by decide⟩
  obtain ⟨T61, h61, X61, e61, W61, st61⟩ := stI X58 hx hZ e58 Ar60 (j := (19 : Int32)) hin60 (g := (mkF m 112 #[.val (.int p1), .val (.int p2), .unset, .unset, .unset, .unset, .unset, .unset] [(.int 0), (.int 19), (.ref b1), (.ref b1)])) rfl rfl (hb hby at_112)
  have N61 := Fr.snoc X61 N58 (Nat.le_trans Z0 bn_b1)
  have V61 : Arv Z h61 b1 k1 .int (27 : Int32) [(.int (-6)), (.int 5), (.int 4), (.int (-5)), (.int 2), (.int 3), (.int 7), (.int 6), (.int 8), (.int (-7)), (.int 16), (.int 1), (.int 12), (.int (-1)), (.int (-15)), (.int (-9)), (.int (-16)), (.int 2005), (.int 2011), (.int 0), (.int 0), (.int 0), (.int 0), (.int 0), (.int 0), (.int 0), (.int 0)] (.int 0) := Arv.set Ar60 q60 S60 M60 H60 G60 rfl W61 19 rfl (Nat.le_of_ble_eq_true rfl)
  have sz62 : h58.size ≤ h61.size := Nat.le_of_eq W61.size.symm
  have Z62 : n0 ≤ h61.size := Nat.le_trans Z59 sz62
  have O62 := O59.wr W61 (Nat.le_trans Z0 bn_b1)
  have K62 : Keep h0 h61 [] := K59.wr W61 (Or.inr bn_b1)
  obtain ⟨cl63, Ar63, q63, S63, M63, H63, G63⟩ := id V61
  have hin63 : ¬ ((20 : Int32) < 0 ∨ cl63.slots.size ≤ ((20 : Int32)).toNatClampNeg) := inb_of S63 ⟨by decide, by decide⟩
  obtain ⟨T64, h64, X64, e64, W64, st64⟩ := stI X61 hx hZ e61 Ar63 (j := (20 : Int32)) hin63 (g := (mkF m 118 #[.val (.int p1), .val (.int p2), .unset, .unset, .unset, .unset, .unset, .unset] [(.int 91), (.int 20), (.ref b1), (.ref b1)])) rfl rfl (hb hby at_118)
  have N64 := Fr.snoc X64 N61 (Nat.le_trans Z0 bn_b1)
  have V64 : Arv Z h64 b1 k1 .int (27 : Int32) [(.int (-6)), (.int 5), (.int 4), (.int (-5)), (.int 2), (.int 3), (.int 7), (.int 6), (.int 8), (.int (-7)), (.int 16), (.int 1), (.int 12), (.int (-1)), (.int (-15)), (.int (-9)), (.int (-16)), (.int 2005), (.int 2011), (.int 0), (.int 91), (.int 0), (.int 0), (.int 0), (.int 0), (.int 0), (.int 0)] (.int 0) := Arv.set Ar63 q63 S63 M63 H63 G63 rfl W64 20 rfl (Nat.le_of_ble_eq_true rfl)
  have sz65 : h61.size ≤ h64.size := Nat.le_of_eq W64.size.symm
  have Z65 : n0 ≤ h64.size := Nat.le_trans Z62 sz65
  have O65 := O62.wr W64 (Nat.le_trans Z0 bn_b1)
  have K65 : Keep h0 h64 [] := K62.wr W64 (Or.inr bn_b1)
  obtain ⟨cl66, Ar66, q66, S66, M66, H66, G66⟩ := id V64
  have hin66 : ¬ ((21 : Int32) < 0 ∨ cl66.slots.size ≤ ((21 : Int32)).toNatClampNeg) := inb_of S66 ⟨by decide, by decide⟩
  obtain ⟨T67, h67, X67, e67, W67, st67⟩ := stI X64 hx hZ e64 Ar66 (j := (21 : Int32)) hin66 (g := (mkF m 124 #[.val (.int p1), .val (.int p2), .unset, .unset, .unset, .unset, .unset, .unset] [(.int 92), (.int 21), (.ref b1), (.ref b1)])) rfl rfl (hb hby at_124)
  have N67 := Fr.snoc X67 N64 (Nat.le_trans Z0 bn_b1)
  have V67 : Arv Z h67 b1 k1 .int (27 : Int32) [(.int (-6)), (.int 5), (.int 4), (.int (-5)), (.int 2), (.int 3), (.int 7), (.int 6), (.int 8), (.int (-7)), (.int 16), (.int 1), (.int 12), (.int (-1)), (.int (-15)), (.int (-9)), (.int (-16)), (.int 2005), (.int 2011), (.int 0), (.int 91), (.int 92), (.int 0), (.int 0), (.int 0), (.int 0), (.int 0)] (.int 0) := Arv.set Ar66 q66 S66 M66 H66 G66 rfl W67 21 rfl (Nat.le_of_ble_eq_true rfl)
  have sz68 : h64.size ≤ h67.size := Nat.le_of_eq W67.size.symm
  have Z68 : n0 ≤ h67.size := Nat.le_trans Z65 sz68
  have O68 := O65.wr W67 (Nat.le_trans Z0 bn_b1)
  have K68 : Keep h0 h67 [] := K65.wr W67 (Or.inr bn_b1)
  obtain ⟨cl69, Ar69, q69, S69, M69, H69, G69⟩ := id V67
  have hin69 : ¬ ((22 : Int32) < 0 ∨ cl69.slots.size ≤ ((22 : Int32)).toNatClampNeg) := inb_of S69 ⟨by decide, by decide⟩
  obtain ⟨T70, h70, X70, e70, W70, st70⟩ := stI X67 hx hZ e67 Ar69 (j := (22 : Int32)) hin69 (g := (mkF m 130 #[.val (.int p1), .val (.int p2), .unset, .unset, .unset, .unset, .unset, .unset] [(.int 93), (.int 22), (.ref b1), (.ref b1)])) rfl rfl (hb hby at_130)
  have N70 := Fr.snoc X70 N67 (Nat.le_trans Z0 bn_b1)
  have V70 : Arv Z h70 b1 k1 .int (27 : Int32) [(.int (-6)), (.int 5), (.int 4), (.int (-5)), (.int 2), (.int 3), (.int 7), (.int 6), (.int 8), (.int (-7)), (.int 16), (.int 1), (.int 12), (.int (-1)), (.int (-15)), (.int (-9)), (.int (-16)), (.int 2005), (.int 2011), (.int 0), (.int 91), (.int 92), (.int 93), (.int 0), (.int 0), (.int 0), (.int 0)] (.int 0) := Arv.set Ar69 q69 S69 M69 H69 G69 rfl W70 22 rfl (Nat.le_of_ble_eq_true rfl)
  have sz71 : h67.size ≤ h70.size := Nat.le_of_eq W70.size.symm
  have Z71 : n0 ≤ h70.size := Nat.le_trans Z68 sz71
  have O71 := O68.wr W70 (Nat.le_trans Z0 bn_b1)
  have K71 : Keep h0 h70 [] := K68.wr W70 (Or.inr bn_b1)
  obtain ⟨cl72, Ar72, q72, S72, M72, H72, G72⟩ := id V70
  have hin72 : ¬ ((23 : Int32) < 0 ∨ cl72.slots.size ≤ ((23 : Int32)).toNatClampNeg) := inb_of S72 ⟨by decide, by decide⟩
  obtain ⟨T73, h73, X73, e73, W73, st73⟩ := stI X70 hx hZ e70 Ar72 (j := (23 : Int32)) hin72 (g := (mkF m 136 #[.val (.int p1), .val (.int p2), .unset, .unset, .unset, .unset, .unset, .unset] [(.int (-2)), (.int 23), (.ref b1), (.ref b1)])) rfl rfl (hb hby at_136)
  have N73 := Fr.snoc X73 N70 (Nat.le_trans Z0 bn_b1)
  have V73 : Arv Z h73 b1 k1 .int (27 : Int32) [(.int (-6)), (.int 5), (.int 4), (.int (-5)), (.int 2), (.int 3), (.int 7), (.int 6), (.int 8), (.int (-7)), (.int 16), (.int 1), (.int 12), (.int (-1)), (.int (-15)), (.int (-9)), (.int (-16)), (.int 2005), (.int 2011), (.int 0), (.int 91), (.int 92), (.int 93), (.int (-2)), (.int 0), (.int 0), (.int 0)] (.int 0) := Arv.set Ar72 q72 S72 M72 H72 G72 rfl W73 23 rfl (Nat.le_of_ble_eq_true rfl)
  have sz74 : h70.size ≤ h73.size := Nat.le_of_eq W73.size.symm
  have Z74 : n0 ≤ h73.size := Nat.le_trans Z71 sz74
  have O74 := O71.wr W73 (Nat.le_trans Z0 bn_b1)
  have K74 : Keep h0 h73 [] := K71.wr W73 (Or.inr bn_b1)
  obtain ⟨cl75, Ar75, q75, S75, M75, H75, G75⟩ := id V73
  have hin75 : ¬ ((24 : Int32) < 0 ∨ cl75.slots.size ≤ ((24 : Int32)).toNatClampNeg) := inb_of S75 ⟨by decide, by decide⟩
  obtain ⟨T76, h76, X76, e76, W76, st76⟩ := stI X73 hx hZ e73 Ar75 (j := (24 : Int32)) hin75 (g := (mkF m 142 #[.val (.int p1), .val (.int p2), .unset, .unset, .unset, .unset, .unset, .unset] [(.int (-3)), (.int 24), (.ref b1), (.ref b1)])) rfl rfl (hb hby at_142)
  have N76 := Fr.snoc X76 N73 (Nat.le_trans Z0 bn_b1)
  have V76 : Arv Z h76 b1 k1 .int (27 : Int32) [(.int (-6)), (.int 5), (.int 4), (.int (-5)), (.int 2), (.int 3), (.int 7), (.int 6), (.int 8), (.int (-7)), (.int 16), (.int 1), (.int 12), (.int (-1)), (.int (-15)), (.int (-9)), (.int (-16)), (.int 2005), (.int 2011), (.int 0), (.int 91), (.int 92), (.int 93), (.int (-2)), (.int (-3)), (.int 0), (.int 0)] (.int 0) := Arv.set Ar75 q75 S75 M75 H75 G75 rfl W76 24 rfl (Nat.le_of_ble_eq_true rfl)
  have sz77 : h73.size ≤ h76.size := Nat.le_of_eq W76.size.symm
  have Z77 : n0 ≤ h76.size := Nat.le_trans Z74 sz77
  have O77 := O74.wr W76 (Nat.le_trans Z0 bn_b1)
  have K77 : Keep h0 h76 [] := K74.wr W76 (Or.inr bn_b1)
  obtain ⟨cl78, Ar78, q78, S78, M78, H78, G78⟩ := id V76
  have hin78 : ¬ ((25 : Int32) < 0 ∨ cl78.slots.size ≤ ((25 : Int32)).toNatClampNeg) := inb_of S78 ⟨by decide, by decide⟩
  obtain ⟨T79, h79, X79, e79, W79, st79⟩ := stI X76 hx hZ e76 Ar78 (j := (25 : Int32)) hin78 (g := (mkF m 149 #[.val (.int p1), .val (.int p2), .unset, .unset, .unset, .unset, .unset, .unset] [(.int 1111), (.int 25), (.ref b1), (.ref b1)])) rfl rfl (hb hby at_149)
  have N79 := Fr.snoc X79 N76 (Nat.le_trans Z0 bn_b1)
  have V79 : Arv Z h79 b1 k1 .int (27 : Int32) [(.int (-6)), (.int 5), (.int 4), (.int (-5)), (.int 2), (.int 3), (.int 7), (.int 6), (.int 8), (.int (-7)), (.int 16), (.int 1), (.int 12), (.int (-1)), (.int (-15)), (.int (-9)), (.int (-16)), (.int 2005), (.int 2011), (.int 0), (.int 91), (.int 92), (.int 93), (.int (-2)), (.int (-3)), (.int 1111), (.int 0)] (.int 0) := Arv.set Ar78 q78 S78 M78 H78 G78 rfl W79 25 rfl (Nat.le_of_ble_eq_true rfl)
  have sz80 : h76.size ≤ h79.size := Nat.le_of_eq W79.size.symm
  have Z80 : n0 ≤ h79.size := Nat.le_trans Z77 sz80
  have O80 := O77.wr W79 (Nat.le_trans Z0 bn_b1)
  have K80 : Keep h0 h79 [] := K77.wr W79 (Or.inr bn_b1)
  obtain ⟨cl81, Ar81, q81, S81, M81, H81, G81⟩ := id V79
  have hin81 : ¬ ((26 : Int32) < 0 ∨ cl81.slots.size ≤ ((26 : Int32)).toNatClampNeg) := inb_of S81 ⟨by decide, by decide⟩
  obtain ⟨T82, h82, X82, e82, W82, st82⟩ := stI X79 hx hZ e79 Ar81 (j := (26 : Int32)) hin81 (g := (mkF m 156 #[.val (.int p1), .val (.int p2), .unset, .unset, .unset, .unset, .unset, .unset] [(.int 2004), (.int 26), (.ref b1), (.ref b1)])) rfl rfl (hb hby at_156)
  have N82 := Fr.snoc X82 N79 (Nat.le_trans Z0 bn_b1)
  have V82 : Arv Z h82 b1 k1 .int (27 : Int32) [(.int (-6)), (.int 5), (.int 4), (.int (-5)), (.int 2), (.int 3), (.int 7), (.int 6), (.int 8), (.int (-7)), (.int 16), (.int 1), (.int 12), (.int (-1)), (.int (-15)), (.int (-9)), (.int (-16)), (.int 2005), (.int 2011), (.int 0), (.int 91), (.int 92), (.int 93), (.int (-2)), (.int (-3)), (.int 1111), (.int 2004)] (.int 0) := Arv.set Ar81 q81 S81 M81 H81 G81 rfl W82 26 rfl (Nat.le_of_ble_eq_true rfl)
  have sz83 : h79.size ≤ h82.size := Nat.le_of_eq W82.size.symm
  have Z83 : n0 ≤ h82.size := Nat.le_trans Z80 sz83
  have O83 := O80.wr W82 (Nat.le_trans Z0 bn_b1)
  have K83 : Keep h0 h82 [] := K80.wr W82 (Or.inr bn_b1)
  subst e82
  refine ⟨T82, _, b1, k1, X82, N82, K83, bn_b1, V82, fun target kt => ?_⟩
  show St p e below T0 (mkF m 0 #[.val (.int p1), .val (.int p2), .unset, .unset, .unset, .unset, .unset, .unset] []) _
  refine XS.bipush X0.here hx rfl (hb hby at_0) ?_
  show St p e below T0 (mkF m 2 #[.val (.int p1), .val (.int p2), .unset, .unset, .unset, .unset, .unset, .unset] [(.int 27)]) _
  refine st1 _ ?_
  show St p e below T1 (mkF m 4 #[.val (.int p1), .val (.int p2), .unset, .unset, .unset, .unset, .unset, .unset] [(.ref b1)]) _
  refine XS.dup X1.here hx rfl (hb hby at_4) rfl rfl ?_
  show St p e below T1 (mkF m 5 #[.val (.int p1), .val (.int p2), .unset, .unset, .unset, .unset, .unset, .unset] [(.ref b1), (.ref b1)]) _
  refine XS.iconst X1.here hx rfl (hb hby at_5) ?_
  show St p e below T1 (mkF m 6 #[.val (.int p1), .val (.int p2), .unset, .unset, .unset, .unset, .unset, .unset] [(.int 0), (.ref b1), (.ref b1)]) _
  refine XS.bipush X1.here hx rfl (hb hby at_6) ?_
  show St p e below T1 (mkF m 8 #[.val (.int p1), .val (.int p2), .unset, .unset, .unset, .unset, .unset, .unset] [(.int (-6)), (.int 0), (.ref b1), (.ref b1)]) _
  refine st4 _ ?_
  show St p e below T4 (mkF m 9 #[.val (.int p1), .val (.int p2), .unset, .unset, .unset, .unset, .unset, .unset] [(.ref b1)]) _
  refine XS.dup X4.here hx rfl (hb hby at_9) rfl rfl ?_
  show St p e below T4 (mkF m 10 #[.val (.int p1), .val (.int p2), .unset, .unset, .unset, .unset, .unset, .unset] [(.ref b1), (.ref b1)]) _
  refine XS.iconst X4.here hx rfl (hb hby at_10) ?_
  show St p e below T4 (mkF m 11 #[.val (.int p1), .val (.int p2), .unset, .unset, .unset, .unset, .unset, .unset] [(.int 1), (.ref b1), (.ref b1)]) _
  refine XS.iconst X4.here hx rfl (hb hby at_11) ?_
  show St p e below T4 (mkF m 12 #[.val (.int p1), .val (.int p2), .unset, .unset, .unset, .unset, .unset, .unset] [(.int 5), (.int 1), (.ref b1), (.ref b1)]) _
  refine st7 _ ?_
  show St p e below T7 (mkF m 13 #[.val (.int p1), .val (.int p2), .unset, .unset, .unset, .unset, .unset, .unset] [(.ref b1)]) _
  refine XS.dup X7.here hx rfl (hb hby at_13) rfl rfl ?_
  show St p e below T7 (mkF m 14 #[.val (.int p1), .val (.int p2), .unset, .unset, .unset, .unset, .unset, .unset] [(.ref b1), (.ref b1)]) _
  refine XS.iconst X7.here hx rfl (hb hby at_14) ?_
  show St p e below T7 (mkF m 15 #[.val (.int p1), .val (.int p2), .unset, .unset, .unset, .unset, .unset, .unset] [(.int 2), (.ref b1), (.ref b1)]) _
  refine XS.iconst X7.here hx rfl (hb hby at_15) ?_
  show St p e below T7 (mkF m 16 #[.val (.int p1), .val (.int p2), .unset, .unset, .unset, .unset, .unset, .unset] [(.int 4), (.int 2), (.ref b1), (.ref b1)]) _
  refine st10 _ ?_
  show St p e below T10 (mkF m 17 #[.val (.int p1), .val (.int p2), .unset, .unset, .unset, .unset, .unset, .unset] [(.ref b1)]) _
  refine XS.dup X10.here hx rfl (hb hby at_17) rfl rfl ?_
  show St p e below T10 (mkF m 18 #[.val (.int p1), .val (.int p2), .unset, .unset, .unset, .unset, .unset, .unset] [(.ref b1), (.ref b1)]) _
  refine XS.iconst X10.here hx rfl (hb hby at_18) ?_
  show St p e below T10 (mkF m 19 #[.val (.int p1), .val (.int p2), .unset, .unset, .unset, .unset, .unset, .unset] [(.int 3), (.ref b1), (.ref b1)]) _
  refine XS.bipush X10.here hx rfl (hb hby at_19) ?_
  show St p e below T10 (mkF m 21 #[.val (.int p1), .val (.int p2), .unset, .unset, .unset, .unset, .unset, .unset] [(.int (-5)), (.int 3), (.ref b1), (.ref b1)]) _
  refine st13 _ ?_
  show St p e below T13 (mkF m 22 #[.val (.int p1), .val (.int p2), .unset, .unset, .unset, .unset, .unset, .unset] [(.ref b1)]) _
  refine XS.dup X13.here hx rfl (hb hby at_22) rfl rfl ?_
  show St p e below T13 (mkF m 23 #[.val (.int p1), .val (.int p2), .unset, .unset, .unset, .unset, .unset, .unset] [(.ref b1), (.ref b1)]) _
  refine XS.iconst X13.here hx rfl (hb hby at_23) ?_
  show St p e below T13 (mkF m 24 #[.val (.int p1), .val (.int p2), .unset, .unset, .unset, .unset, .unset, .unset] [(.int 4), (.ref b1), (.ref b1)]) _
  refine XS.iconst X13.here hx rfl (hb hby at_24) ?_
  show St p e below T13 (mkF m 25 #[.val (.int p1), .val (.int p2), .unset, .unset, .unset, .unset, .unset, .unset] [(.int 2), (.int 4), (.ref b1), (.ref b1)]) _
  refine st16 _ ?_
  show St p e below T16 (mkF m 26 #[.val (.int p1), .val (.int p2), .unset, .unset, .unset, .unset, .unset, .unset] [(.ref b1)]) _
  refine XS.dup X16.here hx rfl (hb hby at_26) rfl rfl ?_
  show St p e below T16 (mkF m 27 #[.val (.int p1), .val (.int p2), .unset, .unset, .unset, .unset, .unset, .unset] [(.ref b1), (.ref b1)]) _
  refine XS.iconst X16.here hx rfl (hb hby at_27) ?_
  show St p e below T16 (mkF m 28 #[.val (.int p1), .val (.int p2), .unset, .unset, .unset, .unset, .unset, .unset] [(.int 5), (.ref b1), (.ref b1)]) _
  refine XS.iconst X16.here hx rfl (hb hby at_28) ?_
  show St p e below T16 (mkF m 29 #[.val (.int p1), .val (.int p2), .unset, .unset, .unset, .unset, .unset, .unset] [(.int 3), (.int 5), (.ref b1), (.ref b1)]) _
  refine st19 _ ?_
  show St p e below T19 (mkF m 30 #[.val (.int p1), .val (.int p2), .unset, .unset, .unset, .unset, .unset, .unset] [(.ref b1)]) _
  refine XS.dup X19.here hx rfl (hb hby at_30) rfl rfl ?_
  show St p e below T19 (mkF m 31 #[.val (.int p1), .val (.int p2), .unset, .unset, .unset, .unset, .unset, .unset] [(.ref b1), (.ref b1)]) _
  refine XS.bipush X19.here hx rfl (hb hby at_31) ?_
  show St p e below T19 (mkF m 33 #[.val (.int p1), .val (.int p2), .unset, .unset, .unset, .unset, .unset, .unset] [(.int 6), (.ref b1), (.ref b1)]) _
  refine XS.bipush X19.here hx rfl (hb hby at_33) ?_
  show St p e below T19 (mkF m 35 #[.val (.int p1), .val (.int p2), .unset, .unset, .unset, .unset, .unset, .unset] [(.int 7), (.int 6), (.ref b1), (.ref b1)]) _
  refine st22 _ ?_
  show St p e below T22 (mkF m 36 #[.val (.int p1), .val (.int p2), .unset, .unset, .unset, .unset, .unset, .unset] [(.ref b1)]) _
  refine XS.dup X22.here hx rfl (hb hby at_36) rfl rfl ?_
  show St p e below T22 (mkF m 37 #[.val (.int p1), .val (.int p2), .unset, .unset, .unset, .unset, .unset, .unset] [(.ref b1), (.ref b1)]) _
  refine XS.bipush X22.here hx rfl (hb hby at_37) ?_
  show St p e below T22 (mkF m 39 #[.val (.int p1), .val (.int p2), .unset, .unset, .unset, .unset, .unset, .unset] [(.int 7), (.ref b1), (.ref b1)]) _
  refine XS.bipush X22.here hx rfl (hb hby at_39) ?_
  show St p e below T22 (mkF m 41 #[.val (.int p1), .val (.int p2), .unset, .unset, .unset, .unset, .unset, .unset] [(.int 6), (.int 7), (.ref b1), (.ref b1)]) _
  refine st25 _ ?_
  show St p e below T25 (mkF m 42 #[.val (.int p1), .val (.int p2), .unset, .unset, .unset, .unset, .unset, .unset] [(.ref b1)]) _
  refine XS.dup X25.here hx rfl (hb hby at_42) rfl rfl ?_
  show St p e below T25 (mkF m 43 #[.val (.int p1), .val (.int p2), .unset, .unset, .unset, .unset, .unset, .unset] [(.ref b1), (.ref b1)]) _
  refine XS.bipush X25.here hx rfl (hb hby at_43) ?_
  show St p e below T25 (mkF m 45 #[.val (.int p1), .val (.int p2), .unset, .unset, .unset, .unset, .unset, .unset] [(.int 8), (.ref b1), (.ref b1)]) _
  refine XS.bipush X25.here hx rfl (hb hby at_45) ?_
  show St p e below T25 (mkF m 47 #[.val (.int p1), .val (.int p2), .unset, .unset, .unset, .unset, .unset, .unset] [(.int 8), (.int 8), (.ref b1), (.ref b1)]) _
  refine st28 _ ?_
  show St p e below T28 (mkF m 48 #[.val (.int p1), .val (.int p2), .unset, .unset, .unset, .unset, .unset, .unset] [(.ref b1)]) _
  refine XS.dup X28.here hx rfl (hb hby at_48) rfl rfl ?_
  show St p e below T28 (mkF m 49 #[.val (.int p1), .val (.int p2), .unset, .unset, .unset, .unset, .unset, .unset] [(.ref b1), (.ref b1)]) _
  refine XS.bipush X28.here hx rfl (hb hby at_49) ?_
  show St p e below T28 (mkF m 51 #[.val (.int p1), .val (.int p2), .unset, .unset, .unset, .unset, .unset, .unset] [(.int 9), (.ref b1), (.ref b1)]) _
  refine XS.bipush X28.here hx rfl (hb hby at_51) ?_
  show St p e below T28 (mkF m 53 #[.val (.int p1), .val (.int p2), .unset, .unset, .unset, .unset, .unset, .unset] [(.int (-7)), (.int 9), (.ref b1), (.ref b1)]) _
  refine st31 _ ?_
  show St p e below T31 (mkF m 54 #[.val (.int p1), .val (.int p2), .unset, .unset, .unset, .unset, .unset, .unset] [(.ref b1)]) _
  refine XS.dup X31.here hx rfl (hb hby at_54) rfl rfl ?_
  show St p e below T31 (mkF m 55 #[.val (.int p1), .val (.int p2), .unset, .unset, .unset, .unset, .unset, .unset] [(.ref b1), (.ref b1)]) _
  refine XS.bipush X31.here hx rfl (hb hby at_55) ?_
  show St p e below T31 (mkF m 57 #[.val (.int p1), .val (.int p2), .unset, .unset, .unset, .unset, .unset, .unset] [(.int 10), (.ref b1), (.ref b1)]) _
  refine XS.bipush X31.here hx rfl (hb hby at_57) ?_
  show St p e below T31 (mkF m 59 #[.val (.int p1), .val (.int p2), .unset, .unset, .unset, .unset, .unset, .unset] [(.int 16), (.int 10), (.ref b1), (.ref b1)]) _
  refine st34 _ ?_
  show St p e below T34 (mkF m 60 #[.val (.int p1), .val (.int p2), .unset, .unset, .unset, .unset, .unset, .unset] [(.ref b1)]) _
  refine XS.dup X34.here hx rfl (hb hby at_60) rfl rfl ?_
  show St p e below T34 (mkF m 61 #[.val (.int p1), .val (.int p2), .unset, .unset, .unset, .unset, .unset, .unset] [(.ref b1), (.ref b1)]) _
  refine XS.bipush X34.here hx rfl (hb hby at_61) ?_
  show St p e below T34 (mkF m 63 #[.val (.int p1), .val (.int p2), .unset, .unset, .unset, .unset, .unset, .unset] [(.int 11), (.ref b1), (.ref b1)]) _
  refine XS.iconst X34.here hx rfl (hb hby at_63) ?_
  show St p e below T34 (mkF m 64 #[.val (.int p1), .val (.int p2), .unset, .unset, .unset, .unset, .unset, .unset] [(.int 1), (.int 11), (.ref b1), (.ref b1)]) _
  refine st37 _ ?_
  show St p e below T37 (mkF m 65 #[.val (.int p1), .val (.int p2), .unset, .unset, .unset, .unset, .unset, .unset] [(.ref b1)]) _
  refine XS.dup X37.here hx rfl (hb hby at_65) rfl rfl ?_
  show St p e below T37 (mkF m 66 #[.val (.int p1), .val (.int p2), .unset, .unset, .unset, .unset, .unset, .unset] [(.ref b1), (.ref b1)]) _
  refine XS.bipush X37.here hx rfl (hb hby at_66) ?_
  show St p e below T37 (mkF m 68 #[.val (.int p1), .val (.int p2), .unset, .unset, .unset, .unset, .unset, .unset] [(.int 12), (.ref b1), (.ref b1)]) _
  refine XS.bipush X37.here hx rfl (hb hby at_68) ?_
  show St p e below T37 (mkF m 70 #[.val (.int p1), .val (.int p2), .unset, .unset, .unset, .unset, .unset, .unset] [(.int 12), (.int 12), (.ref b1), (.ref b1)]) _
  refine st40 _ ?_
  show St p e below T40 (mkF m 71 #[.val (.int p1), .val (.int p2), .unset, .unset, .unset, .unset, .unset, .unset] [(.ref b1)]) _
  refine XS.dup X40.here hx rfl (hb hby at_71) rfl rfl ?_
  show St p e below T40 (mkF m 72 #[.val (.int p1), .val (.int p2), .unset, .unset, .unset, .unset, .unset, .unset] [(.ref b1), (.ref b1)]) _
  refine XS.bipush X40.here hx rfl (hb hby at_72) ?_
  show St p e below T40 (mkF m 74 #[.val (.int p1), .val (.int p2), .unset, .unset, .unset, .unset, .unset, .unset] [(.int 13), (.ref b1), (.ref b1)]) _
  refine XS.iconst X40.here hx rfl (hb hby at_74) ?_
  show St p e below T40 (mkF m 75 #[.val (.int p1), .val (.int p2), .unset, .unset, .unset, .unset, .unset, .unset] [(.int (-1)), (.int 13), (.ref b1), (.ref b1)]) _
  refine st43 _ ?_
  show St p e below T43 (mkF m 76 #[.val (.int p1), .val (.int p2), .unset, .unset, .unset, .unset, .unset, .unset] [(.ref b1)]) _
  refine XS.dup X43.here hx rfl (hb hby at_76) rfl rfl ?_
  show St p e below T43 (mkF m 77 #[.val (.int p1), .val (.int p2), .unset, .unset, .unset, .unset, .unset, .unset] [(.ref b1), (.ref b1)]) _
  refine XS.bipush X43.here hx rfl (hb hby at_77) ?_
  show St p e below T43 (mkF m 79 #[.val (.int p1), .val (.int p2), .unset, .unset, .unset, .unset, .unset, .unset] [(.int 14), (.ref b1), (.ref b1)]) _
  refine XS.bipush X43.here hx rfl (hb hby at_79) ?_
  show St p e below T43 (mkF m 81 #[.val (.int p1), .val (.int p2), .unset, .unset, .unset, .unset, .unset, .unset] [(.int (-15)), (.int 14), (.ref b1), (.ref b1)]) _
  refine st46 _ ?_
  show St p e below T46 (mkF m 82 #[.val (.int p1), .val (.int p2), .unset, .unset, .unset, .unset, .unset, .unset] [(.ref b1)]) _
  refine XS.dup X46.here hx rfl (hb hby at_82) rfl rfl ?_
  show St p e below T46 (mkF m 83 #[.val (.int p1), .val (.int p2), .unset, .unset, .unset, .unset, .unset, .unset] [(.ref b1), (.ref b1)]) _
  refine XS.bipush X46.here hx rfl (hb hby at_83) ?_
  show St p e below T46 (mkF m 85 #[.val (.int p1), .val (.int p2), .unset, .unset, .unset, .unset, .unset, .unset] [(.int 15), (.ref b1), (.ref b1)]) _
  refine XS.bipush X46.here hx rfl (hb hby at_85) ?_
  show St p e below T46 (mkF m 87 #[.val (.int p1), .val (.int p2), .unset, .unset, .unset, .unset, .unset, .unset] [(.int (-9)), (.int 15), (.ref b1), (.ref b1)]) _
  refine st49 _ ?_
  show St p e below T49 (mkF m 88 #[.val (.int p1), .val (.int p2), .unset, .unset, .unset, .unset, .unset, .unset] [(.ref b1)]) _
  refine XS.dup X49.here hx rfl (hb hby at_88) rfl rfl ?_
  show St p e below T49 (mkF m 89 #[.val (.int p1), .val (.int p2), .unset, .unset, .unset, .unset, .unset, .unset] [(.ref b1), (.ref b1)]) _
  refine XS.bipush X49.here hx rfl (hb hby at_89) ?_
  show St p e below T49 (mkF m 91 #[.val (.int p1), .val (.int p2), .unset, .unset, .unset, .unset, .unset, .unset] [(.int 16), (.ref b1), (.ref b1)]) _
  refine XS.bipush X49.here hx rfl (hb hby at_91) ?_
  show St p e below T49 (mkF m 93 #[.val (.int p1), .val (.int p2), .unset, .unset, .unset, .unset, .unset, .unset] [(.int (-16)), (.int 16), (.ref b1), (.ref b1)]) _
  refine st52 _ ?_
  show St p e below T52 (mkF m 94 #[.val (.int p1), .val (.int p2), .unset, .unset, .unset, .unset, .unset, .unset] [(.ref b1)]) _
  refine XS.dup X52.here hx rfl (hb hby at_94) rfl rfl ?_
  show St p e below T52 (mkF m 95 #[.val (.int p1), .val (.int p2), .unset, .unset, .unset, .unset, .unset, .unset] [(.ref b1), (.ref b1)]) _
  refine XS.bipush X52.here hx rfl (hb hby at_95) ?_
  show St p e below T52 (mkF m 97 #[.val (.int p1), .val (.int p2), .unset, .unset, .unset, .unset, .unset, .unset] [(.int 17), (.ref b1), (.ref b1)]) _
  refine XS.sipush X52.here hx rfl (hb hby at_97) ?_
  show St p e below T52 (mkF m 100 #[.val (.int p1), .val (.int p2), .unset, .unset, .unset, .unset, .unset, .unset] [(.int 2005), (.int 17), (.ref b1), (.ref b1)]) _
  refine st55 _ ?_
  show St p e below T55 (mkF m 101 #[.val (.int p1), .val (.int p2), .unset, .unset, .unset, .unset, .unset, .unset] [(.ref b1)]) _
  refine XS.dup X55.here hx rfl (hb hby at_101) rfl rfl ?_
  show St p e below T55 (mkF m 102 #[.val (.int p1), .val (.int p2), .unset, .unset, .unset, .unset, .unset, .unset] [(.ref b1), (.ref b1)]) _
  refine XS.bipush X55.here hx rfl (hb hby at_102) ?_
  show St p e below T55 (mkF m 104 #[.val (.int p1), .val (.int p2), .unset, .unset, .unset, .unset, .unset, .unset] [(.int 18), (.ref b1), (.ref b1)]) _
  refine XS.sipush X55.here hx rfl (hb hby at_104) ?_
  show St p e below T55 (mkF m 107 #[.val (.int p1), .val (.int p2), .unset, .unset, .unset, .unset, .unset, .unset] [(.int 2011), (.int 18), (.ref b1), (.ref b1)]) _
  refine st58 _ ?_
  show St p e below T58 (mkF m 108 #[.val (.int p1), .val (.int p2), .unset, .unset, .unset, .unset, .unset, .unset] [(.ref b1)]) _
  refine XS.dup X58.here hx rfl (hb hby at_108) rfl rfl ?_
  show St p e below T58 (mkF m 109 #[.val (.int p1), .val (.int p2), .unset, .unset, .unset, .unset, .unset, .unset] [(.ref b1), (.ref b1)]) _
  refine XS.bipush X58.here hx rfl (hb hby at_109) ?_
  show St p e below T58 (mkF m 111 #[.val (.int p1), .val (.int p2), .unset, .unset, .unset, .unset, .unset, .unset] [(.int 19), (.ref b1), (.ref b1)]) _
  refine XS.iconst X58.here hx rfl (hb hby at_111) ?_
  show St p e below T58 (mkF m 112 #[.val (.int p1), .val (.int p2), .unset, .unset, .unset, .unset, .unset, .unset] [(.int 0), (.int 19), (.ref b1), (.ref b1)]) _
  refine st61 _ ?_
  show St p e below T61 (mkF m 113 #[.val (.int p1), .val (.int p2), .unset, .unset, .unset, .unset, .unset, .unset] [(.ref b1)]) _
  refine XS.dup X61.here hx rfl (hb hby at_113) rfl rfl ?_
  show St p e below T61 (mkF m 114 #[.val (.int p1), .val (.int p2), .unset, .unset, .unset, .unset, .unset, .unset] [(.ref b1), (.ref b1)]) _
  refine XS.bipush X61.here hx rfl (hb hby at_114) ?_
  show St p e below T61 (mkF m 116 #[.val (.int p1), .val (.int p2), .unset, .unset, .unset, .unset, .unset, .unset] [(.int 20), (.ref b1), (.ref b1)]) _
  refine XS.bipush X61.here hx rfl (hb hby at_116) ?_
  show St p e below T61 (mkF m 118 #[.val (.int p1), .val (.int p2), .unset, .unset, .unset, .unset, .unset, .unset] [(.int 91), (.int 20), (.ref b1), (.ref b1)]) _
  refine st64 _ ?_
  show St p e below T64 (mkF m 119 #[.val (.int p1), .val (.int p2), .unset, .unset, .unset, .unset, .unset, .unset] [(.ref b1)]) _
  refine XS.dup X64.here hx rfl (hb hby at_119) rfl rfl ?_
  show St p e below T64 (mkF m 120 #[.val (.int p1), .val (.int p2), .unset, .unset, .unset, .unset, .unset, .unset] [(.ref b1), (.ref b1)]) _
  refine XS.bipush X64.here hx rfl (hb hby at_120) ?_
  show St p e below T64 (mkF m 122 #[.val (.int p1), .val (.int p2), .unset, .unset, .unset, .unset, .unset, .unset] [(.int 21), (.ref b1), (.ref b1)]) _
  refine XS.bipush X64.here hx rfl (hb hby at_122) ?_
  show St p e below T64 (mkF m 124 #[.val (.int p1), .val (.int p2), .unset, .unset, .unset, .unset, .unset, .unset] [(.int 92), (.int 21), (.ref b1), (.ref b1)]) _
  refine st67 _ ?_
  show St p e below T67 (mkF m 125 #[.val (.int p1), .val (.int p2), .unset, .unset, .unset, .unset, .unset, .unset] [(.ref b1)]) _
  refine XS.dup X67.here hx rfl (hb hby at_125) rfl rfl ?_
  show St p e below T67 (mkF m 126 #[.val (.int p1), .val (.int p2), .unset, .unset, .unset, .unset, .unset, .unset] [(.ref b1), (.ref b1)]) _
  refine XS.bipush X67.here hx rfl (hb hby at_126) ?_
  show St p e below T67 (mkF m 128 #[.val (.int p1), .val (.int p2), .unset, .unset, .unset, .unset, .unset, .unset] [(.int 22), (.ref b1), (.ref b1)]) _
  refine XS.bipush X67.here hx rfl (hb hby at_128) ?_
  show St p e below T67 (mkF m 130 #[.val (.int p1), .val (.int p2), .unset, .unset, .unset, .unset, .unset, .unset] [(.int 93), (.int 22), (.ref b1), (.ref b1)]) _
  refine st70 _ ?_
  show St p e below T70 (mkF m 131 #[.val (.int p1), .val (.int p2), .unset, .unset, .unset, .unset, .unset, .unset] [(.ref b1)]) _
  refine XS.dup X70.here hx rfl (hb hby at_131) rfl rfl ?_
  show St p e below T70 (mkF m 132 #[.val (.int p1), .val (.int p2), .unset, .unset, .unset, .unset, .unset, .unset] [(.ref b1), (.ref b1)]) _
  refine XS.bipush X70.here hx rfl (hb hby at_132) ?_
  show St p e below T70 (mkF m 134 #[.val (.int p1), .val (.int p2), .unset, .unset, .unset, .unset, .unset, .unset] [(.int 23), (.ref b1), (.ref b1)]) _
  refine XS.bipush X70.here hx rfl (hb hby at_134) ?_
  show St p e below T70 (mkF m 136 #[.val (.int p1), .val (.int p2), .unset, .unset, .unset, .unset, .unset, .unset] [(.int (-2)), (.int 23), (.ref b1), (.ref b1)]) _
  refine st73 _ ?_
  show St p e below T73 (mkF m 137 #[.val (.int p1), .val (.int p2), .unset, .unset, .unset, .unset, .unset, .unset] [(.ref b1)]) _
  refine XS.dup X73.here hx rfl (hb hby at_137) rfl rfl ?_
  show St p e below T73 (mkF m 138 #[.val (.int p1), .val (.int p2), .unset, .unset, .unset, .unset, .unset, .unset] [(.ref b1), (.ref b1)]) _
  refine XS.bipush X73.here hx rfl (hb hby at_138) ?_
  show St p e below T73 (mkF m 140 #[.val (.int p1), .val (.int p2), .unset, .unset, .unset, .unset, .unset, .unset] [(.int 24), (.ref b1), (.ref b1)]) _
  refine XS.bipush X73.here hx rfl (hb hby at_140) ?_
  show St p e below T73 (mkF m 142 #[.val (.int p1), .val (.int p2), .unset, .unset, .unset, .unset, .unset, .unset] [(.int (-3)), (.int 24), (.ref b1), (.ref b1)]) _
  refine st76 _ ?_
  show St p e below T76 (mkF m 143 #[.val (.int p1), .val (.int p2), .unset, .unset, .unset, .unset, .unset, .unset] [(.ref b1)]) _
  refine XS.dup X76.here hx rfl (hb hby at_143) rfl rfl ?_
  show St p e below T76 (mkF m 144 #[.val (.int p1), .val (.int p2), .unset, .unset, .unset, .unset, .unset, .unset] [(.ref b1), (.ref b1)]) _
  refine XS.bipush X76.here hx rfl (hb hby at_144) ?_
  show St p e below T76 (mkF m 146 #[.val (.int p1), .val (.int p2), .unset, .unset, .unset, .unset, .unset, .unset] [(.int 25), (.ref b1), (.ref b1)]) _
  refine XS.sipush X76.here hx rfl (hb hby at_146) ?_
  show St p e below T76 (mkF m 149 #[.val (.int p1), .val (.int p2), .unset, .unset, .unset, .unset, .unset, .unset] [(.int 1111), (.int 25), (.ref b1), (.ref b1)]) _
  refine st79 _ ?_
  show St p e below T79 (mkF m 150 #[.val (.int p1), .val (.int p2), .unset, .unset, .unset, .unset, .unset, .unset] [(.ref b1)]) _
  refine XS.dup X79.here hx rfl (hb hby at_150) rfl rfl ?_
  show St p e below T79 (mkF m 151 #[.val (.int p1), .val (.int p2), .unset, .unset, .unset, .unset, .unset, .unset] [(.ref b1), (.ref b1)]) _
  refine XS.bipush X79.here hx rfl (hb hby at_151) ?_
  show St p e below T79 (mkF m 153 #[.val (.int p1), .val (.int p2), .unset, .unset, .unset, .unset, .unset, .unset] [(.int 26), (.ref b1), (.ref b1)]) _
  refine XS.sipush X79.here hx rfl (hb hby at_153) ?_
  show St p e below T79 (mkF m 156 #[.val (.int p1), .val (.int p2), .unset, .unset, .unset, .unset, .unset, .unset] [(.int 2004), (.int 26), (.ref b1), (.ref b1)]) _
  refine st82 _ ?_
  show St p e below T82 (mkF m 157 #[.val (.int p1), .val (.int p2), .unset, .unset, .unset, .unset, .unset, .unset] [(.ref b1)]) _
  refine XS.astoreN X82.here hx rfl (hb hby at_157) rfl rfl (l' := #[.val (.int p1), .val (.int p2), .val (.ref b1), .unset, .unset, .unset, .unset, .unset]) rfl ?_
  exact kt
theorem pd_I_Lcom_example_commitgate_commitgate_store_ColumnType_320 : parseMethodDescriptor "(I)Lcom/example/commitgate/commitgate/store/ColumnType;" = some ⟨[.int], some (.object "com/example/commitgate/commitgate/store/ColumnType")⟩ := by decide +kernel
theorem pn_0 : plainName "com/example/commitgate/commitgate/store/ColumnTypeOfPinLaw" = true := by first | (simp [plainName, overriddenIn]; done) | decide +kernel
theorem ef_0_II (m : MethodId) (x0 : Int32) (x1 : Int32) : entryFrame m #[(.int x0), (.int x1)] maxLocals = mkF m 0 #[.val (.int x0), .val (.int x1), .unset, .unset, .unset, .unset, .unset, .unset] [] := by first | (simp [entryFrame, mkF, argsToLocals, Value.category, maxLocals]; done) | rfl
def Q_law (n0 : Nat) (v : Option Value) (L : List Loc) : Prop := v = some (.int 1) ∧ Fr n0 L
set_option maxRecDepth 65536 in
set_option maxHeartbeats 40000000 in
theorem rm_law_in (l : Launch) (Z : State) (a0 : Array Value) (hw : ∀ d ∈ tables_1, d.before a0 Z = true) (ws : List Jvm.Cond) (p1 : Int32) (p2 : Int32) (kk : Int32) (w_INTEGER : Addr) (w_DECIMAL : Addr) (w_FLOAT : Addr) (w_BOOLEAN : Addr) (w_TEXT : Addr) (w_OTHER : Addr) (tt : Int32) (h0 : Heap) (n0 : Nat) (Z0 : n0 ≤ h0.size) (S_INTEGER : Sta Z Z.heap "com/example/commitgate/commitgate/store/ColumnType" "INTEGER" "Lcom/example/commitgate/commitgate/store/ColumnType;" (.ref w_INTEGER)) (S_DECIMAL : Sta Z Z.heap "com/example/commitgate/commitgate/store/ColumnType" "DECIMAL" "Lcom/example/commitgate/commitgate/store/ColumnType;" (.ref w_DECIMAL)) (S_FLOAT : Sta Z Z.heap "com/example/commitgate/commitgate/store/ColumnType" "FLOAT" "Lcom/example/commitgate/commitgate/store/ColumnType;" (.ref w_FLOAT)) (S_BOOLEAN : Sta Z Z.heap "com/example/commitgate/commitgate/store/ColumnType" "BOOLEAN" "Lcom/example/commitgate/commitgate/store/ColumnType;" (.ref w_BOOLEAN)) (S_TEXT : Sta Z Z.heap "com/example/commitgate/commitgate/store/ColumnType" "TEXT" "Lcom/example/commitgate/commitgate/store/ColumnType;" (.ref w_TEXT)) (S_OTHER : Sta Z Z.heap "com/example/commitgate/commitgate/store/ColumnType" "OTHER" "Lcom/example/commitgate/commitgate/store/ColumnType;" (.ref w_OTHER)) (O0 : Old Z n0 h0) (hk0 : ¬ (kk < (0 : Int32))) (hk1 : kk < (27 : Int32)) (ht : ([(.int (-6)), (.int 5), (.int 4), (.int (-5)), (.int 2), (.int 3), (.int 7), (.int 6), (.int 8), (.int (-7)), (.int 16), (.int 1), (.int 12), (.int (-1)), (.int (-15)), (.int (-9)), (.int (-16)), (.int 2005), (.int 2011), (.int 0), (.int 91), (.int 92), (.int 93), (.int (-2)), (.int (-3)), (.int 1111), (.int 2004)] : List Value).getD kk.toNatClampNeg (.int 0) = .int tt) (hq : (own_ct w_INTEGER w_DECIMAL w_FLOAT w_BOOLEAN w_TEXT w_OTHER tt) = (own_bi w_INTEGER w_DECIMAL w_FLOAT w_BOOLEAN w_TEXT w_OTHER kk)) (hk : ((p2 &&& (2147483647 : Int32)) % (28 : Int32)) = kk) :
    MetFree l x (head1 (Jvm.Cond.code x code maxLocals ret :: ws) room_1) (fun a U => a = #[(.int p1), (.int p2)] ∧ Z.Warmed39 U.vm ∧ U.heap = h0) (fun _ _ _ _ _ => True) (fun _ U o U' => ∃ v L, o = .returned v ∧ Q_law n0 v L ∧ FrameEnd U o U' L room_1.cells room_1.slots) := by
  refine MetFree.of_bodySF (plainFor_of_name pn_0) hisR ?_
  intro p e s m args below meth c s₁ Bd hml0 hP hK
  obtain ⟨rfl, hZ, hh⟩ := hP
  have hx := Bd.exec
  have hby := Bd.bytes
  have hml : c.maxLocals = 8 := hml0
  have hown : s.vm.findClass "com/example/commitgate/commitgate/store/ColumnTypeOfPinLaw" = some m.cls := findClass_of_methodNamed Bd.named
  have hnm := (name_of_methodNamed Bd.named Bd.method).1
  have X0 : Stand p l e room_1 s m #[(.int p1), (.int p2)] below meth c s₁ [] 0 0 := Stand.of_body Bd
  have e0 : s₁.heap = h0 := by rw [← hh, Bd.state]; rfl
  have N0 := Fr.nil n0
  have pre0 : ∀ t, Steps p.tables e below (s₁.setTop (mkF m 0 #[.val (.int p1), .val (.int p2), .unset, .unset, .unset, .unset, .unset, .unset] [])) t → Steps p.tables e below (s₁.setTop (entryFrame m #[(.int p1), (.int p2)] maxLocals)) t := fun t k => castTop (ef_0_II m p1 p2) k
  obtain ⟨T1, L1, ar_1, kc_1, X1, N1, Kc1, g1_0, g1_1, st1⟩ := sg_arr p1 p2 X0 hx hZ hw hby hml hown e0 N0 Z0 O0
  have sz2 : h0.size ≤ T1.heap.size := Kc1.1
  have Z2 : n0 ≤ T1.heap.size := Nat.le_trans Z0 sz2
  have O2 := O0.keep Kc1 all0
  have K2 : Keep h0 T1.heap [] := (Keep.refl h0 []).trans Kc1 (all0)
  have bn_ar_1 : h0.size ≤ ar_1 := g1_0
  obtain ⟨cl3, Ar3, q3, S3, M3, H3, G3⟩ := id g1_1
  have hin3 : ¬ (kk < 0 ∨ cl3.slots.size ≤ (kk).toNatClampNeg) := inb_of S3 ⟨hk0, hk1⟩
  have hat3 : cl3.slots[(kk).toNatClampNeg]? = some (.int tt) := H3.at hin3 ht
  obtain ⟨_, _, ⟨T4, L4, k4, n4⟩, -, X4, ⟨Lc4, hQ4, l4, y4, z4⟩, st4⟩ := Jvm.LawKit.callS X1 hx (y := (⟨"com/example/commitgate/commitgate/store/ColumnTypeOfPinLaw", "byIndex", "(I)Lcom/example/commitgate/commitgate/store/ColumnType;"⟩ : MethodName)) hown (mvT hZ (hwi hw 2 rfl)) (mvT hZ (hwi hw 3 rfl)) (mvT hZ (hwi hw 4 rfl)) (mvT hZ (hwi hw 5 rfl)) (by decide) (backOf (W := 0) (rm_byi_all l Z a0 hw [] kk w_INTEGER w_DECIMAL w_FLOAT w_BOOLEAN w_TEXT w_OTHER T1.heap n0 Z2 S_INTEGER S_DECIMAL S_FLOAT S_BOOLEAN S_TEXT S_OTHER O2) hZ (hwi hw 5 rfl) (hwi hw 4 rfl) (by decide) (by decide)) (g := (mkF m 188 #[.val (.int p1), .val (.int p2), .val (.ref ar_1), .val (.int kk), .val (.int tt), .unset, .unset, .unset] [(.int kk)])) rfl (by rw [hml]; rfl) (argsL := [(.int kk)]) (rest := []) (lenOf pd_I_Lcom_example_commitgate_commitgate_store_ColumnType_320 rfl) rfl (by show 2 * 0 + _ ≤ _; exact Nat.le_of_eq rfl) (hb hby at_188) (fun _ _ => ⟨rfl, rfl, (by decide : 1 + 0 ≤ _), (by decide : 27 + 0 ≤ _)⟩)
  dsimp only [Pt.U, Pt.locs, Pt.cells, Pt.slots] at X4 l4 y4 z4 st4 hQ4
  subst l4 y4 z4
  obtain ⟨rfl, N4q, e4⟩ := hQ4
  have N4 := Fr.app N1 N4q
  obtain ⟨_, _, ⟨T5, L5, k5, n5⟩, -, X5, ⟨Lc5, hQ5, l5, y5, z5⟩, st5⟩ := Jvm.LawKit.callS X4 hx (y := (⟨"com/example/commitgate/commitgate/store/ColumnType", "of", "(I)Lcom/example/commitgate/commitgate/store/ColumnType;"⟩ : MethodName)) hown (mvT hZ (hwi hw 9 rfl)) (mvT hZ (hwi hw 10 rfl)) (mvT hZ (hwi hw 7 rfl)) (mvT hZ (hwi hw 11 rfl)) (by decide) (backOf (W := 0) (rm_of_all l Z a0 hw [] tt w_INTEGER w_DECIMAL w_FLOAT w_BOOLEAN w_TEXT w_OTHER T1.heap n0 Z2 S_INTEGER S_DECIMAL S_FLOAT S_BOOLEAN S_TEXT S_OTHER O2) hZ (hwi hw 11 rfl) (hwi hw 7 rfl) (by decide) (by decide)) (g := (mkF m 202 #[.val (.int p1), .val (.int p2), .val (.ref ar_1), .val (.int kk), .val (.int tt), .val (.ref (own_bi w_INTEGER w_DECIMAL w_FLOAT w_BOOLEAN w_TEXT w_OTHER kk)), .unset, .unset] [(.int tt)])) rfl (by rw [hml]; rfl) (argsL := [(.int tt)]) (rest := []) (lenOf pd_I_Lcom_example_commitgate_commitgate_store_ColumnType_320 rfl) rfl (by show 2 * 0 + _ ≤ _; exact Nat.le_of_eq rfl) (hb hby at_202) (fun _ _ => ⟨rfl, e4, (by decide : 1 + 0 ≤ _), (by decide : 27 + 0 ≤ _)⟩)
  dsimp only [Pt.U, Pt.locs, Pt.cells, Pt.slots] at X5 l5 y5 z5 st5 hQ5
  subst l5 y5 z5
  obtain ⟨rfl, N5q, e5⟩ := hQ5
  have N5 := Fr.app N4 N5q
  obtain ⟨_, _, ⟨T6, L6, k6, n6⟩, -, X6, ⟨Lc6, hQ6, l6, y6, z6⟩, st6⟩ := Jvm.LawKit.callS X5 hx (y := (⟨"com/example/commitgate/commitgate/store/ColumnType", "of", "(I)Lcom/example/commitgate/commitgate/store/ColumnType;"⟩ : MethodName)) hown (mvT hZ (hwi hw 9 rfl)) (mvT hZ (hwi hw 10 rfl)) (mvT hZ (hwi hw 7 rfl)) (mvT hZ (hwi hw 11 rfl)) (by decide) (backOf (W := 0) (rm_of_all l Z a0 hw [] p1 w_INTEGER w_DECIMAL w_FLOAT w_BOOLEAN w_TEXT w_OTHER T1.heap n0 Z2 S_INTEGER S_DECIMAL S_FLOAT S_BOOLEAN S_TEXT S_OTHER O2) hZ (hwi hw 11 rfl) (hwi hw 7 rfl) (by decide) (by decide)) (g := (mkF m 218 #[.val (.int p1), .val (.int p2), .val (.ref ar_1), .val (.int kk), .val (.int tt), .val (.ref (own_bi w_INTEGER w_DECIMAL w_FLOAT w_BOOLEAN w_TEXT w_OTHER kk)), .val (.int 1), .unset] [(.int p1)])) rfl (by rw [hml]; rfl) (argsL := [(.int p1)]) (rest := []) (lenOf pd_I_Lcom_example_commitgate_commitgate_store_ColumnType_320 rfl) rfl (by show 2 * 0 + _ ≤ _; exact Nat.le_of_eq rfl) (hb hby at_218) (fun _ _ => ⟨rfl, e5, (by decide : 1 + 0 ≤ _), (by decide : 27 + 0 ≤ _)⟩)
  dsimp only [Pt.U, Pt.locs, Pt.cells, Pt.slots] at X6 l6 y6 z6 st6 hQ6
  subst l6 y6 z6
  obtain ⟨rfl, N6q, e6⟩ := hQ6
  have N6 := Fr.app N5 N6q
  obtain ⟨_, _, ⟨T7, L7, k7, n7⟩, -, X7, ⟨Lc7, hQ7, l7, y7, z7⟩, st7⟩ := Jvm.LawKit.callS X6 hx (y := (⟨"com/example/commitgate/commitgate/store/ColumnTypeOfPinLaw", "expected", "(I)Lcom/example/commitgate/commitgate/store/ColumnType;"⟩ : MethodName)) hown (mvT hZ (hwi hw 15 rfl)) (mvT hZ (hwi hw 16 rfl)) (mvT hZ (hwi hw 4 rfl)) (mvT hZ (hwi hw 17 rfl)) (by decide) (backOf (W := 1) (rm_exp_all l Z a0 hw [] p1 w_INTEGER w_DECIMAL w_FLOAT w_BOOLEAN w_TEXT w_OTHER T1.heap n0 Z2 S_INTEGER S_DECIMAL S_FLOAT S_BOOLEAN S_TEXT S_OTHER O2) hZ (hwi hw 17 rfl) (hwi hw 4 rfl) (by decide) (by decide)) (g := (mkF m 222 #[.val (.int p1), .val (.int p2), .val (.ref ar_1), .val (.int kk), .val (.int tt), .val (.ref (own_bi w_INTEGER w_DECIMAL w_FLOAT w_BOOLEAN w_TEXT w_OTHER kk)), .val (.int 1), .unset] [(.int p1), (.ref (own_ct w_INTEGER w_DECIMAL w_FLOAT w_BOOLEAN w_TEXT w_OTHER p1))])) rfl (by rw [hml]; rfl) (argsL := [(.int p1)]) (rest := [(.ref (own_ct w_INTEGER w_DECIMAL w_FLOAT w_BOOLEAN w_TEXT w_OTHER p1))]) (lenOf pd_I_Lcom_example_commitgate_commitgate_store_ColumnType_320 rfl) rfl (by show 2 * 0 + _ ≤ _; exact Nat.le_of_eq rfl) (hb hby at_222) (fun _ _ => ⟨rfl, e6, (by decide : 1 + 0 ≤ _), (by decide : 27 + 0 ≤ _)⟩)
  dsimp only [Pt.U, Pt.locs, Pt.cells, Pt.slots] at X7 l7 y7 z7 st7 hQ7
  subst l7 y7 z7
  obtain ⟨rfl, N7q, e7⟩ := hQ7
  have N7 := Fr.app N6 N7q
  obtain ⟨fs, hr, hrun, hended, hW, hsame⟩ := X7.leave (v := some (.int 1)) (fun h => by rw [Bd.returns] at h; cases h)
  refine ⟨_, _, pre0 _ ?_, hrun, hended, _, _, rfl, ?_, ⟨_, rfl⟩, hW, hsame.mono (by decide) (by decide)⟩
  · show St p e below s₁ (mkF m 0 #[.val (.int p1), .val (.int p2), .unset, .unset, .unset, .unset, .unset, .unset] []) _
    refine st1 _ ?_
    show St p e below T1 (mkF m 158 #[.val (.int p1), .val (.int p2), .val (.ref ar_1), .unset, .unset, .unset, .unset, .unset] []) _
    refine XS.iloadN X1.here hx rfl (hb hby at_158) rfl ?_
    show St p e below T1 (mkF m 159 #[.val (.int p1), .val (.int p2), .val (.ref ar_1), .unset, .unset, .unset, .unset, .unset] [(.int p2)]) _
    refine X1.ldcInt hx hown (mvT hZ (hwi hw 1 rfl)) (g := (mkF m 159 #[.val (.int p1), .val (.int p2), .val (.ref ar_1), .unset, .unset, .unset, .unset, .unset] [(.int p2)])) rfl (hb hby at_159) _ ?_
    show St p e below T1 (mkF m 161 #[.val (.int p1), .val (.int p2), .val (.ref ar_1), .unset, .unset, .unset, .unset, .unset] [(.int 2147483647), (.int p2)]) _
    refine XS.iand X1.here hx rfl (hb hby at_161) rfl ?_
    show St p e below T1 (mkF m 162 #[.val (.int p1), .val (.int p2), .val (.ref ar_1), .unset, .unset, .unset, .unset, .unset] [(.int (p2 &&& (2147483647 : Int32)))]) _
    refine XS.bipush X1.here hx rfl (hb hby at_162) ?_
    show St p e below T1 (mkF m 164 #[.val (.int p1), .val (.int p2), .val (.ref ar_1), .unset, .unset, .unset, .unset, .unset] [(.int 28), (.int (p2 &&& (2147483647 : Int32)))]) _
    refine iremM X1 hx rfl (hb hby at_164) rfl (by decide) ?_
    show St p e below T1 (mkF m 165 #[.val (.int p1), .val (.int p2), .val (.ref ar_1), .unset, .unset, .unset, .unset, .unset] [(.int ((p2 &&& (2147483647 : Int32)) % (28 : Int32)))]) _
    rw [hk]
    show St p e below T1 (mkF m 165 #[.val (.int p1), .val (.int p2), .val (.ref ar_1), .unset, .unset, .unset, .unset, .unset] [(.int kk)]) _
    refine XS.istoreN X1.here hx rfl (hb hby at_165) rfl (l' := #[.val (.int p1), .val (.int p2), .val (.ref ar_1), .val (.int kk), .unset, .unset, .unset, .unset]) rfl ?_
    show St p e below T1 (mkF m 166 #[.val (.int p1), .val (.int p2), .val (.ref ar_1), .val (.int kk), .unset, .unset, .unset, .unset] []) _
    refine XS.iloadN X1.here hx rfl (hb hby at_166) rfl ?_
    show St p e below T1 (mkF m 167 #[.val (.int p1), .val (.int p2), .val (.ref ar_1), .val (.int kk), .unset, .unset, .unset, .unset] [(.int kk)]) _
    refine XS.bipush X1.here hx rfl (hb hby at_167) ?_
    show St p e below T1 (mkF m 169 #[.val (.int p1), .val (.int p2), .val (.ref ar_1), .val (.int kk), .unset, .unset, .unset, .unset] [(.int 27), (.int kk)]) _
    refine XS.icmpNo X1.here hx rfl (hb hby at_169) rfl (tlt hk1).2.1 ?_
    show St p e below T1 (mkF m 172 #[.val (.int p1), .val (.int p2), .val (.ref ar_1), .val (.int kk), .unset, .unset, .unset, .unset] []) _
    refine XS.aloadN X1.here hx rfl (hb hby at_172) rfl rfl ?_
    show St p e below T1 (mkF m 173 #[.val (.int p1), .val (.int p2), .val (.ref ar_1), .val (.int kk), .unset, .unset, .unset, .unset] [(.ref ar_1)]) _
    refine XS.iloadN X1.here hx rfl (hb hby at_173) rfl ?_
    show St p e below T1 (mkF m 174 #[.val (.int p1), .val (.int p2), .val (.ref ar_1), .val (.int kk), .unset, .unset, .unset, .unset] [(.int kk), (.ref ar_1)]) _
    refine X1.iaload hx (j := kk) (v := (.int tt)) (by exact Ar3.1) (State.isArrayOf_alike hZ.alike Ar3.2.1) Ar3.2.2 hin3 hat3 (g := (mkF m 174 #[.val (.int p1), .val (.int p2), .val (.ref ar_1), .val (.int kk), .unset, .unset, .unset, .unset] [(.int kk), (.ref ar_1)])) rfl rfl (hb hby at_174) _ ?_
    show St p e below T1 (mkF m 175 #[.val (.int p1), .val (.int p2), .val (.ref ar_1), .val (.int kk), .unset, .unset, .unset, .unset] [(.int tt)]) _
    refine XS.goto X1.here hx rfl (pc0 := 175) (pc' := 179) rfl (hb hby at_175) (by decide) (by decide) ?_
    show St p e below T1 (mkF m 179 #[.val (.int p1), .val (.int p2), .val (.ref ar_1), .val (.int kk), .unset, .unset, .unset, .unset] [(.int tt)]) _
    refine XS.istore X1.here hx rfl (hb hby at_179) rfl (l' := #[.val (.int p1), .val (.int p2), .val (.ref ar_1), .val (.int kk), .val (.int tt), .unset, .unset, .unset]) rfl ?_
    show St p e below T1 (mkF m 181 #[.val (.int p1), .val (.int p2), .val (.ref ar_1), .val (.int kk), .val (.int tt), .unset, .unset, .unset] []) _
    refine XS.iloadN X1.here hx rfl (hb hby at_181) rfl ?_
    show St p e below T1 (mkF m 182 #[.val (.int p1), .val (.int p2), .val (.ref ar_1), .val (.int kk), .val (.int tt), .unset, .unset, .unset] [(.int kk)]) _
    refine XS.bipush X1.here hx rfl (hb hby at_182) ?_
    show St p e below T1 (mkF m 184 #[.val (.int p1), .val (.int p2), .val (.ref ar_1), .val (.int kk), .val (.int tt), .unset, .unset, .unset] [(.int 27), (.int kk)]) _
    refine XS.icmpNo X1.here hx rfl (hb hby at_184) rfl (tlt hk1).2.1 ?_
    show St p e below T1 (mkF m 187 #[.val (.int p1), .val (.int p2), .val (.ref ar_1), .val (.int kk), .val (.int tt), .unset, .unset, .unset] []) _
    refine XS.iloadN X1.here hx rfl (hb hby at_187) rfl ?_
    show St p e below T1 (mkF m 188 #[.val (.int p1), .val (.int p2), .val (.ref ar_1), .val (.int kk), .val (.int tt), .unset, .unset, .unset] [(.int kk)]) _
    refine st4 _ ?_
    show St p e below T4 (mkF m 191 #[.val (.int p1), .val (.int p2), .val (.ref ar_1), .val (.int kk), .val (.int tt), .unset, .unset, .unset] [(.ref (own_bi w_INTEGER w_DECIMAL w_FLOAT w_BOOLEAN w_TEXT w_OTHER kk))]) _
    refine XS.goto X4.here hx rfl (pc0 := 191) (pc' := 198) rfl (hb hby at_191) (by decide) (by decide) ?_
    show St p e below T4 (mkF m 198 #[.val (.int p1), .val (.int p2), .val (.ref ar_1), .val (.int kk), .val (.int tt), .unset, .unset, .unset] [(.ref (own_bi w_INTEGER w_DECIMAL w_FLOAT w_BOOLEAN w_TEXT w_OTHER kk))]) _
    refine XS.astore X4.here hx rfl (hb hby at_198) rfl rfl (l' := #[.val (.int p1), .val (.int p2), .val (.ref ar_1), .val (.int kk), .val (.int tt), .val (.ref (own_bi w_INTEGER w_DECIMAL w_FLOAT w_BOOLEAN w_TEXT w_OTHER kk)), .unset, .unset]) rfl ?_
    show St p e below T4 (mkF m 200 #[.val (.int p1), .val (.int p2), .val (.ref ar_1), .val (.int kk), .val (.int tt), .val (.ref (own_bi w_INTEGER w_DECIMAL w_FLOAT w_BOOLEAN w_TEXT w_OTHER kk)), .unset, .unset] []) _
    refine XS.iload X4.here hx rfl (hb hby at_200) rfl ?_
    show St p e below T4 (mkF m 202 #[.val (.int p1), .val (.int p2), .val (.ref ar_1), .val (.int kk), .val (.int tt), .val (.ref (own_bi w_INTEGER w_DECIMAL w_FLOAT w_BOOLEAN w_TEXT w_OTHER kk)), .unset, .unset] [(.int tt)]) _
    refine st5 _ ?_
    show St p e below T5 (mkF m 205 #[.val (.int p1), .val (.int p2), .val (.ref ar_1), .val (.int kk), .val (.int tt), .val (.ref (own_bi w_INTEGER w_DECIMAL w_FLOAT w_BOOLEAN w_TEXT w_OTHER kk)), .unset, .unset] [(.ref (own_ct w_INTEGER w_DECIMAL w_FLOAT w_BOOLEAN w_TEXT w_OTHER tt))]) _
    refine XS.aload X5.here hx rfl (hb hby at_205) rfl rfl ?_
    show St p e below T5 (mkF m 207 #[.val (.int p1), .val (.int p2), .val (.ref ar_1), .val (.int kk), .val (.int tt), .val (.ref (own_bi w_INTEGER w_DECIMAL w_FLOAT w_BOOLEAN w_TEXT w_OTHER kk)), .unset, .unset] [(.ref (own_bi w_INTEGER w_DECIMAL w_FLOAT w_BOOLEAN w_TEXT w_OTHER kk)), (.ref (own_ct w_INTEGER w_DECIMAL w_FLOAT w_BOOLEAN w_TEXT w_OTHER tt))]) _
    refine Jvm.RoadKit.acmp (g := (mkF m 207 #[.val (.int p1), .val (.int p2), .val (.ref ar_1), .val (.int kk), .val (.int tt), .val (.ref (own_bi w_INTEGER w_DECIMAL w_FLOAT w_BOOLEAN w_TEXT w_OTHER kk)), .unset, .unset] [(.ref (own_bi w_INTEGER w_DECIMAL w_FLOAT w_BOOLEAN w_TEXT w_OTHER kk)), (.ref (own_ct w_INTEGER w_DECIMAL w_FLOAT w_BOOLEAN w_TEXT w_OTHER tt))])) X5 hx rfl rfl rfl (pc0 := 207) (pc' := 210) (same := true) rfl (hb hby at_207) rfl (decide_eq_true (congrArg Value.ref hq)) (by decide) (by decide) ?_
    show St p e below T5 (mkF m 210 #[.val (.int p1), .val (.int p2), .val (.ref ar_1), .val (.int kk), .val (.int tt), .val (.ref (own_bi w_INTEGER w_DECIMAL w_FLOAT w_BOOLEAN w_TEXT w_OTHER kk)), .unset, .unset] []) _
    refine XS.iconst X5.here hx rfl (hb hby at_210) ?_
    show St p e below T5 (mkF m 211 #[.val (.int p1), .val (.int p2), .val (.ref ar_1), .val (.int kk), .val (.int tt), .val (.ref (own_bi w_INTEGER w_DECIMAL w_FLOAT w_BOOLEAN w_TEXT w_OTHER kk)), .unset, .unset] [(.int 1)]) _
    refine XS.goto X5.here hx rfl (pc0 := 211) (pc' := 215) rfl (hb hby at_211) (by decide) (by decide) ?_
    show St p e below T5 (mkF m 215 #[.val (.int p1), .val (.int p2), .val (.ref ar_1), .val (.int kk), .val (.int tt), .val (.ref (own_bi w_INTEGER w_DECIMAL w_FLOAT w_BOOLEAN w_TEXT w_OTHER kk)), .unset, .unset] [(.int 1)]) _
    refine XS.istore X5.here hx rfl (hb hby at_215) rfl (l' := #[.val (.int p1), .val (.int p2), .val (.ref ar_1), .val (.int kk), .val (.int tt), .val (.ref (own_bi w_INTEGER w_DECIMAL w_FLOAT w_BOOLEAN w_TEXT w_OTHER kk)), .val (.int 1), .unset]) rfl ?_
    show St p e below T5 (mkF m 217 #[.val (.int p1), .val (.int p2), .val (.ref ar_1), .val (.int kk), .val (.int tt), .val (.ref (own_bi w_INTEGER w_DECIMAL w_FLOAT w_BOOLEAN w_TEXT w_OTHER kk)), .val (.int 1), .unset] []) _
    refine XS.iloadN X5.here hx rfl (hb hby at_217) rfl ?_
    show St p e below T5 (mkF m 218 #[.val (.int p1), .val (.int p2), .val (.ref ar_1), .val (.int kk), .val (.int tt), .val (.ref (own_bi w_INTEGER w_DECIMAL w_FLOAT w_BOOLEAN w_TEXT w_OTHER kk)), .val (.int 1), .unset] [(.int p1)]) _
    refine st6 _ ?_
    show St p e below T6 (mkF m 221 #[.val (.int p1), .val (.int p2), .val (.ref ar_1), .val (.int kk), .val (.int tt), .val (.ref (own_bi w_INTEGER w_DECIMAL w_FLOAT w_BOOLEAN w_TEXT w_OTHER kk)), .val (.int 1), .unset] [(.ref (own_ct w_INTEGER w_DECIMAL w_FLOAT w_BOOLEAN w_TEXT w_OTHER p1))]) _
    refine XS.iloadN X6.here hx rfl (hb hby at_221) rfl ?_
    show St p e below T6 (mkF m 222 #[.val (.int p1), .val (.int p2), .val (.ref ar_1), .val (.int kk), .val (.int tt), .val (.ref (own_bi w_INTEGER w_DECIMAL w_FLOAT w_BOOLEAN w_TEXT w_OTHER kk)), .val (.int 1), .unset] [(.int p1), (.ref (own_ct w_INTEGER w_DECIMAL w_FLOAT w_BOOLEAN w_TEXT w_OTHER p1))]) _
    refine st7 _ ?_
    show St p e below T7 (mkF m 225 #[.val (.int p1), .val (.int p2), .val (.ref ar_1), .val (.int kk), .val (.int tt), .val (.ref (own_bi w_INTEGER w_DECIMAL w_FLOAT w_BOOLEAN w_TEXT w_OTHER kk)), .val (.int 1), .unset] [(.ref (own_ct w_INTEGER w_DECIMAL w_FLOAT w_BOOLEAN w_TEXT w_OTHER p1)), (.ref (own_ct w_INTEGER w_DECIMAL w_FLOAT w_BOOLEAN w_TEXT w_OTHER p1))]) _
    refine Jvm.RoadKit.acmp (g := (mkF m 225 #[.val (.int p1), .val (.int p2), .val (.ref ar_1), .val (.int kk), .val (.int tt), .val (.ref (own_bi w_INTEGER w_DECIMAL w_FLOAT w_BOOLEAN w_TEXT w_OTHER kk)), .val (.int 1), .unset] [(.ref (own_ct w_INTEGER w_DECIMAL w_FLOAT w_BOOLEAN w_TEXT w_OTHER p1)), (.ref (own_ct w_INTEGER w_DECIMAL w_FLOAT w_BOOLEAN w_TEXT w_OTHER p1))])) X7 hx rfl rfl rfl (pc0 := 225) (pc' := 228) (same := true) rfl (hb hby at_225) rfl (decide_eq_true rfl) (by decide) (by decide) ?_
    show St p e below T7 (mkF m 228 #[.val (.int p1), .val (.int p2), .val (.ref ar_1), .val (.int kk), .val (.int tt), .val (.ref (own_bi w_INTEGER w_DECIMAL w_FLOAT w_BOOLEAN w_TEXT w_OTHER kk)), .val (.int 1), .unset] []) _
    refine XS.iconst X7.here hx rfl (hb hby at_228) ?_
    show St p e below T7 (mkF m 229 #[.val (.int p1), .val (.int p2), .val (.ref ar_1), .val (.int kk), .val (.int tt), .val (.ref (own_bi w_INTEGER w_DECIMAL w_FLOAT w_BOOLEAN w_TEXT w_OTHER kk)), .val (.int 1), .unset] [(.int 1)]) _
    refine XS.goto X7.here hx rfl (pc0 := 229) (pc' := 233) rfl (hb hby at_229) (by decide) (by decide) ?_
    show St p e below T7 (mkF m 233 #[.val (.int p1), .val (.int p2), .val (.ref ar_1), .val (.int kk), .val (.int tt), .val (.ref (own_bi w_INTEGER w_DECIMAL w_FLOAT w_BOOLEAN w_TEXT w_OTHER kk)), .val (.int 1), .unset] [(.int 1)]) _
    refine XS.istore X7.here hx rfl (hb hby at_233) rfl (l' := #[.val (.int p1), .val (.int p2), .val (.ref ar_1), .val (.int kk), .val (.int tt), .val (.ref (own_bi w_INTEGER w_DECIMAL w_FLOAT w_BOOLEAN w_TEXT w_OTHER kk)), .val (.int 1), .val (.int 1)]) rfl ?_
    show St p e below T7 (mkF m 235 #[.val (.int p1), .val (.int p2), .val (.ref ar_1), .val (.int kk), .val (.int tt), .val (.ref (own_bi w_INTEGER w_DECIMAL w_FLOAT w_BOOLEAN w_TEXT w_OTHER kk)), .val (.int 1), .val (.int 1)] []) _
    refine XS.iload X7.here hx rfl (hb hby at_235) rfl ?_
    show St p e below T7 (mkF m 237 #[.val (.int p1), .val (.int p2), .val (.ref ar_1), .val (.int kk), .val (.int tt), .val (.ref (own_bi w_INTEGER w_DECIMAL w_FLOAT w_BOOLEAN w_TEXT w_OTHER kk)), .val (.int 1), .val (.int 1)] [(.int 1)]) _
    refine XS.ifNo X7.here hx rfl (hb hby at_237) rfl ((if0 _ _).trans (feq (by decide : ¬ ((1 : Int32) = (0 : Int32)))).1) ?_
    show St p e below T7 (mkF m 240 #[.val (.int p1), .val (.int p2), .val (.ref ar_1), .val (.int kk), .val (.int tt), .val (.ref (own_bi w_INTEGER w_DECIMAL w_FLOAT w_BOOLEAN w_TEXT w_OTHER kk)), .val (.int 1), .val (.int 1)] []) _
    refine XS.iload X7.here hx rfl (hb hby at_240) rfl ?_
    show St p e below T7 (mkF m 242 #[.val (.int p1), .val (.int p2), .val (.ref ar_1), .val (.int kk), .val (.int tt), .val (.ref (own_bi w_INTEGER w_DECIMAL w_FLOAT w_BOOLEAN w_TEXT w_OTHER kk)), .val (.int 1), .val (.int 1)] [(.int 1)]) _
    refine XS.ifNo X7.here hx rfl (hb hby at_242) rfl ((if0 _ _).trans (feq (by decide : ¬ ((1 : Int32) = (0 : Int32)))).1) ?_
    show St p e below T7 (mkF m 245 #[.val (.int p1), .val (.int p2), .val (.ref ar_1), .val (.int kk), .val (.int tt), .val (.ref (own_bi w_INTEGER w_DECIMAL w_FLOAT w_BOOLEAN w_TEXT w_OTHER kk)), .val (.int 1), .val (.int 1)] []) _
    refine XS.iconst X7.here hx rfl (hb hby at_245) ?_
    show St p e below T7 (mkF m 246 #[.val (.int p1), .val (.int p2), .val (.ref ar_1), .val (.int kk), .val (.int tt), .val (.ref (own_bi w_INTEGER w_DECIMAL w_FLOAT w_BOOLEAN w_TEXT w_OTHER kk)), .val (.int 1), .val (.int 1)] [(.int 1)]) _
    refine XS.goto X7.here hx rfl (pc0 := 246) (pc' := 250) rfl (hb hby at_246) (by decide) (by decide) ?_
    show St p e below T7 (mkF m 250 #[.val (.int p1), .val (.int p2), .val (.ref ar_1), .val (.int kk), .val (.int tt), .val (.ref (own_bi w_INTEGER w_DECIMAL w_FLOAT w_BOOLEAN w_TEXT w_OTHER kk)), .val (.int 1), .val (.int 1)] [(.int 1)]) _
    exact retN X7 hx (t := .boolean) Bd.returns (by simp) (hb hby at_250) hr
  · exact ⟨rfl, N7⟩
set_option maxRecDepth 65536 in
set_option maxHeartbeats 40000000 in
theorem rm_law_out (l : Launch) (Z : State) (a0 : Array Value) (hw : ∀ d ∈ tables_1, d.before a0 Z = true) (ws : List Jvm.Cond) (p1 : Int32) (p2 : Int32) (kk : Int32) (w_INTEGER : Addr) (w_DECIMAL : Addr) (w_FLOAT : Addr) (w_BOOLEAN : Addr) (w_TEXT : Addr) (w_OTHER : Addr) (h0 : Heap) (n0 : Nat) (Z0 : n0 ≤ h0.size) (S_INTEGER : Sta Z Z.heap "com/example/commitgate/commitgate/store/ColumnType" "INTEGER" "Lcom/example/commitgate/commitgate/store/ColumnType;" (.ref w_INTEGER)) (S_DECIMAL : Sta Z Z.heap "com/example/commitgate/commitgate/store/ColumnType" "DECIMAL" "Lcom/example/commitgate/commitgate/store/ColumnType;" (.ref w_DECIMAL)) (S_FLOAT : Sta Z Z.heap "com/example/commitgate/commitgate/store/ColumnType" "FLOAT" "Lcom/example/commitgate/commitgate/store/ColumnType;" (.ref w_FLOAT)) (S_BOOLEAN : Sta Z Z.heap "com/example/commitgate/commitgate/store/ColumnType" "BOOLEAN" "Lcom/example/commitgate/commitgate/store/ColumnType;" (.ref w_BOOLEAN)) (S_TEXT : Sta Z Z.heap "com/example/commitgate/commitgate/store/ColumnType" "TEXT" "Lcom/example/commitgate/commitgate/store/ColumnType;" (.ref w_TEXT)) (S_OTHER : Sta Z Z.heap "com/example/commitgate/commitgate/store/ColumnType" "OTHER" "Lcom/example/commitgate/commitgate/store/ColumnType;" (.ref w_OTHER)) (O0 : Old Z n0 h0) (hk1 : ¬ (kk < (27 : Int32))) (hk : ((p2 &&& (2147483647 : Int32)) % (28 : Int32)) = kk) :
    MetFree l x (head1 (Jvm.Cond.code x code maxLocals ret :: ws) room_1) (fun a U => a = #[(.int p1), (.int p2)] ∧ Z.Warmed39 U.vm ∧ U.heap = h0) (fun _ _ _ _ _ => True) (fun _ U o U' => ∃ v L, o = .returned v ∧ Q_law n0 v L ∧ FrameEnd U o U' L room_1.cells room_1.slots) := by
  refine MetFree.of_bodySF (plainFor_of_name pn_0) hisR ?_
  intro p e s m args below meth c s₁ Bd hml0 hP hK
  obtain ⟨rfl, hZ, hh⟩ := hP
  have hx := Bd.exec
  have hby := Bd.bytes
  have hml : c.maxLocals = 8 := hml0
  have hown : s.vm.findClass "com/example/commitgate/commitgate/store/ColumnTypeOfPinLaw" = some m.cls := findClass_of_methodNamed Bd.named
  have hnm := (name_of_methodNamed Bd.named Bd.method).1
  have X0 : Stand p l e room_1 s m #[(.int p1), (.int p2)] below meth c s₁ [] 0 0 := Stand.of_body Bd
  have e0 : s₁.heap = h0 := by rw [← hh, Bd.state]; rfl
  have N0 := Fr.nil n0
  have pre0 : ∀ t, Steps p.tables e below (s₁.setTop (mkF m 0 #[.val (.int p1), .val (.int p2), .unset, .unset, .unset, .unset, .unset, .unset] [])) t → Steps p.tables e below (s₁.setTop (entryFrame m #[(.int p1), (.int p2)] maxLocals)) t := fun t k => castTop (ef_0_II m p1 p2) k
  obtain ⟨T1, L1, ar_1, kc_1, X1, N1, Kc1, g1_0, g1_1, st1⟩ := sg_arr p1 p2 X0 hx hZ hw hby hml hown e0 N0 Z0 O0
  have sz2 : h0.size ≤ T1.heap.size := Kc1.1
  have Z2 : n0 ≤ T1.heap.size := Nat.le_trans Z0 sz2
  have O2 := O0.keep Kc1 all0
  have K2 : Keep h0 T1.heap [] := (Keep.refl h0 []).trans Kc1 (all0)
  have bn_ar_1 : h0.size ≤ ar_1 := g1_0
  obtain ⟨_, _, ⟨T3, L3, k3, n3⟩, -, X3, ⟨Lc3, hQ3, l3, y3, z3⟩, st3⟩ := Jvm.LawKit.callS X1 hx (y := (⟨"com/example/commitgate/commitgate/store/ColumnTypeOfPinLaw", "expected", "(I)Lcom/example/commitgate/commitgate/store/ColumnType;"⟩ : MethodName)) hown (mvT hZ (hwi hw 15 rfl)) (mvT hZ (hwi hw 16 rfl)) (mvT hZ (hwi hw 4 rfl)) (mvT hZ (hwi hw 17 rfl)) (by decide) (backOf (W := 0) (rm_exp_all l Z a0 hw [] p1 w_INTEGER w_DECIMAL w_FLOAT w_BOOLEAN w_TEXT w_OTHER T1.heap n0 Z2 S_INTEGER S_DECIMAL S_FLOAT S_BOOLEAN S_TEXT S_OTHER O2) hZ (hwi hw 17 rfl) (hwi hw 4 rfl) (by decide) (by decide)) (g := (mkF m 195 #[.val (.int p1), .val (.int p2), .val (.ref ar_1), .val (.int kk), .val (.int p1), .unset, .unset, .unset] [(.int p1)])) rfl (by rw [hml]; rfl) (argsL := [(.int p1)]) (rest := []) (lenOf pd_I_Lcom_example_commitgate_commitgate_store_ColumnType_320 rfl) rfl (by show 2 * 0 + _ ≤ _; exact Nat.le_of_eq rfl) (hb hby at_195) (fun _ _ => ⟨rfl, rfl, (by decide : 1 + 0 ≤ _), (by decide : 27 + 0 ≤ _)⟩)
  dsimp only [Pt.U, Pt.locs, Pt.cells, Pt.slots] at X3 l3 y3 z3 st3 hQ3
  subst l3 y3 z3
  obtain ⟨rfl, N3q, e3⟩ := hQ3
  have N3 := Fr.app N1 N3q
  obtain ⟨_, _, ⟨T4, L4, k4, n4⟩, -, X4, ⟨Lc4, hQ4, l4, y4, z4⟩, st4⟩ := Jvm.LawKit.callS X3 hx (y := (⟨"com/example/commitgate/commitgate/store/ColumnType", "of", "(I)Lcom/example/commitgate/commitgate/store/ColumnType;"⟩ : MethodName)) hown (mvT hZ (hwi hw 9 rfl)) (mvT hZ (hwi hw 10 rfl)) (mvT hZ (hwi hw 7 rfl)) (mvT hZ (hwi hw 11 rfl)) (by decide) (backOf (W := 0) (rm_of_all l Z a0 hw [] p1 w_INTEGER w_DECIMAL w_FLOAT w_BOOLEAN w_TEXT w_OTHER T1.heap n0 Z2 S_INTEGER S_DECIMAL S_FLOAT S_BOOLEAN S_TEXT S_OTHER O2) hZ (hwi hw 11 rfl) (hwi hw 7 rfl) (by decide) (by decide)) (g := (mkF m 202 #[.val (.int p1), .val (.int p2), .val (.ref ar_1), .val (.int kk), .val (.int p1), .val (.ref (own_ct w_INTEGER w_DECIMAL w_FLOAT w_BOOLEAN w_TEXT w_OTHER p1)), .unset, .unset] [(.int p1)])) rfl (by rw [hml]; rfl) (argsL := [(.int p1)]) (rest := []) (lenOf pd_I_Lcom_example_commitgate_commitgate_store_ColumnType_320 rfl) rfl (by show 2 * 0 + _ ≤ _; exact Nat.le_of_eq rfl) (hb hby at_202) (fun _ _ => ⟨rfl, e3, (by decide : 1 + 0 ≤ _), (by decide : 27 + 0 ≤ _)⟩)
  dsimp only [Pt.U, Pt.locs, Pt.cells, Pt.slots] at X4 l4 y4 z4 st4 hQ4
  subst l4 y4 z4
  obtain ⟨rfl, N4q, e4⟩ := hQ4
  have N4 := Fr.app N3 N4q
  obtain ⟨_, _, ⟨T5, L5, k5, n5⟩, -, X5, ⟨Lc5, hQ5, l5, y5, z5⟩, st5⟩ := Jvm.LawKit.callS X4 hx (y := (⟨"com/example/commitgate/commitgate/store/ColumnType", "of", "(I)Lcom/example/commitgate/commitgate/store/ColumnType;"⟩ : MethodName)) hown (mvT hZ (hwi hw 9 rfl)) (mvT hZ (hwi hw 10 rfl)) (mvT hZ (hwi hw 7 rfl)) (mvT hZ (hwi hw 11 rfl)) (by decide) (backOf (W := 0) (rm_of_all l Z a0 hw [] p1 w_INTEGER w_DECIMAL w_FLOAT w_BOOLEAN w_TEXT w_OTHER T1.heap n0 Z2 S_INTEGER S_DECIMAL S_FLOAT S_BOOLEAN S_TEXT S_OTHER O2) hZ (hwi hw 11 rfl) (hwi hw 7 rfl) (by decide) (by decide)) (g := (mkF m 218 #[.val (.int p1), .val (.int p2), .val (.ref ar_1), .val (.int kk), .val (.int p1), .val (.ref (own_ct w_INTEGER w_DECIMAL w_FLOAT w_BOOLEAN w_TEXT w_OTHER p1)), .val (.int 1), .unset] [(.int p1)])) rfl (by rw [hml]; rfl) (argsL := [(.int p1)]) (rest := []) (lenOf pd_I_Lcom_example_commitgate_commitgate_store_ColumnType_320 rfl) rfl (by show 2 * 0 + _ ≤ _; exact Nat.le_of_eq rfl) (hb hby at_218) (fun _ _ => ⟨rfl, e4, (by decide : 1 + 0 ≤ _), (by decide : 27 + 0 ≤ _)⟩)
  dsimp only [Pt.U, Pt.locs, Pt.cells, Pt.slots] at X5 l5 y5 z5 st5 hQ5
  subst l5 y5 z5
  obtain ⟨rfl, N5q, e5⟩ := hQ5
  have N5 := Fr.app N4 N5q
  obtain ⟨_, _, ⟨T6, L6, k6, n6⟩, -, X6, ⟨Lc6, hQ6, l6, y6, z6⟩, st6⟩ := Jvm.LawKit.callS X5 hx (y := (⟨"com/example/commitgate/commitgate/store/ColumnTypeOfPinLaw", "expected", "(I)Lcom/example/commitgate/commitgate/store/ColumnType;"⟩ : MethodName)) hown (mvT hZ (hwi hw 15 rfl)) (mvT hZ (hwi hw 16 rfl)) (mvT hZ (hwi hw 4 rfl)) (mvT hZ (hwi hw 17 rfl)) (by decide) (backOf (W := 1) (rm_exp_all l Z a0 hw [] p1 w_INTEGER w_DECIMAL w_FLOAT w_BOOLEAN w_TEXT w_OTHER T1.heap n0 Z2 S_INTEGER S_DECIMAL S_FLOAT S_BOOLEAN S_TEXT S_OTHER O2) hZ (hwi hw 17 rfl) (hwi hw 4 rfl) (by decide) (by decide)) (g := (mkF m 222 #[.val (.int p1), .val (.int p2), .val (.ref ar_1), .val (.int kk), .val (.int p1), .val (.ref (own_ct w_INTEGER w_DECIMAL w_FLOAT w_BOOLEAN w_TEXT w_OTHER p1)), .val (.int 1), .unset] [(.int p1), (.ref (own_ct w_INTEGER w_DECIMAL w_FLOAT w_BOOLEAN w_TEXT w_OTHER p1))])) rfl (by rw [hml]; rfl) (argsL := [(.int p1)]) (rest := [(.ref (own_ct w_INTEGER w_DECIMAL w_FLOAT w_BOOLEAN w_TEXT w_OTHER p1))]) (lenOf pd_I_Lcom_example_commitgate_commitgate_store_ColumnType_320 rfl) rfl (by show 2 * 0 + _ ≤ _; exact Nat.le_of_eq rfl) (hb hby at_222) (fun _ _ => ⟨rfl, e5, (by decide : 1 + 0 ≤ _), (by decide : 27 + 0 ≤ _)⟩)
  dsimp only [Pt.U, Pt.locs, Pt.cells, Pt.slots] at X6 l6 y6 z6 st6 hQ6
  subst l6 y6 z6
  obtain ⟨rfl, N6q, e6⟩ := hQ6
  have N6 := Fr.app N5 N6q
  obtain ⟨fs, hr, hrun, hended, hW, hsame⟩ := X6.leave (v := some (.int 1)) (fun h => by rw [Bd.returns] at h; cases h)
  refine ⟨_, _, pre0 _ ?_, hrun, hended, _, _, rfl, ?_, ⟨_, rfl⟩, hW, hsame.mono (by decide) (by decide)⟩
  · show St p e below s₁ (mkF m 0 #[.val (.int p1), .val (.int p2), .unset, .unset, .unset, .unset, .unset, .unset] []) _
    refine st1 _ ?_
    show St p e below T1 (mkF m 158 #[.val (.int p1), .val (.int p2), .val (.ref ar_1), .unset, .unset, .unset, .unset, .unset] []) _
    refine XS.iloadN X1.here hx rfl (hb hby at_158) rfl ?_
    show St p e below T1 (mkF m 159 #[.val (.int p1), .val (.int p2), .val (.ref ar_1), .unset, .unset, .unset, .unset, .unset] [(.int p2)]) _
    refine X1.ldcInt hx hown (mvT hZ (hwi hw 1 rfl)) (g := (mkF m 159 #[.val (.int p1), .val (.int p2), .val (.ref ar_1), .unset, .unset, .unset, .unset, .unset] [(.int p2)])) rfl (hb hby at_159) _ ?_
    show St p e below T1 (mkF m 161 #[.val (.int p1), .val (.int p2), .val (.ref ar_1), .unset, .unset, .unset, .unset, .unset] [(.int 2147483647), (.int p2)]) _
    refine XS.iand X1.here hx rfl (hb hby at_161) rfl ?_
    show St p e below T1 (mkF m 162 #[.val (.int p1), .val (.int p2), .val (.ref ar_1), .unset, .unset, .unset, .unset, .unset] [(.int (p2 &&& (2147483647 : Int32)))]) _
    refine XS.bipush X1.here hx rfl (hb hby at_162) ?_
    show St p e below T1 (mkF m 164 #[.val (.int p1), .val (.int p2), .val (.ref ar_1), .unset, .unset, .unset, .unset, .unset] [(.int 28), (.int (p2 &&& (2147483647 : Int32)))]) _
    refine iremM X1 hx rfl (hb hby at_164) rfl (by decide) ?_
    show St p e below T1 (mkF m 165 #[.val (.int p1), .val (.int p2), .val (.ref ar_1), .unset, .unset, .unset, .unset, .unset] [(.int ((p2 &&& (2147483647 : Int32)) % (28 : Int32)))]) _
    rw [hk]
    show St p e below T1 (mkF m 165 #[.val (.int p1), .val (.int p2), .val (.ref ar_1), .unset, .unset, .unset, .unset, .unset] [(.int kk)]) _
    refine XS.istoreN X1.here hx rfl (hb hby at_165) rfl (l' := #[.val (.int p1), .val (.int p2), .val (.ref ar_1), .val (.int kk), .unset, .unset, .unset, .unset]) rfl ?_
    show St p e below T1 (mkF m 166 #[.val (.int p1), .val (.int p2), .val (.ref ar_1), .val (.int kk), .unset, .unset, .unset, .unset] []) _
    refine XS.iloadN X1.here hx rfl (hb hby at_166) rfl ?_
    show St p e below T1 (mkF m 167 #[.val (.int p1), .val (.int p2), .val (.ref ar_1), .val (.int kk), .unset, .unset, .unset, .unset] [(.int kk)]) _
    refine XS.bipush X1.here hx rfl (hb hby at_167) ?_
    show St p e below T1 (mkF m 169 #[.val (.int p1), .val (.int p2), .val (.ref ar_1), .val (.int kk), .unset, .unset, .unset, .unset] [(.int 27), (.int kk)]) _
    refine XS.icmpYes X1.here hx rfl (pc0 := 169) (pc' := 178) rfl (hb hby at_169) rfl (flt hk1).2.1 (by decide) (by decide) ?_
    show St p e below T1 (mkF m 178 #[.val (.int p1), .val (.int p2), .val (.ref ar_1), .val (.int kk), .unset, .unset, .unset, .unset] []) _
    refine XS.iloadN X1.here hx rfl (hb hby at_178) rfl ?_
    show St p e below T1 (mkF m 179 #[.val (.int p1), .val (.int p2), .val (.ref ar_1), .val (.int kk), .unset, .unset, .unset, .unset] [(.int p1)]) _
    refine XS.istore X1.here hx rfl (hb hby at_179) rfl (l' := #[.val (.int p1), .val (.int p2), .val (.ref ar_1), .val (.int kk), .val (.int p1), .unset, .unset, .unset]) rfl ?_
    show St p e below T1 (mkF m 181 #[.val (.int p1), .val (.int p2), .val (.ref ar_1), .val (.int kk), .val (.int p1), .unset, .unset, .unset] []) _
    refine XS.iloadN X1.here hx rfl (hb hby at_181) rfl ?_
    show St p e below T1 (mkF m 182 #[.val (.int p1), .val (.int p2), .val (.ref ar_1), .val (.int kk), .val (.int p1), .unset, .unset, .unset] [(.int kk)]) _
    refine XS.bipush X1.here hx rfl (hb hby at_182) ?_
    show St p e below T1 (mkF m 184 #[.val (.int p1), .val (.int p2), .val (.ref ar_1), .val (.int kk), .val (.int p1), .unset, .unset, .unset] [(.int 27), (.int kk)]) _
    refine XS.icmpYes X1.here hx rfl (pc0 := 184) (pc' := 194) rfl (hb hby at_184) rfl (flt hk1).2.1 (by decide) (by decide) ?_
    show St p e below T1 (mkF m 194 #[.val (.int p1), .val (.int p2), .val (.ref ar_1), .val (.int kk), .val (.int p1), .unset, .unset, .unset] []) _
    refine XS.iloadN X1.here hx rfl (hb hby at_194) rfl ?_
    show St p e below T1 (mkF m 195 #[.val (.int p1), .val (.int p2), .val (.ref ar_1), .val (.int kk), .val (.int p1), .unset, .unset, .unset] [(.int p1)]) _
    refine st3 _ ?_
    show St p e below T3 (mkF m 198 #[.val (.int p1), .val (.int p2), .val (.ref ar_1), .val (.int kk), .val (.int p1), .unset, .unset, .unset] [(.ref (own_ct w_INTEGER w_DECIMAL w_FLOAT w_BOOLEAN w_TEXT w_OTHER p1))]) _
    refine XS.astore X3.here hx rfl (hb hby at_198) rfl rfl (l' := #[.val (.int p1), .val (.int p2), .val (.ref ar_1), .val (.int kk), .val (.int p1), .val (.ref (own_ct w_INTEGER w_DECIMAL w_FLOAT w_BOOLEAN w_TEXT w_OTHER p1)), .unset, .unset]) rfl ?_
    show St p e below T3 (mkF m 200 #[.val (.int p1), .val (.int p2), .val (.ref ar_1), .val (.int kk), .val (.int p1), .val (.ref (own_ct w_INTEGER w_DECIMAL w_FLOAT w_BOOLEAN w_TEXT w_OTHER p1)), .unset, .unset] []) _
    refine XS.iload X3.here hx rfl (hb hby at_200) rfl ?_
    show St p e below T3 (mkF m 202 #[.val (.int p1), .val (.int p2), .val (.ref ar_1), .val (.int kk), .val (.int p1), .val (.ref (own_ct w_INTEGER w_DECIMAL w_FLOAT w_BOOLEAN w_TEXT w_OTHER p1)), .unset, .unset] [(.int p1)]) _
    refine st4 _ ?_
    show St p e below T4 (mkF m 205 #[.val (.int p1), .val (.int p2), .val (.ref ar_1), .val (.int kk), .val (.int p1), .val (.ref (own_ct w_INTEGER w_DECIMAL w_FLOAT w_BOOLEAN w_TEXT w_OTHER p1)), .unset, .unset] [(.ref (own_ct w_INTEGER w_DECIMAL w_FLOAT w_BOOLEAN w_TEXT w_OTHER p1))]) _
    refine XS.aload X4.here hx rfl (hb hby at_205) rfl rfl ?_
    show St p e below T4 (mkF m 207 #[.val (.int p1), .val (.int p2), .val (.ref ar_1), .val (.int kk), .val (.int p1), .val (.ref (own_ct w_INTEGER w_DECIMAL w_FLOAT w_BOOLEAN w_TEXT w_OTHER p1)), .unset, .unset] [(.ref (own_ct w_INTEGER w_DECIMAL w_FLOAT w_BOOLEAN w_TEXT w_OTHER p1)), (.ref (own_ct w_INTEGER w_DECIMAL w_FLOAT w_BOOLEAN w_TEXT w_OTHER p1))]) _
    refine Jvm.RoadKit.acmp (g := (mkF m 207 #[.val (.int p1), .val (.int p2), .val (.ref ar_1), .val (.int kk), .val (.int p1), .val (.ref (own_ct w_INTEGER w_DECIMAL w_FLOAT w_BOOLEAN w_TEXT w_OTHER p1)), .unset, .unset] [(.ref (own_ct w_INTEGER w_DECIMAL w_FLOAT w_BOOLEAN w_TEXT w_OTHER p1)), (.ref (own_ct w_INTEGER w_DECIMAL w_FLOAT w_BOOLEAN w_TEXT w_OTHER p1))])) X4 hx rfl rfl rfl (pc0 := 207) (pc' := 210) (same := true) rfl (hb hby at_207) rfl (decide_eq_true rfl) (by decide) (by decide) ?_
    show St p e below T4 (mkF m 210 #[.val (.int p1), .val (.int p2), .val (.ref ar_1), .val (.int kk), .val (.int p1), .val (.ref (own_ct w_INTEGER w_DECIMAL w_FLOAT w_BOOLEAN w_TEXT w_OTHER p1)), .unset, .unset] []) _
    refine XS.iconst X4.here hx rfl (hb hby at_210) ?_
    show St p e below T4 (mkF m 211 #[.val (.int p1), .val (.int p2), .val (.ref ar_1), .val (.int kk), .val (.int p1), .val (.ref (own_ct w_INTEGER w_DECIMAL w_FLOAT w_BOOLEAN w_TEXT w_OTHER p1)), .unset, .unset] [(.int 1)]) _
    refine XS.goto X4.here hx rfl (pc0 := 211) (pc' := 215) rfl (hb hby at_211) (by decide) (by decide) ?_
    show St p e below T4 (mkF m 215 #[.val (.int p1), .val (.int p2), .val (.ref ar_1), .val (.int kk), .val (.int p1), .val (.ref (own_ct w_INTEGER w_DECIMAL w_FLOAT w_BOOLEAN w_TEXT w_OTHER p1)), .unset, .unset] [(.int 1)]) _
    refine XS.istore X4.here hx rfl (hb hby at_215) rfl (l' := #[.val (.int p1), .val (.int p2), .val (.ref ar_1), .val (.int kk), .val (.int p1), .val (.ref (own_ct w_INTEGER w_DECIMAL w_FLOAT w_BOOLEAN w_TEXT w_OTHER p1)), .val (.int 1), .unset]) rfl ?_
    show St p e below T4 (mkF m 217 #[.val (.int p1), .val (.int p2), .val (.ref ar_1), .val (.int kk), .val (.int p1), .val (.ref (own_ct w_INTEGER w_DECIMAL w_FLOAT w_BOOLEAN w_TEXT w_OTHER p1)), .val (.int 1), .unset] []) _
    refine XS.iloadN X4.here hx rfl (hb hby at_217) rfl ?_
    show St p e below T4 (mkF m 218 #[.val (.int p1), .val (.int p2), .val (.ref ar_1), .val (.int kk), .val (.int p1), .val (.ref (own_ct w_INTEGER w_DECIMAL w_FLOAT w_BOOLEAN w_TEXT w_OTHER p1)), .val (.int 1), .unset] [(.int p1)]) _
    refine st5 _ ?_
    show St p e below T5 (mkF m 221 #[.val (.int p1), .val (.int p2), .val (.ref ar_1), .val (.int kk), .val (.int p1), .val (.ref (own_ct w_INTEGER w_DECIMAL w_FLOAT w_BOOLEAN w_TEXT w_OTHER p1)), .val (.int 1), .unset] [(.ref (own_ct w_INTEGER w_DECIMAL w_FLOAT w_BOOLEAN w_TEXT w_OTHER p1))]) _
    refine XS.iloadN X5.here hx rfl (hb hby at_221) rfl ?_
    show St p e below T5 (mkF m 222 #[.val (.int p1), .val (.int p2), .val (.ref ar_1), .val (.int kk), .val (.int p1), .val (.ref (own_ct w_INTEGER w_DECIMAL w_FLOAT w_BOOLEAN w_TEXT w_OTHER p1)), .val (.int 1), .unset] [(.int p1), (.ref (own_ct w_INTEGER w_DECIMAL w_FLOAT w_BOOLEAN w_TEXT w_OTHER p1))]) _
    refine st6 _ ?_
    show St p e below T6 (mkF m 225 #[.val (.int p1), .val (.int p2), .val (.ref ar_1), .val (.int kk), .val (.int p1), .val (.ref (own_ct w_INTEGER w_DECIMAL w_FLOAT w_BOOLEAN w_TEXT w_OTHER p1)), .val (.int 1), .unset] [(.ref (own_ct w_INTEGER w_DECIMAL w_FLOAT w_BOOLEAN w_TEXT w_OTHER p1)), (.ref (own_ct w_INTEGER w_DECIMAL w_FLOAT w_BOOLEAN w_TEXT w_OTHER p1))]) _
    refine Jvm.RoadKit.acmp (g := (mkF m 225 #[.val (.int p1), .val (.int p2), .val (.ref ar_1), .val (.int kk), .val (.int p1), .val (.ref (own_ct w_INTEGER w_DECIMAL w_FLOAT w_BOOLEAN w_TEXT w_OTHER p1)), .val (.int 1), .unset] [(.ref (own_ct w_INTEGER w_DECIMAL w_FLOAT w_BOOLEAN w_TEXT w_OTHER p1)), (.ref (own_ct w_INTEGER w_DECIMAL w_FLOAT w_BOOLEAN w_TEXT w_OTHER p1))])) X6 hx rfl rfl rfl (pc0 := 225) (pc' := 228) (same := true) rfl (hb hby at_225) rfl (decide_eq_true rfl) (by decide) (by decide) ?_
    show St p e below T6 (mkF m 228 #[.val (.int p1), .val (.int p2), .val (.ref ar_1), .val (.int kk), .val (.int p1), .val (.ref (own_ct w_INTEGER w_DECIMAL w_FLOAT w_BOOLEAN w_TEXT w_OTHER p1)), .val (.int 1), .unset] []) _
    refine XS.iconst X6.here hx rfl (hb hby at_228) ?_
    show St p e below T6 (mkF m 229 #[.val (.int p1), .val (.int p2), .val (.ref ar_1), .val (.int kk), .val (.int p1), .val (.ref (own_ct w_INTEGER w_DECIMAL w_FLOAT w_BOOLEAN w_TEXT w_OTHER p1)), .val (.int 1), .unset] [(.int 1)]) _
    refine XS.goto X6.here hx rfl (pc0 := 229) (pc' := 233) rfl (hb hby at_229) (by decide) (by decide) ?_
    show St p e below T6 (mkF m 233 #[.val (.int p1), .val (.int p2), .val (.ref ar_1), .val (.int kk), .val (.int p1), .val (.ref (own_ct w_INTEGER w_DECIMAL w_FLOAT w_BOOLEAN w_TEXT w_OTHER p1)), .val (.int 1), .unset] [(.int 1)]) _
    refine XS.istore X6.here hx rfl (hb hby at_233) rfl (l' := #[.val (.int p1), .val (.int p2), .val (.ref ar_1), .val (.int kk), .val (.int p1), .val (.ref (own_ct w_INTEGER w_DECIMAL w_FLOAT w_BOOLEAN w_TEXT w_OTHER p1)), .val (.int 1), .val (.int 1)]) rfl ?_
    show St p e below T6 (mkF m 235 #[.val (.int p1), .val (.int p2), .val (.ref ar_1), .val (.int kk), .val (.int p1), .val (.ref (own_ct w_INTEGER w_DECIMAL w_FLOAT w_BOOLEAN w_TEXT w_OTHER p1)), .val (.int 1), .val (.int 1)] []) _
    refine XS.iload X6.here hx rfl (hb hby at_235) rfl ?_
    show St p e below T6 (mkF m 237 #[.val (.int p1), .val (.int p2), .val (.ref ar_1), .val (.int kk), .val (.int p1), .val (.ref (own_ct w_INTEGER w_DECIMAL w_FLOAT w_BOOLEAN w_TEXT w_OTHER p1)), .val (.int 1), .val (.int 1)] [(.int 1)]) _
    refine XS.ifNo X6.here hx rfl (hb hby at_237) rfl ((if0 _ _).trans (feq (by decide : ¬ ((1 : Int32) = (0 : Int32)))).1) ?_
    show St p e below T6 (mkF m 240 #[.val (.int p1), .val (.int p2), .val (.ref ar_1), .val (.int kk), .val (.int p1), .val (.ref (own_ct w_INTEGER w_DECIMAL w_FLOAT w_BOOLEAN w_TEXT w_OTHER p1)), .val (.int 1), .val (.int 1)] []) _
    refine XS.iload X6.here hx rfl (hb hby at_240) rfl ?_
    show St p e below T6 (mkF m 242 #[.val (.int p1), .val (.int p2), .val (.ref ar_1), .val (.int kk), .val (.int p1), .val (.ref (own_ct w_INTEGER w_DECIMAL w_FLOAT w_BOOLEAN w_TEXT w_OTHER p1)), .val (.int 1), .val (.int 1)] [(.int 1)]) _
    refine XS.ifNo X6.here hx rfl (hb hby at_242) rfl ((if0 _ _).trans (feq (by decide : ¬ ((1 : Int32) = (0 : Int32)))).1) ?_
    show St p e below T6 (mkF m 245 #[.val (.int p1), .val (.int p2), .val (.ref ar_1), .val (.int kk), .val (.int p1), .val (.ref (own_ct w_INTEGER w_DECIMAL w_FLOAT w_BOOLEAN w_TEXT w_OTHER p1)), .val (.int 1), .val (.int 1)] []) _
    refine XS.iconst X6.here hx rfl (hb hby at_245) ?_
    show St p e below T6 (mkF m 246 #[.val (.int p1), .val (.int p2), .val (.ref ar_1), .val (.int kk), .val (.int p1), .val (.ref (own_ct w_INTEGER w_DECIMAL w_FLOAT w_BOOLEAN w_TEXT w_OTHER p1)), .val (.int 1), .val (.int 1)] [(.int 1)]) _
    refine XS.goto X6.here hx rfl (pc0 := 246) (pc' := 250) rfl (hb hby at_246) (by decide) (by decide) ?_
    show St p e below T6 (mkF m 250 #[.val (.int p1), .val (.int p2), .val (.ref ar_1), .val (.int kk), .val (.int p1), .val (.ref (own_ct w_INTEGER w_DECIMAL w_FLOAT w_BOOLEAN w_TEXT w_OTHER p1)), .val (.int 1), .val (.int 1)] [(.int 1)]) _
    exact retN X6 hx (t := .boolean) Bd.returns (by simp) (hb hby at_250) hr
  · exact ⟨rfl, N6⟩
theorem own_rem28 (x : Int32) : ((x &&& (2147483647 : Int32)) % (28 : Int32)) = (0 : Int32) ∨ ((x &&& (2147483647 : Int32)) % (28 : Int32)) = (1 : Int32) ∨ ((x &&& (2147483647 : Int32)) % (28 : Int32)) = (2 : Int32) ∨ ((x &&& (2147483647 : Int32)) % (28 : Int32)) = (3 : Int32) ∨ ((x &&& (2147483647 : Int32)) % (28 : Int32)) = (4 : Int32) ∨ ((x &&& (2147483647 : Int32)) % (28 : Int32)) = (5 : Int32) ∨ ((x &&& (2147483647 : Int32)) % (28 : Int32)) = (6 : Int32) ∨ ((x &&& (2147483647 : Int32)) % (28 : Int32)) = (7 : Int32) ∨ ((x &&& (2147483647 : Int32)) % (28 : Int32)) = (8 : Int32) ∨ ((x &&& (2147483647 : Int32)) % (28 : Int32)) = (9 : Int32) ∨ ((x &&& (2147483647 : Int32)) % (28 : Int32)) = (10 : Int32) ∨ ((x &&& (2147483647 : Int32)) % (28 : Int32)) = (11 : Int32) ∨ ((x &&& (2147483647 : Int32)) % (28 : Int32)) = (12 : Int32) ∨ ((x &&& (2147483647 : Int32)) % (28 : Int32)) = (13 : Int32) ∨ ((x &&& (2147483647 : Int32)) % (28 : Int32)) = (14 : Int32) ∨ ((x &&& (2147483647 : Int32)) % (28 : Int32)) = (15 : Int32) ∨ ((x &&& (2147483647 : Int32)) % (28 : Int32)) = (16 : Int32) ∨ ((x &&& (2147483647 : Int32)) % (28 : Int32)) = (17 : Int32) ∨ ((x &&& (2147483647 : Int32)) % (28 : Int32)) = (18 : Int32) ∨ ((x &&& (2147483647 : Int32)) % (28 : Int32)) = (19 : Int32) ∨ ((x &&& (2147483647 : Int32)) % (28 : Int32)) = (20 : Int32) ∨ ((x &&& (2147483647 : Int32)) % (28 : Int32)) = (21 : Int32) ∨ ((x &&& (2147483647 : Int32)) % (28 : Int32)) = (22 : Int32) ∨ ((x &&& (2147483647 : Int32)) % (28 : Int32)) = (23 : Int32) ∨ ((x &&& (2147483647 : Int32)) % (28 : Int32)) = (24 : Int32) ∨ ((x &&& (2147483647 : Int32)) % (28 : Int32)) = (25 : Int32) ∨ ((x &&& (2147483647 : Int32)) % (28 : Int32)) = (26 : Int32) ∨ ((x &&& (2147483647 : Int32)) % (28 : Int32)) = (27 : Int32) := by
  have h := c_and x (2147483647 : Int32) (by decide)
  have h2 := (c_iremV (x &&& (2147483647 : Int32)) (28 : Int32)).1 h.1 (by decide)
  rw [show (28 : Int32).toInt = 28 by decide] at h2
  have q : (((x &&& (2147483647 : Int32)) % (28 : Int32))).toInt = 0 ∨ (((x &&& (2147483647 : Int32)) % (28 : Int32))).toInt = 1 ∨ (((x &&& (2147483647 : Int32)) % (28 : Int32))).toInt = 2 ∨ (((x &&& (2147483647 : Int32)) % (28 : Int32))).toInt = 3 ∨ (((x &&& (2147483647 : Int32)) % (28 : Int32))).toInt = 4 ∨ (((x &&& (2147483647 : Int32)) % (28 : Int32))).toInt = 5 ∨ (((x &&& (2147483647 : Int32)) % (28 : Int32))).toInt = 6 ∨ (((x &&& (2147483647 : Int32)) % (28 : Int32))).toInt = 7 ∨ (((x &&& (2147483647 : Int32)) % (28 : Int32))).toInt = 8 ∨ (((x &&& (2147483647 : Int32)) % (28 : Int32))).toInt = 9 ∨ (((x &&& (2147483647 : Int32)) % (28 : Int32))).toInt = 10 ∨ (((x &&& (2147483647 : Int32)) % (28 : Int32))).toInt = 11 ∨ (((x &&& (2147483647 : Int32)) % (28 : Int32))).toInt = 12 ∨ (((x &&& (2147483647 : Int32)) % (28 : Int32))).toInt = 13 ∨ (((x &&& (2147483647 : Int32)) % (28 : Int32))).toInt = 14 ∨ (((x &&& (2147483647 : Int32)) % (28 : Int32))).toInt = 15 ∨ (((x &&& (2147483647 : Int32)) % (28 : Int32))).toInt = 16 ∨ (((x &&& (2147483647 : Int32)) % (28 : Int32))).toInt = 17 ∨ (((x &&& (2147483647 : Int32)) % (28 : Int32))).toInt = 18 ∨ (((x &&& (2147483647 : Int32)) % (28 : Int32))).toInt = 19 ∨ (((x &&& (2147483647 : Int32)) % (28 : Int32))).toInt = 20 ∨ (((x &&& (2147483647 : Int32)) % (28 : Int32))).toInt = 21 ∨ (((x &&& (2147483647 : Int32)) % (28 : Int32))).toInt = 22 ∨ (((x &&& (2147483647 : Int32)) % (28 : Int32))).toInt = 23 ∨ (((x &&& (2147483647 : Int32)) % (28 : Int32))).toInt = 24 ∨ (((x &&& (2147483647 : Int32)) % (28 : Int32))).toInt = 25 ∨ (((x &&& (2147483647 : Int32)) % (28 : Int32))).toInt = 26 ∨ (((x &&& (2147483647 : Int32)) % (28 : Int32))).toInt = 27 := by omega
  rcases q with q | q | q | q | q | q | q | q | q | q | q | q | q | q | q | q | q | q | q | q | q | q | q | q | q | q | q | q
  · exact Or.inl (Int32.toInt_inj.mp (q.trans (by decide)))
  · exact Or.inr (Or.inl (Int32.toInt_inj.mp (q.trans (by decide))))
  · exact Or.inr (Or.inr (Or.inl (Int32.toInt_inj.mp (q.trans (by decide)))))
  · exact Or.inr (Or.inr (Or.inr (Or.inl (Int32.toInt_inj.mp (q.trans (by decide))))))
  · exact Or.inr (Or.inr (Or.inr (Or.inr (Or.inl (Int32.toInt_inj.mp (q.trans (by decide)))))))
  · exact Or.inr (Or.inr (Or.inr (Or.inr (Or.inr (Or.inl (Int32.toInt_inj.mp (q.trans (by decide))))))))
  · exact Or.inr (Or.inr (Or.inr (Or.inr (Or.inr (Or.inr (Or.inl (Int32.toInt_inj.mp (q.trans (by decide)))))))))
  · exact Or.inr (Or.inr (Or.inr (Or.inr (Or.inr (Or.inr (Or.inr (Or.inl (Int32.toInt_inj.mp (q.trans (by decide))))))))))
  · exact Or.inr (Or.inr (Or.inr (Or.inr (Or.inr (Or.inr (Or.inr (Or.inr (Or.inl (Int32.toInt_inj.mp (q.trans (by decide)))))))))))
  · exact Or.inr (Or.inr (Or.inr (Or.inr (Or.inr (Or.inr (Or.inr (Or.inr (Or.inr (Or.inl (Int32.toInt_inj.mp (q.trans (by decide))))))))))))
  · exact Or.inr (Or.inr (Or.inr (Or.inr (Or.inr (Or.inr (Or.inr (Or.inr (Or.inr (Or.inr (Or.inl (Int32.toInt_inj.mp (q.trans (by decide)))))))))))))
  · exact Or.inr (Or.inr (Or.inr (Or.inr (Or.inr (Or.inr (Or.inr (Or.inr (Or.inr (Or.inr (Or.inr (Or.inl (Int32.toInt_inj.mp (q.trans (by decide))))))))))))))
  · exact Or.inr (Or.inr (Or.inr (Or.inr (Or.inr (Or.inr (Or.inr (Or.inr (Or.inr (Or.inr (Or.inr (Or.inr (Or.inl (Int32.toInt_inj.mp (q.trans (by decide)))))))))))))))
  · exact Or.inr (Or.inr (Or.inr (Or.inr (Or.inr (Or.inr (Or.inr (Or.inr (Or.inr (Or.inr (Or.inr (Or.inr (Or.inr (Or.inl (Int32.toInt_inj.mp (q.trans (by decide))))))))))))))))
  · exact Or.inr (Or.inr (Or.inr (Or.inr (Or.inr (Or.inr (Or.inr (Or.inr (Or.inr (Or.inr (Or.inr (Or.inr (Or.inr (Or.inr (Or.inl (Int32.toInt_inj.mp (q.trans (by decide)))))))))))))))))
  · exact Or.inr (Or.inr (Or.inr (Or.inr (Or.inr (Or.inr (Or.inr (Or.inr (Or.inr (Or.inr (Or.inr (Or.inr (Or.inr (Or.inr (Or.inr (Or.inl (Int32.toInt_inj.mp (q.trans (by decide))))))))))))))))))
  · exact Or.inr (Or.inr (Or.inr (Or.inr (Or.inr (Or.inr (Or.inr (Or.inr (Or.inr (Or.inr (Or.inr (Or.inr (Or.inr (Or.inr (Or.inr (Or.inr (Or.inl (Int32.toInt_inj.mp (q.trans (by decide)))))))))))))))))))
  · exact Or.inr (Or.inr (Or.inr (Or.inr (Or.inr (Or.inr (Or.inr (Or.inr (Or.inr (Or.inr (Or.inr (Or.inr (Or.inr (Or.inr (Or.inr (Or.inr (Or.inr (Or.inl (Int32.toInt_inj.mp (q.trans (by decide))))))))))))))))))))
  · exact Or.inr (Or.inr (Or.inr (Or.inr (Or.inr (Or.inr (Or.inr (Or.inr (Or.inr (Or.inr (Or.inr (Or.inr (Or.inr (Or.inr (Or.inr (Or.inr (Or.inr (Or.inr (Or.inl (Int32.toInt_inj.mp (q.trans (by decide)))))))))))))))))))))
  · exact Or.inr (Or.inr (Or.inr (Or.inr (Or.inr (Or.inr (Or.inr (Or.inr (Or.inr (Or.inr (Or.inr (Or.inr (Or.inr (Or.inr (Or.inr (Or.inr (Or.inr (Or.inr (Or.inr (Or.inl (Int32.toInt_inj.mp (q.trans (by decide))))))))))))))))))))))
  · exact Or.inr (Or.inr (Or.inr (Or.inr (Or.inr (Or.inr (Or.inr (Or.inr (Or.inr (Or.inr (Or.inr (Or.inr (Or.inr (Or.inr (Or.inr (Or.inr (Or.inr (Or.inr (Or.inr (Or.inr (Or.inl (Int32.toInt_inj.mp (q.trans (by decide)))))))))))))))))))))))
  · exact Or.inr (Or.inr (Or.inr (Or.inr (Or.inr (Or.inr (Or.inr (Or.inr (Or.inr (Or.inr (Or.inr (Or.inr (Or.inr (Or.inr (Or.inr (Or.inr (Or.inr (Or.inr (Or.inr (Or.inr (Or.inr (Or.inl (Int32.toInt_inj.mp (q.trans (by decide))))))))))))))))))))))))
  · exact Or.inr (Or.inr (Or.inr (Or.inr (Or.inr (Or.inr (Or.inr (Or.inr (Or.inr (Or.inr (Or.inr (Or.inr (Or.inr (Or.inr (Or.inr (Or.inr (Or.inr (Or.inr (Or.inr (Or.inr (Or.inr (Or.inr (Or.inl (Int32.toInt_inj.mp (q.trans (by decide)))))))))))))))))))))))))
  · exact Or.inr (Or.inr (Or.inr (Or.inr (Or.inr (Or.inr (Or.inr (Or.inr (Or.inr (Or.inr (Or.inr (Or.inr (Or.inr (Or.inr (Or.inr (Or.inr (Or.inr (Or.inr (Or.inr (Or.inr (Or.inr (Or.inr (Or.inr (Or.inl (Int32.toInt_inj.mp (q.trans (by decide))))))))))))))))))))))))))
  · exact Or.inr (Or.inr (Or.inr (Or.inr (Or.inr (Or.inr (Or.inr (Or.inr (Or.inr (Or.inr (Or.inr (Or.inr (Or.inr (Or.inr (Or.inr (Or.inr (Or.inr (Or.inr (Or.inr (Or.inr (Or.inr (Or.inr (Or.inr (Or.inr (Or.inl (Int32.toInt_inj.mp (q.trans (by decide)))))))))))))))))))))))))))
  · exact Or.inr (Or.inr (Or.inr (Or.inr (Or.inr (Or.inr (Or.inr (Or.inr (Or.inr (Or.inr (Or.inr (Or.inr (Or.inr (Or.inr (Or.inr (Or.inr (Or.inr (Or.inr (Or.inr (Or.inr (Or.inr (Or.inr (Or.inr (Or.inr (Or.inr (Or.inl (Int32.toInt_inj.mp (q.trans (by decide))))))))))))))))))))))))))))
  · exact Or.inr (Or.inr (Or.inr (Or.inr (Or.inr (Or.inr (Or.inr (Or.inr (Or.inr (Or.inr (Or.inr (Or.inr (Or.inr (Or.inr (Or.inr (Or.inr (Or.inr (Or.inr (Or.inr (Or.inr (Or.inr (Or.inr (Or.inr (Or.inr (Or.inr (Or.inr (Or.inl (Int32.toInt_inj.mp (q.trans (by decide)))))))))))))))))))))))))))))
  · exact Or.inr (Or.inr (Or.inr (Or.inr (Or.inr (Or.inr (Or.inr (Or.inr (Or.inr (Or.inr (Or.inr (Or.inr (Or.inr (Or.inr (Or.inr (Or.inr (Or.inr (Or.inr (Or.inr (Or.inr (Or.inr (Or.inr (Or.inr (Or.inr (Or.inr (Or.inr (Or.inr (Int32.toInt_inj.mp (q.trans (by decide)))))))))))))))))))))))))))))
theorem own_fi {s : State} {args : Array Value} {t : Term} {C n d : String} {k : Int32} {a : Addr} (ev : t.eval args s none [] s = some (.ref a)) (h : (Jvm.Cond.eq (Term.field t C n d) (Term.int k)).value args s none s [] = some true) : Fld s s.heap a C n d (.int k) := by
  obtain ⟨x, y, h1, h2, h3, h4⟩ := cmp_v (Or.inl h)
  have e2 : y = .int k := (Option.some.inj (h2.symm.trans (Term.int_eval k)))
  subst e2
  obtain ⟨z, rfl⟩ := h4
  have e3 : z = k := gotT (Cond.eq_ints h1 h2) h
  subst e3
  exact Fld.start ((fld_at ev).symm.trans h1)
theorem own_fr {s : State} {args : Array Value} {t u : Term} {C n d : String} {a b : Addr} (ev : t.eval args s none [] s = some (.ref a)) (ev2 : u.eval args s none [] s = some (.ref b)) (h : (Jvm.Cond.eq (Term.field t C n d) u).value args s none s [] = some true) : Fld s s.heap a C n d (.ref b) := by
  obtain ⟨x, y, h1, h2, h3, h4⟩ := cmp_v (Or.inl h)
  obtain rfl : y = .ref b := Option.some.inj (h2.symm.trans ev2)
  have hx : x.isRef = true := h4.2
  have e3 : x = .ref b := gotT (eq_R h1 h2 hx rfl) h
  subst e3
  exact Fld.start ((fld_at ev).symm.trans h1)
set_option maxRecDepth 65536 in
set_option maxHeartbeats 40000000 in
theorem comes_1 {Post : Tables → Env → Array Value → State → Outcome → State → Prop} (hpost : ∀ tb e args s v u, (limb_1_1.after args s (.returned v) u = true ∧ limb_1_2.after args s (.returned v) u = true ∧ True) → FrameEnd s (.returned v) u (Jvm.fieldLocs frame_1_writes args s ++ Jvm.arrayLocs frame_1_arrays args s ++ Jvm.staticLocs frame_1_statics s) 16 128 → Post tb e args s (.returned v) u) :
    ArmFor flags0 classFile x code maxLocals ret World_1 tables_1 room_1 Calls_1 rest_1 Pre_1 Post := by
  intro l hfl _ _ p e ha hc hk s m args below hf hA hF happ hP
  obtain ⟨hcalls, hrest, hpre⟩ := hP
  obtain ⟨-, -, -, hnamed, -, -, -, hat⟩ := (Spec.applies_iff hf).mp happ
  obtain ⟨hg, hn⟩ := and_e (Cond.before_iff.mp (show (Jvm.Cond.and given_1 narrow_1).before args s = true from hpre))
  obtain ⟨j1, j2⟩ := and_e hg
  obtain ⟨j3, j4⟩ := and_e j2
  obtain ⟨j5, j6⟩ := and_e hn
  obtain ⟨j7, j8⟩ := and_e j6
  obtain ⟨j9, j10⟩ := and_e j8
  obtain ⟨j11, j12⟩ := and_e j10
  obtain ⟨j13, j14⟩ := and_e j12
  obtain ⟨w0, w1, rfl⟩ : ∃ w0 w1 : Value, args = #[w0, w1] := by
    have hs : args.size = 2 := by simpa [Cond.value, given_1] using j1
    obtain ⟨L⟩ := args
    match L, hs with
    | [w0, w1], _ => exact ⟨w0, w1, rfl⟩
  have hw := fun d (hd : d ∈ tables_1) => atoms_spec (ws := Jvm.Cond.code x code maxLocals ret :: tables_1) hat d (List.mem_cons_of_mem _ hd)
  have hfit : Fit s := fun {y c} hc i hi => by
    obtain ⟨ha, rfl⟩ := Array.getElem?_eq_some_iff.mp hc
    have q := List.all_eq_true.mp ((Array.all_eq_true_iff_forall_mem.mp hF) _ (Array.getElem_mem ha)) i (List.mem_range.mpr hi)
    simpa [Array.getElem?_eq_getElem hi] using q
  obtain ⟨i0, ei0⟩ := is_v j3
  obtain rfl : w0 = (.int i0) := Option.some.inj ei0
  obtain ⟨i1, ei1⟩ := is_v j4
  obtain rfl : w1 = (.int i1) := Option.some.inj ei1
  obtain ⟨w_INTEGER, ev_w_INTEGER⟩ := exa_v j5
  have S_INTEGER := Sta.start ev_w_INTEGER (Or.inr ⟨(hwi hw 7 rfl), (hwi hw 8 rfl)⟩)
  have E_w_INTEGER := Exa.start ev_w_INTEGER j5
  obtain ⟨w_OTHER, ev_w_OTHER⟩ := exa_v j7
  have S_OTHER := Sta.start ev_w_OTHER (Or.inr ⟨(hwi hw 7 rfl), (hwi hw 14 rfl)⟩)
  have E_w_OTHER := Exa.start ev_w_OTHER j7
  obtain ⟨w_TEXT, ev_w_TEXT⟩ := exa_v j9
  have S_TEXT := Sta.start ev_w_TEXT (Or.inr ⟨(hwi hw 7 rfl), (hwi hw 20 rfl)⟩)
  have E_w_TEXT := Exa.start ev_w_TEXT j9
  obtain ⟨w_FLOAT, ev_w_FLOAT⟩ := exa_v j11
  have S_FLOAT := Sta.start ev_w_FLOAT (Or.inr ⟨(hwi hw 7 rfl), (hwi hw 23 rfl)⟩)
  have E_w_FLOAT := Exa.start ev_w_FLOAT j11
  obtain ⟨w_DECIMAL, ev_w_DECIMAL⟩ := exa_v j13
  have S_DECIMAL := Sta.start ev_w_DECIMAL (Or.inr ⟨(hwi hw 7 rfl), (hwi hw 26 rfl)⟩)
  have E_w_DECIMAL := Exa.start ev_w_DECIMAL j13
  obtain ⟨w_BOOLEAN, ev_w_BOOLEAN⟩ := exa_v j14
  have S_BOOLEAN := Sta.start ev_w_BOOLEAN (Or.inr ⟨(hwi hw 7 rfl), (hwi hw 29 rfl)⟩)
  have E_w_BOOLEAN := Exa.start ev_w_BOOLEAN j14
  have key : MetFree l x (head1 (Jvm.Cond.code x code maxLocals ret :: tables_1) room_1) (fun a U => a = #[(.int i0), (.int i1)] ∧ s.Warmed39 U.vm ∧ U.heap = s.heap) (fun _ _ _ _ _ => True) (fun _ U o U' => ∃ v L, o = .returned v ∧ Q_law s.heap.size v L ∧ FrameEnd U o U' L room_1.cells room_1.slots) := by
    rcases own_rem28 i1 with hk | hk | hk | hk | hk | hk | hk | hk | hk | hk | hk | hk | hk | hk | hk | hk | hk | hk | hk | hk | hk | hk | hk | hk | hk | hk | hk | hk
    · exact rm_law_in l s _ hw tables_1 i0 i1 (0 : Int32) w_INTEGER w_DECIMAL w_FLOAT w_BOOLEAN w_TEXT w_OTHER (-6 : Int32) s.heap s.heap.size (Nat.le_refl _) S_INTEGER S_DECIMAL S_FLOAT S_BOOLEAN S_TEXT S_OTHER (Old.start s) (by decide) (by decide) rfl rfl hk
    · exact rm_law_in l s _ hw tables_1 i0 i1 (1 : Int32) w_INTEGER w_DECIMAL w_FLOAT w_BOOLEAN w_TEXT w_OTHER (5 : Int32) s.heap s.heap.size (Nat.le_refl _) S_INTEGER S_DECIMAL S_FLOAT S_BOOLEAN S_TEXT S_OTHER (Old.start s) (by decide) (by decide) rfl rfl hk
    · exact rm_law_in l s _ hw tables_1 i0 i1 (2 : Int32) w_INTEGER w_DECIMAL w_FLOAT w_BOOLEAN w_TEXT w_OTHER (4 : Int32) s.heap s.heap.size (Nat.le_refl _) S_INTEGER S_DECIMAL S_FLOAT S_BOOLEAN S_TEXT S_OTHER (Old.start s) (by decide) (by decide) rfl rfl hk
    · exact rm_law_in l s _ hw tables_1 i0 i1 (3 : Int32) w_INTEGER w_DECIMAL w_FLOAT w_BOOLEAN w_TEXT w_OTHER (-5 : Int32) s.heap s.heap.size (Nat.le_refl _) S_INTEGER S_DECIMAL S_FLOAT S_BOOLEAN S_TEXT S_OTHER (Old.start s) (by decide) (by decide) rfl rfl hk
    · exact rm_law_in l s _ hw tables_1 i0 i1 (4 : Int32) w_INTEGER w_DECIMAL w_FLOAT w_BOOLEAN w_TEXT w_OTHER (2 : Int32) s.heap s.heap.size (Nat.le_refl _) S_INTEGER S_DECIMAL S_FLOAT S_BOOLEAN S_TEXT S_OTHER (Old.start s) (by decide) (by decide) rfl rfl hk
    · exact rm_law_in l s _ hw tables_1 i0 i1 (5 : Int32) w_INTEGER w_DECIMAL w_FLOAT w_BOOLEAN w_TEXT w_OTHER (3 : Int32) s.heap s.heap.size (Nat.le_refl _) S_INTEGER S_DECIMAL S_FLOAT S_BOOLEAN S_TEXT S_OTHER (Old.start s) (by decide) (by decide) rfl rfl hk
    · exact rm_law_in l s _ hw tables_1 i0 i1 (6 : Int32) w_INTEGER w_DECIMAL w_FLOAT w_BOOLEAN w_TEXT w_OTHER (7 : Int32) s.heap s.heap.size (Nat.le_refl _) S_INTEGER S_DECIMAL S_FLOAT S_BOOLEAN S_TEXT S_OTHER (Old.start s) (by decide) (by decide) rfl rfl hk
    · exact rm_law_in l s _ hw tables_1 i0 i1 (7 : Int32) w_INTEGER w_DECIMAL w_FLOAT w_BOOLEAN w_TEXT w_OTHER (6 : Int32) s.heap s.heap.size (Nat.le_refl _) S_INTEGER S_DECIMAL S_FLOAT S_BOOLEAN S_TEXT S_OTHER (Old.start s) (by decide) (by decide) rfl rfl hk
    · exact rm_law_in l s _ hw tables_1 i0 i1 (8 : Int32) w_INTEGER w_DECIMAL w_FLOAT w_BOOLEAN w_TEXT w_OTHER (8 : Int32) s.heap s.heap.size (Nat.le_refl _) S_INTEGER S_DECIMAL S_FLOAT S_BOOLEAN S_TEXT S_OTHER (Old.start s) (by decide) (by decide) rfl rfl hk
    · exact rm_law_in l s _ hw tables_1 i0 i1 (9 : Int32) w_INTEGER w_DECIMAL w_FLOAT w_BOOLEAN w_TEXT w_OTHER (-7 : Int32) s.heap s.heap.size (Nat.le_refl _) S_INTEGER S_DECIMAL S_FLOAT S_BOOLEAN S_TEXT S_OTHER (Old.start s) (by decide) (by decide) rfl rfl hk
    · exact rm_law_in l s _ hw tables_1 i0 i1 (10 : Int32) w_INTEGER w_DECIMAL w_FLOAT w_BOOLEAN w_TEXT w_OTHER (16 : Int32) s.heap s.heap.size (Nat.le_refl _) S_INTEGER S_DECIMAL S_FLOAT S_BOOLEAN S_TEXT S_OTHER (Old.start s) (by decide) (by decide) rfl rfl hk
    · exact rm_law_in l s _ hw tables_1 i0 i1 (11 : Int32) w_INTEGER w_DECIMAL w_FLOAT w_BOOLEAN w_TEXT w_OTHER (1 : Int32) s.heap s.heap.size (Nat.le_refl _) S_INTEGER S_DECIMAL S_FLOAT S_BOOLEAN S_TEXT S_OTHER (Old.start s) (by decide) (by decide) rfl rfl hk
    · exact rm_law_in l s _ hw tables_1 i0 i1 (12 : Int32) w_INTEGER w_DECIMAL w_FLOAT w_BOOLEAN w_TEXT w_OTHER (12 : Int32) s.heap s.heap.size (Nat.le_refl _) S_INTEGER S_DECIMAL S_FLOAT S_BOOLEAN S_TEXT S_OTHER (Old.start s) (by decide) (by decide) rfl rfl hk
    · exact rm_law_in l s _ hw tables_1 i0 i1 (13 : Int32) w_INTEGER w_DECIMAL w_FLOAT w_BOOLEAN w_TEXT w_OTHER (-1 : Int32) s.heap s.heap.size (Nat.le_refl _) S_INTEGER S_DECIMAL S_FLOAT S_BOOLEAN S_TEXT S_OTHER (Old.start s) (by decide) (by decide) rfl rfl hk
    · exact rm_law_in l s _ hw tables_1 i0 i1 (14 : Int32) w_INTEGER w_DECIMAL w_FLOAT w_BOOLEAN w_TEXT w_OTHER (-15 : Int32) s.heap s.heap.size (Nat.le_refl _) S_INTEGER S_DECIMAL S_FLOAT S_BOOLEAN S_TEXT S_OTHER (Old.start s) (by decide) (by decide) rfl rfl hk
    · exact rm_law_in l s _ hw tables_1 i0 i1 (15 : Int32) w_INTEGER w_DECIMAL w_FLOAT w_BOOLEAN w_TEXT w_OTHER (-9 : Int32) s.heap s.heap.size (Nat.le_refl _) S_INTEGER S_DECIMAL S_FLOAT S_BOOLEAN S_TEXT S_OTHER (Old.start s) (by decide) (by decide) rfl rfl hk
    · exact rm_law_in l s _ hw tables_1 i0 i1 (16 : Int32) w_INTEGER w_DECIMAL w_FLOAT w_BOOLEAN w_TEXT w_OTHER (-16 : Int32) s.heap s.heap.size (Nat.le_refl _) S_INTEGER S_DECIMAL S_FLOAT S_BOOLEAN S_TEXT S_OTHER (Old.start s) (by decide) (by decide) rfl rfl hk
    · exact rm_law_in l s _ hw tables_1 i0 i1 (17 : Int32) w_INTEGER w_DECIMAL w_FLOAT w_BOOLEAN w_TEXT w_OTHER (2005 : Int32) s.heap s.heap.size (Nat.le_refl _) S_INTEGER S_DECIMAL S_FLOAT S_BOOLEAN S_TEXT S_OTHER (Old.start s) (by decide) (by decide) rfl rfl hk
    · exact rm_law_in l s _ hw tables_1 i0 i1 (18 : Int32) w_INTEGER w_DECIMAL w_FLOAT w_BOOLEAN w_TEXT w_OTHER (2011 : Int32) s.heap s.heap.size (Nat.le_refl _) S_INTEGER S_DECIMAL S_FLOAT S_BOOLEAN S_TEXT S_OTHER (Old.start s) (by decide) (by decide) rfl rfl hk
    · exact rm_law_in l s _ hw tables_1 i0 i1 (19 : Int32) w_INTEGER w_DECIMAL w_FLOAT w_BOOLEAN w_TEXT w_OTHER (0 : Int32) s.heap s.heap.size (Nat.le_refl _) S_INTEGER S_DECIMAL S_FLOAT S_BOOLEAN S_TEXT S_OTHER (Old.start s) (by decide) (by decide) rfl rfl hk
    · exact rm_law_in l s _ hw tables_1 i0 i1 (20 : Int32) w_INTEGER w_DECIMAL w_FLOAT w_BOOLEAN w_TEXT w_OTHER (91 : Int32) s.heap s.heap.size (Nat.le_refl _) S_INTEGER S_DECIMAL S_FLOAT S_BOOLEAN S_TEXT S_OTHER (Old.start s) (by decide) (by decide) rfl rfl hk
    · exact rm_law_in l s _ hw tables_1 i0 i1 (21 : Int32) w_INTEGER w_DECIMAL w_FLOAT w_BOOLEAN w_TEXT w_OTHER (92 : Int32) s.heap s.heap.size (Nat.le_refl _) S_INTEGER S_DECIMAL S_FLOAT S_BOOLEAN S_TEXT S_OTHER (Old.start s) (by decide) (by decide) rfl rfl hk
    · exact rm_law_in l s _ hw tables_1 i0 i1 (22 : Int32) w_INTEGER w_DECIMAL w_FLOAT w_BOOLEAN w_TEXT w_OTHER (93 : Int32) s.heap s.heap.size (Nat.le_refl _) S_INTEGER S_DECIMAL S_FLOAT S_BOOLEAN S_TEXT S_OTHER (Old.start s) (by decide) (by decide) rfl rfl hk
    · exact rm_law_in l s _ hw tables_1 i0 i1 (23 : Int32) w_INTEGER w_DECIMAL w_FLOAT w_BOOLEAN w_TEXT w_OTHER (-2 : Int32) s.heap s.heap.size (Nat.le_refl _) S_INTEGER S_DECIMAL S_FLOAT S_BOOLEAN S_TEXT S_OTHER (Old.start s) (by decide) (by decide) rfl rfl hk
    · exact rm_law_in l s _ hw tables_1 i0 i1 (24 : Int32) w_INTEGER w_DECIMAL w_FLOAT w_BOOLEAN w_TEXT w_OTHER (-3 : Int32) s.heap s.heap.size (Nat.le_refl _) S_INTEGER S_DECIMAL S_FLOAT S_BOOLEAN S_TEXT S_OTHER (Old.start s) (by decide) (by decide) rfl rfl hk
    · exact rm_law_in l s _ hw tables_1 i0 i1 (25 : Int32) w_INTEGER w_DECIMAL w_FLOAT w_BOOLEAN w_TEXT w_OTHER (1111 : Int32) s.heap s.heap.size (Nat.le_refl _) S_INTEGER S_DECIMAL S_FLOAT S_BOOLEAN S_TEXT S_OTHER (Old.start s) (by decide) (by decide) rfl rfl hk
    · exact rm_law_in l s _ hw tables_1 i0 i1 (26 : Int32) w_INTEGER w_DECIMAL w_FLOAT w_BOOLEAN w_TEXT w_OTHER (2004 : Int32) s.heap s.heap.size (Nat.le_refl _) S_INTEGER S_DECIMAL S_FLOAT S_BOOLEAN S_TEXT S_OTHER (Old.start s) (by decide) (by decide) rfl rfl hk
    · exact rm_law_out l s _ hw tables_1 i0 i1 (27 : Int32) w_INTEGER w_DECIMAL w_FLOAT w_BOOLEAN w_TEXT w_OTHER s.heap s.heap.size (Nat.le_refl _) S_INTEGER S_DECIMAL S_FLOAT S_BOOLEAN S_TEXT S_OTHER (Old.start s) (by decide) hk
  obtain ⟨n, o, h1, h2, h3, _, L, rfl, ⟨rfl, N⟩, hq⟩ := key p e ha hc hk s m _ below hf ((Spec.applies_iff_loose hf).mp happ).1 ⟨rfl, State.Warmed39.refl s, rfl⟩ trivial
  refine ⟨n, _, h1, h2, h3, hpost _ _ _ _ _ _ ⟨Cond.after_iff.mpr rfl, Cond.after_iff.mpr (eq_i res_at (Term.int_eval (1)) rfl), trivial⟩ ⟨hq.1, hq.2.1, (hq.2.2.sift fun y hy => Or.inr (N y hy)).mono (by decide) (by decide)⟩⟩
theorem main_1_1 : Claimed_1_1 := comes_1 fun _ _ _ _ _ _ h hF => ⟨h.1, hF⟩
theorem main_1_2 : Claimed_1_2 := comes_1 fun _ _ _ _ _ _ h hF => ⟨h.2.1, hF⟩
end Jvm.Pilot.@@N@@
namespace Jvm.Pilot.@@N@@
open Jvm Jvm.ClassFile Sem Op Lib Jvm.Free Jvm.Stand Jvm.Pilot.@@N@@.Jvm.D
/-! MADE BY PROGRAM (witnessworld.py) out of the Statement's table words and the real class files: 12 classes; the members and pool entries that the words name. The judged class is class 1, her method 3. -/
namespace start1
open Jvm.ClassFile
def u (s : String) : CpInfo := .utf8 (stringToUtf16 s)
/-- a pool by its gaps: so many unusable entries, then the entry; so many at the end -/
def gap : Nat → List CpInfo → List CpInfo
  | 0, r => r
  | n + 1, r => .unusable :: gap n r
def poolList (es : List (Nat × CpInfo)) (last : Nat) : List CpInfo := es.foldr (fun e r => gap e.1 (e.2 :: r)) (gap last [])
def pool (es : List (Nat × CpInfo)) (last : Nat) : Array CpInfo := ⟨poolList es last⟩
def fileOf (pool : Array CpInfo) (this : Nat) (attrs : Array Attribute := #[]) (ms : Array MethodInfo := #[]) (fl : Nat := 33) (sup : Nat := 0) (ifs : Array Nat := #[]) (fds : Array FieldInfo := #[]) : ClassFile where
  minorVersion := 0
  majorVersion := 65
  constantPool := pool
  accessFlags := fl
  thisClass := this
  superClass := sup
  interfaces := ifs
  fields := fds
  methods := ms
  attributes := attrs
def plain (name : String) (sup : Option ClassId) : Class where
  name := name
  kind := .ordinary
  loader := none
  accessFlags := 33
  super := sup
  interfaces := #[]
  cf := none
  fields := #[]
  methods := #[]
  instanceTypes := #[]
  staticTypes := #[]
  resolved := #[]
  callSites := []
  init := .initialized
  statics := none
  mirror := none

def pool0 : Array CpInfo := pool [(5, u "<init>"), (0, u "()V"), (1, .class_ 10), (1, u "java/lang/Object")] 113

def k0m0 : Method := { name := "<init>", desc := "()V", sig := { parameters := [], returnType := none }, accessFlags := 1, code := none }
/-- java/lang/Object -/
def k0 : Class := { plain "java/lang/Object" none with
  accessFlags := 33
  interfaces := #[]
  cf := some (fileOf pool0 8 #[] #[{ accessFlags := 1, nameIndex := 5, descriptorIndex := 6, attributes := #[] }] 33 0 #[] #[])
  fields := #[]
  methods := #[k0m0]
  instanceTypes := #[]
  staticTypes := #[]
  resolved := Array.replicate 124 none
  statics := none }

def pool1 : Array CpInfo := pool [(2, .class_ 4), (1, u "java/lang/Object"), (0, u "<init>"), (0, u "()V"), (2, .fieldref 10 11), (0, .class_ 12), (0, .nameAndType 13 14), (0, u "com/example/commitgate/commitgate/store/ColumnType"), (0, u "INTEGER"), (0, u "Lcom/example/commitgate/commitgate/store/ColumnType;"), (0, .fieldref 10 16), (0, .nameAndType 17 14), (0, u "DECIMAL"), (0, .fieldref 10 19), (0, .nameAndType 20 14), (0, u "FLOAT"), (0, .fieldref 10 22), (0, .nameAndType 23 14), (0, u "BOOLEAN"), (0, .fieldref 10 25), (0, .nameAndType 26 14), (0, u "TEXT"), (0, .fieldref 10 28), (0, .nameAndType 29 14), (0, u "OTHER"), (0, .integer 2147483647), (0, .methodref 32 33), (0, .class_ 34), (0, .nameAndType 35 36), (0, u "com/example/commitgate/commitgate/store/ColumnTypeOfPinLaw"), (0, u "byIndex"), (0, u "(I)Lcom/example/commitgate/commitgate/store/ColumnType;"), (0, .methodref 32 38), (0, .nameAndType 39 36), (0, u "expected"), (0, .methodref 10 41), (0, .nameAndType 42 36), (0, u "of"), (3, u "law"), (0, u "(II)Z")] 4

def k1m0 : Method := { name := "<init>", desc := "()V", sig := { parameters := [], returnType := none }, accessFlags := 2, code := none }
def k1c1 : Code := { maxStack := 2, maxLocals := 1, code := method_2_code, exceptionTable := #[], attributes := #[] }
def k1m1 : Method := { name := "expected", desc := "(I)Lcom/example/commitgate/commitgate/store/ColumnType;", sig := { parameters := [.int], returnType := some (.object "com/example/commitgate/commitgate/store/ColumnType") }, accessFlags := 10, code := some k1c1 }
def k1c2 : Code := { maxStack := 2, maxLocals := 1, code := method_3_code, exceptionTable := #[], attributes := #[] }
def k1m2 : Method := { name := "byIndex", desc := "(I)Lcom/example/commitgate/commitgate/store/ColumnType;", sig := { parameters := [.int], returnType := some (.object "com/example/commitgate/commitgate/store/ColumnType") }, accessFlags := 10, code := some k1c2 }
def k1c3 : Code := { maxStack := 4, maxLocals := 8, code := code, exceptionTable := #[], attributes := #[] }
def k1m3 : Method := { name := "law", desc := "(II)Z", sig := { parameters := [.int, .int], returnType := some .boolean }, accessFlags := 9, code := some k1c3 }
/-- com/example/commitgate/commitgate/store/ColumnTypeOfPinLaw -/
def k1 : Class := { plain "com/example/commitgate/commitgate/store/ColumnTypeOfPinLaw" (some 0) with
  accessFlags := 49
  interfaces := #[]
  cf := some (fileOf pool1 32 #[] #[{ accessFlags := 2, nameIndex := 5, descriptorIndex := 6, attributes := #[] }, { accessFlags := 10, nameIndex := 39, descriptorIndex := 36, attributes := #[] }, { accessFlags := 10, nameIndex := 35, descriptorIndex := 36, attributes := #[] }, { accessFlags := 9, nameIndex := 46, descriptorIndex := 47, attributes := #[] }] 49 2 #[] #[])
  fields := #[]
  methods := #[k1m0, k1m1, k1m2, k1m3]
  instanceTypes := #[]
  staticTypes := #[]
  resolved := Array.replicate 52 none
  statics := none }

def pool2 : Array CpInfo := pool [(1, .class_ 2), (0, u "java/lang/constant/Constable"), (0, .class_ 4), (0, u "java/lang/Object")] 6

/-- java/lang/constant/Constable -/
def k2 : Class := { plain "java/lang/constant/Constable" (some 0) with
  accessFlags := 1537
  interfaces := #[]
  cf := some (fileOf pool2 1 #[] #[] 1537 3 #[] #[])
  fields := #[]
  methods := #[]
  instanceTypes := #[]
  staticTypes := #[]
  resolved := Array.replicate 11 none
  statics := none }

def pool3 : Array CpInfo := pool [(1, .class_ 2), (0, u "java/lang/Comparable"), (0, .class_ 4), (0, u "java/lang/Object")] 7

/-- java/lang/Comparable -/
def k3 : Class := { plain "java/lang/Comparable" (some 0) with
  accessFlags := 1537
  interfaces := #[]
  cf := some (fileOf pool3 1 #[] #[] 1537 3 #[] #[])
  fields := #[]
  methods := #[]
  instanceTypes := #[]
  staticTypes := #[]
  resolved := Array.replicate 12 none
  statics := none }

def pool4 : Array CpInfo := pool [(1, .class_ 2), (0, u "java/io/Serializable"), (0, .class_ 4), (0, u "java/lang/Object")] 2

/-- java/io/Serializable -/
def k4 : Class := { plain "java/io/Serializable" (some 0) with
  accessFlags := 1537
  interfaces := #[]
  cf := some (fileOf pool4 1 #[] #[] 1537 3 #[] #[])
  fields := #[]
  methods := #[]
  instanceTypes := #[]
  staticTypes := #[]
  resolved := Array.replicate 7 none
  statics := none }

def pool5 : Array CpInfo := pool [(2, .class_ 4), (1, u "java/lang/Enum"), (0, u "name"), (0, u "Ljava/lang/String;"), (2, u "ordinal"), (0, u "I"), (1, .class_ 14), (1, u "java/lang/Object"), (4, u "hash"), (86, .class_ 108), (1, u "java/lang/Enum$EnumDesc"), (2, .class_ 112), (0, u "java/lang/constant/Constable"), (0, .class_ 114), (0, u "java/lang/Comparable"), (0, .class_ 116), (0, u "java/io/Serializable")] 87

/-- java/lang/Enum -/
def k5 : Class := { plain "java/lang/Enum" (some 0) with
  accessFlags := 1057
  interfaces := #[2, 3, 4]
  cf := some (fileOf pool5 2 #[.nestMembers #[106]] #[] 1057 12 #[111, 113, 115] #[{ accessFlags := 18, nameIndex := 5, descriptorIndex := 6, attributes := #[] }, { accessFlags := 18, nameIndex := 9, descriptorIndex := 10, attributes := #[] }, { accessFlags := 2, nameIndex := 19, descriptorIndex := 10, attributes := #[] }])
  fields := #[{ name := "name", type := (.object "java/lang/String"), accessFlags := 18, slot := 0, constantValue := 0 }, { name := "ordinal", type := .int, accessFlags := 18, slot := 1, constantValue := 0 }, { name := "hash", type := .int, accessFlags := 2, slot := 2, constantValue := 0 }]
  methods := #[]
  instanceTypes := #[(.object "java/lang/String"), .int, .int]
  staticTypes := #[]
  resolved := Array.replicate 204 none
  statics := none }

def pool6 : Array CpInfo := pool [(1, .class_ 2), (0, u "com/example/commitgate/commitgate/store/ColumnType"), (0, .fieldref 1 4), (0, .nameAndType 5 6), (0, u "INTEGER"), (0, u "Lcom/example/commitgate/commitgate/store/ColumnType;"), (0, .fieldref 1 8), (0, .nameAndType 9 6), (0, u "DECIMAL"), (0, .fieldref 1 11), (0, .nameAndType 12 6), (0, u "FLOAT"), (0, .fieldref 1 14), (0, .nameAndType 15 6), (0, u "BOOLEAN"), (0, .fieldref 1 17), (0, .nameAndType 18 6), (0, u "TEXT"), (0, .fieldref 1 20), (0, .nameAndType 21 6), (0, u "OTHER"), (2, u "$VALUES"), (0, u "[Lcom/example/commitgate/commitgate/store/ColumnType;"), (6, .class_ 34), (1, u "java/lang/Enum"), (8, u "expected"), (0, u "Ljava/lang/String;"), (222, u "MAX_DECIMAL_DIGITS"), (0, u "I"), (8, u "of"), (0, u "(I)Lcom/example/commitgate/commitgate/store/ColumnType;")] 34

def k6c0 : Code := { maxStack := 1, maxLocals := 1, code := prog_159_method_4_code, exceptionTable := #[], attributes := #[] }
def k6m0 : Method := { name := "of", desc := "(I)Lcom/example/commitgate/commitgate/store/ColumnType;", sig := { parameters := [.int], returnType := some (.object "com/example/commitgate/commitgate/store/ColumnType") }, accessFlags := 8, code := some k6c0 }
/-- com/example/commitgate/commitgate/store/ColumnType -/
def k6 : Class := { plain "com/example/commitgate/commitgate/store/ColumnType" (some 5) with
  accessFlags := 16432
  interfaces := #[]
  cf := some (fileOf pool6 1 #[] #[{ accessFlags := 8, nameIndex := 277, descriptorIndex := 278, attributes := #[] }] 16432 32 #[] #[{ accessFlags := 16409, nameIndex := 5, descriptorIndex := 6, attributes := #[] }, { accessFlags := 16409, nameIndex := 9, descriptorIndex := 6, attributes := #[] }, { accessFlags := 16409, nameIndex := 12, descriptorIndex := 6, attributes := #[] }, { accessFlags := 16409, nameIndex := 15, descriptorIndex := 6, attributes := #[] }, { accessFlags := 16409, nameIndex := 18, descriptorIndex := 6, attributes := #[] }, { accessFlags := 16409, nameIndex := 21, descriptorIndex := 6, attributes := #[] }, { accessFlags := 26, nameIndex := 267, descriptorIndex := 268, attributes := #[] }, { accessFlags := 18, nameIndex := 43, descriptorIndex := 44, attributes := #[] }, { accessFlags := 4122, nameIndex := 24, descriptorIndex := 25, attributes := #[] }])
  fields := #[{ name := "INTEGER", type := (.object "com/example/commitgate/commitgate/store/ColumnType"), accessFlags := 16409, slot := 0, constantValue := 0 }, { name := "DECIMAL", type := (.object "com/example/commitgate/commitgate/store/ColumnType"), accessFlags := 16409, slot := 1, constantValue := 0 }, { name := "FLOAT", type := (.object "com/example/commitgate/commitgate/store/ColumnType"), accessFlags := 16409, slot := 2, constantValue := 0 }, { name := "BOOLEAN", type := (.object "com/example/commitgate/commitgate/store/ColumnType"), accessFlags := 16409, slot := 3, constantValue := 0 }, { name := "TEXT", type := (.object "com/example/commitgate/commitgate/store/ColumnType"), accessFlags := 16409, slot := 4, constantValue := 0 }, { name := "OTHER", type := (.object "com/example/commitgate/commitgate/store/ColumnType"), accessFlags := 16409, slot := 5, constantValue := 0 }, { name := "MAX_DECIMAL_DIGITS", type := .int, accessFlags := 26, slot := 6, constantValue := 0 }, { name := "expected", type := (.object "java/lang/String"), accessFlags := 18, slot := 3, constantValue := 0 }, { name := "$VALUES", type := (.array (.object "com/example/commitgate/commitgate/store/ColumnType")), accessFlags := 4122, slot := 7, constantValue := 0 }]
  methods := #[k6m0]
  instanceTypes := #[(.object "java/lang/String"), .int, .int, (.object "java/lang/String")]
  staticTypes := #[(.object "com/example/commitgate/commitgate/store/ColumnType"), (.object "com/example/commitgate/commitgate/store/ColumnType"), (.object "com/example/commitgate/commitgate/store/ColumnType"), (.object "com/example/commitgate/commitgate/store/ColumnType"), (.object "com/example/commitgate/commitgate/store/ColumnType"), (.object "com/example/commitgate/commitgate/store/ColumnType"), .int, (.array (.object "com/example/commitgate/commitgate/store/ColumnType"))]
  resolved := Array.replicate 313 none
  statics := some 0 }

def pool7 : Array CpInfo := pool [(1, u "java/lang/Cloneable"), (0, .class_ 1), (0, u "java/lang/Object"), (0, .class_ 3)] 3

/-- java/lang/Cloneable -/
def k7 : Class := { plain "java/lang/Cloneable" (some 0) with
  accessFlags := 1537
  interfaces := #[]
  cf := some (fileOf pool7 2 #[] #[] 1537 4 #[] #[])
  fields := #[]
  methods := #[]
  instanceTypes := #[]
  staticTypes := #[]
  resolved := Array.replicate 8 none
  statics := none }

/-- the primitive byte -/
def k8 : Class := { plain "byte" none with kind := .primitive 'B', accessFlags := 0x411 }
/-- [B -/
def k9 : Class := { plain "[B" (some 0) with kind := .array 8 .byte, interfaces := #[7, 4], accessFlags := 1041 }

/-- the primitive int -/
def k10 : Class := { plain "int" none with kind := .primitive 'I', accessFlags := 0x411 }
/-- [I -/
def k11 : Class := { plain "[I" (some 0) with kind := .array 10 .int, interfaces := #[7, 4], accessFlags := 1041 }

def heap : Heap := #[{ cls := 6, slots := #[.ref 1, .ref 5, .ref 4, .ref 6, .ref 3, .ref 2, .int 0, .null], vm := .statics 6 },
  { cls := 6, slots := #[.null, .int 0, .int 0, .null], vm := .none },
  { cls := 6, slots := #[.null, .int 0, .int 0, .null], vm := .none },
  { cls := 6, slots := #[.null, .int 0, .int 0, .null], vm := .none },
  { cls := 6, slots := #[.null, .int 0, .int 0, .null], vm := .none },
  { cls := 6, slots := #[.null, .int 0, .int 0, .null], vm := .none },
  { cls := 6, slots := #[.null, .int 0, .int 0, .null], vm := .none }]
def classes : Array Class := #[k0, k1, k2, k3, k4, k5, k6, k7, k8, k9, k10, k11]
def interned : List (Array UInt16 × Addr) := []
def slotsUsed : Nat := 32
def theMethod : MethodId := ⟨1, 3⟩
def args0 : Array Value := #[.int 5, .int 5]
def aboutOver (below : List Frame) : State where
  vm := { classes := classes, interned := interned.toArray }
  heap := heap
  slotsUsed := slotsUsed
  threads := #[{ frames := .invoking theMethod args0 :: below }]
def below0 : List Frame := [.native { method := ⟨0, 0⟩, args := #[] }]
def about1 : State := aboutOver below0
def p0 : Program := .bare "" "" ""
def e0 : Env := launch0.env 0 0 0
theorem w_frames : about1.frames = Frame.invoking theMethod args0 :: below0 := rfl
set_option maxRecDepth 65536 in
theorem w_args : argsFit about1.vm theMethod args0 = true := by decide +kernel
set_option maxRecDepth 65536 in
theorem w_heap : heapFits about1 = true := by decide +kernel
set_option maxRecDepth 65536 in
theorem w_runnable : about1.curStatus? = some .runnable := by decide +kernel
set_option maxRecDepth 65536 in
theorem w_alone : about1.alone = true := by decide +kernel
set_option maxRecDepth 65536 in
theorem w_named : about1.methodNamed? x = some theMethod := by decide +kernel
set_option maxRecDepth 65536 in
theorem w_hears : about1.hears theMethod below0 = true := by decide +kernel
set_option maxRecDepth 65536 in
theorem w_ripe : about1.ripe theMethod args0 below0 = true := by decide +kernel
theorem w_running : about1.status = .running := rfl
set_option maxRecDepth 65536 in
theorem w_room : about1.hasRoom e0.platform room_1 = true :=
  launch0.hasRoom_least _ room_1 (by decide +kernel) (by decide +kernel) (by decide +kernel) (by decide +kernel) (by decide +kernel) (by decide +kernel)
theorem allAtoms_all (ts : List Jvm.Cond) (a : Array Jvm.Value) (st : Jvm.State) : (allAtoms ts).before a st = ts.all (fun c => c.before a st) := by
  induction ts with
  | nil => rfl
  | cons c t ih =>
    show (Jvm.Cond.and c (allAtoms t)).before a st = _
    rw [Jvm.Cond.before_and, ih, List.all_cons]
def words1 : List Jvm.Cond := Jvm.Cond.code x code maxLocals ret :: tables_1
/-- a 'code' word, met by the world's own term for the bytes: nothing is compared byte by byte -/
theorem code_word {y : MethodName} {bytes : ByteArray} {mx : Nat} {rt : Option FieldType} {a : Array Value} {s : State} {m : MethodId} {meth : Method} {c : Code} (h1 : s.methodNamed? y = some m) (h2 : s.vm.method? m = some meth) (h3 : meth.code = some c) (h4 : c.code = bytes)
    (h5 : (c.maxLocals == mx && c.exceptionTable.isEmpty && decide (c.maxStack ≤ mostOperands) && decide (meth.sig.returnType = rt) && !meth.locks && decide (parseMethodDescriptor y.desc = some meth.sig)) = true) : (Jvm.Cond.code y bytes mx rt).before a s = true := by
  simp only [Bool.and_eq_true, beq_iff_eq, Bool.not_eq_true', decide_eq_true_eq] at h5
  obtain ⟨⟨⟨⟨⟨g1, g2⟩, g3⟩, g4⟩, g5⟩, g6⟩ := h5
  simp [Cond.before, Cond.holds, Cond.value, h1, h2, h3, h4, g1, g2, g3, g4, g5, g6]
def isCode : Jvm.Cond → Bool
  | .code _ _ _ _ => true
  | _ => false
theorem all_split {L : List Jvm.Cond} {P : Jvm.Cond → Bool} (h1 : L.all (fun c => isCode c || P c) = true) (h2 : ∀ c ∈ L.filter isCode, P c = true) : L.all P = true := by
  refine List.all_eq_true.mpr fun c hc => ?_
  have h := List.all_eq_true.mp h1 c hc
  rcases Bool.eq_false_or_eq_true (isCode c) with hi | hi
  · exact h2 c (List.mem_filter.mpr ⟨hc, hi⟩)
  · simpa [hi] using h
set_option maxRecDepth 65536 in
theorem w_c0 : (Jvm.Cond.code x code maxLocals ret).before args0 about1 = true := code_word (m := ⟨1, 3⟩) (meth := k1m3) (c := k1c3) (by decide +kernel) rfl rfl rfl (by decide +kernel)
set_option maxRecDepth 65536 in
theorem w_c1 : (Jvm.Cond.code ({ cls := "com/example/commitgate/commitgate/store/ColumnTypeOfPinLaw", name := "byIndex", desc := "(I)Lcom/example/commitgate/commitgate/store/ColumnType;" } : Jvm.MethodName) method_3_code (1 : Nat) (Option.some (Jvm.ClassFile.FieldType.object "com/example/commitgate/commitgate/store/ColumnType"))).before args0 about1 = true := code_word (m := ⟨1, 2⟩) (meth := k1m2) (c := k1c2) (by decide +kernel) rfl rfl rfl (by decide +kernel)
set_option maxRecDepth 65536 in
theorem w_c2 : (Jvm.Cond.code ({ cls := "com/example/commitgate/commitgate/store/ColumnType", name := "of", desc := "(I)Lcom/example/commitgate/commitgate/store/ColumnType;" } : Jvm.MethodName) prog_159_method_4_code (1 : Nat) (Option.some (Jvm.ClassFile.FieldType.object "com/example/commitgate/commitgate/store/ColumnType"))).before args0 about1 = true := code_word (m := ⟨6, 0⟩) (meth := k6m0) (c := k6c0) (by decide +kernel) rfl rfl rfl (by decide +kernel)
set_option maxRecDepth 65536 in
theorem w_c3 : (Jvm.Cond.code ({ cls := "com/example/commitgate/commitgate/store/ColumnTypeOfPinLaw", name := "expected", desc := "(I)Lcom/example/commitgate/commitgate/store/ColumnType;" } : Jvm.MethodName) method_2_code (1 : Nat) (Option.some (Jvm.ClassFile.FieldType.object "com/example/commitgate/commitgate/store/ColumnType"))).before args0 about1 = true := code_word (m := ⟨1, 1⟩) (meth := k1m1) (c := k1c1) (by decide +kernel) rfl rfl rfl (by decide +kernel)
def codes1 : List Jvm.Cond := [Jvm.Cond.code x code maxLocals ret, Jvm.Cond.code ({ cls := "com/example/commitgate/commitgate/store/ColumnTypeOfPinLaw", name := "byIndex", desc := "(I)Lcom/example/commitgate/commitgate/store/ColumnType;" } : Jvm.MethodName) method_3_code (1 : Nat) (Option.some (Jvm.ClassFile.FieldType.object "com/example/commitgate/commitgate/store/ColumnType")), Jvm.Cond.code ({ cls := "com/example/commitgate/commitgate/store/ColumnType", name := "of", desc := "(I)Lcom/example/commitgate/commitgate/store/ColumnType;" } : Jvm.MethodName) prog_159_method_4_code (1 : Nat) (Option.some (Jvm.ClassFile.FieldType.object "com/example/commitgate/commitgate/store/ColumnType")), Jvm.Cond.code ({ cls := "com/example/commitgate/commitgate/store/ColumnTypeOfPinLaw", name := "expected", desc := "(I)Lcom/example/commitgate/commitgate/store/ColumnType;" } : Jvm.MethodName) method_2_code (1 : Nat) (Option.some (Jvm.ClassFile.FieldType.object "com/example/commitgate/commitgate/store/ColumnType"))]
set_option maxRecDepth 65536 in
theorem codes_eq : words1.filter isCode = codes1 := rfl
theorem w_codes : ∀ c ∈ words1.filter isCode, c.before args0 about1 = true := by
  rw [codes_eq]
  intro c hc
  simp only [codes1, List.mem_cons, List.not_mem_nil, or_false] at hc
  rcases hc with rfl | rfl | rfl | rfl
  · exact w_c0
  · exact w_c1
  · exact w_c2
  · exact w_c3
set_option maxRecDepth 65536 in
theorem w_t1 : (words1.take 24).all (fun c => isCode c || c.before args0 about1) = true := by decide +kernel
set_option maxRecDepth 65536 in
theorem w_t2 : (words1.drop 24).all (fun c => isCode c || c.before args0 about1) = true := by decide +kernel
theorem w_tables : (allAtoms (Jvm.Cond.code x code maxLocals ret :: tables_1)).before args0 about1 = true := by
  rw [allAtoms_all]
  show words1.all (fun c => c.before args0 about1) = true
  refine all_split ?_ w_codes
  rw [← List.take_append_drop 24 words1, List.all_append, w_t1, w_t2]
  rfl
set_option maxRecDepth 65536 in
theorem w_case : (Jvm.Cond.and given_1 narrow_1).before args0 about1 = true := by decide +kernel
theorem w_applies : (headSpec (Jvm.Cond.code x code maxLocals ret :: tables_1) room_1).applies x e0.platform about1 = true :=
  (Spec.applies_iff w_frames).mpr ⟨w_running, w_runnable, w_alone, w_named, w_hears, w_ripe, w_room, w_tables⟩
theorem atStart : AtStart classFile x code maxLocals ret World_1 tables_1 room_1 Calls_1 rest_1 Pre_1 launch0 p0 e0 about1 theMethod args0 below0 :=
  ⟨lists_1, trivial, launch0.admits_env _ _ _, launch0.least_env, fairChoices_fair.cas, fairChoices_fair.clock, w_frames, w_args, w_heap, w_applies, trivial, trivial, w_case⟩
end start1
theorem witness_1 : WitnessClaimed_1 := ⟨start1.p0, start1.e0, start1.about1, start1.theMethod, start1.args0, start1.below0, start1.atStart⟩
end Jvm.Pilot.@@N@@
