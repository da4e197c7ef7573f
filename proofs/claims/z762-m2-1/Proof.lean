import JvmDerived
import JvmDerived.Pilot.@@N@@Statement
import JvmDerived.Pilot.@@N@@Code
set_option linter.unusedVariables false
set_option linter.unusedSimpArgs false
namespace Jvm.RoadKit
open Sem ClassFile Op Lib Jvm.Stand Jvm.Free Jvm.LawKit
section New
variable {p : Program} {l : Launch} {e : Env} {R : Room} {s : State} {m : MethodId} {args : Array Value} {below : List Frame} {meth : Method} {c : Code} {T : State} {locs : List Loc} {cells slots : Nat}
theorem retI (X : Stand p l e R s m args below meth c T locs cells slots) (hx : p.tables.exec = Jvm.exec) {pc : Nat} {Ls : Array Slot} {z : Int32} {rest : List Value} (hret : meth.sig.returnType = some .int) (hd : decode c.code pc = .ok (.ireturn, 1)) {fs : List Frame}
    (hl : ∀ (f : JFrame) (acts : List Action), f.method = m → f.locked = none → f.entered = [] → (doReturn e (T.setTop f) acts (some (.int z))).1 = T.setFrames fs) : Steps p.tables e below (T.setTop (mkF m pc Ls (.int z :: rest))) (T.setFrames fs) := by
  have hm' : T.vm.method? m = some meth := X.method'
  have hn : narrow .int (.int z) = .int z := rfl
  show Steps p.tables e below (T.setTop { method := m, pc := pc, locals := Ls, stack := _ :: rest, locked := none }) _
  jvm_step X.here [X.here.top, hx, hd, hm', hret, hn]
  first | (intro acts; rw [hl _ acts rfl rfl rfl]) | rw [hl _ _ rfl rfl rfl]
  exact Steps.refl _
end New
end Jvm.RoadKit
namespace Jvm.Pilot.@@N@@
open Jvm Jvm.ClassFile Sem Op Lib Jvm.Free Jvm.Stand Jvm.LawKit Jvm.RoadKit Bundle Jvm.Pilot.@@N@@.Jvm.D
abbrev St (p : Program) (e : Env) (below : List Frame) (T : State) (g : JFrame) (t : State) : Prop := Steps p.tables e below (T.setTop g) t
theorem hwi {Z : State} {a0 : Array Value} (hw : ∀ d ∈ tables_1, d.before a0 Z = true) (i : Nat) {d : Jvm.Cond} (h : tables_1[i]? = some d) : d.before a0 Z = true := hw d (List.mem_of_getElem? h)
theorem ltN {a b : Nat} (h : a < b) : a < b := h
theorem neN {a b : Nat} (h : ¬ (a = b)) : ¬ (a = b) := h
theorem own_wS {Z : State} {a0 : Array Value} (hw : ∀ d ∈ tables_1, d.before a0 Z = true) : ∀ a ∈ Bundle.stringAtoms, a.before a0 Z = true := fun d hd => hw d ((by decide +kernel : ∀ d ∈ Bundle.stringAtoms, d ∈ tables_1) d hd)
theorem own_safe_null {Z : State} {EL : List (String × Nat)} {vm : Vm} {h : Heap} {x : Addr} (hal : Z.vm.Alike vm) (F : Fld Z h x "java/lang/String" "value" "[B" .null) (E : Exa Z h x "java/lang/String") : Safe Z EL vm h x := fun B => by
  obtain ⟨p, hp, u, a, hb, q, hqa, ⟨cS, ⟨⟨s1, s2, s3, ⟨cv, kv, iv, s4, s4'⟩, ⟨cc, kc, ic, s5, s5'⟩, s6, s7, s8, s9, s10, s11, s12, s13, s14, s15, s16⟩, hfS, hcS⟩, ⟨kS, k1, k2, k3⟩, hB, hbyt⟩, hy⟩ := B
  obtain ⟨cell, cf, k, i, f, h1, h2, h3, h4, h5, h6, h7⟩ := F
  rcases hy with rfl | rfl
  · obtain ⟨kv', z4⟩ := ff_back (U := Wst Z vm h) hal s4
    cases h2.symm.trans z4
    have s1' : h[q.sa]? = some q.sC := s1
    cases h1.symm.trans s1'
    cases h7.symm.trans s8
  · obtain ⟨c2, k2', e1, e2, e3, e4, -⟩ := E
    have s10' : h[q.sd]? = some q.SA := s10
    cases e1.symm.trans s10'
    have hB' : Z.vm.findClass "[B" = some q.SA.cls := by rw [← hal.findClass]; exact hB
    exact ids_ne e2 hB' (by decide) rfl
theorem own_byte (x : Int32) : ∃ k : Fin 256, x &&& (255 : Int32) = Int32.ofNat k.val := by
  have h : (x &&& (255 : Int32)).toBitVec.toNat < 256 := by
    simp only [Int32.toBitVec_and, BitVec.toNat_and]
    exact Nat.lt_succ_of_le Nat.and_le_right
  refine ⟨⟨_, h⟩, ?_⟩
  apply Int32.toBitVec_inj.mp
  show _ = BitVec.ofNat 32 _
  rw [BitVec.ofNat_toNat]; simp
theorem own_char (x : Int32) : (((x &&& (255 : Int32)).toUInt32.toUInt16.toUInt32.toInt32).toUInt32.toUInt16.toUInt32.toInt32) = ((x &&& (255 : Int32)).toUInt32.toUInt16.toUInt32.toInt32) ∧ ¬ (((x &&& (255 : Int32)).toUInt32.toUInt16.toUInt32.toInt32) < (0 : Int32)) ∧ ¬ ((255 : Int32) < ((x &&& (255 : Int32)).toUInt32.toUInt16.toUInt32.toInt32)) := by
  obtain ⟨k, hk⟩ := own_byte x
  rw [hk]
  exact (by decide +kernel : ∀ k : Fin 256, (((Int32.ofNat k.val).toUInt32.toUInt16.toUInt32.toInt32).toUInt32.toUInt16.toUInt32.toInt32) = ((Int32.ofNat k.val).toUInt32.toUInt16.toUInt32.toInt32) ∧ ¬ (((Int32.ofNat k.val).toUInt32.toUInt16.toUInt32.toInt32) < (0 : Int32)) ∧ ¬ ((255 : Int32) < ((Int32.ofNat k.val).toUInt32.toUInt16.toUInt32.toInt32))) k
theorem own_and3 (x : Int32) : (x &&& (3 : Int32)) = (0 : Int32) ∨ (x &&& (3 : Int32)) = (1 : Int32) ∨ (x &&& (3 : Int32)) = (2 : Int32) ∨ (x &&& (3 : Int32)) = (3 : Int32) := by
  have h := c_mask x (3 : Int32) 2 (by decide) (by decide)
  rw [show ((2 ^ 2 : Nat) : Int) = 4 from rfl] at h
  have q : ((x &&& (3 : Int32))).toInt = 0 ∨ ((x &&& (3 : Int32))).toInt = 1 ∨ ((x &&& (3 : Int32))).toInt = 2 ∨ ((x &&& (3 : Int32))).toInt = 3 := by omega
  rcases q with q | q | q | q
  · exact Or.inl (Int32.toInt_inj.mp (q.trans (by decide)))
  · exact Or.inr (Or.inl (Int32.toInt_inj.mp (q.trans (by decide))))
  · exact Or.inr (Or.inr (Or.inl (Int32.toInt_inj.mp (q.trans (by decide)))))
  · exact Or.inr (Or.inr (Or.inr (Int32.toInt_inj.mp (q.trans (by decide)))))
theorem own_text_0 : (∀ c ∈ ("" : String).toList, c.toNat < 256) ∧ ("" : String).toList.map (fun c => Value.int (Jvm.Lit.byteI c.toNat.toUInt16)) = [] := by decide +kernel
theorem d3_0 : decode jdk_42_method_149_code 0 = .ok (.aload_n 0, 1) := by decide +kernel
theorem d3_1 : decode jdk_42_method_149_code 1 = .ok (.invokespecial 1, 3) := by decide +kernel
theorem d3_4 : decode jdk_42_method_149_code 4 = .ok (.iload_n 3, 1) := by decide +kernel
theorem d3_5 : decode jdk_42_method_149_code 5 = .ok (.ifCond .ne 22, 3) := by decide +kernel
theorem d3_8 : decode jdk_42_method_149_code 8 = .ok (.aload_n 0, 1) := by decide +kernel
theorem d3_9 : decode jdk_42_method_149_code 9 = .ok (.ldc 7, 2) := by decide +kernel
theorem d3_11 : decode jdk_42_method_149_code 11 = .ok (.getfield 9, 3) := by decide +kernel
theorem d3_14 : decode jdk_42_method_149_code 14 = .ok (.putfield 9, 3) := by decide +kernel
theorem d3_17 : decode jdk_42_method_149_code 17 = .ok (.aload_n 0, 1) := by decide +kernel
theorem d3_18 : decode jdk_42_method_149_code 18 = .ok (.ldc 7, 2) := by decide +kernel
theorem d3_20 : decode jdk_42_method_149_code 20 = .ok (.getfield 15, 3) := by decide +kernel
theorem d3_23 : decode jdk_42_method_149_code 23 = .ok (.putfield 15, 3) := by decide +kernel
theorem d3_26 : decode jdk_42_method_149_code 26 = .ok (.return_, 1) := by decide +kernel
theorem pn_3 : plainName "java/lang/String" = true := by first | (simp [plainName, overriddenIn]; done) | decide +kernel
theorem ef_3_RRIIn (m : MethodId) (x0 : Addr) (x1 : Addr) (x2 : Int32) (x3 : Int32) : entryFrame m #[(.ref x0), (.ref x1), (.int x2), (.int x3), .null] 6 = mkF m 0 #[.val (.ref x0), .val (.ref x1), .val (.int x2), .val (.int x3), .val .null, .unset] [] := by first | (simp [entryFrame, mkF, argsToLocals, Value.category]; done) | rfl
def Q_new4_0 (Z : State) (a1 : Addr) (a2 : Addr) (h0 : Heap) (n0 : Nat) (v : Option Value) (h : Heap) (L : List Loc) : Prop := ∃ (t : Addr) (kt : ClassId), v = none ∧ Fr n0 L ∧ Keep h0 h [a1] ∧ Exa Z h a1 "java/lang/String" ∧ Fld Z h a1 "java/lang/String" "coder" "B" (.int 0) ∧ Fld Z h a1 "java/lang/String" "value" "[B" (.ref t) ∧ Arv Z h t kt .byte (0 : Int32) [] (.int 0)
set_option maxRecDepth 65536 in
set_option maxHeartbeats 40000000 in
theorem rm_new4_0 (l : Launch) (Z : State) (a0 : Array Value) (hw : ∀ d ∈ tables_1, d.before a0 Z = true) (hEL : EW Z a0 consts_1) (ws : List Jvm.Cond) (a1 : Addr) (a2 : Addr) (h0 : Heap) (n0 : Nat) (Z0 : n0 ≤ h0.size) (E_a1 : Exa Z h0 a1 "java/lang/String") (F_a1_value : Fld Z h0 a1 "java/lang/String" "value" "[B" .null) (F_a1_coder : Fld Z h0 a1 "java/lang/String" "coder" "B" (.int 0)) (O0 : Old Z n0 h0) (g_a1 : n0 ≤ a1) :
    MetFree l (⟨"java/lang/String", "<init>", "([CIILjava/lang/Void;)V"⟩ : MethodName) (head1 (Jvm.Cond.code (⟨"java/lang/String", "<init>", "([CIILjava/lang/Void;)V"⟩ : MethodName) jdk_42_method_149_code 6 none :: ws) ({ frames := 1, cells := 4, slots := 8, locals := 12 } : Room)) (fun a U => a = #[(.ref a1), (.ref a2), (.int 0), (.int 0), .null] ∧ Z.Warmed39 U.vm ∧ U.heap = h0 ∧ CHv Z consts_1 U.vm h0) (fun _ _ _ _ _ => True) (fun _ U o U' => ∃ v L, o = .returned v ∧ Q_new4_0 Z a1 a2 h0 n0 v U'.heap L ∧ CHr Z consts_1 U.vm U.heap U'.vm U'.heap ∧ ReturnedEndW U o U' L ({ frames := 1, cells := 4, slots := 8, locals := 12 } : Room).cells ({ frames := 1, cells := 4, slots := 8, locals := 12 } : Room).slots) := by
  refine MetFree.of_bodySF (plainFor_of_name pn_3) hisR ?_
  intro p e s m args below meth c s₁ Bd hml0 hP hK
  obtain ⟨rfl, hZ, hh, H0c⟩ := hP
  have hx := Bd.exec
  have hby := Bd.bytes
  have hml : c.maxLocals = 6 := hml0
  have hown : s.vm.findClass "java/lang/String" = some m.cls := findClass_of_methodNamed Bd.named
  have hnm := (name_of_methodNamed Bd.named Bd.method).1
  have X0 : Stand p l e ({ frames := 1, cells := 4, slots := 8, locals := 12 } : Room) (s.setVm s.vm) m #[(.ref a1), (.ref a2), (.int 0), (.int 0), .null] below meth c s₁ [] 0 0 := Stand.of_body Bd
  have e0 : s₁.heap = h0 := by rw [← hh, Bd.state]; rfl
  have N0 := Fr.nil n0
  have pre0 : ∀ t, Steps p.tables e below (s₁.setTop (mkF m 0 #[.val (.ref a1), .val (.ref a2), .val (.int 0), .val (.int 0), .val .null, .unset] [])) t → Steps p.tables e below (s₁.setTop (entryFrame m #[(.ref a1), (.ref a2), (.int 0), (.int 0), .null] 6)) t := fun t k => castTop (ef_3_RRIIn m a1 a2 (0 : Int32) (0 : Int32)) k
  have hS0 : s.Since s.vm 0 := (State.WarmedH.refl s).since 0
  have hk0 : 0 ≤ h0.size := Nat.zero_le _
  have C0c : CHr Z consts_1 s.vm h0 s.vm h0 := CHr.refl H0c
  obtain ⟨T1, X1, e1, st1⟩ := initO X0 hx hZ hown (hwi hw 15 rfl) (hwi hw 16 rfl) (hwi hw 17 rfl) e0 (g := (mkF m 1 #[.val (.ref a1), .val (.ref a2), .val (.int 0), .val (.int 0), .val .null, .unset] [(.ref a1)])) rfl (by rw [hml]; rfl) rfl (hb hby d3_1) (by decide) (W := 0) (by show 2 * 0 + _ ≤ _; exact Nat.le_of_eq rfl) (by decide)
  have sf3 := own_safe_null (EL := consts_1) hZ.alike F_a1_value E_a1
  obtain ⟨lit2, T2, h2, j2, ltb2, k2, X2, e2, E2, hS2, hk2, hZ2, ho2, Ex2, Fc2, Fv2, Av2, la2, lb2, C2, -, Sn2, st2⟩ := ldcCH X1 hx hZ hown (hwi hw 18 rfl) (own_wS hw) e1 hS0 hk0 hEL (by decide) H0c (vs := []) (z := (0 : Int32)) (own_text_0) (by decide) (by rfl) (g := (mkF m 9 #[.val (.ref a1), .val (.ref a2), .val (.int 0), .val (.int 0), .val .null, .unset] [(.ref a1)])) rfl (hb hby d3_9) (n := 0) (by decide) (by decide) (by decide) (by decide)
  have sf_a1_4 := CHr.safe C2 (show a1 < h0.size from ltN (by have := ltN E_a1.lt; omega)) sf3
  have R4 := C2
  have CR4 := C0c.trans R4
  have sz5 : h0.size ≤ h2.size := E2.1
  have Z5 : n0 ≤ h2.size := Nat.le_trans Z0 sz5
  have O5 := O0.ext E2
  have K5 : Keep h0 h2 [a1] := (Keep.refl h0 [a1]).ext E2
  have nq_a1_2 := Sn2 _ sf_a1_4
  obtain ⟨T6, X6, e6, st6⟩ := getF X2 hx hZ2 ho2 (host := "") (Or.inl (hwi hw 24 rfl)) Via.refl e2 Fv2 (g := (mkF m 11 #[.val (.ref a1), .val (.ref a2), .val (.int 0), .val (.int 0), .val .null, .unset] [(.ref lit2), (.ref a1)])) rfl rfl (hb hby d3_11)
  have fc7 := (E_a1.ext E2)
  have fc8 := (F_a1_value.ext E2)
  obtain ⟨T9, h9, X9, e9, W9, st9⟩ := putF X6 hx hZ2 ho2 (host := "") (Or.inl (hwi hw 24 rfl)) Via.refl e6 fc8 fc7 (Or.inr ⟨(hwi hw 20 rfl), rfl, hnm⟩) (hwi hw 5 rfl) (ty := (.array .byte)) (by decide) rfl rfl (g := (mkF m 14 #[.val (.ref a1), .val (.ref a2), .val (.int 0), .val (.int 0), .val .null, .unset] [(.ref ltb2), (.ref a1)])) rfl rfl (hb hby d3_14)
  have N9 := Fr.snoc X9 N0 g_a1
  have Fw9 := fc8.same W9
  have R10 := CHr.wr W9 sf_a1_4 R4.1
  have sf_a1_10 := Safe.wr W9 sf_a1_4 R4.1 sf_a1_4
  have CR10 := CR4.trans R10
  have sz11 : h2.size ≤ h9.size := Nat.le_of_eq W9.size.symm
  have Z11 : n0 ≤ h9.size := Nat.le_trans Z5 sz11
  have hk11 := Nat.le_trans hk2 sz11
  have O11 := O5.wr W9 g_a1
  have K11 : Keep h0 h9 [a1] := K5.wr W9 (Or.inl (List.mem_of_getElem? (i := 0) rfl))
  obtain ⟨lit12, T12, h12, j12, ltb12, k12, X12, e12, E12, hS12, hk12, hZ12, ho12, Ex12, Fc12, Fv12, Av12, la12, lb12, C12, -, Sn12, st12⟩ := ldcCH X9 hx hZ2 ho2 (hwi hw 18 rfl) (own_wS hw) e9 hS2 hk11 hEL (by decide) R10.1 (vs := []) (z := (0 : Int32)) (own_text_0) (by decide) (by rfl) (g := (mkF m 18 #[.val (.ref a1), .val (.ref a2), .val (.int 0), .val (.int 0), .val .null, .unset] [(.ref a1)])) rfl (hb hby d3_18) (n := 0) (by decide) (by decide) (by decide) (by decide)
  have sf_a1_13 := CHr.safe C12 (show a1 < h9.size from ltN (by have := ltN E_a1.lt; omega)) sf_a1_10
  have R13 := C12
  have CR13 := CR10.trans R13
  have sz14 : h9.size ≤ h12.size := E12.1
  have Z14 : n0 ≤ h12.size := Nat.le_trans Z11 sz14
  have O14 := O11.ext E12
  have K14 : Keep h0 h12 [a1] := K11.ext E12
  have nq_a1_12 := Sn12 _ sf_a1_13
  obtain ⟨T15, X15, e15, st15⟩ := getF X12 hx hZ12 ho12 (host := "") (Or.inl (hwi hw 25 rfl)) Via.refl e12 Fc12 (g := (mkF m 20 #[.val (.ref a1), .val (.ref a2), .val (.int 0), .val (.int 0), .val .null, .unset] [(.ref lit12), (.ref a1)])) rfl rfl (hb hby d3_20)
  have fc16 := ((fc7.wr W9).ext E12)
  have fc17 := (((F_a1_coder.ext E2).other W9 (Or.inr (slot_ne (Or.inr (hwi hw 21 rfl)) (Or.inr (hwi hw 20 rfl)) (by decide) (t := .byte) (t' := (.array .byte)) (by decide) (by decide)))).ext E12)
  obtain ⟨T18, h18, X18, e18, W18, st18⟩ := putFN X15 hx hZ12 ho12 (hwi hw 25 rfl) Via.refl e15 fc17 fc16 (Or.inr ⟨(hwi hw 21 rfl), rfl, hnm⟩) (hwi hw 5 rfl) (ty := .byte) (v' := (.int 0)) (by decide) rfl (by decide) (g := (mkF m 23 #[.val (.ref a1), .val (.ref a2), .val (.int 0), .val (.int 0), .val .null, .unset] [(.int 0), (.ref a1)])) rfl rfl (hb hby d3_23)
  have N18 := Fr.snoc X18 N9 g_a1
  have Fw18 := fc17.same W18
  have R19 := CHr.wr W18 sf_a1_13 R13.1
  have sf_a1_19 := Safe.wr W18 sf_a1_13 R13.1 sf_a1_13
  have CR19 := CR13.trans R19
  have sz20 : h12.size ≤ h18.size := Nat.le_of_eq W18.size.symm
  have Z20 : n0 ≤ h18.size := Nat.le_trans Z14 sz20
  have hk20 := Nat.le_trans hk12 sz20
  have O20 := O14.wr W18 g_a1
  have K20 : Keep h0 h18 [a1] := K14.wr W18 (Or.inl (List.mem_of_getElem? (i := 0) rfl))
  have fc21 := (fc16.wr W18)
  have fc22 := ((Fw9.ext E12).other W18 (Or.inr (slot_ne (Or.inr (hwi hw 20 rfl)) (Or.inr (hwi hw 21 rfl)) (by decide) (t := (.array .byte)) (t' := .byte) (by decide) (by decide))))
  have fc23 := (((Av2.other W9 (fun q => nq_a1_2.2 q.symm)).ext E12).other W18 (fun q => nq_a1_2.2 q.symm))
  have CRe := CR19.trans (CHv.at X18 hZ12 hEL R19.1)
  obtain ⟨fs, hr, hrun, hended, hRE⟩ := X18.leaveW hS12 (by rw [e18]; exact hk20) (v := none) (fun _ => rfl)
  refine ⟨_, _, pre0 _ ?_, hrun, hended, _, _, rfl, ?_, ?_, ⟨hRE.1, hRE.2.1, hRE.2.2.1, hRE.2.2.2.mono (by decide) (by decide)⟩⟩
  · show St p e below s₁ (mkF m 0 #[.val (.ref a1), .val (.ref a2), .val (.int 0), .val (.int 0), .val .null, .unset] []) _
    refine XS.aloadN X0.here hx rfl (hb hby d3_0) rfl rfl ?_
    show St p e below s₁ (mkF m 1 #[.val (.ref a1), .val (.ref a2), .val (.int 0), .val (.int 0), .val .null, .unset] [(.ref a1)]) _
    refine st1 _ ?_
    show St p e below T1 (mkF m 4 #[.val (.ref a1), .val (.ref a2), .val (.int 0), .val (.int 0), .val .null, .unset] []) _
    refine XS.iloadN X1.here hx rfl (hb hby d3_4) rfl ?_
    show St p e below T1 (mkF m 5 #[.val (.ref a1), .val (.ref a2), .val (.int 0), .val (.int 0), .val .null, .unset] [(.int 0)]) _
    refine XS.ifNo X1.here hx rfl (hb hby d3_5) rfl ((if0 _ _).trans (teq (by decide : (0 : Int32) = (0 : Int32))).2) ?_
    show St p e below T1 (mkF m 8 #[.val (.ref a1), .val (.ref a2), .val (.int 0), .val (.int 0), .val .null, .unset] []) _
    refine XS.aloadN X1.here hx rfl (hb hby d3_8) rfl rfl ?_
    show St p e below T1 (mkF m 9 #[.val (.ref a1), .val (.ref a2), .val (.int 0), .val (.int 0), .val .null, .unset] [(.ref a1)]) _
    refine st2 _ ?_
    show St p e below T2 (mkF m 11 #[.val (.ref a1), .val (.ref a2), .val (.int 0), .val (.int 0), .val .null, .unset] [(.ref lit2), (.ref a1)]) _
    refine st6 _ ?_
    show St p e below T6 (mkF m 14 #[.val (.ref a1), .val (.ref a2), .val (.int 0), .val (.int 0), .val .null, .unset] [(.ref ltb2), (.ref a1)]) _
    refine st9 _ ?_
    show St p e below T9 (mkF m 17 #[.val (.ref a1), .val (.ref a2), .val (.int 0), .val (.int 0), .val .null, .unset] []) _
    refine XS.aloadN X9.here hx rfl (hb hby d3_17) rfl rfl ?_
    show St p e below T9 (mkF m 18 #[.val (.ref a1), .val (.ref a2), .val (.int 0), .val (.int 0), .val .null, .unset] [(.ref a1)]) _
    refine st12 _ ?_
    show St p e below T12 (mkF m 20 #[.val (.ref a1), .val (.ref a2), .val (.int 0), .val (.int 0), .val .null, .unset] [(.ref lit12), (.ref a1)]) _
    refine st15 _ ?_
    show St p e below T15 (mkF m 23 #[.val (.ref a1), .val (.ref a2), .val (.int 0), .val (.int 0), .val .null, .unset] [(.int 0), (.ref a1)]) _
    refine st18 _ ?_
    show St p e below T18 (mkF m 26 #[.val (.ref a1), .val (.ref a2), .val (.int 0), .val (.int 0), .val .null, .unset] []) _
    exact X18.returnOut hx Bd.returns (hb hby d3_26) hr
  · show Q_new4_0 Z a1 a2 h0 n0 _ T18.heap _
    rw [e18]
    exact ⟨ltb2, k2, rfl, N18, K20, fc21, Fw18, fc22, fc23⟩
  · show CHr Z consts_1 s.vm s.heap T18.vm T18.heap
    rw [hh, e18]
    exact CRe
theorem pd_CIILjava_lang_Void__V_938 : parseMethodDescriptor "([CIILjava/lang/Void;)V" = some ⟨[(.array .char), .int, .int, (.object "java/lang/Void")], none⟩ := by decide +kernel
theorem d2_0 : decode jdk_42_method_3_code 0 = .ok (.aload_n 0, 1) := by decide +kernel
theorem d2_1 : decode jdk_42_method_3_code 1 = .ok (.aload_n 1, 1) := by decide +kernel
theorem d2_2 : decode jdk_42_method_3_code 2 = .ok (.iconst 0, 1) := by decide +kernel
theorem d2_3 : decode jdk_42_method_3_code 3 = .ok (.aload_n 1, 1) := by decide +kernel
theorem d2_4 : decode jdk_42_method_3_code 4 = .ok (.arraylength, 1) := by decide +kernel
theorem d2_5 : decode jdk_42_method_3_code 5 = .ok (.aconst_null, 1) := by decide +kernel
theorem d2_6 : decode jdk_42_method_3_code 6 = .ok (.invokespecial 27, 3) := by decide +kernel
theorem d2_9 : decode jdk_42_method_3_code 9 = .ok (.return_, 1) := by decide +kernel
theorem pn_2 : plainName "java/lang/String" = true := by first | (simp [plainName, overriddenIn]; done) | decide +kernel
theorem ef_2_RR (m : MethodId) (x0 : Addr) (x1 : Addr) : entryFrame m #[(.ref x0), (.ref x1)] 2 = mkF m 0 #[.val (.ref x0), .val (.ref x1)] [] := by first | (simp [entryFrame, mkF, argsToLocals, Value.category]; done) | rfl
def Q_new1_0 (Z : State) (a1 : Addr) (a2 : Addr) (k_a2 : ClassId) (h0 : Heap) (n0 : Nat) (v : Option Value) (h : Heap) (L : List Loc) : Prop := ∃ (t : Addr) (kt : ClassId), v = none ∧ Fr n0 L ∧ Keep h0 h [a1] ∧ Exa Z h a1 "java/lang/String" ∧ Fld Z h a1 "java/lang/String" "coder" "B" (.int 0) ∧ Fld Z h a1 "java/lang/String" "value" "[B" (.ref t) ∧ Arv Z h t kt .byte (0 : Int32) [] (.int 0)
set_option maxRecDepth 65536 in
set_option maxHeartbeats 40000000 in
theorem rm_new1_0 (l : Launch) (Z : State) (a0 : Array Value) (hw : ∀ d ∈ tables_1, d.before a0 Z = true) (hEL : EW Z a0 consts_1) (ws : List Jvm.Cond) (a1 : Addr) (a2 : Addr) (k_a2 : ClassId) (h0 : Heap) (n0 : Nat) (Z0 : n0 ≤ h0.size) (E_a1 : Exa Z h0 a1 "java/lang/String") (F_a1_value : Fld Z h0 a1 "java/lang/String" "value" "[B" .null) (F_a1_coder : Fld Z h0 a1 "java/lang/String" "coder" "B" (.int 0)) (V_a2 : Arv Z h0 a2 k_a2 .char (0 : Int32) [] (.int 0)) (O0 : Old Z n0 h0) (g_a1 : n0 ≤ a1) :
    MetFree l (⟨"java/lang/String", "<init>", "([C)V"⟩ : MethodName) (head1 (Jvm.Cond.code (⟨"java/lang/String", "<init>", "([C)V"⟩ : MethodName) jdk_42_method_3_code 2 none :: ws) ({ frames := 2, cells := 4, slots := 8, locals := 29 } : Room)) (fun a U => a = #[(.ref a1), (.ref a2)] ∧ Z.Warmed39 U.vm ∧ U.heap = h0 ∧ CHv Z consts_1 U.vm h0) (fun _ _ _ _ _ => True) (fun _ U o U' => ∃ v L, o = .returned v ∧ Q_new1_0 Z a1 a2 k_a2 h0 n0 v U'.heap L ∧ CHr Z consts_1 U.vm U.heap U'.vm U'.heap ∧ ReturnedEndW U o U' L ({ frames := 2, cells := 4, slots := 8, locals := 29 } : Room).cells ({ frames := 2, cells := 4, slots := 8, locals := 29 } : Room).slots) := by
  refine MetFree.of_bodySF (plainFor_of_name pn_2) hisR ?_
  intro p e s m args below meth c s₁ Bd hml0 hP hK
  obtain ⟨rfl, hZ, hh, H0c⟩ := hP
  have hx := Bd.exec
  have hby := Bd.bytes
  have hml : c.maxLocals = 2 := hml0
  have hown : s.vm.findClass "java/lang/String" = some m.cls := findClass_of_methodNamed Bd.named
  have hnm := (name_of_methodNamed Bd.named Bd.method).1
  have X0 : Stand p l e ({ frames := 2, cells := 4, slots := 8, locals := 29 } : Room) (s.setVm s.vm) m #[(.ref a1), (.ref a2)] below meth c s₁ [] 0 0 := Stand.of_body Bd
  have e0 : s₁.heap = h0 := by rw [← hh, Bd.state]; rfl
  have N0 := Fr.nil n0
  have pre0 : ∀ t, Steps p.tables e below (s₁.setTop (mkF m 0 #[.val (.ref a1), .val (.ref a2)] [])) t → Steps p.tables e below (s₁.setTop (entryFrame m #[(.ref a1), (.ref a2)] 2)) t := fun t k => castTop (ef_2_RR m a1 a2) k
  have hS0 : s.Since s.vm 0 := (State.WarmedH.refl s).since 0
  have hk0 : 0 ≤ h0.size := Nat.zero_le _
  have C0c : CHr Z consts_1 s.vm h0 s.vm h0 := CHr.refl H0c
  obtain ⟨cl1, Ar1, -, S1, M1, -, -⟩ := id V_a2
  obtain ⟨_, _, ⟨T2, L2, k2, n2⟩, -, X2, hS2, gr2, ⟨Lc2, hQ2, l2, y2, z2, C2⟩, st2⟩ := X0.specialBackS hx (y := (⟨"java/lang/String", "<init>", "([CIILjava/lang/Void;)V"⟩ : MethodName)) rfl hown (mvT hZ (hwi hw 11 rfl)) (mvT hZ (hwi hw 12 rfl)) (mvT hZ (hwi hw 14 rfl)) (by decide) (backOfSH (s := s) (vm0 := s.vm) (EL := consts_1) (W := 0) (rm_new4_0 l Z a0 hw hEL [] a1 a2 h0 n0 Z0 E_a1 F_a1_value F_a1_coder O0 g_a1) hZ (hwi hw 14 rfl) (hwi hw 6 rfl) (by decide) (by decide) hEL H0c) (g := (mkF m 6 #[.val (.ref a1), .val (.ref a2)] [.null, (.int 0), (.int 0), (.ref a2), (.ref a1)])) rfl (by rw [hml]; rfl) (Steps.refl _) (a := a1) (argsL := [(.ref a2), (.int 0), (.int 0), .null]) (rest := []) (lenOf pd_CIILjava_lang_Void__V_938 rfl) rfl (by show 2 * 0 + _ ≤ _; exact Nat.le_of_eq rfl) (hb hby d2_6) (fun _ _ => ⟨rfl, e0, (by decide : 0 + 4 ≤ _), (by decide : 0 + 8 ≤ _)⟩)
  dsimp only [Pt.U, Pt.locs, Pt.cells, Pt.slots] at X2 l2 y2 z2 st2 hQ2 hS2 gr2 C2
  subst l2 y2 z2
  obtain ⟨X2, hS2, hZ2, ho2⟩ := rebS hS0 (by rw [e0]; exact hk0) X2 hS2 gr2 hZ hown
  obtain ⟨t_2, kt_2, rfl, N2q, Kc2, g2_0, g2_1, g2_2, g2_3⟩ := hQ2
  have N2 := Fr.app N0 N2q
  have R3 := C2
  have CR3 := C0c.trans R3
  have sz4 : h0.size ≤ T2.heap.size := Kc2.1
  have Z4 : n0 ≤ T2.heap.size := Nat.le_trans Z0 sz4
  have O4 := O0.keep Kc2 (allS g_a1 all0)
  have K4 : Keep h0 T2.heap [a1] := (Keep.refl h0 [a1]).trans Kc2 (allS (Or.inl (List.mem_of_getElem? (i := 0) rfl)) (all0))
  have CRe := CR3.trans (CHv.at X2 hZ2 hEL R3.1)
  obtain ⟨fs, hr, hrun, hended, hRE⟩ := X2.leaveW hS2 (Nat.le_refl T2.heap.size) (v := none) (fun _ => rfl)
  refine ⟨_, _, pre0 _ ?_, hrun, hended, _, _, rfl, ?_, ?_, ⟨hRE.1, hRE.2.1, hRE.2.2.1, hRE.2.2.2.mono (by decide) (by decide)⟩⟩
  · show St p e below s₁ (mkF m 0 #[.val (.ref a1), .val (.ref a2)] []) _
    refine XS.aloadN X0.here hx rfl (hb hby d2_0) rfl rfl ?_
    show St p e below s₁ (mkF m 1 #[.val (.ref a1), .val (.ref a2)] [(.ref a1)]) _
    refine XS.aloadN X0.here hx rfl (hb hby d2_1) rfl rfl ?_
    show St p e below s₁ (mkF m 2 #[.val (.ref a1), .val (.ref a2)] [(.ref a2), (.ref a1)]) _
    refine XS.iconst X0.here hx rfl (hb hby d2_2) ?_
    show St p e below s₁ (mkF m 3 #[.val (.ref a1), .val (.ref a2)] [(.int 0), (.ref a2), (.ref a1)]) _
    refine XS.aloadN X0.here hx rfl (hb hby d2_3) rfl rfl ?_
    show St p e below s₁ (mkF m 4 #[.val (.ref a1), .val (.ref a2)] [(.ref a2), (.int 0), (.ref a2), (.ref a1)]) _
    refine X0.arraylength hx (by rw [e0]; exact Ar1.1) (State.isArrayOf_alike hZ.alike Ar1.2.1) (g := (mkF m 4 #[.val (.ref a1), .val (.ref a2)] [(.ref a2), (.int 0), (.ref a2), (.ref a1)])) rfl rfl (hb hby d2_4) _ ?_
    rw [len_of S1 M1]
    show St p e below s₁ (mkF m 5 #[.val (.ref a1), .val (.ref a2)] [(.int 0), (.int 0), (.ref a2), (.ref a1)]) _
    refine XS.aconstNull X0.here hx rfl (hb hby d2_5) ?_
    show St p e below s₁ (mkF m 6 #[.val (.ref a1), .val (.ref a2)] [.null, (.int 0), (.int 0), (.ref a2), (.ref a1)]) _
    refine st2.trans ?_
    show St p e below T2 (mkF m 9 #[.val (.ref a1), .val (.ref a2)] []) _
    exact X2.returnOut hx Bd.returns (hb hby d2_9) hr
  · show Q_new1_0 Z a1 a2 k_a2 h0 n0 _ T2.heap _
    exact ⟨t_2, kt_2, rfl, N2, K4, g2_0, g2_1, g2_2, g2_3⟩
  · show CHr Z consts_1 s.vm s.heap T2.vm T2.heap
    rw [hh]
    exact CRe
theorem own_bb (x : Int32) : (x.toInt8.toInt32).toInt8.toInt32 = x.toInt8.toInt32 := by simp
theorem d6_0 : decode jdk_52_method_21_code 0 = .ok (.iconst 0, 1) := by decide +kernel
theorem d6_1 : decode jdk_52_method_21_code 1 = .ok (.istore 5, 2) := by decide +kernel
theorem d6_3 : decode jdk_52_method_21_code 3 = .ok (.iload 5, 2) := by decide +kernel
theorem d6_5 : decode jdk_52_method_21_code 5 = .ok (.iload 4, 2) := by decide +kernel
theorem d6_7 : decode jdk_52_method_21_code 7 = .ok (.if_icmp .ge 37, 3) := by decide +kernel
theorem d6_10 : decode jdk_52_method_21_code 10 = .ok (.aload_n 0, 1) := by decide +kernel
theorem d6_11 : decode jdk_52_method_21_code 11 = .ok (.iload_n 1, 1) := by decide +kernel
theorem d6_12 : decode jdk_52_method_21_code 12 = .ok (.caload, 1) := by decide +kernel
theorem d6_13 : decode jdk_52_method_21_code 13 = .ok (.istore 6, 2) := by decide +kernel
theorem d6_15 : decode jdk_52_method_21_code 15 = .ok (.iload 6, 2) := by decide +kernel
theorem d6_17 : decode jdk_52_method_21_code 17 = .ok (.sipush 255, 3) := by decide +kernel
theorem d6_20 : decode jdk_52_method_21_code 20 = .ok (.if_icmp .le 6, 3) := by decide +kernel
theorem d6_26 : decode jdk_52_method_21_code 26 = .ok (.aload_n 2, 1) := by decide +kernel
theorem d6_27 : decode jdk_52_method_21_code 27 = .ok (.iload_n 3, 1) := by decide +kernel
theorem d6_28 : decode jdk_52_method_21_code 28 = .ok (.iload 6, 2) := by decide +kernel
theorem d6_30 : decode jdk_52_method_21_code 30 = .ok (.i2b, 1) := by decide +kernel
theorem d6_31 : decode jdk_52_method_21_code 31 = .ok (.bastore, 1) := by decide +kernel
theorem d6_32 : decode jdk_52_method_21_code 32 = .ok (.iinc 1 1, 3) := by decide +kernel
theorem d6_35 : decode jdk_52_method_21_code 35 = .ok (.iinc 3 1, 3) := by decide +kernel
theorem d6_38 : decode jdk_52_method_21_code 38 = .ok (.iinc 5 1, 3) := by decide +kernel
theorem d6_41 : decode jdk_52_method_21_code 41 = .ok (.goto (-38), 3) := by decide +kernel
theorem d6_44 : decode jdk_52_method_21_code 44 = .ok (.iload 4, 2) := by decide +kernel
theorem d6_46 : decode jdk_52_method_21_code 46 = .ok (.ireturn, 1) := by decide +kernel
theorem pn_6 : plainName "java/lang/StringUTF16" = true := by first | (simp [plainName, overriddenIn]; done) | decide +kernel
theorem ef_6_RIRII (m : MethodId) (x0 : Addr) (x1 : Int32) (x2 : Addr) (x3 : Int32) (x4 : Int32) : entryFrame m #[(.ref x0), (.int x1), (.ref x2), (.int x3), (.int x4)] 7 = mkF m 0 #[.val (.ref x0), .val (.int x1), .val (.ref x2), .val (.int x3), .val (.int x4), .unset, .unset] [] := by first | (simp [entryFrame, mkF, argsToLocals, Value.category]; done) | rfl
def Q_cmp5_1 (Z : State) (a1 : Addr) (a3 : Addr) (k_a1 : ClassId) (c0 : Int32) (k_a3 : ClassId) (h0 : Heap) (n0 : Nat) (v : Option Value) (h : Heap) (L : List Loc) : Prop := v = some (.int 1) ∧ Fr n0 L ∧ Keep h0 h [a3] ∧ Arv Z h a3 k_a3 .byte (1 : Int32) [(.int (c0.toInt8.toInt32))] (.int 0)
set_option maxRecDepth 65536 in
set_option maxHeartbeats 40000000 in
theorem rm_cmp5_1 (l : Launch) (Z : State) (a0 : Array Value) (hw : ∀ d ∈ tables_1, d.before a0 Z = true) (ws : List Jvm.Cond) (a1 : Addr) (a3 : Addr) (k_a1 : ClassId) (c0 : Int32) (k_a3 : ClassId) (h0 : Heap) (n0 : Nat) (Z0 : n0 ≤ h0.size) (V_a1 : Arv Z h0 a1 k_a1 .char (1 : Int32) [(.int c0)] (.int 0)) (V_a3 : Arv Z h0 a3 k_a3 .byte (1 : Int32) [(.int 0)] (.int 0)) (hne : ¬ (a1 = a3)) (hb_c0 : ¬ ((255 : Int32) < c0)) (g_a3 : n0 ≤ a3) (O0 : Old Z n0 h0) :
    MetFree l (⟨"java/lang/StringUTF16", "compress", "([CI[BII)I"⟩ : MethodName) (head1 (Jvm.Cond.code (⟨"java/lang/StringUTF16", "compress", "([CI[BII)I"⟩ : MethodName) jdk_52_method_21_code 7 (some .int) :: ws) ({ frames := 0, cells := 0, slots := 0, locals := 0 } : Room)) (fun a U => a = #[(.ref a1), (.int 0), (.ref a3), (.int 0), (.int 1)] ∧ Z.Warmed39 U.vm ∧ U.heap = h0) (fun _ _ _ _ _ => True) (fun _ U o U' => ∃ v L, o = .returned v ∧ Q_cmp5_1 Z a1 a3 k_a1 c0 k_a3 h0 n0 v U'.heap L ∧ FrameEnd U o U' L ({ frames := 0, cells := 0, slots := 0, locals := 0 } : Room).cells ({ frames := 0, cells := 0, slots := 0, locals := 0 } : Room).slots) := by
  refine MetFree.of_bodySF (plainFor_of_name pn_6) hisR ?_
  intro p e s m args below meth c s₁ Bd hml0 hP hK
  obtain ⟨rfl, hZ, hh⟩ := hP
  have hx := Bd.exec
  have hby := Bd.bytes
  have hml : c.maxLocals = 7 := hml0
  have hown : s.vm.findClass "java/lang/StringUTF16" = some m.cls := findClass_of_methodNamed Bd.named
  have hnm := (name_of_methodNamed Bd.named Bd.method).1
  have X0 : Stand p l e ({ frames := 0, cells := 0, slots := 0, locals := 0 } : Room) s m #[(.ref a1), (.int 0), (.ref a3), (.int 0), (.int 1)] below meth c s₁ [] 0 0 := Stand.of_body Bd
  have e0 : s₁.heap = h0 := by rw [← hh, Bd.state]; rfl
  have N0 := Fr.nil n0
  have pre0 : ∀ t, Steps p.tables e below (s₁.setTop (mkF m 0 #[.val (.ref a1), .val (.int 0), .val (.ref a3), .val (.int 0), .val (.int 1), .unset, .unset] [])) t → Steps p.tables e below (s₁.setTop (entryFrame m #[(.ref a1), (.int 0), (.ref a3), (.int 0), (.int 1)] 7)) t := fun t k => castTop (ef_6_RIRII m a1 (0 : Int32) a3 (0 : Int32) (1 : Int32)) k
  obtain ⟨cl1, Ar1, q1, S1, M1, H1, G1⟩ := id V_a1
  have hin1 : ¬ ((0 : Int32) < 0 ∨ cl1.slots.size ≤ ((0 : Int32)).toNatClampNeg) := inb_of S1 ⟨by decide, by decide⟩
  have hat1 : cl1.slots[((0 : Int32)).toNatClampNeg]? = some (.int c0) := H1.at hin1 rfl
  obtain ⟨cl2, Ar2, q2, S2, M2, H2, G2⟩ := id V_a3
  have hin2 : ¬ ((0 : Int32) < 0 ∨ cl2.slots.size ≤ ((0 : Int32)).toNatClampNeg) := inb_of S2 ⟨by decide, by decide⟩
  obtain ⟨T3, h3, X3, e3, W3, st3⟩ := stB X0 hx hZ e0 Ar2 (j := (0 : Int32)) hin2 (g := (mkF m 31 #[.val (.ref a1), .val (.int 0), .val (.ref a3), .val (.int 0), .val (.int 1), .val (.int 0), .val (.int c0)] [(.int (c0.toInt8.toInt32)), (.int 0), (.ref a3)])) rfl rfl (hb hby d6_31)
  have N3 := Fr.snoc X3 N0 g_a3
  have V3 : Arv Z h3 a3 k_a3 .byte (1 : Int32) [(.int ((c0.toInt8.toInt32).toInt8.toInt32))] (.int 0) := Arv.set Ar2 q2 S2 M2 H2 G2 (fits_nar_byte _) W3 0 rfl (Nat.le_of_ble_eq_true rfl)
  rw [own_bb] at V3
  have sz4 : h0.size ≤ h3.size := Nat.le_of_eq W3.size.symm
  have Z4 : n0 ≤ h3.size := Nat.le_trans Z0 sz4
  have O4 := O0.wr W3 g_a3
  have K4 : Keep h0 h3 [a3] := (Keep.refl h0 [a3]).wr W3 (Or.inl (List.mem_of_getElem? (i := 0) rfl))
  obtain ⟨fs, hr, hrun, hended, hW, hsame⟩ := X3.leave (v := some (.int 1)) (fun h => by rw [Bd.returns] at h; cases h)
  refine ⟨_, _, pre0 _ ?_, hrun, hended, _, _, rfl, ?_, ⟨_, rfl⟩, hW, hsame.mono (by decide) (by decide)⟩
  · show St p e below s₁ (mkF m 0 #[.val (.ref a1), .val (.int 0), .val (.ref a3), .val (.int 0), .val (.int 1), .unset, .unset] []) _
    refine XS.iconst X0.here hx rfl (hb hby d6_0) ?_
    show St p e below s₁ (mkF m 1 #[.val (.ref a1), .val (.int 0), .val (.ref a3), .val (.int 0), .val (.int 1), .unset, .unset] [(.int 0)]) _
    refine XS.istore X0.here hx rfl (hb hby d6_1) rfl (l' := #[.val (.ref a1), .val (.int 0), .val (.ref a3), .val (.int 0), .val (.int 1), .val (.int 0), .unset]) rfl ?_
    show St p e below s₁ (mkF m 3 #[.val (.ref a1), .val (.int 0), .val (.ref a3), .val (.int 0), .val (.int 1), .val (.int 0), .unset] []) _
    refine XS.iload X0.here hx rfl (hb hby d6_3) rfl ?_
    show St p e below s₁ (mkF m 5 #[.val (.ref a1), .val (.int 0), .val (.ref a3), .val (.int 0), .val (.int 1), .val (.int 0), .unset] [(.int 0)]) _
    refine XS.iload X0.here hx rfl (hb hby d6_5) rfl ?_
    show St p e below s₁ (mkF m 7 #[.val (.ref a1), .val (.int 0), .val (.ref a3), .val (.int 0), .val (.int 1), .val (.int 0), .unset] [(.int 1), (.int 0)]) _
    refine XS.icmpNo X0.here hx rfl (hb hby d6_7) rfl (tlt (by decide : (0 : Int32) < (1 : Int32))).2.1 ?_
    show St p e below s₁ (mkF m 10 #[.val (.ref a1), .val (.int 0), .val (.ref a3), .val (.int 0), .val (.int 1), .val (.int 0), .unset] []) _
    refine XS.aloadN X0.here hx rfl (hb hby d6_10) rfl rfl ?_
    show St p e below s₁ (mkF m 11 #[.val (.ref a1), .val (.int 0), .val (.ref a3), .val (.int 0), .val (.int 1), .val (.int 0), .unset] [(.ref a1)]) _
    refine XS.iloadN X0.here hx rfl (hb hby d6_11) rfl ?_
    show St p e below s₁ (mkF m 12 #[.val (.ref a1), .val (.int 0), .val (.ref a3), .val (.int 0), .val (.int 1), .val (.int 0), .unset] [(.int 0), (.ref a1)]) _
    refine X0.caload hx (j := (0 : Int32)) (v := (.int c0)) (by rw [e0]; exact Ar1.1) (State.isArrayOf_alike hZ.alike Ar1.2.1) Ar1.2.2 hin1 hat1 (g := (mkF m 12 #[.val (.ref a1), .val (.int 0), .val (.ref a3), .val (.int 0), .val (.int 1), .val (.int 0), .unset] [(.int 0), (.ref a1)])) rfl rfl (hb hby d6_12) _ ?_
    show St p e below s₁ (mkF m 13 #[.val (.ref a1), .val (.int 0), .val (.ref a3), .val (.int 0), .val (.int 1), .val (.int 0), .unset] [(.int c0)]) _
    refine XS.istore X0.here hx rfl (hb hby d6_13) rfl (l' := #[.val (.ref a1), .val (.int 0), .val (.ref a3), .val (.int 0), .val (.int 1), .val (.int 0), .val (.int c0)]) rfl ?_
    show St p e below s₁ (mkF m 15 #[.val (.ref a1), .val (.int 0), .val (.ref a3), .val (.int 0), .val (.int 1), .val (.int 0), .val (.int c0)] []) _
    refine XS.iload X0.here hx rfl (hb hby d6_15) rfl ?_
    show St p e below s₁ (mkF m 17 #[.val (.ref a1), .val (.int 0), .val (.ref a3), .val (.int 0), .val (.int 1), .val (.int 0), .val (.int c0)] [(.int c0)]) _
    refine XS.sipush X0.here hx rfl (hb hby d6_17) ?_
    show St p e below s₁ (mkF m 20 #[.val (.ref a1), .val (.int 0), .val (.ref a3), .val (.int 0), .val (.int 1), .val (.int 0), .val (.int c0)] [(.int 255), (.int c0)]) _
    refine XS.icmpYes X0.here hx rfl (pc0 := 20) (pc' := 26) rfl (hb hby d6_20) rfl (flt hb_c0).2.2.2 (by decide) (by decide) ?_
    show St p e below s₁ (mkF m 26 #[.val (.ref a1), .val (.int 0), .val (.ref a3), .val (.int 0), .val (.int 1), .val (.int 0), .val (.int c0)] []) _
    refine XS.aloadN X0.here hx rfl (hb hby d6_26) rfl rfl ?_
    show St p e below s₁ (mkF m 27 #[.val (.ref a1), .val (.int 0), .val (.ref a3), .val (.int 0), .val (.int 1), .val (.int 0), .val (.int c0)] [(.ref a3)]) _
    refine XS.iloadN X0.here hx rfl (hb hby d6_27) rfl ?_
    show St p e below s₁ (mkF m 28 #[.val (.ref a1), .val (.int 0), .val (.ref a3), .val (.int 0), .val (.int 1), .val (.int 0), .val (.int c0)] [(.int 0), (.ref a3)]) _
    refine XS.iload X0.here hx rfl (hb hby d6_28) rfl ?_
    show St p e below s₁ (mkF m 30 #[.val (.ref a1), .val (.int 0), .val (.ref a3), .val (.int 0), .val (.int 1), .val (.int 0), .val (.int c0)] [(.int c0), (.int 0), (.ref a3)]) _
    refine XS.i2b X0.here hx rfl (hb hby d6_30) rfl ?_
    show St p e below s₁ (mkF m 31 #[.val (.ref a1), .val (.int 0), .val (.ref a3), .val (.int 0), .val (.int 1), .val (.int 0), .val (.int c0)] [(.int (c0.toInt8.toInt32)), (.int 0), (.ref a3)]) _
    refine st3 _ ?_
    show St p e below T3 (mkF m 32 #[.val (.ref a1), .val (.int 0), .val (.ref a3), .val (.int 0), .val (.int 1), .val (.int 0), .val (.int c0)] []) _
    refine XS.iinc X3.here hx rfl (hb hby d6_32) rfl (l' := #[.val (.ref a1), .val (.int ((0 : Int32) + (1 : Int32))), .val (.ref a3), .val (.int 0), .val (.int 1), .val (.int 0), .val (.int c0)]) rfl ?_
    show St p e below T3 (mkF m 35 #[.val (.ref a1), .val (.int ((0 : Int32) + (1 : Int32))), .val (.ref a3), .val (.int 0), .val (.int 1), .val (.int 0), .val (.int c0)] []) _
    rw [(by decide : ((0 : Int32) + (1 : Int32)) = (1 : Int32))]
    show St p e below T3 (mkF m 35 #[.val (.ref a1), .val (.int 1), .val (.ref a3), .val (.int 0), .val (.int 1), .val (.int 0), .val (.int c0)] []) _
    refine XS.iinc X3.here hx rfl (hb hby d6_35) rfl (l' := #[.val (.ref a1), .val (.int 1), .val (.ref a3), .val (.int ((0 : Int32) + (1 : Int32))), .val (.int 1), .val (.int 0), .val (.int c0)]) rfl ?_
    show St p e below T3 (mkF m 38 #[.val (.ref a1), .val (.int 1), .val (.ref a3), .val (.int ((0 : Int32) + (1 : Int32))), .val (.int 1), .val (.int 0), .val (.int c0)] []) _
    rw [(by decide : ((0 : Int32) + (1 : Int32)) = (1 : Int32))]
    show St p e below T3 (mkF m 38 #[.val (.ref a1), .val (.int 1), .val (.ref a3), .val (.int 1), .val (.int 1), .val (.int 0), .val (.int c0)] []) _
    refine XS.iinc X3.here hx rfl (hb hby d6_38) rfl (l' := #[.val (.ref a1), .val (.int 1), .val (.ref a3), .val (.int 1), .val (.int 1), .val (.int ((0 : Int32) + (1 : Int32))), .val (.int c0)]) rfl ?_
    show St p e below T3 (mkF m 41 #[.val (.ref a1), .val (.int 1), .val (.ref a3), .val (.int 1), .val (.int 1), .val (.int ((0 : Int32) + (1 : Int32))), .val (.int c0)] []) _
    rw [(by decide : ((0 : Int32) + (1 : Int32)) = (1 : Int32))]
    show St p e below T3 (mkF m 41 #[.val (.ref a1), .val (.int 1), .val (.ref a3), .val (.int 1), .val (.int 1), .val (.int 1), .val (.int c0)] []) _
    refine XS.goto X3.here hx rfl (pc0 := 41) (pc' := 3) rfl (hb hby d6_41) (by decide) (by decide) ?_
    show St p e below T3 (mkF m 3 #[.val (.ref a1), .val (.int 1), .val (.ref a3), .val (.int 1), .val (.int 1), .val (.int 1), .val (.int c0)] []) _
    refine XS.iload X3.here hx rfl (hb hby d6_3) rfl ?_
    show St p e below T3 (mkF m 5 #[.val (.ref a1), .val (.int 1), .val (.ref a3), .val (.int 1), .val (.int 1), .val (.int 1), .val (.int c0)] [(.int 1)]) _
    refine XS.iload X3.here hx rfl (hb hby d6_5) rfl ?_
    show St p e below T3 (mkF m 7 #[.val (.ref a1), .val (.int 1), .val (.ref a3), .val (.int 1), .val (.int 1), .val (.int 1), .val (.int c0)] [(.int 1), (.int 1)]) _
    refine XS.icmpYes X3.here hx rfl (pc0 := 7) (pc' := 44) rfl (hb hby d6_7) rfl (flt (by decide : ¬ ((1 : Int32) < (1 : Int32)))).2.1 (by decide) (by decide) ?_
    show St p e below T3 (mkF m 44 #[.val (.ref a1), .val (.int 1), .val (.ref a3), .val (.int 1), .val (.int 1), .val (.int 1), .val (.int c0)] []) _
    refine XS.iload X3.here hx rfl (hb hby d6_44) rfl ?_
    show St p e below T3 (mkF m 46 #[.val (.ref a1), .val (.int 1), .val (.ref a3), .val (.int 1), .val (.int 1), .val (.int 1), .val (.int c0)] [(.int 1)]) _
    exact retI X3 hx Bd.returns (hb hby d6_46) hr
  · show Q_cmp5_1 Z a1 a3 k_a1 c0 k_a3 h0 n0 _ T3.heap _
    rw [e3]
    exact ⟨rfl, N3, K4, V3⟩
theorem pd_CI_BII_I_688 : parseMethodDescriptor "([CI[BII)I" = some ⟨[(.array .char), .int, (.array .byte), .int, .int], some .int⟩ := by decide +kernel
theorem d5_0 : decode jdk_52_method_16_code 0 = .ok (.iload_n 2, 1) := by decide +kernel
theorem d5_1 : decode jdk_52_method_16_code 1 = .ok (.newarray .byte, 2) := by decide +kernel
theorem d5_3 : decode jdk_52_method_16_code 3 = .ok (.astore_n 3, 1) := by decide +kernel
theorem d5_4 : decode jdk_52_method_16_code 4 = .ok (.aload_n 0, 1) := by decide +kernel
theorem d5_5 : decode jdk_52_method_16_code 5 = .ok (.iload_n 1, 1) := by decide +kernel
theorem d5_6 : decode jdk_52_method_16_code 6 = .ok (.aload_n 3, 1) := by decide +kernel
theorem d5_7 : decode jdk_52_method_16_code 7 = .ok (.iconst 0, 1) := by decide +kernel
theorem d5_8 : decode jdk_52_method_16_code 8 = .ok (.iload_n 2, 1) := by decide +kernel
theorem d5_9 : decode jdk_52_method_16_code 9 = .ok (.invokestatic 115, 3) := by decide +kernel
theorem d5_12 : decode jdk_52_method_16_code 12 = .ok (.istore 4, 2) := by decide +kernel
theorem d5_14 : decode jdk_52_method_16_code 14 = .ok (.iload 4, 2) := by decide +kernel
theorem d5_16 : decode jdk_52_method_16_code 16 = .ok (.iload_n 2, 1) := by decide +kernel
theorem d5_17 : decode jdk_52_method_16_code 17 = .ok (.if_icmp .eq 40, 3) := by decide +kernel
theorem d5_57 : decode jdk_52_method_16_code 57 = .ok (.aload_n 3, 1) := by decide +kernel
theorem d5_58 : decode jdk_52_method_16_code 58 = .ok (.areturn, 1) := by decide +kernel
theorem pn_5 : plainName "java/lang/StringUTF16" = true := by first | (simp [plainName, overriddenIn]; done) | decide +kernel
theorem ef_5_RII (m : MethodId) (x0 : Addr) (x1 : Int32) (x2 : Int32) : entryFrame m #[(.ref x0), (.int x1), (.int x2)] 6 = mkF m 0 #[.val (.ref x0), .val (.int x1), .val (.int x2), .unset, .unset, .unset] [] := by first | (simp [entryFrame, mkF, argsToLocals, Value.category]; done) | rfl
def Q_cmp3_1 (Z : State) (a1 : Addr) (k_a1 : ClassId) (c0 : Int32) (h0 : Heap) (n0 : Nat) (v : Option Value) (h : Heap) (L : List Loc) : Prop := ∃ (t : Addr) (kt : ClassId), v = some (.ref t) ∧ Fr n0 L ∧ Keep h0 h [] ∧ h0.size ≤ t ∧ Arv Z h t kt .byte (1 : Int32) [(.int (c0.toInt8.toInt32))] (.int 0)
set_option maxRecDepth 65536 in
set_option maxHeartbeats 40000000 in
theorem rm_cmp3_1 (l : Launch) (Z : State) (a0 : Array Value) (hw : ∀ d ∈ tables_1, d.before a0 Z = true) (ws : List Jvm.Cond) (a1 : Addr) (k_a1 : ClassId) (c0 : Int32) (h0 : Heap) (n0 : Nat) (Z0 : n0 ≤ h0.size) (V_a1 : Arv Z h0 a1 k_a1 .char (1 : Int32) [(.int c0)] (.int 0)) (hb_c0 : ¬ ((255 : Int32) < c0)) (O0 : Old Z n0 h0) :
    MetFree l (⟨"java/lang/StringUTF16", "compress", "([CII)[B"⟩ : MethodName) (head1 (Jvm.Cond.code (⟨"java/lang/StringUTF16", "compress", "([CII)[B"⟩ : MethodName) jdk_52_method_16_code 6 (some (.array .byte)) :: ws) ({ frames := 1, cells := 1, slots := 1, locals := 18 } : Room)) (fun a U => a = #[(.ref a1), (.int 0), (.int 1)] ∧ Z.Warmed39 U.vm ∧ U.heap = h0) (fun _ _ _ _ _ => True) (fun _ U o U' => ∃ v L, o = .returned v ∧ Q_cmp3_1 Z a1 k_a1 c0 h0 n0 v U'.heap L ∧ FrameEnd U o U' L ({ frames := 1, cells := 1, slots := 1, locals := 18 } : Room).cells ({ frames := 1, cells := 1, slots := 1, locals := 18 } : Room).slots) := by
  refine MetFree.of_bodySF (plainFor_of_name pn_5) hisR ?_
  intro p e s m args below meth c s₁ Bd hml0 hP hK
  obtain ⟨rfl, hZ, hh⟩ := hP
  have hx := Bd.exec
  have hby := Bd.bytes
  have hml : c.maxLocals = 6 := hml0
  have hown : s.vm.findClass "java/lang/StringUTF16" = some m.cls := findClass_of_methodNamed Bd.named
  have hnm := (name_of_methodNamed Bd.named Bd.method).1
  have X0 : Stand p l e ({ frames := 1, cells := 1, slots := 1, locals := 18 } : Room) s m #[(.ref a1), (.int 0), (.int 1)] below meth c s₁ [] 0 0 := Stand.of_body Bd
  have e0 : s₁.heap = h0 := by rw [← hh, Bd.state]; rfl
  have N0 := Fr.nil n0
  have pre0 : ∀ t, Steps p.tables e below (s₁.setTop (mkF m 0 #[.val (.ref a1), .val (.int 0), .val (.int 1), .unset, .unset, .unset] [])) t → Steps p.tables e below (s₁.setTop (entryFrame m #[(.ref a1), (.int 0), (.int 1)] 6)) t := fun t k => castTop (ef_5_RII m a1 (0 : Int32) (1 : Int32)) k
  obtain ⟨T1, h1, k1, X1, e1, E1, A1, st1⟩ := newP X0 hx hZ (hwi hw 19 rfl) e0 (g := (mkF m 1 #[.val (.ref a1), .val (.int 0), .val (.int 1), .unset, .unset, .unset] [(.int 1)])) rfl (hb hby d5_1) rfl (by decide) (cap := 1) (by decide) (by decide) (by decide) (by decide)
  obtain ⟨b1, g1⟩ : ∃ z, z = h0.size := ⟨_, rfl⟩
  rw [← g1] at A1 st1
  have bn_b1 : h0.size ≤ b1 := Nat.le_of_eq g1.symm
  have sz2 : h0.size ≤ h1.size := E1.1
  have Z2 : n0 ≤ h1.size := Nat.le_trans Z0 sz2
  have O2 := O0.ext E1
  have K2 : Keep h0 h1 [] := (Keep.refl h0 []).ext E1
  have V1 : Arv Z h1 b1 k1 .byte (1 : Int32) [(.int 0)] (.int 0) := (Arv.new A1 (by decide)).pad (pad_rep [] (.int 0) 1)
  have fc4 := (V_a1.ext E1)
  obtain ⟨_, _, ⟨T3, L3, k3, n3⟩, -, X3, ⟨Lc3, hQ3, l3, y3, z3⟩, st3⟩ := Jvm.LawKit.callS X1 hx (y := (⟨"java/lang/StringUTF16", "compress", "([CI[BII)I"⟩ : MethodName)) hown (mvT hZ (hwi hw 31 rfl)) (mvT hZ (hwi hw 32 rfl)) (mvT hZ (hwi hw 29 rfl)) (mvT hZ (hwi hw 33 rfl)) (by decide) (backOf (W := 0) (rm_cmp5_1 l Z a0 hw [] a1 b1 k_a1 c0 k1 h1 n0 Z2 fc4 V1 (neN (by have := ltN V_a1.lt; have := ltN V1.lt; omega)) hb_c0 (Nat.le_trans Z0 bn_b1) O2) hZ (hwi hw 33 rfl) (hwi hw 29 rfl) (by decide) (by decide)) (g := (mkF m 9 #[.val (.ref a1), .val (.int 0), .val (.int 1), .val (.ref b1), .unset, .unset] [(.int 1), (.int 0), (.ref b1), (.int 0), (.ref a1)])) rfl (by rw [hml]; rfl) (argsL := [(.ref a1), (.int 0), (.ref b1), (.int 0), (.int 1)]) (rest := []) (lenOf pd_CI_BII_I_688 rfl) rfl (by show 2 * 0 + _ ≤ _; exact Nat.le_of_eq rfl) (hb hby d5_9) (fun _ _ => ⟨rfl, e1, (by decide : 1 + 0 ≤ _), (by decide : 1 + 0 ≤ _)⟩)
  dsimp only [Pt.U, Pt.locs, Pt.cells, Pt.slots] at X3 l3 y3 z3 st3 hQ3
  subst l3 y3 z3
  obtain ⟨rfl, N3q, Kc3, g3_0⟩ := hQ3
  have N3 := Fr.app N0 N3q
  have sz5 : h1.size ≤ T3.heap.size := Kc3.1
  have Z5 : n0 ≤ T3.heap.size := Nat.le_trans Z2 sz5
  have O5 := O2.keep Kc3 (allS (Nat.le_trans Z0 bn_b1) all0)
  have K5 : Keep h0 T3.heap [] := K2.trans Kc3 (allS (Or.inr bn_b1) (all0))
  obtain ⟨fs, hr, hrun, hended, hW, hsame⟩ := X3.leave (v := some (.ref b1)) (fun h => by rw [Bd.returns] at h; cases h)
  refine ⟨_, _, pre0 _ ?_, hrun, hended, _, _, rfl, ?_, ⟨_, rfl⟩, hW, hsame.mono (by decide) (by decide)⟩
  · show St p e below s₁ (mkF m 0 #[.val (.ref a1), .val (.int 0), .val (.int 1), .unset, .unset, .unset] []) _
    refine XS.iloadN X0.here hx rfl (hb hby d5_0) rfl ?_
    show St p e below s₁ (mkF m 1 #[.val (.ref a1), .val (.int 0), .val (.int 1), .unset, .unset, .unset] [(.int 1)]) _
    refine st1 _ ?_
    show St p e below T1 (mkF m 3 #[.val (.ref a1), .val (.int 0), .val (.int 1), .unset, .unset, .unset] [(.ref b1)]) _
    refine XS.astoreN X1.here hx rfl (hb hby d5_3) rfl rfl (l' := #[.val (.ref a1), .val (.int 0), .val (.int 1), .val (.ref b1), .unset, .unset]) rfl ?_
    show St p e below T1 (mkF m 4 #[.val (.ref a1), .val (.int 0), .val (.int 1), .val (.ref b1), .unset, .unset] []) _
    refine XS.aloadN X1.here hx rfl (hb hby d5_4) rfl rfl ?_
    show St p e below T1 (mkF m 5 #[.val (.ref a1), .val (.int 0), .val (.int 1), .val (.ref b1), .unset, .unset] [(.ref a1)]) _
    refine XS.iloadN X1.here hx rfl (hb hby d5_5) rfl ?_
    show St p e below T1 (mkF m 6 #[.val (.ref a1), .val (.int 0), .val (.int 1), .val (.ref b1), .unset, .unset] [(.int 0), (.ref a1)]) _
    refine XS.aloadN X1.here hx rfl (hb hby d5_6) rfl rfl ?_
    show St p e below T1 (mkF m 7 #[.val (.ref a1), .val (.int 0), .val (.int 1), .val (.ref b1), .unset, .unset] [(.ref b1), (.int 0), (.ref a1)]) _
    refine XS.iconst X1.here hx rfl (hb hby d5_7) ?_
    show St p e below T1 (mkF m 8 #[.val (.ref a1), .val (.int 0), .val (.int 1), .val (.ref b1), .unset, .unset] [(.int 0), (.ref b1), (.int 0), (.ref a1)]) _
    refine XS.iloadN X1.here hx rfl (hb hby d5_8) rfl ?_
    show St p e below T1 (mkF m 9 #[.val (.ref a1), .val (.int 0), .val (.int 1), .val (.ref b1), .unset, .unset] [(.int 1), (.int 0), (.ref b1), (.int 0), (.ref a1)]) _
    refine st3 _ ?_
    show St p e below T3 (mkF m 12 #[.val (.ref a1), .val (.int 0), .val (.int 1), .val (.ref b1), .unset, .unset] [(.int 1)]) _
    refine XS.istore X3.here hx rfl (hb hby d5_12) rfl (l' := #[.val (.ref a1), .val (.int 0), .val (.int 1), .val (.ref b1), .val (.int 1), .unset]) rfl ?_
    show St p e below T3 (mkF m 14 #[.val (.ref a1), .val (.int 0), .val (.int 1), .val (.ref b1), .val (.int 1), .unset] []) _
    refine XS.iload X3.here hx rfl (hb hby d5_14) rfl ?_
    show St p e below T3 (mkF m 16 #[.val (.ref a1), .val (.int 0), .val (.int 1), .val (.ref b1), .val (.int 1), .unset] [(.int 1)]) _
    refine XS.iloadN X3.here hx rfl (hb hby d5_16) rfl ?_
    show St p e below T3 (mkF m 17 #[.val (.ref a1), .val (.int 0), .val (.int 1), .val (.ref b1), .val (.int 1), .unset] [(.int 1), (.int 1)]) _
    refine XS.icmpYes X3.here hx rfl (pc0 := 17) (pc' := 57) rfl (hb hby d5_17) rfl (teq (by decide : (1 : Int32) = (1 : Int32))).1 (by decide) (by decide) ?_
    show St p e below T3 (mkF m 57 #[.val (.ref a1), .val (.int 0), .val (.int 1), .val (.ref b1), .val (.int 1), .unset] []) _
    refine XS.aloadN X3.here hx rfl (hb hby d5_57) rfl rfl ?_
    show St p e below T3 (mkF m 58 #[.val (.ref a1), .val (.int 0), .val (.int 1), .val (.ref b1), .val (.int 1), .unset] [(.ref b1)]) _
    jvm_step X3.here [X3.here.top, hx, (hb hby d5_58), X3.method', Bd.returns, Value.isRef, FieldType.isReference]
    first | (intro acts; rw [hr _ acts rfl rfl rfl]) | rw [hr _ _ rfl rfl rfl]
    exact Steps.refl _
  · show Q_cmp3_1 Z a1 k_a1 c0 h0 n0 _ T3.heap _
    exact ⟨b1, k1, rfl, N3, K5, bn_b1, g3_0⟩
theorem d7_0 : decode jdk_52_method_15_code 0 = .ok (.iload_n 1, 1) := by decide +kernel
theorem d7_1 : decode jdk_52_method_15_code 1 = .ok (.aload_n 0, 1) := by decide +kernel
theorem d7_2 : decode jdk_52_method_15_code 2 = .ok (.arraylength, 1) := by decide +kernel
theorem d7_3 : decode jdk_52_method_15_code 3 = .ok (.isub, 1) := by decide +kernel
theorem d7_4 : decode jdk_52_method_15_code 4 = .ok (.bipush 31, 2) := by decide +kernel
theorem d7_6 : decode jdk_52_method_15_code 6 = .ok (.iushr, 1) := by decide +kernel
theorem d7_7 : decode jdk_52_method_15_code 7 = .ok (.i2b, 1) := by decide +kernel
theorem d7_8 : decode jdk_52_method_15_code 8 = .ok (.ireturn, 1) := by decide +kernel
theorem pn_7 : plainName "java/lang/StringUTF16" = true := by first | (simp [plainName, overriddenIn]; done) | decide +kernel
theorem ef_7_RI (m : MethodId) (x0 : Addr) (x1 : Int32) : entryFrame m #[(.ref x0), (.int x1)] 2 = mkF m 0 #[.val (.ref x0), .val (.int x1)] [] := by first | (simp [entryFrame, mkF, argsToLocals, Value.category]; done) | rfl
def Q_cod_1 (Z : State) (a1 : Addr) (k_a1 : ClassId) (by0 : Int32) (h0 : Heap) (n0 : Nat) (v : Option Value) (h : Heap) (L : List Loc) : Prop := v = some (.int 0) ∧ Fr n0 L ∧ h = h0
set_option maxRecDepth 65536 in
set_option maxHeartbeats 40000000 in
theorem rm_cod_1 (l : Launch) (Z : State) (a0 : Array Value) (hw : ∀ d ∈ tables_1, d.before a0 Z = true) (ws : List Jvm.Cond) (a1 : Addr) (k_a1 : ClassId) (by0 : Int32) (h0 : Heap) (n0 : Nat) (Z0 : n0 ≤ h0.size) (V_a1 : Arv Z h0 a1 k_a1 .byte (1 : Int32) [(.int by0)] (.int 0)) :
    MetFree l (⟨"java/lang/StringUTF16", "coderFromArrayLen", "([BI)B"⟩ : MethodName) (head1 (Jvm.Cond.code (⟨"java/lang/StringUTF16", "coderFromArrayLen", "([BI)B"⟩ : MethodName) jdk_52_method_15_code 2 (some .byte) :: ws) ({ frames := 0, cells := 0, slots := 0, locals := 0 } : Room)) (fun a U => a = #[(.ref a1), (.int 1)] ∧ Z.Warmed39 U.vm ∧ U.heap = h0) (fun _ _ _ _ _ => True) (fun _ U o U' => ∃ v L, o = .returned v ∧ Q_cod_1 Z a1 k_a1 by0 h0 n0 v U'.heap L ∧ FrameEnd U o U' L ({ frames := 0, cells := 0, slots := 0, locals := 0 } : Room).cells ({ frames := 0, cells := 0, slots := 0, locals := 0 } : Room).slots) := by
  refine MetFree.of_bodySF (plainFor_of_name pn_7) hisR ?_
  intro p e s m args below meth c s₁ Bd hml0 hP hK
  obtain ⟨rfl, hZ, hh⟩ := hP
  have hx := Bd.exec
  have hby := Bd.bytes
  have hml : c.maxLocals = 2 := hml0
  have hown : s.vm.findClass "java/lang/StringUTF16" = some m.cls := findClass_of_methodNamed Bd.named
  have hnm := (name_of_methodNamed Bd.named Bd.method).1
  have X0 : Stand p l e ({ frames := 0, cells := 0, slots := 0, locals := 0 } : Room) s m #[(.ref a1), (.int 1)] below meth c s₁ [] 0 0 := Stand.of_body Bd
  have e0 : s₁.heap = h0 := by rw [← hh, Bd.state]; rfl
  have N0 := Fr.nil n0
  have pre0 : ∀ t, Steps p.tables e below (s₁.setTop (mkF m 0 #[.val (.ref a1), .val (.int 1)] [])) t → Steps p.tables e below (s₁.setTop (entryFrame m #[(.ref a1), (.int 1)] 2)) t := fun t k => castTop (ef_7_RI m a1 (1 : Int32)) k
  obtain ⟨cl1, Ar1, -, S1, M1, -, -⟩ := id V_a1
  obtain ⟨fs, hr, hrun, hended, hW, hsame⟩ := X0.leave (v := some (.int 0)) (fun h => by rw [Bd.returns] at h; cases h)
  refine ⟨_, _, pre0 _ ?_, hrun, hended, _, _, rfl, ?_, ⟨_, rfl⟩, hW, hsame.mono (by decide) (by decide)⟩
  · show St p e below s₁ (mkF m 0 #[.val (.ref a1), .val (.int 1)] []) _
    refine XS.iloadN X0.here hx rfl (hb hby d7_0) rfl ?_
    show St p e below s₁ (mkF m 1 #[.val (.ref a1), .val (.int 1)] [(.int 1)]) _
    refine XS.aloadN X0.here hx rfl (hb hby d7_1) rfl rfl ?_
    show St p e below s₁ (mkF m 2 #[.val (.ref a1), .val (.int 1)] [(.ref a1), (.int 1)]) _
    refine X0.arraylength hx (by rw [e0]; exact Ar1.1) (State.isArrayOf_alike hZ.alike Ar1.2.1) (g := (mkF m 2 #[.val (.ref a1), .val (.int 1)] [(.ref a1), (.int 1)])) rfl rfl (hb hby d7_2) _ ?_
    rw [len_of S1 M1]
    show St p e below s₁ (mkF m 3 #[.val (.ref a1), .val (.int 1)] [(.int 1), (.int 1)]) _
    refine XS.isub X0.here hx rfl (hb hby d7_3) rfl ?_
    show St p e below s₁ (mkF m 4 #[.val (.ref a1), .val (.int 1)] [(.int ((1 : Int32) - (1 : Int32)))]) _
    rw [(by decide : ((1 : Int32) - (1 : Int32)) = (0 : Int32))]
    show St p e below s₁ (mkF m 4 #[.val (.ref a1), .val (.int 1)] [(.int 0)]) _
    refine XS.bipush X0.here hx rfl (hb hby d7_4) ?_
    show St p e below s₁ (mkF m 6 #[.val (.ref a1), .val (.int 1)] [(.int 31), (.int 0)]) _
    refine XS.iushr X0.here hx rfl (hb hby d7_6) rfl ?_
    show St p e below s₁ (mkF m 7 #[.val (.ref a1), .val (.int 1)] [(.int (((0 : Int32).toUInt32 >>> ((31 : Int32) &&& 31).toUInt32).toInt32))]) _
    rw [(by decide : (((0 : Int32).toUInt32 >>> ((31 : Int32) &&& 31).toUInt32).toInt32) = (0 : Int32))]
    show St p e below s₁ (mkF m 7 #[.val (.ref a1), .val (.int 1)] [(.int 0)]) _
    refine XS.i2b X0.here hx rfl (hb hby d7_7) rfl ?_
    show St p e below s₁ (mkF m 8 #[.val (.ref a1), .val (.int 1)] [(.int ((0 : Int32).toInt8.toInt32))]) _
    rw [(by decide : ((0 : Int32).toInt8.toInt32) = (0 : Int32))]
    show St p e below s₁ (mkF m 8 #[.val (.ref a1), .val (.int 1)] [(.int 0)]) _
    exact retN X0 hx (t := .byte) Bd.returns (by simp) (hb hby d7_8) hr
  · show Q_cod_1 Z a1 k_a1 by0 h0 n0 _ s₁.heap _
    rw [e0]
    exact ⟨rfl, N0, rfl⟩
theorem pd_CII__B_542 : parseMethodDescriptor "([CII)[B" = some ⟨[(.array .char), .int, .int], some (.array .byte)⟩ := by decide +kernel
theorem pd_BI_B_377 : parseMethodDescriptor "([BI)B" = some ⟨[(.array .byte), .int], some .byte⟩ := by decide +kernel
theorem d3_27 : decode jdk_42_method_149_code 27 = .ok (.getstatic 38, 3) := by decide +kernel
theorem d3_30 : decode jdk_42_method_149_code 30 = .ok (.ifCond .eq 28, 3) := by decide +kernel
theorem d3_33 : decode jdk_42_method_149_code 33 = .ok (.aload_n 1, 1) := by decide +kernel
theorem d3_34 : decode jdk_42_method_149_code 34 = .ok (.iload_n 2, 1) := by decide +kernel
theorem d3_35 : decode jdk_42_method_149_code 35 = .ok (.iload_n 3, 1) := by decide +kernel
theorem d3_36 : decode jdk_42_method_149_code 36 = .ok (.invokestatic 177, 3) := by decide +kernel
theorem d3_39 : decode jdk_42_method_149_code 39 = .ok (.astore 5, 2) := by decide +kernel
theorem d3_41 : decode jdk_42_method_149_code 41 = .ok (.aload_n 0, 1) := by decide +kernel
theorem d3_42 : decode jdk_42_method_149_code 42 = .ok (.aload 5, 2) := by decide +kernel
theorem d3_44 : decode jdk_42_method_149_code 44 = .ok (.iload_n 3, 1) := by decide +kernel
theorem d3_45 : decode jdk_42_method_149_code 45 = .ok (.invokestatic 47, 3) := by decide +kernel
theorem d3_48 : decode jdk_42_method_149_code 48 = .ok (.putfield 15, 3) := by decide +kernel
theorem d3_51 : decode jdk_42_method_149_code 51 = .ok (.aload_n 0, 1) := by decide +kernel
theorem d3_52 : decode jdk_42_method_149_code 52 = .ok (.aload 5, 2) := by decide +kernel
theorem d3_54 : decode jdk_42_method_149_code 54 = .ok (.putfield 9, 3) := by decide +kernel
theorem d3_57 : decode jdk_42_method_149_code 57 = .ok (.return_, 1) := by decide +kernel
def Q_new4_1 (Z : State) (a1 : Addr) (a2 : Addr) (w_COMPACT_STRINGS : Int32) (k_a2 : ClassId) (c0 : Int32) (u_a1_coder : Value) (u_a1_value : Value) (h0 : Heap) (n0 : Nat) (v : Option Value) (h : Heap) (L : List Loc) : Prop := ∃ (t : Addr) (kt : ClassId), v = none ∧ Fr n0 L ∧ Keep h0 h [a1] ∧ Exa Z h a1 "java/lang/String" ∧ Fld Z h a1 "java/lang/String" "coder" "B" (.int 0) ∧ Fld Z h a1 "java/lang/String" "value" "[B" (.ref t) ∧ h0.size ≤ t ∧ Arv Z h t kt .byte (1 : Int32) [(.int (c0.toInt8.toInt32))] (.int 0)
set_option maxRecDepth 65536 in
set_option maxHeartbeats 40000000 in
theorem rm_new4_1 (l : Launch) (Z : State) (a0 : Array Value) (hw : ∀ d ∈ tables_1, d.before a0 Z = true) (ws : List Jvm.Cond) (a1 : Addr) (a2 : Addr) (w_COMPACT_STRINGS : Int32) (k_a2 : ClassId) (c0 : Int32) (u_a1_coder : Value) (u_a1_value : Value) (h0 : Heap) (n0 : Nat) (Z0 : n0 ≤ h0.size) (S_COMPACT_STRINGS : Sta Z Z.heap "java/lang/String" "COMPACT_STRINGS" "Z" (.int w_COMPACT_STRINGS)) (hcs : ¬ (w_COMPACT_STRINGS = (0 : Int32))) (V_a2 : Arv Z h0 a2 k_a2 .char (1 : Int32) [(.int c0)] (.int 0)) (hb_c0 : ¬ ((255 : Int32) < c0)) (O0 : Old Z n0 h0) (E_a1 : Exa Z h0 a1 "java/lang/String") (F_a1_coder : Fld Z h0 a1 "java/lang/String" "coder" "B" u_a1_coder) (g_a1 : n0 ≤ a1) (F_a1_value : Fld Z h0 a1 "java/lang/String" "value" "[B" u_a1_value) :
    MetFree l (⟨"java/lang/String", "<init>", "([CIILjava/lang/Void;)V"⟩ : MethodName) (head1 (Jvm.Cond.code (⟨"java/lang/String", "<init>", "([CIILjava/lang/Void;)V"⟩ : MethodName) jdk_42_method_149_code 6 none :: ws) ({ frames := 2, cells := 1, slots := 1, locals := 35 } : Room)) (fun a U => a = #[(.ref a1), (.ref a2), (.int 0), (.int 1), .null] ∧ Z.Warmed39 U.vm ∧ U.heap = h0) (fun _ _ _ _ _ => True) (fun _ U o U' => ∃ v L, o = .returned v ∧ Q_new4_1 Z a1 a2 w_COMPACT_STRINGS k_a2 c0 u_a1_coder u_a1_value h0 n0 v U'.heap L ∧ FrameEnd U o U' L ({ frames := 2, cells := 1, slots := 1, locals := 35 } : Room).cells ({ frames := 2, cells := 1, slots := 1, locals := 35 } : Room).slots) := by
  refine MetFree.of_bodySF (plainFor_of_name pn_3) hisR ?_
  intro p e s m args below meth c s₁ Bd hml0 hP hK
  obtain ⟨rfl, hZ, hh⟩ := hP
  have hx := Bd.exec
  have hby := Bd.bytes
  have hml : c.maxLocals = 6 := hml0
  have hown : s.vm.findClass "java/lang/String" = some m.cls := findClass_of_methodNamed Bd.named
  have hnm := (name_of_methodNamed Bd.named Bd.method).1
  have X0 : Stand p l e ({ frames := 2, cells := 1, slots := 1, locals := 35 } : Room) s m #[(.ref a1), (.ref a2), (.int 0), (.int 1), .null] below meth c s₁ [] 0 0 := Stand.of_body Bd
  have e0 : s₁.heap = h0 := by rw [← hh, Bd.state]; rfl
  have N0 := Fr.nil n0
  have pre0 : ∀ t, Steps p.tables e below (s₁.setTop (mkF m 0 #[.val (.ref a1), .val (.ref a2), .val (.int 0), .val (.int 1), .val .null, .unset] [])) t → Steps p.tables e below (s₁.setTop (entryFrame m #[(.ref a1), (.ref a2), (.int 0), (.int 1), .null] 6)) t := fun t k => castTop (ef_3_RRIIn m a1 a2 (0 : Int32) (1 : Int32)) k
  obtain ⟨T1, X1, e1, st1⟩ := initO X0 hx hZ hown (hwi hw 15 rfl) (hwi hw 16 rfl) (hwi hw 17 rfl) e0 (g := (mkF m 1 #[.val (.ref a1), .val (.ref a2), .val (.int 0), .val (.int 1), .val .null, .unset] [(.ref a1)])) rfl (by rw [hml]; rfl) rfl (hb hby d3_1) (by decide) (W := 0) (by show 2 * 0 + _ ≤ _; exact Nat.le_of_eq rfl) (by decide)
  obtain ⟨T2, X2, e2, st2⟩ := getS2 X1 hx hZ hown (host := "") (Or.inl (hwi hw 26 rfl)) Via.refl e1 (S_COMPACT_STRINGS.ext O0.2) (g := (mkF m 27 #[.val (.ref a1), .val (.ref a2), .val (.int 0), .val (.int 1), .val .null, .unset] [])) rfl (hb hby d3_27)
  obtain ⟨_, _, ⟨T3, L3, k3, n3⟩, -, X3, ⟨Lc3, hQ3, l3, y3, z3⟩, st3⟩ := Jvm.LawKit.callS X2 hx (y := (⟨"java/lang/StringUTF16", "compress", "([CII)[B"⟩ : MethodName)) hown (mvT hZ (hwi hw 27 rfl)) (mvT hZ (hwi hw 28 rfl)) (mvT hZ (hwi hw 29 rfl)) (mvT hZ (hwi hw 30 rfl)) (by decide) (backOf (W := 0) (rm_cmp3_1 l Z a0 hw [] a2 k_a2 c0 h0 n0 Z0 V_a2 hb_c0 O0) hZ (hwi hw 30 rfl) (hwi hw 29 rfl) (by decide) (by decide)) (g := (mkF m 36 #[.val (.ref a1), .val (.ref a2), .val (.int 0), .val (.int 1), .val .null, .unset] [(.int 1), (.int 0), (.ref a2)])) rfl (by rw [hml]; rfl) (argsL := [(.ref a2), (.int 0), (.int 1)]) (rest := []) (lenOf pd_CII__B_542 rfl) rfl (by show 2 * 0 + _ ≤ _; exact Nat.le_of_eq rfl) (hb hby d3_36) (fun _ _ => ⟨rfl, e2, (by decide : 0 + 1 ≤ _), (by decide : 0 + 1 ≤ _)⟩)
  dsimp only [Pt.U, Pt.locs, Pt.cells, Pt.slots] at X3 l3 y3 z3 st3 hQ3
  subst l3 y3 z3
  obtain ⟨t_3, kt_3, rfl, N3q, Kc3, g3_0, g3_1⟩ := hQ3
  have N3 := Fr.app N0 N3q
  have sz4 : h0.size ≤ T3.heap.size := Kc3.1
  have Z4 : n0 ≤ T3.heap.size := Nat.le_trans Z0 sz4
  have O4 := O0.keep Kc3 all0
  have K4 : Keep h0 T3.heap [a1] := (Keep.refl h0 [a1]).trans Kc3 (all0)
  have bn_t_3 : h0.size ≤ t_3 := g3_0
  obtain ⟨_, _, ⟨T5, L5, k5, n5⟩, -, X5, ⟨Lc5, hQ5, l5, y5, z5⟩, st5⟩ := Jvm.LawKit.callS X3 hx (y := (⟨"java/lang/StringUTF16", "coderFromArrayLen", "([BI)B"⟩ : MethodName)) hown (mvT hZ (hwi hw 34 rfl)) (mvT hZ (hwi hw 35 rfl)) (mvT hZ (hwi hw 29 rfl)) (mvT hZ (hwi hw 36 rfl)) (by decide) (backOf (W := 1) (rm_cod_1 l Z a0 hw [] t_3 kt_3 (c0.toInt8.toInt32) T3.heap n0 Z4 g3_1) hZ (hwi hw 36 rfl) (hwi hw 29 rfl) (by decide) (by decide)) (g := (mkF m 45 #[.val (.ref a1), .val (.ref a2), .val (.int 0), .val (.int 1), .val .null, .val (.ref t_3)] [(.int 1), (.ref t_3), (.ref a1)])) rfl (by rw [hml]; rfl) (argsL := [(.ref t_3), (.int 1)]) (rest := [(.ref a1)]) (lenOf pd_BI_B_377 rfl) rfl (by show 2 * 0 + _ ≤ _; exact Nat.le_of_eq rfl) (hb hby d3_45) (fun _ _ => ⟨rfl, rfl, (by decide : 1 + 0 ≤ _), (by decide : 1 + 0 ≤ _)⟩)
  dsimp only [Pt.U, Pt.locs, Pt.cells, Pt.slots] at X5 l5 y5 z5 st5 hQ5
  subst l5 y5 z5
  obtain ⟨rfl, N5q, e5⟩ := hQ5
  have N5 := Fr.app N3 N5q
  have fc6 := (E_a1.keep Kc3)
  have fc7 := (F_a1_coder.keep Kc3 nin0)
  obtain ⟨T8, h8, X8, e8, W8, st8⟩ := putFN X5 hx hZ hown (hwi hw 25 rfl) Via.refl e5 fc7 fc6 (Or.inr ⟨(hwi hw 21 rfl), rfl, hnm⟩) (hwi hw 5 rfl) (ty := .byte) (v' := (.int 0)) (by decide) rfl (by decide) (g := (mkF m 48 #[.val (.ref a1), .val (.ref a2), .val (.int 0), .val (.int 1), .val .null, .val (.ref t_3)] [(.int 0), (.ref a1)])) rfl rfl (hb hby d3_48)
  have N8 := Fr.snoc X8 N5 g_a1
  have Fw8 := fc7.same W8
  have sz9 : T3.heap.size ≤ h8.size := Nat.le_of_eq W8.size.symm
  have Z9 : n0 ≤ h8.size := Nat.le_trans Z4 sz9
  have O9 := O4.wr W8 g_a1
  have K9 : Keep h0 h8 [a1] := K4.wr W8 (Or.inl (List.mem_of_getElem? (i := 0) rfl))
  have fc10 := (fc6.wr W8)
  have fc11 := ((F_a1_value.keep Kc3 nin0).other W8 (Or.inr (slot_ne (Or.inr (hwi hw 20 rfl)) (Or.inr (hwi hw 21 rfl)) (by decide) (t := (.array .byte)) (t' := .byte) (by decide) (by decide))))
  obtain ⟨T12, h12, X12, e12, W12, st12⟩ := putF X8 hx hZ hown (host := "") (Or.inl (hwi hw 24 rfl)) Via.refl e8 fc11 fc10 (Or.inr ⟨(hwi hw 20 rfl), rfl, hnm⟩) (hwi hw 5 rfl) (ty := (.array .byte)) (by decide) rfl rfl (g := (mkF m 54 #[.val (.ref a1), .val (.ref a2), .val (.int 0), .val (.int 1), .val .null, .val (.ref t_3)] [(.ref t_3), (.ref a1)])) rfl rfl (hb hby d3_54)
  have N12 := Fr.snoc X12 N8 g_a1
  have Fw12 := fc11.same W12
  have sz13 : h8.size ≤ h12.size := Nat.le_of_eq W12.size.symm
  have Z13 : n0 ≤ h12.size := Nat.le_trans Z9 sz13
  have O13 := O9.wr W12 g_a1
  have K13 : Keep h0 h12 [a1] := K9.wr W12 (Or.inl (List.mem_of_getElem? (i := 0) rfl))
  have fc14 := (fc10.wr W12)
  have fc15 := (Fw8.other W12 (Or.inr (slot_ne (Or.inr (hwi hw 21 rfl)) (Or.inr (hwi hw 20 rfl)) (by decide) (t := .byte) (t' := (.array .byte)) (by decide) (by decide))))
  have fc16 := ((g3_1.other W8 (neN (by have := ltN E_a1.lt; have := ltN g3_1.lt; omega))).other W12 (neN (by have := ltN E_a1.lt; have := ltN g3_1.lt; omega)))
  obtain ⟨fs, hr, hrun, hended, hW, hsame⟩ := X12.leave (v := none) (fun _ => rfl)
  refine ⟨_, _, pre0 _ ?_, hrun, hended, _, _, rfl, ?_, ⟨_, rfl⟩, hW, hsame.mono (by decide) (by decide)⟩
  · show St p e below s₁ (mkF m 0 #[.val (.ref a1), .val (.ref a2), .val (.int 0), .val (.int 1), .val .null, .unset] []) _
    refine XS.aloadN X0.here hx rfl (hb hby d3_0) rfl rfl ?_
    show St p e below s₁ (mkF m 1 #[.val (.ref a1), .val (.ref a2), .val (.int 0), .val (.int 1), .val .null, .unset] [(.ref a1)]) _
    refine st1 _ ?_
    show St p e below T1 (mkF m 4 #[.val (.ref a1), .val (.ref a2), .val (.int 0), .val (.int 1), .val .null, .unset] []) _
    refine XS.iloadN X1.here hx rfl (hb hby d3_4) rfl ?_
    show St p e below T1 (mkF m 5 #[.val (.ref a1), .val (.ref a2), .val (.int 0), .val (.int 1), .val .null, .unset] [(.int 1)]) _
    refine XS.ifYes X1.here hx rfl (pc0 := 5) (pc' := 27) rfl (hb hby d3_5) rfl ((if0 _ _).trans (feq (by decide : ¬ ((1 : Int32) = (0 : Int32)))).2) (by decide) (by decide) ?_
    show St p e below T1 (mkF m 27 #[.val (.ref a1), .val (.ref a2), .val (.int 0), .val (.int 1), .val .null, .unset] []) _
    refine st2 _ ?_
    show St p e below T2 (mkF m 30 #[.val (.ref a1), .val (.ref a2), .val (.int 0), .val (.int 1), .val .null, .unset] [(.int w_COMPACT_STRINGS)]) _
    refine XS.ifNo X2.here hx rfl (hb hby d3_30) rfl ((if0 _ _).trans (feq hcs).1) ?_
    show St p e below T2 (mkF m 33 #[.val (.ref a1), .val (.ref a2), .val (.int 0), .val (.int 1), .val .null, .unset] []) _
    refine XS.aloadN X2.here hx rfl (hb hby d3_33) rfl rfl ?_
    show St p e below T2 (mkF m 34 #[.val (.ref a1), .val (.ref a2), .val (.int 0), .val (.int 1), .val .null, .unset] [(.ref a2)]) _
    refine XS.iloadN X2.here hx rfl (hb hby d3_34) rfl ?_
    show St p e below T2 (mkF m 35 #[.val (.ref a1), .val (.ref a2), .val (.int 0), .val (.int 1), .val .null, .unset] [(.int 0), (.ref a2)]) _
    refine XS.iloadN X2.here hx rfl (hb hby d3_35) rfl ?_
    show St p e below T2 (mkF m 36 #[.val (.ref a1), .val (.ref a2), .val (.int 0), .val (.int 1), .val .null, .unset] [(.int 1), (.int 0), (.ref a2)]) _
    refine st3 _ ?_
    show St p e below T3 (mkF m 39 #[.val (.ref a1), .val (.ref a2), .val (.int 0), .val (.int 1), .val .null, .unset] [(.ref t_3)]) _
    refine XS.astore X3.here hx rfl (hb hby d3_39) rfl rfl (l' := #[.val (.ref a1), .val (.ref a2), .val (.int 0), .val (.int 1), .val .null, .val (.ref t_3)]) rfl ?_
    show St p e below T3 (mkF m 41 #[.val (.ref a1), .val (.ref a2), .val (.int 0), .val (.int 1), .val .null, .val (.ref t_3)] []) _
    refine XS.aloadN X3.here hx rfl (hb hby d3_41) rfl rfl ?_
    show St p e below T3 (mkF m 42 #[.val (.ref a1), .val (.ref a2), .val (.int 0), .val (.int 1), .val .null, .val (.ref t_3)] [(.ref a1)]) _
    refine XS.aload X3.here hx rfl (hb hby d3_42) rfl rfl ?_
    show St p e below T3 (mkF m 44 #[.val (.ref a1), .val (.ref a2), .val (.int 0), .val (.int 1), .val .null, .val (.ref t_3)] [(.ref t_3), (.ref a1)]) _
    refine XS.iloadN X3.here hx rfl (hb hby d3_44) rfl ?_
    show St p e below T3 (mkF m 45 #[.val (.ref a1), .val (.ref a2), .val (.int 0), .val (.int 1), .val .null, .val (.ref t_3)] [(.int 1), (.ref t_3), (.ref a1)]) _
    refine st5 _ ?_
    show St p e below T5 (mkF m 48 #[.val (.ref a1), .val (.ref a2), .val (.int 0), .val (.int 1), .val .null, .val (.ref t_3)] [(.int 0), (.ref a1)]) _
    refine st8 _ ?_
    show St p e below T8 (mkF m 51 #[.val (.ref a1), .val (.ref a2), .val (.int 0), .val (.int 1), .val .null, .val (.ref t_3)] []) _
    refine XS.aloadN X8.here hx rfl (hb hby d3_51) rfl rfl ?_
    show St p e below T8 (mkF m 52 #[.val (.ref a1), .val (.ref a2), .val (.int 0), .val (.int 1), .val .null, .val (.ref t_3)] [(.ref a1)]) _
    refine XS.aload X8.here hx rfl (hb hby d3_52) rfl rfl ?_
    show St p e below T8 (mkF m 54 #[.val (.ref a1), .val (.ref a2), .val (.int 0), .val (.int 1), .val .null, .val (.ref t_3)] [(.ref t_3), (.ref a1)]) _
    refine st12 _ ?_
    show St p e below T12 (mkF m 57 #[.val (.ref a1), .val (.ref a2), .val (.int 0), .val (.int 1), .val .null, .val (.ref t_3)] []) _
    exact X12.returnOut hx Bd.returns (hb hby d3_57) hr
  · show Q_new4_1 Z a1 a2 w_COMPACT_STRINGS k_a2 c0 u_a1_coder u_a1_value h0 n0 _ T12.heap _
    rw [e12]
    exact ⟨t_3, kt_3, rfl, N12, K13, fc14, fc15, Fw12, bn_t_3, fc16⟩
def Q_new1_1 (Z : State) (a1 : Addr) (a2 : Addr) (w_COMPACT_STRINGS : Int32) (k_a2 : ClassId) (c0 : Int32) (u_a1_coder : Value) (u_a1_value : Value) (h0 : Heap) (n0 : Nat) (v : Option Value) (h : Heap) (L : List Loc) : Prop := ∃ (t : Addr) (kt : ClassId), v = none ∧ Fr n0 L ∧ Keep h0 h [a1] ∧ Exa Z h a1 "java/lang/String" ∧ Fld Z h a1 "java/lang/String" "coder" "B" (.int 0) ∧ Fld Z h a1 "java/lang/String" "value" "[B" (.ref t) ∧ h0.size ≤ t ∧ Arv Z h t kt .byte (1 : Int32) [(.int (c0.toInt8.toInt32))] (.int 0)
set_option maxRecDepth 65536 in
set_option maxHeartbeats 40000000 in
theorem rm_new1_1 (l : Launch) (Z : State) (a0 : Array Value) (hw : ∀ d ∈ tables_1, d.before a0 Z = true) (ws : List Jvm.Cond) (a1 : Addr) (a2 : Addr) (w_COMPACT_STRINGS : Int32) (k_a2 : ClassId) (c0 : Int32) (u_a1_coder : Value) (u_a1_value : Value) (h0 : Heap) (n0 : Nat) (Z0 : n0 ≤ h0.size) (S_COMPACT_STRINGS : Sta Z Z.heap "java/lang/String" "COMPACT_STRINGS" "Z" (.int w_COMPACT_STRINGS)) (hcs : ¬ (w_COMPACT_STRINGS = (0 : Int32))) (V_a2 : Arv Z h0 a2 k_a2 .char (1 : Int32) [(.int c0)] (.int 0)) (hb_c0 : ¬ ((255 : Int32) < c0)) (O0 : Old Z n0 h0) (E_a1 : Exa Z h0 a1 "java/lang/String") (F_a1_coder : Fld Z h0 a1 "java/lang/String" "coder" "B" u_a1_coder) (g_a1 : n0 ≤ a1) (F_a1_value : Fld Z h0 a1 "java/lang/String" "value" "[B" u_a1_value) :
    MetFree l (⟨"java/lang/String", "<init>", "([C)V"⟩ : MethodName) (head1 (Jvm.Cond.code (⟨"java/lang/String", "<init>", "([C)V"⟩ : MethodName) jdk_42_method_3_code 2 none :: ws) ({ frames := 3, cells := 1, slots := 1, locals := 52 } : Room)) (fun a U => a = #[(.ref a1), (.ref a2)] ∧ Z.Warmed39 U.vm ∧ U.heap = h0) (fun _ _ _ _ _ => True) (fun _ U o U' => ∃ v L, o = .returned v ∧ Q_new1_1 Z a1 a2 w_COMPACT_STRINGS k_a2 c0 u_a1_coder u_a1_value h0 n0 v U'.heap L ∧ FrameEnd U o U' L ({ frames := 3, cells := 1, slots := 1, locals := 52 } : Room).cells ({ frames := 3, cells := 1, slots := 1, locals := 52 } : Room).slots) := by
  refine MetFree.of_bodySF (plainFor_of_name pn_2) hisR ?_
  intro p e s m args below meth c s₁ Bd hml0 hP hK
  obtain ⟨rfl, hZ, hh⟩ := hP
  have hx := Bd.exec
  have hby := Bd.bytes
  have hml : c.maxLocals = 2 := hml0
  have hown : s.vm.findClass "java/lang/String" = some m.cls := findClass_of_methodNamed Bd.named
  have hnm := (name_of_methodNamed Bd.named Bd.method).1
  have X0 : Stand p l e ({ frames := 3, cells := 1, slots := 1, locals := 52 } : Room) s m #[(.ref a1), (.ref a2)] below meth c s₁ [] 0 0 := Stand.of_body Bd
  have e0 : s₁.heap = h0 := by rw [← hh, Bd.state]; rfl
  have N0 := Fr.nil n0
  have pre0 : ∀ t, Steps p.tables e below (s₁.setTop (mkF m 0 #[.val (.ref a1), .val (.ref a2)] [])) t → Steps p.tables e below (s₁.setTop (entryFrame m #[(.ref a1), (.ref a2)] 2)) t := fun t k => castTop (ef_2_RR m a1 a2) k
  obtain ⟨cl1, Ar1, -, S1, M1, -, -⟩ := id V_a2
  obtain ⟨_, _, ⟨T2, L2, k2, n2⟩, -, X2, ⟨Lc2, hQ2, l2, y2, z2⟩, st2⟩ := X0.specialBack hx (y := (⟨"java/lang/String", "<init>", "([CIILjava/lang/Void;)V"⟩ : MethodName)) rfl hown (mvT hZ (hwi hw 11 rfl)) (mvT hZ (hwi hw 12 rfl)) (mvT hZ (hwi hw 14 rfl)) (by decide) (backOf (W := 0) (rm_new4_1 l Z a0 hw [] a1 a2 w_COMPACT_STRINGS k_a2 c0 u_a1_coder u_a1_value h0 n0 Z0 S_COMPACT_STRINGS hcs V_a2 hb_c0 O0 E_a1 F_a1_coder g_a1 F_a1_value) hZ (hwi hw 14 rfl) (hwi hw 6 rfl) (by decide) (by decide)) (g := (mkF m 6 #[.val (.ref a1), .val (.ref a2)] [.null, (.int 1), (.int 0), (.ref a2), (.ref a1)])) rfl (by rw [hml]; rfl) (Steps.refl _) (a := a1) (argsL := [(.ref a2), (.int 0), (.int 1), .null]) (rest := []) (lenOf pd_CIILjava_lang_Void__V_938 rfl) rfl (by show 2 * 0 + _ ≤ _; exact Nat.le_of_eq rfl) (hb hby d2_6) (fun _ _ => ⟨rfl, e0, (by decide : 0 + 1 ≤ _), (by decide : 0 + 1 ≤ _)⟩)
  dsimp only [Pt.U, Pt.locs, Pt.cells, Pt.slots] at X2 l2 y2 z2 st2 hQ2
  subst l2 y2 z2
  obtain ⟨t_2, kt_2, rfl, N2q, Kc2, g2_0, g2_1, g2_2, g2_3, g2_4⟩ := hQ2
  have N2 := Fr.app N0 N2q
  have sz3 : h0.size ≤ T2.heap.size := Kc2.1
  have Z3 : n0 ≤ T2.heap.size := Nat.le_trans Z0 sz3
  have O3 := O0.keep Kc2 (allS g_a1 all0)
  have K3 : Keep h0 T2.heap [a1] := (Keep.refl h0 [a1]).trans Kc2 (allS (Or.inl (List.mem_of_getElem? (i := 0) rfl)) (all0))
  have bn_t_2 : h0.size ≤ t_2 := g2_3
  obtain ⟨fs, hr, hrun, hended, hW, hsame⟩ := X2.leave (v := none) (fun _ => rfl)
  refine ⟨_, _, pre0 _ ?_, hrun, hended, _, _, rfl, ?_, ⟨_, rfl⟩, hW, hsame.mono (by decide) (by decide)⟩
  · show St p e below s₁ (mkF m 0 #[.val (.ref a1), .val (.ref a2)] []) _
    refine XS.aloadN X0.here hx rfl (hb hby d2_0) rfl rfl ?_
    show St p e below s₁ (mkF m 1 #[.val (.ref a1), .val (.ref a2)] [(.ref a1)]) _
    refine XS.aloadN X0.here hx rfl (hb hby d2_1) rfl rfl ?_
    show St p e below s₁ (mkF m 2 #[.val (.ref a1), .val (.ref a2)] [(.ref a2), (.ref a1)]) _
    refine XS.iconst X0.here hx rfl (hb hby d2_2) ?_
    show St p e below s₁ (mkF m 3 #[.val (.ref a1), .val (.ref a2)] [(.int 0), (.ref a2), (.ref a1)]) _
    refine XS.aloadN X0.here hx rfl (hb hby d2_3) rfl rfl ?_
    show St p e below s₁ (mkF m 4 #[.val (.ref a1), .val (.ref a2)] [(.ref a2), (.int 0), (.ref a2), (.ref a1)]) _
    refine X0.arraylength hx (by rw [e0]; exact Ar1.1) (State.isArrayOf_alike hZ.alike Ar1.2.1) (g := (mkF m 4 #[.val (.ref a1), .val (.ref a2)] [(.ref a2), (.int 0), (.ref a2), (.ref a1)])) rfl rfl (hb hby d2_4) _ ?_
    rw [len_of S1 M1]
    show St p e below s₁ (mkF m 5 #[.val (.ref a1), .val (.ref a2)] [(.int 1), (.int 0), (.ref a2), (.ref a1)]) _
    refine XS.aconstNull X0.here hx rfl (hb hby d2_5) ?_
    show St p e below s₁ (mkF m 6 #[.val (.ref a1), .val (.ref a2)] [.null, (.int 1), (.int 0), (.ref a2), (.ref a1)]) _
    refine st2.trans ?_
    show St p e below T2 (mkF m 9 #[.val (.ref a1), .val (.ref a2)] []) _
    exact X2.returnOut hx Bd.returns (hb hby d2_9) hr
  · show Q_new1_1 Z a1 a2 w_COMPACT_STRINGS k_a2 c0 u_a1_coder u_a1_value h0 n0 _ T2.heap _
    exact ⟨t_2, kt_2, rfl, N2, K3, g2_0, g2_1, g2_2, bn_t_2, g2_4⟩
def Q_cmp5_2 (Z : State) (a1 : Addr) (a3 : Addr) (k_a1 : ClassId) (c0 : Int32) (c1 : Int32) (k_a3 : ClassId) (h0 : Heap) (n0 : Nat) (v : Option Value) (h : Heap) (L : List Loc) : Prop := v = some (.int 2) ∧ Fr n0 L ∧ Keep h0 h [a3] ∧ Arv Z h a3 k_a3 .byte (2 : Int32) [(.int (c0.toInt8.toInt32)), (.int (c1.toInt8.toInt32))] (.int 0)
set_option maxRecDepth 65536 in
set_option maxHeartbeats 40000000 in
theorem rm_cmp5_2 (l : Launch) (Z : State) (a0 : Array Value) (hw : ∀ d ∈ tables_1, d.before a0 Z = true) (ws : List Jvm.Cond) (a1 : Addr) (a3 : Addr) (k_a1 : ClassId) (c0 : Int32) (c1 : Int32) (k_a3 : ClassId) (h0 : Heap) (n0 : Nat) (Z0 : n0 ≤ h0.size) (V_a1 : Arv Z h0 a1 k_a1 .char (2 : Int32) [(.int c0), (.int c1)] (.int 0)) (V_a3 : Arv Z h0 a3 k_a3 .byte (2 : Int32) [(.int 0), (.int 0)] (.int 0)) (hne : ¬ (a1 = a3)) (hb_c0 : ¬ ((255 : Int32) < c0)) (hb_c1 : ¬ ((255 : Int32) < c1)) (g_a3 : n0 ≤ a3) (O0 : Old Z n0 h0) :
    MetFree l (⟨"java/lang/StringUTF16", "compress", "([CI[BII)I"⟩ : MethodName) (head1 (Jvm.Cond.code (⟨"java/lang/StringUTF16", "compress", "([CI[BII)I"⟩ : MethodName) jdk_52_method_21_code 7 (some .int) :: ws) ({ frames := 0, cells := 0, slots := 0, locals := 0 } : Room)) (fun a U => a = #[(.ref a1), (.int 0), (.ref a3), (.int 0), (.int 2)] ∧ Z.Warmed39 U.vm ∧ U.heap = h0) (fun _ _ _ _ _ => True) (fun _ U o U' => ∃ v L, o = .returned v ∧ Q_cmp5_2 Z a1 a3 k_a1 c0 c1 k_a3 h0 n0 v U'.heap L ∧ FrameEnd U o U' L ({ frames := 0, cells := 0, slots := 0, locals := 0 } : Room).cells ({ frames := 0, cells := 0, slots := 0, locals := 0 } : Room).slots) := by
  refine MetFree.of_bodySF (plainFor_of_name pn_6) hisR ?_
  intro p e s m args below meth c s₁ Bd hml0 hP hK
  obtain ⟨rfl, hZ, hh⟩ := hP
  have hx := Bd.exec
  have hby := Bd.bytes
  have hml : c.maxLocals = 7 := hml0
  have hown : s.vm.findClass "java/lang/StringUTF16" = some m.cls := findClass_of_methodNamed Bd.named
  have hnm := (name_of_methodNamed Bd.named Bd.method).1
  have X0 : Stand p l e ({ frames := 0, cells := 0, slots := 0, locals := 0 } : Room) s m #[(.ref a1), (.int 0), (.ref a3), (.int 0), (.int 2)] below meth c s₁ [] 0 0 := Stand.of_body Bd
  have e0 : s₁.heap = h0 := by rw [← hh, Bd.state]; rfl
  have N0 := Fr.nil n0
  have pre0 : ∀ t, Steps p.tables e below (s₁.setTop (mkF m 0 #[.val (.ref a1), .val (.int 0), .val (.ref a3), .val (.int 0), .val (.int 2), .unset, .unset] [])) t → Steps p.tables e below (s₁.setTop (entryFrame m #[(.ref a1), (.int 0), (.ref a3), (.int 0), (.int 2)] 7)) t := fun t k => castTop (ef_6_RIRII m a1 (0 : Int32) a3 (0 : Int32) (2 : Int32)) k
  obtain ⟨cl1, Ar1, q1, S1, M1, H1, G1⟩ := id V_a1
  have hin1 : ¬ ((0 : Int32) < 0 ∨ cl1.slots.size ≤ ((0 : Int32)).toNatClampNeg) := inb_of S1 ⟨by decide, by decide⟩
  have hat1 : cl1.slots[((0 : Int32)).toNatClampNeg]? = some (.int c0) := H1.at hin1 rfl
  obtain ⟨cl2, Ar2, q2, S2, M2, H2, G2⟩ := id V_a3
  have hin2 : ¬ ((0 : Int32) < 0 ∨ cl2.slots.size ≤ ((0 : Int32)).toNatClampNeg) := inb_of S2 ⟨by decide, by decide⟩
  obtain ⟨T3, h3, X3, e3, W3, st3⟩ := stB X0 hx hZ e0 Ar2 (j := (0 : Int32)) hin2 (g := (mkF m 31 #[.val (.ref a1), .val (.int 0), .val (.ref a3), .val (.int 0), .val (.int 2), .val (.int 0), .val (.int c0)] [(.int (c0.toInt8.toInt32)), (.int 0), (.ref a3)])) rfl rfl (hb hby d6_31)
  have N3 := Fr.snoc X3 N0 g_a3
  have V3 : Arv Z h3 a3 k_a3 .byte (2 : Int32) [(.int ((c0.toInt8.toInt32).toInt8.toInt32)), (.int 0)] (.int 0) := Arv.set Ar2 q2 S2 M2 H2 G2 (fits_nar_byte _) W3 0 rfl (Nat.le_of_ble_eq_true rfl)
  rw [own_bb] at V3
  have sz4 : h0.size ≤ h3.size := Nat.le_of_eq W3.size.symm
  have Z4 : n0 ≤ h3.size := Nat.le_trans Z0 sz4
  have O4 := O0.wr W3 g_a3
  have K4 : Keep h0 h3 [a3] := (Keep.refl h0 [a3]).wr W3 (Or.inl (List.mem_of_getElem? (i := 0) rfl))
  have fc5 := (V_a1.other W3 (fun q => hne q))
  obtain ⟨cl6, Ar6, q6, S6, M6, H6, G6⟩ := id fc5
  have hin6 : ¬ ((1 : Int32) < 0 ∨ cl6.slots.size ≤ ((1 : Int32)).toNatClampNeg) := inb_of S6 ⟨by decide, by decide⟩
  have hat6 : cl6.slots[((1 : Int32)).toNatClampNeg]? = some (.int c1) := H6.at hin6 rfl
  obtain ⟨cl7, Ar7, q7, S7, M7, H7, G7⟩ := id V3
  have hin7 : ¬ ((1 : Int32) < 0 ∨ cl7.slots.size ≤ ((1 : Int32)).toNatClampNeg) := inb_of S7 ⟨by decide, by decide⟩
  obtain ⟨T8, h8, X8, e8, W8, st8⟩ := stB X3 hx hZ e3 Ar7 (j := (1 : Int32)) hin7 (g := (mkF m 31 #[.val (.ref a1), .val (.int 1), .val (.ref a3), .val (.int 1), .val (.int 2), .val (.int 1), .val (.int c1)] [(.int (c1.toInt8.toInt32)), (.int 1), (.ref a3)])) rfl rfl (hb hby d6_31)
  have N8 := Fr.snoc X8 N3 g_a3
  have V8 : Arv Z h8 a3 k_a3 .byte (2 : Int32) [(.int (c0.toInt8.toInt32)), (.int ((c1.toInt8.toInt32).toInt8.toInt32))] (.int 0) := Arv.set Ar7 q7 S7 M7 H7 G7 (fits_nar_byte _) W8 1 rfl (Nat.le_of_ble_eq_true rfl)
  rw [own_bb] at V8
  have sz9 : h3.size ≤ h8.size := Nat.le_of_eq W8.size.symm
  have Z9 : n0 ≤ h8.size := Nat.le_trans Z4 sz9
  have O9 := O4.wr W8 g_a3
  have K9 : Keep h0 h8 [a3] := K4.wr W8 (Or.inl (List.mem_of_getElem? (i := 0) rfl))
  obtain ⟨fs, hr, hrun, hended, hW, hsame⟩ := X8.leave (v := some (.int 2)) (fun h => by rw [Bd.returns] at h; cases h)
  refine ⟨_, _, pre0 _ ?_, hrun, hended, _, _, rfl, ?_, ⟨_, rfl⟩, hW, hsame.mono (by decide) (by decide)⟩
  · show St p e below s₁ (mkF m 0 #[.val (.ref a1), .val (.int 0), .val (.ref a3), .val (.int 0), .val (.int 2), .unset, .unset] []) _
    refine XS.iconst X0.here hx rfl (hb hby d6_0) ?_
    show St p e below s₁ (mkF m 1 #[.val (.ref a1), .val (.int 0), .val (.ref a3), .val (.int 0), .val (.int 2), .unset, .unset] [(.int 0)]) _
    refine XS.istore X0.here hx rfl (hb hby d6_1) rfl (l' := #[.val (.ref a1), .val (.int 0), .val (.ref a3), .val (.int 0), .val (.int 2), .val (.int 0), .unset]) rfl ?_
    show St p e below s₁ (mkF m 3 #[.val (.ref a1), .val (.int 0), .val (.ref a3), .val (.int 0), .val (.int 2), .val (.int 0), .unset] []) _
    refine XS.iload X0.here hx rfl (hb hby d6_3) rfl ?_
    show St p e below s₁ (mkF m 5 #[.val (.ref a1), .val (.int 0), .val (.ref a3), .val (.int 0), .val (.int 2), .val (.int 0), .unset] [(.int 0)]) _
    refine XS.iload X0.here hx rfl (hb hby d6_5) rfl ?_
    show St p e below s₁ (mkF m 7 #[.val (.ref a1), .val (.int 0), .val (.ref a3), .val (.int 0), .val (.int 2), .val (.int 0), .unset] [(.int 2), (.int 0)]) _
    refine XS.icmpNo X0.here hx rfl (hb hby d6_7) rfl (tlt (by decide : (0 : Int32) < (2 : Int32))).2.1 ?_
    show St p e below s₁ (mkF m 10 #[.val (.ref a1), .val (.int 0), .val (.ref a3), .val (.int 0), .val (.int 2), .val (.int 0), .unset] []) _
    refine XS.aloadN X0.here hx rfl (hb hby d6_10) rfl rfl ?_
    show St p e below s₁ (mkF m 11 #[.val (.ref a1), .val (.int 0), .val (.ref a3), .val (.int 0), .val (.int 2), .val (.int 0), .unset] [(.ref a1)]) _
    refine XS.iloadN X0.here hx rfl (hb hby d6_11) rfl ?_
    show St p e below s₁ (mkF m 12 #[.val (.ref a1), .val (.int 0), .val (.ref a3), .val (.int 0), .val (.int 2), .val (.int 0), .unset] [(.int 0), (.ref a1)]) _
    refine X0.caload hx (j := (0 : Int32)) (v := (.int c0)) (by rw [e0]; exact Ar1.1) (State.isArrayOf_alike hZ.alike Ar1.2.1) Ar1.2.2 hin1 hat1 (g := (mkF m 12 #[.val (.ref a1), .val (.int 0), .val (.ref a3), .val (.int 0), .val (.int 2), .val (.int 0), .unset] [(.int 0), (.ref a1)])) rfl rfl (hb hby d6_12) _ ?_
    show St p e below s₁ (mkF m 13 #[.val (.ref a1), .val (.int 0), .val (.ref a3), .val (.int 0), .val (.int 2), .val (.int 0), .unset] [(.int c0)]) _
    refine XS.istore X0.here hx rfl (hb hby d6_13) rfl (l' := #[.val (.ref a1), .val (.int 0), .val (.ref a3), .val (.int 0), .val (.int 2), .val (.int 0), .val (.int c0)]) rfl ?_
    show St p e below s₁ (mkF m 15 #[.val (.ref a1), .val (.int 0), .val (.ref a3), .val (.int 0), .val (.int 2), .val (.int 0), .val (.int c0)] []) _
    refine XS.iload X0.here hx rfl (hb hby d6_15) rfl ?_
    show St p e below s₁ (mkF m 17 #[.val (.ref a1), .val (.int 0), .val (.ref a3), .val (.int 0), .val (.int 2), .val (.int 0), .val (.int c0)] [(.int c0)]) _
    refine XS.sipush X0.here hx rfl (hb hby d6_17) ?_
    show St p e below s₁ (mkF m 20 #[.val (.ref a1), .val (.int 0), .val (.ref a3), .val (.int 0), .val (.int 2), .val (.int 0), .val (.int c0)] [(.int 255), (.int c0)]) _
    refine XS.icmpYes X0.here hx rfl (pc0 := 20) (pc' := 26) rfl (hb hby d6_20) rfl (flt hb_c0).2.2.2 (by decide) (by decide) ?_
    show St p e below s₁ (mkF m 26 #[.val (.ref a1), .val (.int 0), .val (.ref a3), .val (.int 0), .val (.int 2), .val (.int 0), .val (.int c0)] []) _
    refine XS.aloadN X0.here hx rfl (hb hby d6_26) rfl rfl ?_
    show St p e below s₁ (mkF m 27 #[.val (.ref a1), .val (.int 0), .val (.ref a3), .val (.int 0), .val (.int 2), .val (.int 0), .val (.int c0)] [(.ref a3)]) _
    refine XS.iloadN X0.here hx rfl (hb hby d6_27) rfl ?_
    show St p e below s₁ (mkF m 28 #[.val (.ref a1), .val (.int 0), .val (.ref a3), .val (.int 0), .val (.int 2), .val (.int 0), .val (.int c0)] [(.int 0), (.ref a3)]) _
    refine XS.iload X0.here hx rfl (hb hby d6_28) rfl ?_
    show St p e below s₁ (mkF m 30 #[.val (.ref a1), .val (.int 0), .val (.ref a3), .val (.int 0), .val (.int 2), .val (.int 0), .val (.int c0)] [(.int c0), (.int 0), (.ref a3)]) _
    refine XS.i2b X0.here hx rfl (hb hby d6_30) rfl ?_
    show St p e below s₁ (mkF m 31 #[.val (.ref a1), .val (.int 0), .val (.ref a3), .val (.int 0), .val (.int 2), .val (.int 0), .val (.int c0)] [(.int (c0.toInt8.toInt32)), (.int 0), (.ref a3)]) _
    refine st3 _ ?_
    show St p e below T3 (mkF m 32 #[.val (.ref a1), .val (.int 0), .val (.ref a3), .val (.int 0), .val (.int 2), .val (.int 0), .val (.int c0)] []) _
    refine XS.iinc X3.here hx rfl (hb hby d6_32) rfl (l' := #[.val (.ref a1), .val (.int ((0 : Int32) + (1 : Int32))), .val (.ref a3), .val (.int 0), .val (.int 2), .val (.int 0), .val (.int c0)]) rfl ?_
    show St p e below T3 (mkF m 35 #[.val (.ref a1), .val (.int ((0 : Int32) + (1 : Int32))), .val (.ref a3), .val (.int 0), .val (.int 2), .val (.int 0), .val (.int c0)] []) _
    rw [(by decide : ((0 : Int32) + (1 : Int32)) = (1 : Int32))]
    show St p e below T3 (mkF m 35 #[.val (.ref a1), .val (.int 1), .val (.ref a3), .val (.int 0), .val (.int 2), .val (.int 0), .val (.int c0)] []) _
    refine XS.iinc X3.here hx rfl (hb hby d6_35) rfl (l' := #[.val (.ref a1), .val (.int 1), .val (.ref a3), .val (.int ((0 : Int32) + (1 : Int32))), .val (.int 2), .val (.int 0), .val (.int c0)]) rfl ?_
    show St p e below T3 (mkF m 38 #[.val (.ref a1), .val (.int 1), .val (.ref a3), .val (.int ((0 : Int32) + (1 : Int32))), .val (.int 2), .val (.int 0), .val (.int c0)] []) _
    rw [(by decide : ((0 : Int32) + (1 : Int32)) = (1 : Int32))]
    show St p e below T3 (mkF m 38 #[.val (.ref a1), .val (.int 1), .val (.ref a3), .val (.int 1), .val (.int 2), .val (.int 0), .val (.int c0)] []) _
    refine XS.iinc X3.here hx rfl (hb hby d6_38) rfl (l' := #[.val (.ref a1), .val (.int 1), .val (.ref a3), .val (.int 1), .val (.int 2), .val (.int ((0 : Int32) + (1 : Int32))), .val (.int c0)]) rfl ?_
    show St p e below T3 (mkF m 41 #[.val (.ref a1), .val (.int 1), .val (.ref a3), .val (.int 1), .val (.int 2), .val (.int ((0 : Int32) + (1 : Int32))), .val (.int c0)] []) _
    rw [(by decide : ((0 : Int32) + (1 : Int32)) = (1 : Int32))]
    show St p e below T3 (mkF m 41 #[.val (.ref a1), .val (.int 1), .val (.ref a3), .val (.int 1), .val (.int 2), .val (.int 1), .val (.int c0)] []) _
    refine XS.goto X3.here hx rfl (pc0 := 41) (pc' := 3) rfl (hb hby d6_41) (by decide) (by decide) ?_
    show St p e below T3 (mkF m 3 #[.val (.ref a1), .val (.int 1), .val (.ref a3), .val (.int 1), .val (.int 2), .val (.int 1), .val (.int c0)] []) _
    refine XS.iload X3.here hx rfl (hb hby d6_3) rfl ?_
    show St p e below T3 (mkF m 5 #[.val (.ref a1), .val (.int 1), .val (.ref a3), .val (.int 1), .val (.int 2), .val (.int 1), .val (.int c0)] [(.int 1)]) _
    refine XS.iload X3.here hx rfl (hb hby d6_5) rfl ?_
    show St p e below T3 (mkF m 7 #[.val (.ref a1), .val (.int 1), .val (.ref a3), .val (.int 1), .val (.int 2), .val (.int 1), .val (.int c0)] [(.int 2), (.int 1)]) _
    refine XS.icmpNo X3.here hx rfl (hb hby d6_7) rfl (tlt (by decide : (1 : Int32) < (2 : Int32))).2.1 ?_
    show St p e below T3 (mkF m 10 #[.val (.ref a1), .val (.int 1), .val (.ref a3), .val (.int 1), .val (.int 2), .val (.int 1), .val (.int c0)] []) _
    refine XS.aloadN X3.here hx rfl (hb hby d6_10) rfl rfl ?_
    show St p e below T3 (mkF m 11 #[.val (.ref a1), .val (.int 1), .val (.ref a3), .val (.int 1), .val (.int 2), .val (.int 1), .val (.int c0)] [(.ref a1)]) _
    refine XS.iloadN X3.here hx rfl (hb hby d6_11) rfl ?_
    show St p e below T3 (mkF m 12 #[.val (.ref a1), .val (.int 1), .val (.ref a3), .val (.int 1), .val (.int 2), .val (.int 1), .val (.int c0)] [(.int 1), (.ref a1)]) _
    refine X3.caload hx (j := (1 : Int32)) (v := (.int c1)) (by rw [e3]; exact Ar6.1) (State.isArrayOf_alike hZ.alike Ar6.2.1) Ar6.2.2 hin6 hat6 (g := (mkF m 12 #[.val (.ref a1), .val (.int 1), .val (.ref a3), .val (.int 1), .val (.int 2), .val (.int 1), .val (.int c0)] [(.int 1), (.ref a1)])) rfl rfl (hb hby d6_12) _ ?_
    show St p e below T3 (mkF m 13 #[.val (.ref a1), .val (.int 1), .val (.ref a3), .val (.int 1), .val (.int 2), .val (.int 1), .val (.int c0)] [(.int c1)]) _
    refine XS.istore X3.here hx rfl (hb hby d6_13) rfl (l' := #[.val (.ref a1), .val (.int 1), .val (.ref a3), .val (.int 1), .val (.int 2), .val (.int 1), .val (.int c1)]) rfl ?_
    show St p e below T3 (mkF m 15 #[.val (.ref a1), .val (.int 1), .val (.ref a3), .val (.int 1), .val (.int 2), .val (.int 1), .val (.int c1)] []) _
    refine XS.iload X3.here hx rfl (hb hby d6_15) rfl ?_
    show St p e below T3 (mkF m 17 #[.val (.ref a1), .val (.int 1), .val (.ref a3), .val (.int 1), .val (.int 2), .val (.int 1), .val (.int c1)] [(.int c1)]) _
    refine XS.sipush X3.here hx rfl (hb hby d6_17) ?_
    show St p e below T3 (mkF m 20 #[.val (.ref a1), .val (.int 1), .val (.ref a3), .val (.int 1), .val (.int 2), .val (.int 1), .val (.int c1)] [(.int 255), (.int c1)]) _
    refine XS.icmpYes X3.here hx rfl (pc0 := 20) (pc' := 26) rfl (hb hby d6_20) rfl (flt hb_c1).2.2.2 (by decide) (by decide) ?_
    show St p e below T3 (mkF m 26 #[.val (.ref a1), .val (.int 1), .val (.ref a3), .val (.int 1), .val (.int 2), .val (.int 1), .val (.int c1)] []) _
    refine XS.aloadN X3.here hx rfl (hb hby d6_26) rfl rfl ?_
    show St p e below T3 (mkF m 27 #[.val (.ref a1), .val (.int 1), .val (.ref a3), .val (.int 1), .val (.int 2), .val (.int 1), .val (.int c1)] [(.ref a3)]) _
    refine XS.iloadN X3.here hx rfl (hb hby d6_27) rfl ?_
    show St p e below T3 (mkF m 28 #[.val (.ref a1), .val (.int 1), .val (.ref a3), .val (.int 1), .val (.int 2), .val (.int 1), .val (.int c1)] [(.int 1), (.ref a3)]) _
    refine XS.iload X3.here hx rfl (hb hby d6_28) rfl ?_
    show St p e below T3 (mkF m 30 #[.val (.ref a1), .val (.int 1), .val (.ref a3), .val (.int 1), .val (.int 2), .val (.int 1), .val (.int c1)] [(.int c1), (.int 1), (.ref a3)]) _
    refine XS.i2b X3.here hx rfl (hb hby d6_30) rfl ?_
    show St p e below T3 (mkF m 31 #[.val (.ref a1), .val (.int 1), .val (.ref a3), .val (.int 1), .val (.int 2), .val (.int 1), .val (.int c1)] [(.int (c1.toInt8.toInt32)), (.int 1), (.ref a3)]) _
    refine st8 _ ?_
    show St p e below T8 (mkF m 32 #[.val (.ref a1), .val (.int 1), .val (.ref a3), .val (.int 1), .val (.int 2), .val (.int 1), .val (.int c1)] []) _
    refine XS.iinc X8.here hx rfl (hb hby d6_32) rfl (l' := #[.val (.ref a1), .val (.int ((1 : Int32) + (1 : Int32))), .val (.ref a3), .val (.int 1), .val (.int 2), .val (.int 1), .val (.int c1)]) rfl ?_
    show St p e below T8 (mkF m 35 #[.val (.ref a1), .val (.int ((1 : Int32) + (1 : Int32))), .val (.ref a3), .val (.int 1), .val (.int 2), .val (.int 1), .val (.int c1)] []) _
    rw [(by decide : ((1 : Int32) + (1 : Int32)) = (2 : Int32))]
    show St p e below T8 (mkF m 35 #[.val (.ref a1), .val (.int 2), .val (.ref a3), .val (.int 1), .val (.int 2), .val (.int 1), .val (.int c1)] []) _
    refine XS.iinc X8.here hx rfl (hb hby d6_35) rfl (l' := #[.val (.ref a1), .val (.int 2), .val (.ref a3), .val (.int ((1 : Int32) + (1 : Int32))), .val (.int 2), .val (.int 1), .val (.int c1)]) rfl ?_
    show St p e below T8 (mkF m 38 #[.val (.ref a1), .val (.int 2), .val (.ref a3), .val (.int ((1 : Int32) + (1 : Int32))), .val (.int 2), .val (.int 1), .val (.int c1)] []) _
    rw [(by decide : ((1 : Int32) + (1 : Int32)) = (2 : Int32))]
    show St p e below T8 (mkF m 38 #[.val (.ref a1), .val (.int 2), .val (.ref a3), .val (.int 2), .val (.int 2), .val (.int 1), .val (.int c1)] []) _
    refine XS.iinc X8.here hx rfl (hb hby d6_38) rfl (l' := #[.val (.ref a1), .val (.int 2), .val (.ref a3), .val (.int 2), .val (.int 2), .val (.int ((1 : Int32) + (1 : Int32))), .val (.int c1)]) rfl ?_
    show St p e below T8 (mkF m 41 #[.val (.ref a1), .val (.int 2), .val (.ref a3), .val (.int 2), .val (.int 2), .val (.int ((1 : Int32) + (1 : Int32))), .val (.int c1)] []) _
    rw [(by decide : ((1 : Int32) + (1 : Int32)) = (2 : Int32))]
    show St p e below T8 (mkF m 41 #[.val (.ref a1), .val (.int 2), .val (.ref a3), .val (.int 2), .val (.int 2), .val (.int 2), .val (.int c1)] []) _
    refine XS.goto X8.here hx rfl (pc0 := 41) (pc' := 3) rfl (hb hby d6_41) (by decide) (by decide) ?_
    show St p e below T8 (mkF m 3 #[.val (.ref a1), .val (.int 2), .val (.ref a3), .val (.int 2), .val (.int 2), .val (.int 2), .val (.int c1)] []) _
    refine XS.iload X8.here hx rfl (hb hby d6_3) rfl ?_
    show St p e below T8 (mkF m 5 #[.val (.ref a1), .val (.int 2), .val (.ref a3), .val (.int 2), .val (.int 2), .val (.int 2), .val (.int c1)] [(.int 2)]) _
    refine XS.iload X8.here hx rfl (hb hby d6_5) rfl ?_
    show St p e below T8 (mkF m 7 #[.val (.ref a1), .val (.int 2), .val (.ref a3), .val (.int 2), .val (.int 2), .val (.int 2), .val (.int c1)] [(.int 2), (.int 2)]) _
    refine XS.icmpYes X8.here hx rfl (pc0 := 7) (pc' := 44) rfl (hb hby d6_7) rfl (flt (by decide : ¬ ((2 : Int32) < (2 : Int32)))).2.1 (by decide) (by decide) ?_
    show St p e below T8 (mkF m 44 #[.val (.ref a1), .val (.int 2), .val (.ref a3), .val (.int 2), .val (.int 2), .val (.int 2), .val (.int c1)] []) _
    refine XS.iload X8.here hx rfl (hb hby d6_44) rfl ?_
    show St p e below T8 (mkF m 46 #[.val (.ref a1), .val (.int 2), .val (.ref a3), .val (.int 2), .val (.int 2), .val (.int 2), .val (.int c1)] [(.int 2)]) _
    exact retI X8 hx Bd.returns (hb hby d6_46) hr
  · show Q_cmp5_2 Z a1 a3 k_a1 c0 c1 k_a3 h0 n0 _ T8.heap _
    rw [e8]
    exact ⟨rfl, N8, K9, V8⟩
def Q_cmp3_2 (Z : State) (a1 : Addr) (k_a1 : ClassId) (c0 : Int32) (c1 : Int32) (h0 : Heap) (n0 : Nat) (v : Option Value) (h : Heap) (L : List Loc) : Prop := ∃ (t : Addr) (kt : ClassId), v = some (.ref t) ∧ Fr n0 L ∧ Keep h0 h [] ∧ h0.size ≤ t ∧ Arv Z h t kt .byte (2 : Int32) [(.int (c0.toInt8.toInt32)), (.int (c1.toInt8.toInt32))] (.int 0)
set_option maxRecDepth 65536 in
set_option maxHeartbeats 40000000 in
theorem rm_cmp3_2 (l : Launch) (Z : State) (a0 : Array Value) (hw : ∀ d ∈ tables_1, d.before a0 Z = true) (ws : List Jvm.Cond) (a1 : Addr) (k_a1 : ClassId) (c0 : Int32) (c1 : Int32) (h0 : Heap) (n0 : Nat) (Z0 : n0 ≤ h0.size) (V_a1 : Arv Z h0 a1 k_a1 .char (2 : Int32) [(.int c0), (.int c1)] (.int 0)) (hb_c0 : ¬ ((255 : Int32) < c0)) (hb_c1 : ¬ ((255 : Int32) < c1)) (O0 : Old Z n0 h0) :
    MetFree l (⟨"java/lang/StringUTF16", "compress", "([CII)[B"⟩ : MethodName) (head1 (Jvm.Cond.code (⟨"java/lang/StringUTF16", "compress", "([CII)[B"⟩ : MethodName) jdk_52_method_16_code 6 (some (.array .byte)) :: ws) ({ frames := 1, cells := 1, slots := 2, locals := 18 } : Room)) (fun a U => a = #[(.ref a1), (.int 0), (.int 2)] ∧ Z.Warmed39 U.vm ∧ U.heap = h0) (fun _ _ _ _ _ => True) (fun _ U o U' => ∃ v L, o = .returned v ∧ Q_cmp3_2 Z a1 k_a1 c0 c1 h0 n0 v U'.heap L ∧ FrameEnd U o U' L ({ frames := 1, cells := 1, slots := 2, locals := 18 } : Room).cells ({ frames := 1, cells := 1, slots := 2, locals := 18 } : Room).slots) := by
  refine MetFree.of_bodySF (plainFor_of_name pn_5) hisR ?_
  intro p e s m args below meth c s₁ Bd hml0 hP hK
  obtain ⟨rfl, hZ, hh⟩ := hP
  have hx := Bd.exec
  have hby := Bd.bytes
  have hml : c.maxLocals = 6 := hml0
  have hown : s.vm.findClass "java/lang/StringUTF16" = some m.cls := findClass_of_methodNamed Bd.named
  have hnm := (name_of_methodNamed Bd.named Bd.method).1
  have X0 : Stand p l e ({ frames := 1, cells := 1, slots := 2, locals := 18 } : Room) s m #[(.ref a1), (.int 0), (.int 2)] below meth c s₁ [] 0 0 := Stand.of_body Bd
  have e0 : s₁.heap = h0 := by rw [← hh, Bd.state]; rfl
  have N0 := Fr.nil n0
  have pre0 : ∀ t, Steps p.tables e below (s₁.setTop (mkF m 0 #[.val (.ref a1), .val (.int 0), .val (.int 2), .unset, .unset, .unset] [])) t → Steps p.tables e below (s₁.setTop (entryFrame m #[(.ref a1), (.int 0), (.int 2)] 6)) t := fun t k => castTop (ef_5_RII m a1 (0 : Int32) (2 : Int32)) k
  obtain ⟨T1, h1, k1, X1, e1, E1, A1, st1⟩ := newP X0 hx hZ (hwi hw 19 rfl) e0 (g := (mkF m 1 #[.val (.ref a1), .val (.int 0), .val (.int 2), .unset, .unset, .unset] [(.int 2)])) rfl (hb hby d5_1) rfl (by decide) (cap := 2) (by decide) (by decide) (by decide) (by decide)
  obtain ⟨b1, g1⟩ : ∃ z, z = h0.size := ⟨_, rfl⟩
  rw [← g1] at A1 st1
  have bn_b1 : h0.size ≤ b1 := Nat.le_of_eq g1.symm
  have sz2 : h0.size ≤ h1.size := E1.1
  have Z2 : n0 ≤ h1.size := Nat.le_trans Z0 sz2
  have O2 := O0.ext E1
  have K2 : Keep h0 h1 [] := (Keep.refl h0 []).ext E1
  have V1 : Arv Z h1 b1 k1 .byte (2 : Int32) [(.int 0), (.int 0)] (.int 0) := (Arv.new A1 (by decide)).pad (pad_rep [] (.int 0) 2)
  have fc4 := (V_a1.ext E1)
  obtain ⟨_, _, ⟨T3, L3, k3, n3⟩, -, X3, ⟨Lc3, hQ3, l3, y3, z3⟩, st3⟩ := Jvm.LawKit.callS X1 hx (y := (⟨"java/lang/StringUTF16", "compress", "([CI[BII)I"⟩ : MethodName)) hown (mvT hZ (hwi hw 31 rfl)) (mvT hZ (hwi hw 32 rfl)) (mvT hZ (hwi hw 29 rfl)) (mvT hZ (hwi hw 33 rfl)) (by decide) (backOf (W := 0) (rm_cmp5_2 l Z a0 hw [] a1 b1 k_a1 c0 c1 k1 h1 n0 Z2 fc4 V1 (neN (by have := ltN V_a1.lt; have := ltN V1.lt; omega)) hb_c0 hb_c1 (Nat.le_trans Z0 bn_b1) O2) hZ (hwi hw 33 rfl) (hwi hw 29 rfl) (by decide) (by decide)) (g := (mkF m 9 #[.val (.ref a1), .val (.int 0), .val (.int 2), .val (.ref b1), .unset, .unset] [(.int 2), (.int 0), (.ref b1), (.int 0), (.ref a1)])) rfl (by rw [hml]; rfl) (argsL := [(.ref a1), (.int 0), (.ref b1), (.int 0), (.int 2)]) (rest := []) (lenOf pd_CI_BII_I_688 rfl) rfl (by show 2 * 0 + _ ≤ _; exact Nat.le_of_eq rfl) (hb hby d5_9) (fun _ _ => ⟨rfl, e1, (by decide : 1 + 0 ≤ _), (by decide : 2 + 0 ≤ _)⟩)
  dsimp only [Pt.U, Pt.locs, Pt.cells, Pt.slots] at X3 l3 y3 z3 st3 hQ3
  subst l3 y3 z3
  obtain ⟨rfl, N3q, Kc3, g3_0⟩ := hQ3
  have N3 := Fr.app N0 N3q
  have sz5 : h1.size ≤ T3.heap.size := Kc3.1
  have Z5 : n0 ≤ T3.heap.size := Nat.le_trans Z2 sz5
  have O5 := O2.keep Kc3 (allS (Nat.le_trans Z0 bn_b1) all0)
  have K5 : Keep h0 T3.heap [] := K2.trans Kc3 (allS (Or.inr bn_b1) (all0))
  obtain ⟨fs, hr, hrun, hended, hW, hsame⟩ := X3.leave (v := some (.ref b1)) (fun h => by rw [Bd.returns] at h; cases h)
  refine ⟨_, _, pre0 _ ?_, hrun, hended, _, _, rfl, ?_, ⟨_, rfl⟩, hW, hsame.mono (by decide) (by decide)⟩
  · show St p e below s₁ (mkF m 0 #[.val (.ref a1), .val (.int 0), .val (.int 2), .unset, .unset, .unset] []) _
    refine XS.iloadN X0.here hx rfl (hb hby d5_0) rfl ?_
    show St p e below s₁ (mkF m 1 #[.val (.ref a1), .val (.int 0), .val (.int 2), .unset, .unset, .unset] [(.int 2)]) _
    refine st1 _ ?_
    show St p e below T1 (mkF m 3 #[.val (.ref a1), .val (.int 0), .val (.int 2), .unset, .unset, .unset] [(.ref b1)]) _
    refine XS.astoreN X1.here hx rfl (hb hby d5_3) rfl rfl (l' := #[.val (.ref a1), .val (.int 0), .val (.int 2), .val (.ref b1), .unset, .unset]) rfl ?_
    show St p e below T1 (mkF m 4 #[.val (.ref a1), .val (.int 0), .val (.int 2), .val (.ref b1), .unset, .unset] []) _
    refine XS.aloadN X1.here hx rfl (hb hby d5_4) rfl rfl ?_
    show St p e below T1 (mkF m 5 #[.val (.ref a1), .val (.int 0), .val (.int 2), .val (.ref b1), .unset, .unset] [(.ref a1)]) _
    refine XS.iloadN X1.here hx rfl (hb hby d5_5) rfl ?_
    show St p e below T1 (mkF m 6 #[.val (.ref a1), .val (.int 0), .val (.int 2), .val (.ref b1), .unset, .unset] [(.int 0), (.ref a1)]) _
    refine XS.aloadN X1.here hx rfl (hb hby d5_6) rfl rfl ?_
    show St p e below T1 (mkF m 7 #[.val (.ref a1), .val (.int 0), .val (.int 2), .val (.ref b1), .unset, .unset] [(.ref b1), (.int 0), (.ref a1)]) _
    refine XS.iconst X1.here hx rfl (hb hby d5_7) ?_
    show St p e below T1 (mkF m 8 #[.val (.ref a1), .val (.int 0), .val (.int 2), .val (.ref b1), .unset, .unset] [(.int 0), (.ref b1), (.int 0), (.ref a1)]) _
    refine XS.iloadN X1.here hx rfl (hb hby d5_8) rfl ?_
    show St p e below T1 (mkF m 9 #[.val (.ref a1), .val (.int 0), .val (.int 2), .val (.ref b1), .unset, .unset] [(.int 2), (.int 0), (.ref b1), (.int 0), (.ref a1)]) _
    refine st3 _ ?_
    show St p e below T3 (mkF m 12 #[.val (.ref a1), .val (.int 0), .val (.int 2), .val (.ref b1), .unset, .unset] [(.int 2)]) _
    refine XS.istore X3.here hx rfl (hb hby d5_12) rfl (l' := #[.val (.ref a1), .val (.int 0), .val (.int 2), .val (.ref b1), .val (.int 2), .unset]) rfl ?_
    show St p e below T3 (mkF m 14 #[.val (.ref a1), .val (.int 0), .val (.int 2), .val (.ref b1), .val (.int 2), .unset] []) _
    refine XS.iload X3.here hx rfl (hb hby d5_14) rfl ?_
    show St p e below T3 (mkF m 16 #[.val (.ref a1), .val (.int 0), .val (.int 2), .val (.ref b1), .val (.int 2), .unset] [(.int 2)]) _
    refine XS.iloadN X3.here hx rfl (hb hby d5_16) rfl ?_
    show St p e below T3 (mkF m 17 #[.val (.ref a1), .val (.int 0), .val (.int 2), .val (.ref b1), .val (.int 2), .unset] [(.int 2), (.int 2)]) _
    refine XS.icmpYes X3.here hx rfl (pc0 := 17) (pc' := 57) rfl (hb hby d5_17) rfl (teq (by decide : (2 : Int32) = (2 : Int32))).1 (by decide) (by decide) ?_
    show St p e below T3 (mkF m 57 #[.val (.ref a1), .val (.int 0), .val (.int 2), .val (.ref b1), .val (.int 2), .unset] []) _
    refine XS.aloadN X3.here hx rfl (hb hby d5_57) rfl rfl ?_
    show St p e below T3 (mkF m 58 #[.val (.ref a1), .val (.int 0), .val (.int 2), .val (.ref b1), .val (.int 2), .unset] [(.ref b1)]) _
    jvm_step X3.here [X3.here.top, hx, (hb hby d5_58), X3.method', Bd.returns, Value.isRef, FieldType.isReference]
    first | (intro acts; rw [hr _ acts rfl rfl rfl]) | rw [hr _ _ rfl rfl rfl]
    exact Steps.refl _
  · show Q_cmp3_2 Z a1 k_a1 c0 c1 h0 n0 _ T3.heap _
    exact ⟨b1, k1, rfl, N3, K5, bn_b1, g3_0⟩
def Q_cod_2 (Z : State) (a1 : Addr) (k_a1 : ClassId) (by0 : Int32) (by1 : Int32) (h0 : Heap) (n0 : Nat) (v : Option Value) (h : Heap) (L : List Loc) : Prop := v = some (.int 0) ∧ Fr n0 L ∧ h = h0
set_option maxRecDepth 65536 in
set_option maxHeartbeats 40000000 in
theorem rm_cod_2 (l : Launch) (Z : State) (a0 : Array Value) (hw : ∀ d ∈ tables_1, d.before a0 Z = true) (ws : List Jvm.Cond) (a1 : Addr) (k_a1 : ClassId) (by0 : Int32) (by1 : Int32) (h0 : Heap) (n0 : Nat) (Z0 : n0 ≤ h0.size) (V_a1 : Arv Z h0 a1 k_a1 .byte (2 : Int32) [(.int by0), (.int by1)] (.int 0)) :
    MetFree l (⟨"java/lang/StringUTF16", "coderFromArrayLen", "([BI)B"⟩ : MethodName) (head1 (Jvm.Cond.code (⟨"java/lang/StringUTF16", "coderFromArrayLen", "([BI)B"⟩ : MethodName) jdk_52_method_15_code 2 (some .byte) :: ws) ({ frames := 0, cells := 0, slots := 0, locals := 0 } : Room)) (fun a U => a = #[(.ref a1), (.int 2)] ∧ Z.Warmed39 U.vm ∧ U.heap = h0) (fun _ _ _ _ _ => True) (fun _ U o U' => ∃ v L, o = .returned v ∧ Q_cod_2 Z a1 k_a1 by0 by1 h0 n0 v U'.heap L ∧ FrameEnd U o U' L ({ frames := 0, cells := 0, slots := 0, locals := 0 } : Room).cells ({ frames := 0, cells := 0, slots := 0, locals := 0 } : Room).slots) := by
  refine MetFree.of_bodySF (plainFor_of_name pn_7) hisR ?_
  intro p e s m args below meth c s₁ Bd hml0 hP hK
  obtain ⟨rfl, hZ, hh⟩ := hP
  have hx := Bd.exec
  have hby := Bd.bytes
  have hml : c.maxLocals = 2 := hml0
  have hown : s.vm.findClass "java/lang/StringUTF16" = some m.cls := findClass_of_methodNamed Bd.named
  have hnm := (name_of_methodNamed Bd.named Bd.method).1
  have X0 : Stand p l e ({ frames := 0, cells := 0, slots := 0, locals := 0 } : Room) s m #[(.ref a1), (.int 2)] below meth c s₁ [] 0 0 := Stand.of_body Bd
  have e0 : s₁.heap = h0 := by rw [← hh, Bd.state]; rfl
  have N0 := Fr.nil n0
  have pre0 : ∀ t, Steps p.tables e below (s₁.setTop (mkF m 0 #[.val (.ref a1), .val (.int 2)] [])) t → Steps p.tables e below (s₁.setTop (entryFrame m #[(.ref a1), (.int 2)] 2)) t := fun t k => castTop (ef_7_RI m a1 (2 : Int32)) k
  obtain ⟨cl1, Ar1, -, S1, M1, -, -⟩ := id V_a1
  obtain ⟨fs, hr, hrun, hended, hW, hsame⟩ := X0.leave (v := some (.int 0)) (fun h => by rw [Bd.returns] at h; cases h)
  refine ⟨_, _, pre0 _ ?_, hrun, hended, _, _, rfl, ?_, ⟨_, rfl⟩, hW, hsame.mono (by decide) (by decide)⟩
  · show St p e below s₁ (mkF m 0 #[.val (.ref a1), .val (.int 2)] []) _
    refine XS.iloadN X0.here hx rfl (hb hby d7_0) rfl ?_
    show St p e below s₁ (mkF m 1 #[.val (.ref a1), .val (.int 2)] [(.int 2)]) _
    refine XS.aloadN X0.here hx rfl (hb hby d7_1) rfl rfl ?_
    show St p e below s₁ (mkF m 2 #[.val (.ref a1), .val (.int 2)] [(.ref a1), (.int 2)]) _
    refine X0.arraylength hx (by rw [e0]; exact Ar1.1) (State.isArrayOf_alike hZ.alike Ar1.2.1) (g := (mkF m 2 #[.val (.ref a1), .val (.int 2)] [(.ref a1), (.int 2)])) rfl rfl (hb hby d7_2) _ ?_
    rw [len_of S1 M1]
    show St p e below s₁ (mkF m 3 #[.val (.ref a1), .val (.int 2)] [(.int 2), (.int 2)]) _
    refine XS.isub X0.here hx rfl (hb hby d7_3) rfl ?_
    show St p e below s₁ (mkF m 4 #[.val (.ref a1), .val (.int 2)] [(.int ((2 : Int32) - (2 : Int32)))]) _
    rw [(by decide : ((2 : Int32) - (2 : Int32)) = (0 : Int32))]
    show St p e below s₁ (mkF m 4 #[.val (.ref a1), .val (.int 2)] [(.int 0)]) _
    refine XS.bipush X0.here hx rfl (hb hby d7_4) ?_
    show St p e below s₁ (mkF m 6 #[.val (.ref a1), .val (.int 2)] [(.int 31), (.int 0)]) _
    refine XS.iushr X0.here hx rfl (hb hby d7_6) rfl ?_
    show St p e below s₁ (mkF m 7 #[.val (.ref a1), .val (.int 2)] [(.int (((0 : Int32).toUInt32 >>> ((31 : Int32) &&& 31).toUInt32).toInt32))]) _
    rw [(by decide : (((0 : Int32).toUInt32 >>> ((31 : Int32) &&& 31).toUInt32).toInt32) = (0 : Int32))]
    show St p e below s₁ (mkF m 7 #[.val (.ref a1), .val (.int 2)] [(.int 0)]) _
    refine XS.i2b X0.here hx rfl (hb hby d7_7) rfl ?_
    show St p e below s₁ (mkF m 8 #[.val (.ref a1), .val (.int 2)] [(.int ((0 : Int32).toInt8.toInt32))]) _
    rw [(by decide : ((0 : Int32).toInt8.toInt32) = (0 : Int32))]
    show St p e below s₁ (mkF m 8 #[.val (.ref a1), .val (.int 2)] [(.int 0)]) _
    exact retN X0 hx (t := .byte) Bd.returns (by simp) (hb hby d7_8) hr
  · show Q_cod_2 Z a1 k_a1 by0 by1 h0 n0 _ s₁.heap _
    rw [e0]
    exact ⟨rfl, N0, rfl⟩
def Q_new4_2 (Z : State) (a1 : Addr) (a2 : Addr) (w_COMPACT_STRINGS : Int32) (k_a2 : ClassId) (c0 : Int32) (c1 : Int32) (u_a1_coder : Value) (u_a1_value : Value) (h0 : Heap) (n0 : Nat) (v : Option Value) (h : Heap) (L : List Loc) : Prop := ∃ (t : Addr) (kt : ClassId), v = none ∧ Fr n0 L ∧ Keep h0 h [a1] ∧ Exa Z h a1 "java/lang/String" ∧ Fld Z h a1 "java/lang/String" "coder" "B" (.int 0) ∧ Fld Z h a1 "java/lang/String" "value" "[B" (.ref t) ∧ h0.size ≤ t ∧ Arv Z h t kt .byte (2 : Int32) [(.int (c0.toInt8.toInt32)), (.int (c1.toInt8.toInt32))] (.int 0)
set_option maxRecDepth 65536 in
set_option maxHeartbeats 40000000 in
theorem rm_new4_2 (l : Launch) (Z : State) (a0 : Array Value) (hw : ∀ d ∈ tables_1, d.before a0 Z = true) (ws : List Jvm.Cond) (a1 : Addr) (a2 : Addr) (w_COMPACT_STRINGS : Int32) (k_a2 : ClassId) (c0 : Int32) (c1 : Int32) (u_a1_coder : Value) (u_a1_value : Value) (h0 : Heap) (n0 : Nat) (Z0 : n0 ≤ h0.size) (S_COMPACT_STRINGS : Sta Z Z.heap "java/lang/String" "COMPACT_STRINGS" "Z" (.int w_COMPACT_STRINGS)) (hcs : ¬ (w_COMPACT_STRINGS = (0 : Int32))) (V_a2 : Arv Z h0 a2 k_a2 .char (2 : Int32) [(.int c0), (.int c1)] (.int 0)) (hb_c0 : ¬ ((255 : Int32) < c0)) (hb_c1 : ¬ ((255 : Int32) < c1)) (O0 : Old Z n0 h0) (E_a1 : Exa Z h0 a1 "java/lang/String") (F_a1_coder : Fld Z h0 a1 "java/lang/String" "coder" "B" u_a1_coder) (g_a1 : n0 ≤ a1) (F_a1_value : Fld Z h0 a1 "java/lang/String" "value" "[B" u_a1_value) :
    MetFree l (⟨"java/lang/String", "<init>", "([CIILjava/lang/Void;)V"⟩ : MethodName) (head1 (Jvm.Cond.code (⟨"java/lang/String", "<init>", "([CIILjava/lang/Void;)V"⟩ : MethodName) jdk_42_method_149_code 6 none :: ws) ({ frames := 2, cells := 1, slots := 2, locals := 35 } : Room)) (fun a U => a = #[(.ref a1), (.ref a2), (.int 0), (.int 2), .null] ∧ Z.Warmed39 U.vm ∧ U.heap = h0) (fun _ _ _ _ _ => True) (fun _ U o U' => ∃ v L, o = .returned v ∧ Q_new4_2 Z a1 a2 w_COMPACT_STRINGS k_a2 c0 c1 u_a1_coder u_a1_value h0 n0 v U'.heap L ∧ FrameEnd U o U' L ({ frames := 2, cells := 1, slots := 2, locals := 35 } : Room).cells ({ frames := 2, cells := 1, slots := 2, locals := 35 } : Room).slots) := by
  refine MetFree.of_bodySF (plainFor_of_name pn_3) hisR ?_
  intro p e s m args below meth c s₁ Bd hml0 hP hK
  obtain ⟨rfl, hZ, hh⟩ := hP
  have hx := Bd.exec
  have hby := Bd.bytes
  have hml : c.maxLocals = 6 := hml0
  have hown : s.vm.findClass "java/lang/String" = some m.cls := findClass_of_methodNamed Bd.named
  have hnm := (name_of_methodNamed Bd.named Bd.method).1
  have X0 : Stand p l e ({ frames := 2, cells := 1, slots := 2, locals := 35 } : Room) s m #[(.ref a1), (.ref a2), (.int 0), (.int 2), .null] below meth c s₁ [] 0 0 := Stand.of_body Bd
  have e0 : s₁.heap = h0 := by rw [← hh, Bd.state]; rfl
  have N0 := Fr.nil n0
  have pre0 : ∀ t, Steps p.tables e below (s₁.setTop (mkF m 0 #[.val (.ref a1), .val (.ref a2), .val (.int 0), .val (.int 2), .val .null, .unset] [])) t → Steps p.tables e below (s₁.setTop (entryFrame m #[(.ref a1), (.ref a2), (.int 0), (.int 2), .null] 6)) t := fun t k => castTop (ef_3_RRIIn m a1 a2 (0 : Int32) (2 : Int32)) k
  obtain ⟨T1, X1, e1, st1⟩ := initO X0 hx hZ hown (hwi hw 15 rfl) (hwi hw 16 rfl) (hwi hw 17 rfl) e0 (g := (mkF m 1 #[.val (.ref a1), .val (.ref a2), .val (.int 0), .val (.int 2), .val .null, .unset] [(.ref a1)])) rfl (by rw [hml]; rfl) rfl (hb hby d3_1) (by decide) (W := 0) (by show 2 * 0 + _ ≤ _; exact Nat.le_of_eq rfl) (by decide)
  obtain ⟨T2, X2, e2, st2⟩ := getS2 X1 hx hZ hown (host := "") (Or.inl (hwi hw 26 rfl)) Via.refl e1 (S_COMPACT_STRINGS.ext O0.2) (g := (mkF m 27 #[.val (.ref a1), .val (.ref a2), .val (.int 0), .val (.int 2), .val .null, .unset] [])) rfl (hb hby d3_27)
  obtain ⟨_, _, ⟨T3, L3, k3, n3⟩, -, X3, ⟨Lc3, hQ3, l3, y3, z3⟩, st3⟩ := Jvm.LawKit.callS X2 hx (y := (⟨"java/lang/StringUTF16", "compress", "([CII)[B"⟩ : MethodName)) hown (mvT hZ (hwi hw 27 rfl)) (mvT hZ (hwi hw 28 rfl)) (mvT hZ (hwi hw 29 rfl)) (mvT hZ (hwi hw 30 rfl)) (by decide) (backOf (W := 0) (rm_cmp3_2 l Z a0 hw [] a2 k_a2 c0 c1 h0 n0 Z0 V_a2 hb_c0 hb_c1 O0) hZ (hwi hw 30 rfl) (hwi hw 29 rfl) (by decide) (by decide)) (g := (mkF m 36 #[.val (.ref a1), .val (.ref a2), .val (.int 0), .val (.int 2), .val .null, .unset] [(.int 2), (.int 0), (.ref a2)])) rfl (by rw [hml]; rfl) (argsL := [(.ref a2), (.int 0), (.int 2)]) (rest := []) (lenOf pd_CII__B_542 rfl) rfl (by show 2 * 0 + _ ≤ _; exact Nat.le_of_eq rfl) (hb hby d3_36) (fun _ _ => ⟨rfl, e2, (by decide : 0 + 1 ≤ _), (by decide : 0 + 2 ≤ _)⟩)
  dsimp only [Pt.U, Pt.locs, Pt.cells, Pt.slots] at X3 l3 y3 z3 st3 hQ3
  subst l3 y3 z3
  obtain ⟨t_3, kt_3, rfl, N3q, Kc3, g3_0, g3_1⟩ := hQ3
  have N3 := Fr.app N0 N3q
  have sz4 : h0.size ≤ T3.heap.size := Kc3.1
  have Z4 : n0 ≤ T3.heap.size := Nat.le_trans Z0 sz4
  have O4 := O0.keep Kc3 all0
  have K4 : Keep h0 T3.heap [a1] := (Keep.refl h0 [a1]).trans Kc3 (all0)
  have bn_t_3 : h0.size ≤ t_3 := g3_0
  obtain ⟨_, _, ⟨T5, L5, k5, n5⟩, -, X5, ⟨Lc5, hQ5, l5, y5, z5⟩, st5⟩ := Jvm.LawKit.callS X3 hx (y := (⟨"java/lang/StringUTF16", "coderFromArrayLen", "([BI)B"⟩ : MethodName)) hown (mvT hZ (hwi hw 34 rfl)) (mvT hZ (hwi hw 35 rfl)) (mvT hZ (hwi hw 29 rfl)) (mvT hZ (hwi hw 36 rfl)) (by decide) (backOf (W := 1) (rm_cod_2 l Z a0 hw [] t_3 kt_3 (c0.toInt8.toInt32) (c1.toInt8.toInt32) T3.heap n0 Z4 g3_1) hZ (hwi hw 36 rfl) (hwi hw 29 rfl) (by decide) (by decide)) (g := (mkF m 45 #[.val (.ref a1), .val (.ref a2), .val (.int 0), .val (.int 2), .val .null, .val (.ref t_3)] [(.int 2), (.ref t_3), (.ref a1)])) rfl (by rw [hml]; rfl) (argsL := [(.ref t_3), (.int 2)]) (rest := [(.ref a1)]) (lenOf pd_BI_B_377 rfl) rfl (by show 2 * 0 + _ ≤ _; exact Nat.le_of_eq rfl) (hb hby d3_45) (fun _ _ => ⟨rfl, rfl, (by decide : 1 + 0 ≤ _), (by decide : 2 + 0 ≤ _)⟩)
  dsimp only [Pt.U, Pt.locs, Pt.cells, Pt.slots] at X5 l5 y5 z5 st5 hQ5
  subst l5 y5 z5
  obtain ⟨rfl, N5q, e5⟩ := hQ5
  have N5 := Fr.app N3 N5q
  have fc6 := (E_a1.keep Kc3)
  have fc7 := (F_a1_coder.keep Kc3 nin0)
  obtain ⟨T8, h8, X8, e8, W8, st8⟩ := putFN X5 hx hZ hown (hwi hw 25 rfl) Via.refl e5 fc7 fc6 (Or.inr ⟨(hwi hw 21 rfl), rfl, hnm⟩) (hwi hw 5 rfl) (ty := .byte) (v' := (.int 0)) (by decide) rfl (by decide) (g := (mkF m 48 #[.val (.ref a1), .val (.ref a2), .val (.int 0), .val (.int 2), .val .null, .val (.ref t_3)] [(.int 0), (.ref a1)])) rfl rfl (hb hby d3_48)
  have N8 := Fr.snoc X8 N5 g_a1
  have Fw8 := fc7.same W8
  have sz9 : T3.heap.size ≤ h8.size := Nat.le_of_eq W8.size.symm
  have Z9 : n0 ≤ h8.size := Nat.le_trans Z4 sz9
  have O9 := O4.wr W8 g_a1
  have K9 : Keep h0 h8 [a1] := K4.wr W8 (Or.inl (List.mem_of_getElem? (i := 0) rfl))
  have fc10 := (fc6.wr W8)
  have fc11 := ((F_a1_value.keep Kc3 nin0).other W8 (Or.inr (slot_ne (Or.inr (hwi hw 20 rfl)) (Or.inr (hwi hw 21 rfl)) (by decide) (t := (.array .byte)) (t' := .byte) (by decide) (by decide))))
  obtain ⟨T12, h12, X12, e12, W12, st12⟩ := putF X8 hx hZ hown (host := "") (Or.inl (hwi hw 24 rfl)) Via.refl e8 fc11 fc10 (Or.inr ⟨(hwi hw 20 rfl), rfl, hnm⟩) (hwi hw 5 rfl) (ty := (.array .byte)) (by decide) rfl rfl (g := (mkF m 54 #[.val (.ref a1), .val (.ref a2), .val (.int 0), .val (.int 2), .val .null, .val (.ref t_3)] [(.ref t_3), (.ref a1)])) rfl rfl (hb hby d3_54)
  have N12 := Fr.snoc X12 N8 g_a1
  have Fw12 := fc11.same W12
  have sz13 : h8.size ≤ h12.size := Nat.le_of_eq W12.size.symm
  have Z13 : n0 ≤ h12.size := Nat.le_trans Z9 sz13
  have O13 := O9.wr W12 g_a1
  have K13 : Keep h0 h12 [a1] := K9.wr W12 (Or.inl (List.mem_of_getElem? (i := 0) rfl))
  have fc14 := (fc10.wr W12)
  have fc15 := (Fw8.other W12 (Or.inr (slot_ne (Or.inr (hwi hw 21 rfl)) (Or.inr (hwi hw 20 rfl)) (by decide) (t := .byte) (t' := (.array .byte)) (by decide) (by decide))))
  have fc16 := ((g3_1.other W8 (neN (by have := ltN E_a1.lt; have := ltN g3_1.lt; omega))).other W12 (neN (by have := ltN E_a1.lt; have := ltN g3_1.lt; omega)))
  obtain ⟨fs, hr, hrun, hended, hW, hsame⟩ := X12.leave (v := none) (fun _ => rfl)
  refine ⟨_, _, pre0 _ ?_, hrun, hended, _, _, rfl, ?_, ⟨_, rfl⟩, hW, hsame.mono (by decide) (by decide)⟩
  · show St p e below s₁ (mkF m 0 #[.val (.ref a1), .val (.ref a2), .val (.int 0), .val (.int 2), .val .null, .unset] []) _
    refine XS.aloadN X0.here hx rfl (hb hby d3_0) rfl rfl ?_
    show St p e below s₁ (mkF m 1 #[.val (.ref a1), .val (.ref a2), .val (.int 0), .val (.int 2), .val .null, .unset] [(.ref a1)]) _
    refine st1 _ ?_
    show St p e below T1 (mkF m 4 #[.val (.ref a1), .val (.ref a2), .val (.int 0), .val (.int 2), .val .null, .unset] []) _
    refine XS.iloadN X1.here hx rfl (hb hby d3_4) rfl ?_
    show St p e below T1 (mkF m 5 #[.val (.ref a1), .val (.ref a2), .val (.int 0), .val (.int 2), .val .null, .unset] [(.int 2)]) _
    refine XS.ifYes X1.here hx rfl (pc0 := 5) (pc' := 27) rfl (hb hby d3_5) rfl ((if0 _ _).trans (feq (by decide : ¬ ((2 : Int32) = (0 : Int32)))).2) (by decide) (by decide) ?_
    show St p e below T1 (mkF m 27 #[.val (.ref a1), .val (.ref a2), .val (.int 0), .val (.int 2), .val .null, .unset] []) _
    refine st2 _ ?_
    show St p e below T2 (mkF m 30 #[.val (.ref a1), .val (.ref a2), .val (.int 0), .val (.int 2), .val .null, .unset] [(.int w_COMPACT_STRINGS)]) _
    refine XS.ifNo X2.here hx rfl (hb hby d3_30) rfl ((if0 _ _).trans (feq hcs).1) ?_
    show St p e below T2 (mkF m 33 #[.val (.ref a1), .val (.ref a2), .val (.int 0), .val (.int 2), .val .null, .unset] []) _
    refine XS.aloadN X2.here hx rfl (hb hby d3_33) rfl rfl ?_
    show St p e below T2 (mkF m 34 #[.val (.ref a1), .val (.ref a2), .val (.int 0), .val (.int 2), .val .null, .unset] [(.ref a2)]) _
    refine XS.iloadN X2.here hx rfl (hb hby d3_34) rfl ?_
    show St p e below T2 (mkF m 35 #[.val (.ref a1), .val (.ref a2), .val (.int 0), .val (.int 2), .val .null, .unset] [(.int 0), (.ref a2)]) _
    refine XS.iloadN X2.here hx rfl (hb hby d3_35) rfl ?_
    show St p e below T2 (mkF m 36 #[.val (.ref a1), .val (.ref a2), .val (.int 0), .val (.int 2), .val .null, .unset] [(.int 2), (.int 0), (.ref a2)]) _
    refine st3 _ ?_
    show St p e below T3 (mkF m 39 #[.val (.ref a1), .val (.ref a2), .val (.int 0), .val (.int 2), .val .null, .unset] [(.ref t_3)]) _
    refine XS.astore X3.here hx rfl (hb hby d3_39) rfl rfl (l' := #[.val (.ref a1), .val (.ref a2), .val (.int 0), .val (.int 2), .val .null, .val (.ref t_3)]) rfl ?_
    show St p e below T3 (mkF m 41 #[.val (.ref a1), .val (.ref a2), .val (.int 0), .val (.int 2), .val .null, .val (.ref t_3)] []) _
    refine XS.aloadN X3.here hx rfl (hb hby d3_41) rfl rfl ?_
    show St p e below T3 (mkF m 42 #[.val (.ref a1), .val (.ref a2), .val (.int 0), .val (.int 2), .val .null, .val (.ref t_3)] [(.ref a1)]) _
    refine XS.aload X3.here hx rfl (hb hby d3_42) rfl rfl ?_
    show St p e below T3 (mkF m 44 #[.val (.ref a1), .val (.ref a2), .val (.int 0), .val (.int 2), .val .null, .val (.ref t_3)] [(.ref t_3), (.ref a1)]) _
    refine XS.iloadN X3.here hx rfl (hb hby d3_44) rfl ?_
    show St p e below T3 (mkF m 45 #[.val (.ref a1), .val (.ref a2), .val (.int 0), .val (.int 2), .val .null, .val (.ref t_3)] [(.int 2), (.ref t_3), (.ref a1)]) _
    refine st5 _ ?_
    show St p e below T5 (mkF m 48 #[.val (.ref a1), .val (.ref a2), .val (.int 0), .val (.int 2), .val .null, .val (.ref t_3)] [(.int 0), (.ref a1)]) _
    refine st8 _ ?_
    show St p e below T8 (mkF m 51 #[.val (.ref a1), .val (.ref a2), .val (.int 0), .val (.int 2), .val .null, .val (.ref t_3)] []) _
    refine XS.aloadN X8.here hx rfl (hb hby d3_51) rfl rfl ?_
    show St p e below T8 (mkF m 52 #[.val (.ref a1), .val (.ref a2), .val (.int 0), .val (.int 2), .val .null, .val (.ref t_3)] [(.ref a1)]) _
    refine XS.aload X8.here hx rfl (hb hby d3_52) rfl rfl ?_
    show St p e below T8 (mkF m 54 #[.val (.ref a1), .val (.ref a2), .val (.int 0), .val (.int 2), .val .null, .val (.ref t_3)] [(.ref t_3), (.ref a1)]) _
    refine st12 _ ?_
    show St p e below T12 (mkF m 57 #[.val (.ref a1), .val (.ref a2), .val (.int 0), .val (.int 2), .val .null, .val (.ref t_3)] []) _
    exact X12.returnOut hx Bd.returns (hb hby d3_57) hr
  · show Q_new4_2 Z a1 a2 w_COMPACT_STRINGS k_a2 c0 c1 u_a1_coder u_a1_value h0 n0 _ T12.heap _
    rw [e12]
    exact ⟨t_3, kt_3, rfl, N12, K13, fc14, fc15, Fw12, bn_t_3, fc16⟩
def Q_new1_2 (Z : State) (a1 : Addr) (a2 : Addr) (w_COMPACT_STRINGS : Int32) (k_a2 : ClassId) (c0 : Int32) (c1 : Int32) (u_a1_coder : Value) (u_a1_value : Value) (h0 : Heap) (n0 : Nat) (v : Option Value) (h : Heap) (L : List Loc) : Prop := ∃ (t : Addr) (kt : ClassId), v = none ∧ Fr n0 L ∧ Keep h0 h [a1] ∧ Exa Z h a1 "java/lang/String" ∧ Fld Z h a1 "java/lang/String" "coder" "B" (.int 0) ∧ Fld Z h a1 "java/lang/String" "value" "[B" (.ref t) ∧ h0.size ≤ t ∧ Arv Z h t kt .byte (2 : Int32) [(.int (c0.toInt8.toInt32)), (.int (c1.toInt8.toInt32))] (.int 0)
set_option maxRecDepth 65536 in
set_option maxHeartbeats 40000000 in
theorem rm_new1_2 (l : Launch) (Z : State) (a0 : Array Value) (hw : ∀ d ∈ tables_1, d.before a0 Z = true) (ws : List Jvm.Cond) (a1 : Addr) (a2 : Addr) (w_COMPACT_STRINGS : Int32) (k_a2 : ClassId) (c0 : Int32) (c1 : Int32) (u_a1_coder : Value) (u_a1_value : Value) (h0 : Heap) (n0 : Nat) (Z0 : n0 ≤ h0.size) (S_COMPACT_STRINGS : Sta Z Z.heap "java/lang/String" "COMPACT_STRINGS" "Z" (.int w_COMPACT_STRINGS)) (hcs : ¬ (w_COMPACT_STRINGS = (0 : Int32))) (V_a2 : Arv Z h0 a2 k_a2 .char (2 : Int32) [(.int c0), (.int c1)] (.int 0)) (hb_c0 : ¬ ((255 : Int32) < c0)) (hb_c1 : ¬ ((255 : Int32) < c1)) (O0 : Old Z n0 h0) (E_a1 : Exa Z h0 a1 "java/lang/String") (F_a1_coder : Fld Z h0 a1 "java/lang/String" "coder" "B" u_a1_coder) (g_a1 : n0 ≤ a1) (F_a1_value : Fld Z h0 a1 "java/lang/String" "value" "[B" u_a1_value) :
    MetFree l (⟨"java/lang/String", "<init>", "([C)V"⟩ : MethodName) (head1 (Jvm.Cond.code (⟨"java/lang/String", "<init>", "([C)V"⟩ : MethodName) jdk_42_method_3_code 2 none :: ws) ({ frames := 3, cells := 1, slots := 2, locals := 52 } : Room)) (fun a U => a = #[(.ref a1), (.ref a2)] ∧ Z.Warmed39 U.vm ∧ U.heap = h0) (fun _ _ _ _ _ => True) (fun _ U o U' => ∃ v L, o = .returned v ∧ Q_new1_2 Z a1 a2 w_COMPACT_STRINGS k_a2 c0 c1 u_a1_coder u_a1_value h0 n0 v U'.heap L ∧ FrameEnd U o U' L ({ frames := 3, cells := 1, slots := 2, locals := 52 } : Room).cells ({ frames := 3, cells := 1, slots := 2, locals := 52 } : Room).slots) := by
  refine MetFree.of_bodySF (plainFor_of_name pn_2) hisR ?_
  intro p e s m args below meth c s₁ Bd hml0 hP hK
  obtain ⟨rfl, hZ, hh⟩ := hP
  have hx := Bd.exec
  have hby := Bd.bytes
  have hml : c.maxLocals = 2 := hml0
  have hown : s.vm.findClass "java/lang/String" = some m.cls := findClass_of_methodNamed Bd.named
  have hnm := (name_of_methodNamed Bd.named Bd.method).1
  have X0 : Stand p l e ({ frames := 3, cells := 1, slots := 2, locals := 52 } : Room) s m #[(.ref a1), (.ref a2)] below meth c s₁ [] 0 0 := Stand.of_body Bd
  have e0 : s₁.heap = h0 := by rw [← hh, Bd.state]; rfl
  have N0 := Fr.nil n0
  have pre0 : ∀ t, Steps p.tables e below (s₁.setTop (mkF m 0 #[.val (.ref a1), .val (.ref a2)] [])) t → Steps p.tables e below (s₁.setTop (entryFrame m #[(.ref a1), (.ref a2)] 2)) t := fun t k => castTop (ef_2_RR m a1 a2) k
  obtain ⟨cl1, Ar1, -, S1, M1, -, -⟩ := id V_a2
  obtain ⟨_, _, ⟨T2, L2, k2, n2⟩, -, X2, ⟨Lc2, hQ2, l2, y2, z2⟩, st2⟩ := X0.specialBack hx (y := (⟨"java/lang/String", "<init>", "([CIILjava/lang/Void;)V"⟩ : MethodName)) rfl hown (mvT hZ (hwi hw 11 rfl)) (mvT hZ (hwi hw 12 rfl)) (mvT hZ (hwi hw 14 rfl)) (by decide) (backOf (W := 0) (rm_new4_2 l Z a0 hw [] a1 a2 w_COMPACT_STRINGS k_a2 c0 c1 u_a1_coder u_a1_value h0 n0 Z0 S_COMPACT_STRINGS hcs V_a2 hb_c0 hb_c1 O0 E_a1 F_a1_coder g_a1 F_a1_value) hZ (hwi hw 14 rfl) (hwi hw 6 rfl) (by decide) (by decide)) (g := (mkF m 6 #[.val (.ref a1), .val (.ref a2)] [.null, (.int 2), (.int 0), (.ref a2), (.ref a1)])) rfl (by rw [hml]; rfl) (Steps.refl _) (a := a1) (argsL := [(.ref a2), (.int 0), (.int 2), .null]) (rest := []) (lenOf pd_CIILjava_lang_Void__V_938 rfl) rfl (by show 2 * 0 + _ ≤ _; exact Nat.le_of_eq rfl) (hb hby d2_6) (fun _ _ => ⟨rfl, e0, (by decide : 0 + 1 ≤ _), (by decide : 0 + 2 ≤ _)⟩)
  dsimp only [Pt.U, Pt.locs, Pt.cells, Pt.slots] at X2 l2 y2 z2 st2 hQ2
  subst l2 y2 z2
  obtain ⟨t_2, kt_2, rfl, N2q, Kc2, g2_0, g2_1, g2_2, g2_3, g2_4⟩ := hQ2
  have N2 := Fr.app N0 N2q
  have sz3 : h0.size ≤ T2.heap.size := Kc2.1
  have Z3 : n0 ≤ T2.heap.size := Nat.le_trans Z0 sz3
  have O3 := O0.keep Kc2 (allS g_a1 all0)
  have K3 : Keep h0 T2.heap [a1] := (Keep.refl h0 [a1]).trans Kc2 (allS (Or.inl (List.mem_of_getElem? (i := 0) rfl)) (all0))
  have bn_t_2 : h0.size ≤ t_2 := g2_3
  obtain ⟨fs, hr, hrun, hended, hW, hsame⟩ := X2.leave (v := none) (fun _ => rfl)
  refine ⟨_, _, pre0 _ ?_, hrun, hended, _, _, rfl, ?_, ⟨_, rfl⟩, hW, hsame.mono (by decide) (by decide)⟩
  · show St p e below s₁ (mkF m 0 #[.val (.ref a1), .val (.ref a2)] []) _
    refine XS.aloadN X0.here hx rfl (hb hby d2_0) rfl rfl ?_
    show St p e below s₁ (mkF m 1 #[.val (.ref a1), .val (.ref a2)] [(.ref a1)]) _
    refine XS.aloadN X0.here hx rfl (hb hby d2_1) rfl rfl ?_
    show St p e below s₁ (mkF m 2 #[.val (.ref a1), .val (.ref a2)] [(.ref a2), (.ref a1)]) _
    refine XS.iconst X0.here hx rfl (hb hby d2_2) ?_
    show St p e below s₁ (mkF m 3 #[.val (.ref a1), .val (.ref a2)] [(.int 0), (.ref a2), (.ref a1)]) _
    refine XS.aloadN X0.here hx rfl (hb hby d2_3) rfl rfl ?_
    show St p e below s₁ (mkF m 4 #[.val (.ref a1), .val (.ref a2)] [(.ref a2), (.int 0), (.ref a2), (.ref a1)]) _
    refine X0.arraylength hx (by rw [e0]; exact Ar1.1) (State.isArrayOf_alike hZ.alike Ar1.2.1) (g := (mkF m 4 #[.val (.ref a1), .val (.ref a2)] [(.ref a2), (.int 0), (.ref a2), (.ref a1)])) rfl rfl (hb hby d2_4) _ ?_
    rw [len_of S1 M1]
    show St p e below s₁ (mkF m 5 #[.val (.ref a1), .val (.ref a2)] [(.int 2), (.int 0), (.ref a2), (.ref a1)]) _
    refine XS.aconstNull X0.here hx rfl (hb hby d2_5) ?_
    show St p e below s₁ (mkF m 6 #[.val (.ref a1), .val (.ref a2)] [.null, (.int 2), (.int 0), (.ref a2), (.ref a1)]) _
    refine st2.trans ?_
    show St p e below T2 (mkF m 9 #[.val (.ref a1), .val (.ref a2)] []) _
    exact X2.returnOut hx Bd.returns (hb hby d2_9) hr
  · show Q_new1_2 Z a1 a2 w_COMPACT_STRINGS k_a2 c0 c1 u_a1_coder u_a1_value h0 n0 _ T2.heap _
    exact ⟨t_2, kt_2, rfl, N2, K3, g2_0, g2_1, g2_2, bn_t_2, g2_4⟩
def Q_cmp5_3 (Z : State) (a1 : Addr) (a3 : Addr) (k_a1 : ClassId) (c0 : Int32) (c1 : Int32) (c2 : Int32) (k_a3 : ClassId) (h0 : Heap) (n0 : Nat) (v : Option Value) (h : Heap) (L : List Loc) : Prop := v = some (.int 3) ∧ Fr n0 L ∧ Keep h0 h [a3] ∧ Arv Z h a3 k_a3 .byte (3 : Int32) [(.int (c0.toInt8.toInt32)), (.int (c1.toInt8.toInt32)), (.int (c2.toInt8.toInt32))] (.int 0)
set_option maxRecDepth 65536 in
set_option maxHeartbeats 40000000 in
theorem rm_cmp5_3 (l : Launch) (Z : State) (a0 : Array Value) (hw : ∀ d ∈ tables_1, d.before a0 Z = true) (ws : List Jvm.Cond) (a1 : Addr) (a3 : Addr) (k_a1 : ClassId) (c0 : Int32) (c1 : Int32) (c2 : Int32) (k_a3 : ClassId) (h0 : Heap) (n0 : Nat) (Z0 : n0 ≤ h0.size) (V_a1 : Arv Z h0 a1 k_a1 .char (3 : Int32) [(.int c0), (.int c1), (.int c2)] (.int 0)) (V_a3 : Arv Z h0 a3 k_a3 .byte (3 : Int32) [(.int 0), (.int 0), (.int 0)] (.int 0)) (hne : ¬ (a1 = a3)) (hb_c0 : ¬ ((255 : Int32) < c0)) (hb_c1 : ¬ ((255 : Int32) < c1)) (hb_c2 : ¬ ((255 : Int32) < c2)) (g_a3 : n0 ≤ a3) (O0 : Old Z n0 h0) :
    MetFree l (⟨"java/lang/StringUTF16", "compress", "([CI[BII)I"⟩ : MethodName) (head1 (Jvm.Cond.code (⟨"java/lang/StringUTF16", "compress", "([CI[BII)I"⟩ : MethodName) jdk_52_method_21_code 7 (some .int) :: ws) ({ frames := 0, cells := 0, slots := 0, locals := 0 } : Room)) (fun a U => a = #[(.ref a1), (.int 0), (.ref a3), (.int 0), (.int 3)] ∧ Z.Warmed39 U.vm ∧ U.heap = h0) (fun _ _ _ _ _ => True) (fun _ U o U' => ∃ v L, o = .returned v ∧ Q_cmp5_3 Z a1 a3 k_a1 c0 c1 c2 k_a3 h0 n0 v U'.heap L ∧ FrameEnd U o U' L ({ frames := 0, cells := 0, slots := 0, locals := 0 } : Room).cells ({ frames := 0, cells := 0, slots := 0, locals := 0 } : Room).slots) := by
  refine MetFree.of_bodySF (plainFor_of_name pn_6) hisR ?_
  intro p e s m args below meth c s₁ Bd hml0 hP hK
  obtain ⟨rfl, hZ, hh⟩ := hP
  have hx := Bd.exec
  have hby := Bd.bytes
  have hml : c.maxLocals = 7 := hml0
  have hown : s.vm.findClass "java/lang/StringUTF16" = some m.cls := findClass_of_methodNamed Bd.named
  have hnm := (name_of_methodNamed Bd.named Bd.method).1
  have X0 : Stand p l e ({ frames := 0, cells := 0, slots := 0, locals := 0 } : Room) s m #[(.ref a1), (.int 0), (.ref a3), (.int 0), (.int 3)] below meth c s₁ [] 0 0 := Stand.of_body Bd
  have e0 : s₁.heap = h0 := by rw [← hh, Bd.state]; rfl
  have N0 := Fr.nil n0
  have pre0 : ∀ t, Steps p.tables e below (s₁.setTop (mkF m 0 #[.val (.ref a1), .val (.int 0), .val (.ref a3), .val (.int 0), .val (.int 3), .unset, .unset] [])) t → Steps p.tables e below (s₁.setTop (entryFrame m #[(.ref a1), (.int 0), (.ref a3), (.int 0), (.int 3)] 7)) t := fun t k => castTop (ef_6_RIRII m a1 (0 : Int32) a3 (0 : Int32) (3 : Int32)) k
  obtain ⟨cl1, Ar1, q1, S1, M1, H1, G1⟩ := id V_a1
  have hin1 : ¬ ((0 : Int32) < 0 ∨ cl1.slots.size ≤ ((0 : Int32)).toNatClampNeg) := inb_of S1 ⟨by decide, by decide⟩
  have hat1 : cl1.slots[((0 : Int32)).toNatClampNeg]? = some (.int c0) := H1.at hin1 rfl
  obtain ⟨cl2, Ar2, q2, S2, M2, H2, G2⟩ := id V_a3
  have hin2 : ¬ ((0 : Int32) < 0 ∨ cl2.slots.size ≤ ((0 : Int32)).toNatClampNeg) := inb_of S2 ⟨by decide, by decide⟩
  obtain ⟨T3, h3, X3, e3, W3, st3⟩ := stB X0 hx hZ e0 Ar2 (j := (0 : Int32)) hin2 (g := (mkF m 31 #[.val (.ref a1), .val (.int 0), .val (.ref a3), .val (.int 0), .val (.int 3), .val (.int 0), .val (.int c0)] [(.int (c0.toInt8.toInt32)), (.int 0), (.ref a3)])) rfl rfl (hb hby d6_31)
  have N3 := Fr.snoc X3 N0 g_a3
  have V3 : Arv Z h3 a3 k_a3 .byte (3 : Int32) [(.int ((c0.toInt8.toInt32).toInt8.toInt32)), (.int 0), (.int 0)] (.int 0) := Arv.set Ar2 q2 S2 M2 H2 G2 (fits_nar_byte _) W3 0 rfl (Nat.le_of_ble_eq_true rfl)
  rw [own_bb] at V3
  have sz4 : h0.size ≤ h3.size := Nat.le_of_eq W3.size.symm
  have Z4 : n0 ≤ h3.size := Nat.le_trans Z0 sz4
  have O4 := O0.wr W3 g_a3
  have K4 : Keep h0 h3 [a3] := (Keep.refl h0 [a3]).wr W3 (Or.inl (List.mem_of_getElem? (i := 0) rfl))
  have fc5 := (V_a1.other W3 (fun q => hne q))
  obtain ⟨cl6, Ar6, q6, S6, M6, H6, G6⟩ := id fc5
  have hin6 : ¬ ((1 : Int32) < 0 ∨ cl6.slots.size ≤ ((1 : Int32)).toNatClampNeg) := inb_of S6 ⟨by decide, by decide⟩
  have hat6 : cl6.slots[((1 : Int32)).toNatClampNeg]? = some (.int c1) := H6.at hin6 rfl
  obtain ⟨cl7, Ar7, q7, S7, M7, H7, G7⟩ := id V3
  have hin7 : ¬ ((1 : Int32) < 0 ∨ cl7.slots.size ≤ ((1 : Int32)).toNatClampNeg) := inb_of S7 ⟨by decide, by decide⟩
  obtain ⟨T8, h8, X8, e8, W8, st8⟩ := stB X3 hx hZ e3 Ar7 (j := (1 : Int32)) hin7 (g := (mkF m 31 #[.val (.ref a1), .val (.int 1), .val (.ref a3), .val (.int 1), .val (.int 3), .val (.int 1), .val (.int c1)] [(.int (c1.toInt8.toInt32)), (.int 1), (.ref a3)])) rfl rfl (hb hby d6_31)
  have N8 := Fr.snoc X8 N3 g_a3
  have V8 : Arv Z h8 a3 k_a3 .byte (3 : Int32) [(.int (c0.toInt8.toInt32)), (.int ((c1.toInt8.toInt32).toInt8.toInt32)), (.int 0)] (.int 0) := Arv.set Ar7 q7 S7 M7 H7 G7 (fits_nar_byte _) W8 1 rfl (Nat.le_of_ble_eq_true rfl)
  rw [own_bb] at V8
  have sz9 : h3.size ≤ h8.size := Nat.le_of_eq W8.size.symm
  have Z9 : n0 ≤ h8.size := Nat.le_trans Z4 sz9
  have O9 := O4.wr W8 g_a3
  have K9 : Keep h0 h8 [a3] := K4.wr W8 (Or.inl (List.mem_of_getElem? (i := 0) rfl))
  have fc10 := (fc5.other W8 (fun q => hne q))
  obtain ⟨cl11, Ar11, q11, S11, M11, H11, G11⟩ := id fc10
  have hin11 : ¬ ((2 : Int32) < 0 ∨ cl11.slots.size ≤ ((2 : Int32)).toNatClampNeg) := inb_of S11 ⟨by decide, by decide⟩
  have hat11 : cl11.slots[((2 : Int32)).toNatClampNeg]? = some (.int c2) := H11.at hin11 rfl
  obtain ⟨cl12, Ar12, q12, S12, M12, H12, G12⟩ := id V8
  have hin12 : ¬ ((2 : Int32) < 0 ∨ cl12.slots.size ≤ ((2 : Int32)).toNatClampNeg) := inb_of S12 ⟨by decide, by decide⟩
  obtain ⟨T13, h13, X13, e13, W13, st13⟩ := stB X8 hx hZ e8 Ar12 (j := (2 : Int32)) hin12 (g := (mkF m 31 #[.val (.ref a1), .val (.int 2), .val (.ref a3), .val (.int 2), .val (.int 3), .val (.int 2), .val (.int c2)] [(.int (c2.toInt8.toInt32)), (.int 2), (.ref a3)])) rfl rfl (hb hby d6_31)
  have N13 := Fr.snoc X13 N8 g_a3
  have V13 : Arv Z h13 a3 k_a3 .byte (3 : Int32) [(.int (c0.toInt8.toInt32)), (.int (c1.toInt8.toInt32)), (.int ((c2.toInt8.toInt32).toInt8.toInt32))] (.int 0) := Arv.set Ar12 q12 S12 M12 H12 G12 (fits_nar_byte _) W13 2 rfl (Nat.le_of_ble_eq_true rfl)
  rw [own_bb] at V13
  have sz14 : h8.size ≤ h13.size := Nat.le_of_eq W13.size.symm
  have Z14 : n0 ≤ h13.size := Nat.le_trans Z9 sz14
  have O14 := O9.wr W13 g_a3
  have K14 : Keep h0 h13 [a3] := K9.wr W13 (Or.inl (List.mem_of_getElem? (i := 0) rfl))
  obtain ⟨fs, hr, hrun, hended, hW, hsame⟩ := X13.leave (v := some (.int 3)) (fun h => by rw [Bd.returns] at h; cases h)
  refine ⟨_, _, pre0 _ ?_, hrun, hended, _, _, rfl, ?_, ⟨_, rfl⟩, hW, hsame.mono (by decide) (by decide)⟩
  · show St p e below s₁ (mkF m 0 #[.val (.ref a1), .val (.int 0), .val (.ref a3), .val (.int 0), .val (.int 3), .unset, .unset] []) _
    refine XS.iconst X0.here hx rfl (hb hby d6_0) ?_
    show St p e below s₁ (mkF m 1 #[.val (.ref a1), .val (.int 0), .val (.ref a3), .val (.int 0), .val (.int 3), .unset, .unset] [(.int 0)]) _
    refine XS.istore X0.here hx rfl (hb hby d6_1) rfl (l' := #[.val (.ref a1), .val (.int 0), .val (.ref a3), .val (.int 0), .val (.int 3), .val (.int 0), .unset]) rfl ?_
    show St p e below s₁ (mkF m 3 #[.val (.ref a1), .val (.int 0), .val (.ref a3), .val (.int 0), .val (.int 3), .val (.int 0), .unset] []) _
    refine XS.iload X0.here hx rfl (hb hby d6_3) rfl ?_
    show St p e below s₁ (mkF m 5 #[.val (.ref a1), .val (.int 0), .val (.ref a3), .val (.int 0), .val (.int 3), .val (.int 0), .unset] [(.int 0)]) _
    refine XS.iload X0.here hx rfl (hb hby d6_5) rfl ?_
    show St p e below s₁ (mkF m 7 #[.val (.ref a1), .val (.int 0), .val (.ref a3), .val (.int 0), .val (.int 3), .val (.int 0), .unset] [(.int 3), (.int 0)]) _
    refine XS.icmpNo X0.here hx rfl (hb hby d6_7) rfl (tlt (by decide : (0 : Int32) < (3 : Int32))).2.1 ?_
    show St p e below s₁ (mkF m 10 #[.val (.ref a1), .val (.int 0), .val (.ref a3), .val (.int 0), .val (.int 3), .val (.int 0), .unset] []) _
    refine XS.aloadN X0.here hx rfl (hb hby d6_10) rfl rfl ?_
    show St p e below s₁ (mkF m 11 #[.val (.ref a1), .val (.int 0), .val (.ref a3), .val (.int 0), .val (.int 3), .val (.int 0), .unset] [(.ref a1)]) _
    refine XS.iloadN X0.here hx rfl (hb hby d6_11) rfl ?_
    show St p e below s₁ (mkF m 12 #[.val (.ref a1), .val (.int 0), .val (.ref a3), .val (.int 0), .val (.int 3), .val (.int 0), .unset] [(.int 0), (.ref a1)]) _
    refine X0.caload hx (j := (0 : Int32)) (v := (.int c0)) (by rw [e0]; exact Ar1.1) (State.isArrayOf_alike hZ.alike Ar1.2.1) Ar1.2.2 hin1 hat1 (g := (mkF m 12 #[.val (.ref a1), .val (.int 0), .val (.ref a3), .val (.int 0), .val (.int 3), .val (.int 0), .unset] [(.int 0), (.ref a1)])) rfl rfl (hb hby d6_12) _ ?_
    show St p e below s₁ (mkF m 13 #[.val (.ref a1), .val (.int 0), .val (.ref a3), .val (.int 0), .val (.int 3), .val (.int 0), .unset] [(.int c0)]) _
    refine XS.istore X0.here hx rfl (hb hby d6_13) rfl (l' := #[.val (.ref a1), .val (.int 0), .val (.ref a3), .val (.int 0), .val (.int 3), .val (.int 0), .val (.int c0)]) rfl ?_
    show St p e below s₁ (mkF m 15 #[.val (.ref a1), .val (.int 0), .val (.ref a3), .val (.int 0), .val (.int 3), .val (.int 0), .val (.int c0)] []) _
    refine XS.iload X0.here hx rfl (hb hby d6_15) rfl ?_
    show St p e below s₁ (mkF m 17 #[.val (.ref a1), .val (.int 0), .val (.ref a3), .val (.int 0), .val (.int 3), .val (.int 0), .val (.int c0)] [(.int c0)]) _
    refine XS.sipush X0.here hx rfl (hb hby d6_17) ?_
    show St p e below s₁ (mkF m 20 #[.val (.ref a1), .val (.int 0), .val (.ref a3), .val (.int 0), .val (.int 3), .val (.int 0), .val (.int c0)] [(.int 255), (.int c0)]) _
    refine XS.icmpYes X0.here hx rfl (pc0 := 20) (pc' := 26) rfl (hb hby d6_20) rfl (flt hb_c0).2.2.2 (by decide) (by decide) ?_
    show St p e below s₁ (mkF m 26 #[.val (.ref a1), .val (.int 0), .val (.ref a3), .val (.int 0), .val (.int 3), .val (.int 0), .val (.int c0)] []) _
    refine XS.aloadN X0.here hx rfl (hb hby d6_26) rfl rfl ?_
    show St p e below s₁ (mkF m 27 #[.val (.ref a1), .val (.int 0), .val (.ref a3), .val (.int 0), .val (.int 3), .val (.int 0), .val (.int c0)] [(.ref a3)]) _
    refine XS.iloadN X0.here hx rfl (hb hby d6_27) rfl ?_
    show St p e below s₁ (mkF m 28 #[.val (.ref a1), .val (.int 0), .val (.ref a3), .val (.int 0), .val (.int 3), .val (.int 0), .val (.int c0)] [(.int 0), (.ref a3)]) _
    refine XS.iload X0.here hx rfl (hb hby d6_28) rfl ?_
    show St p e below s₁ (mkF m 30 #[.val (.ref a1), .val (.int 0), .val (.ref a3), .val (.int 0), .val (.int 3), .val (.int 0), .val (.int c0)] [(.int c0), (.int 0), (.ref a3)]) _
    refine XS.i2b X0.here hx rfl (hb hby d6_30) rfl ?_
    show St p e below s₁ (mkF m 31 #[.val (.ref a1), .val (.int 0), .val (.ref a3), .val (.int 0), .val (.int 3), .val (.int 0), .val (.int c0)] [(.int (c0.toInt8.toInt32)), (.int 0), (.ref a3)]) _
    refine st3 _ ?_
    show St p e below T3 (mkF m 32 #[.val (.ref a1), .val (.int 0), .val (.ref a3), .val (.int 0), .val (.int 3), .val (.int 0), .val (.int c0)] []) _
    refine XS.iinc X3.here hx rfl (hb hby d6_32) rfl (l' := #[.val (.ref a1), .val (.int ((0 : Int32) + (1 : Int32))), .val (.ref a3), .val (.int 0), .val (.int 3), .val (.int 0), .val (.int c0)]) rfl ?_
    show St p e below T3 (mkF m 35 #[.val (.ref a1), .val (.int ((0 : Int32) + (1 : Int32))), .val (.ref a3), .val (.int 0), .val (.int 3), .val (.int 0), .val (.int c0)] []) _
    rw [(by decide : ((0 : Int32) + (1 : Int32)) = (1 : Int32))]
    show St p e below T3 (mkF m 35 #[.val (.ref a1), .val (.int 1), .val (.ref a3), .val (.int 0), .val (.int 3), .val (.int 0), .val (.int c0)] []) _
    refine XS.iinc X3.here hx rfl (hb hby d6_35) rfl (l' := #[.val (.ref a1), .val (.int 1), .val (.ref a3), .val (.int ((0 : Int32) + (1 : Int32))), .val (.int 3), .val (.int 0), .val (.int c0)]) rfl ?_
    show St p e below T3 (mkF m 38 #[.val (.ref a1), .val (.int 1), .val (.ref a3), .val (.int ((0 : Int32) + (1 : Int32))), .val (.int 3), .val (.int 0), .val (.int c0)] []) _
    rw [(by decide : ((0 : Int32) + (1 : Int32)) = (1 : Int32))]
    show St p e below T3 (mkF m 38 #[.val (.ref a1), .val (.int 1), .val (.ref a3), .val (.int 1), .val (.int 3), .val (.int 0), .val (.int c0)] []) _
    refine XS.iinc X3.here hx rfl (hb hby d6_38) rfl (l' := #[.val (.ref a1), .val (.int 1), .val (.ref a3), .val (.int 1), .val (.int 3), .val (.int ((0 : Int32) + (1 : Int32))), .val (.int c0)]) rfl ?_
    show St p e below T3 (mkF m 41 #[.val (.ref a1), .val (.int 1), .val (.ref a3), .val (.int 1), .val (.int 3), .val (.int ((0 : Int32) + (1 : Int32))), .val (.int c0)] []) _
    rw [(by decide : ((0 : Int32) + (1 : Int32)) = (1 : Int32))]
    show St p e below T3 (mkF m 41 #[.val (.ref a1), .val (.int 1), .val (.ref a3), .val (.int 1), .val (.int 3), .val (.int 1), .val (.int c0)] []) _
    refine XS.goto X3.here hx rfl (pc0 := 41) (pc' := 3) rfl (hb hby d6_41) (by decide) (by decide) ?_
    show St p e below T3 (mkF m 3 #[.val (.ref a1), .val (.int 1), .val (.ref a3), .val (.int 1), .val (.int 3), .val (.int 1), .val (.int c0)] []) _
    refine XS.iload X3.here hx rfl (hb hby d6_3) rfl ?_
    show St p e below T3 (mkF m 5 #[.val (.ref a1), .val (.int 1), .val (.ref a3), .val (.int 1), .val (.int 3), .val (.int 1), .val (.int c0)] [(.int 1)]) _
    refine XS.iload X3.here hx rfl (hb hby d6_5) rfl ?_
    show St p e below T3 (mkF m 7 #[.val (.ref a1), .val (.int 1), .val (.ref a3), .val (.int 1), .val (.int 3), .val (.int 1), .val (.int c0)] [(.int 3), (.int 1)]) _
    refine XS.icmpNo X3.here hx rfl (hb hby d6_7) rfl (tlt (by decide : (1 : Int32) < (3 : Int32))).2.1 ?_
    show St p e below T3 (mkF m 10 #[.val (.ref a1), .val (.int 1), .val (.ref a3), .val (.int 1), .val (.int 3), .val (.int 1), .val (.int c0)] []) _
    refine XS.aloadN X3.here hx rfl (hb hby d6_10) rfl rfl ?_
    show St p e below T3 (mkF m 11 #[.val (.ref a1), .val (.int 1), .val (.ref a3), .val (.int 1), .val (.int 3), .val (.int 1), .val (.int c0)] [(.ref a1)]) _
    refine XS.iloadN X3.here hx rfl (hb hby d6_11) rfl ?_
    show St p e below T3 (mkF m 12 #[.val (.ref a1), .val (.int 1), .val (.ref a3), .val (.int 1), .val (.int 3), .val (.int 1), .val (.int c0)] [(.int 1), (.ref a1)]) _
    refine X3.caload hx (j := (1 : Int32)) (v := (.int c1)) (by rw [e3]; exact Ar6.1) (State.isArrayOf_alike hZ.alike Ar6.2.1) Ar6.2.2 hin6 hat6 (g := (mkF m 12 #[.val (.ref a1), .val (.int 1), .val (.ref a3), .val (.int 1), .val (.int 3), .val (.int 1), .val (.int c0)] [(.int 1), (.ref a1)])) rfl rfl (hb hby d6_12) _ ?_
    show St p e below T3 (mkF m 13 #[.val (.ref a1), .val (.int 1), .val (.ref a3), .val (.int 1), .val (.int 3), .val (.int 1), .val (.int c0)] [(.int c1)]) _
    refine XS.istore X3.here hx rfl (hb hby d6_13) rfl (l' := #[.val (.ref a1), .val (.int 1), .val (.ref a3), .val (.int 1), .val (.int 3), .val (.int 1), .val (.int c1)]) rfl ?_
    show St p e below T3 (mkF m 15 #[.val (.ref a1), .val (.int 1), .val (.ref a3), .val (.int 1), .val (.int 3), .val (.int 1), .val (.int c1)] []) _
    refine XS.iload X3.here hx rfl (hb hby d6_15) rfl ?_
    show St p e below T3 (mkF m 17 #[.val (.ref a1), .val (.int 1), .val (.ref a3), .val (.int 1), .val (.int 3), .val (.int 1), .val (.int c1)] [(.int c1)]) _
    refine XS.sipush X3.here hx rfl (hb hby d6_17) ?_
    show St p e below T3 (mkF m 20 #[.val (.ref a1), .val (.int 1), .val (.ref a3), .val (.int 1), .val (.int 3), .val (.int 1), .val (.int c1)] [(.int 255), (.int c1)]) _
    refine XS.icmpYes X3.here hx rfl (pc0 := 20) (pc' := 26) rfl (hb hby d6_20) rfl (flt hb_c1).2.2.2 (by decide) (by decide) ?_
    show St p e below T3 (mkF m 26 #[.val (.ref a1), .val (.int 1), .val (.ref a3), .val (.int 1), .val (.int 3), .val (.int 1), .val (.int c1)] []) _
    refine XS.aloadN X3.here hx rfl (hb hby d6_26) rfl rfl ?_
    show St p e below T3 (mkF m 27 #[.val (.ref a1), .val (.int 1), .val (.ref a3), .val (.int 1), .val (.int 3), .val (.int 1), .val (.int c1)] [(.ref a3)]) _
    refine XS.iloadN X3.here hx rfl (hb hby d6_27) rfl ?_
    show St p e below T3 (mkF m 28 #[.val (.ref a1), .val (.int 1), .val (.ref a3), .val (.int 1), .val (.int 3), .val (.int 1), .val (.int c1)] [(.int 1), (.ref a3)]) _
    refine XS.iload X3.here hx rfl (hb hby d6_28) rfl ?_
    show St p e below T3 (mkF m 30 #[.val (.ref a1), .val (.int 1), .val (.ref a3), .val (.int 1), .val (.int 3), .val (.int 1), .val (.int c1)] [(.int c1), (.int 1), (.ref a3)]) _
    refine XS.i2b X3.here hx rfl (hb hby d6_30) rfl ?_
    show St p e below T3 (mkF m 31 #[.val (.ref a1), .val (.int 1), .val (.ref a3), .val (.int 1), .val (.int 3), .val (.int 1), .val (.int c1)] [(.int (c1.toInt8.toInt32)), (.int 1), (.ref a3)]) _
    refine st8 _ ?_
    show St p e below T8 (mkF m 32 #[.val (.ref a1), .val (.int 1), .val (.ref a3), .val (.int 1), .val (.int 3), .val (.int 1), .val (.int c1)] []) _
    refine XS.iinc X8.here hx rfl (hb hby d6_32) rfl (l' := #[.val (.ref a1), .val (.int ((1 : Int32) + (1 : Int32))), .val (.ref a3), .val (.int 1), .val (.int 3), .val (.int 1), .val (.int c1)]) rfl ?_
    show St p e below T8 (mkF m 35 #[.val (.ref a1), .val (.int ((1 : Int32) + (1 : Int32))), .val (.ref a3), .val (.int 1), .val (.int 3), .val (.int 1), .val (.int c1)] []) _
    rw [(by decide : ((1 : Int32) + (1 : Int32)) = (2 : Int32))]
    show St p e below T8 (mkF m 35 #[.val (.ref a1), .val (.int 2), .val (.ref a3), .val (.int 1), .val (.int 3), .val (.int 1), .val (.int c1)] []) _
    refine XS.iinc X8.here hx rfl (hb hby d6_35) rfl (l' := #[.val (.ref a1), .val (.int 2), .val (.ref a3), .val (.int ((1 : Int32) + (1 : Int32))), .val (.int 3), .val (.int 1), .val (.int c1)]) rfl ?_
    show St p e below T8 (mkF m 38 #[.val (.ref a1), .val (.int 2), .val (.ref a3), .val (.int ((1 : Int32) + (1 : Int32))), .val (.int 3), .val (.int 1), .val (.int c1)] []) _
    rw [(by decide : ((1 : Int32) + (1 : Int32)) = (2 : Int32))]
    show St p e below T8 (mkF m 38 #[.val (.ref a1), .val (.int 2), .val (.ref a3), .val (.int 2), .val (.int 3), .val (.int 1), .val (.int c1)] []) _
    refine XS.iinc X8.here hx rfl (hb hby d6_38) rfl (l' := #[.val (.ref a1), .val (.int 2), .val (.ref a3), .val (.int 2), .val (.int 3), .val (.int ((1 : Int32) + (1 : Int32))), .val (.int c1)]) rfl ?_
    show St p e below T8 (mkF m 41 #[.val (.ref a1), .val (.int 2), .val (.ref a3), .val (.int 2), .val (.int 3), .val (.int ((1 : Int32) + (1 : Int32))), .val (.int c1)] []) _
    rw [(by decide : ((1 : Int32) + (1 : Int32)) = (2 : Int32))]
    show St p e below T8 (mkF m 41 #[.val (.ref a1), .val (.int 2), .val (.ref a3), .val (.int 2), .val (.int 3), .val (.int 2), .val (.int c1)] []) _
    refine XS.goto X8.here hx rfl (pc0 := 41) (pc' := 3) rfl (hb hby d6_41) (by decide) (by decide) ?_
    show St p e below T8 (mkF m 3 #[.val (.ref a1), .val (.int 2), .val (.ref a3), .val (.int 2), .val (.int 3), .val (.int 2), .val (.int c1)] []) _
    refine XS.iload X8.here hx rfl (hb hby d6_3) rfl ?_
    show St p e below T8 (mkF m 5 #[.val (.ref a1), .val (.int 2), .val (.ref a3), .val (.int 2), .val (.int 3), .val (.int 2), .val (.int c1)] [(.int 2)]) _
    refine XS.iload X8.here hx rfl (hb hby d6_5) rfl ?_
    show St p e below T8 (mkF m 7 #[.val (.ref a1), .val (.int 2), .val (.ref a3), .val (.int 2), .val (.int 3), .val (.int 2), .val (.int c1)] [(.int 3), (.int 2)]) _
    refine XS.icmpNo X8.here hx rfl (hb hby d6_7) rfl (tlt (by decide : (2 : Int32) < (3 : Int32))).2.1 ?_
    show St p e below T8 (mkF m 10 #[.val (.ref a1), .val (.int 2), .val (.ref a3), .val (.int 2), .val (.int 3), .val (.int 2), .val (.int c1)] []) _
    refine XS.aloadN X8.here hx rfl (hb hby d6_10) rfl rfl ?_
    show St p e below T8 (mkF m 11 #[.val (.ref a1), .val (.int 2), .val (.ref a3), .val (.int 2), .val (.int 3), .val (.int 2), .val (.int c1)] [(.ref a1)]) _
    refine XS.iloadN X8.here hx rfl (hb hby d6_11) rfl ?_
    show St p e below T8 (mkF m 12 #[.val (.ref a1), .val (.int 2), .val (.ref a3), .val (.int 2), .val (.int 3), .val (.int 2), .val (.int c1)] [(.int 2), (.ref a1)]) _
    refine X8.caload hx (j := (2 : Int32)) (v := (.int c2)) (by rw [e8]; exact Ar11.1) (State.isArrayOf_alike hZ.alike Ar11.2.1) Ar11.2.2 hin11 hat11 (g := (mkF m 12 #[.val (.ref a1), .val (.int 2), .val (.ref a3), .val (.int 2), .val (.int 3), .val (.int 2), .val (.int c1)] [(.int 2), (.ref a1)])) rfl rfl (hb hby d6_12) _ ?_
    show St p e below T8 (mkF m 13 #[.val (.ref a1), .val (.int 2), .val (.ref a3), .val (.int 2), .val (.int 3), .val (.int 2), .val (.int c1)] [(.int c2)]) _
    refine XS.istore X8.here hx rfl (hb hby d6_13) rfl (l' := #[.val (.ref a1), .val (.int 2), .val (.ref a3), .val (.int 2), .val (.int 3), .val (.int 2), .val (.int c2)]) rfl ?_
    show St p e below T8 (mkF m 15 #[.val (.ref a1), .val (.int 2), .val (.ref a3), .val (.int 2), .val (.int 3), .val (.int 2), .val (.int c2)] []) _
    refine XS.iload X8.here hx rfl (hb hby d6_15) rfl ?_
    show St p e below T8 (mkF m 17 #[.val (.ref a1), .val (.int 2), .val (.ref a3), .val (.int 2), .val (.int 3), .val (.int 2), .val (.int c2)] [(.int c2)]) _
    refine XS.sipush X8.here hx rfl (hb hby d6_17) ?_
    show St p e below T8 (mkF m 20 #[.val (.ref a1), .val (.int 2), .val (.ref a3), .val (.int 2), .val (.int 3), .val (.int 2), .val (.int c2)] [(.int 255), (.int c2)]) _
    refine XS.icmpYes X8.here hx rfl (pc0 := 20) (pc' := 26) rfl (hb hby d6_20) rfl (flt hb_c2).2.2.2 (by decide) (by decide) ?_
    show St p e below T8 (mkF m 26 #[.val (.ref a1), .val (.int 2), .val (.ref a3), .val (.int 2), .val (.int 3), .val (.int 2), .val (.int c2)] []) _
    refine XS.aloadN X8.here hx rfl (hb hby d6_26) rfl rfl ?_
    show St p e below T8 (mkF m 27 #[.val (.ref a1), .val (.int 2), .val (.ref a3), .val (.int 2), .val (.int 3), .val (.int 2), .val (.int c2)] [(.ref a3)]) _
    refine XS.iloadN X8.here hx rfl (hb hby d6_27) rfl ?_
    show St p e below T8 (mkF m 28 #[.val (.ref a1), .val (.int 2), .val (.ref a3), .val (.int 2), .val (.int 3), .val (.int 2), .val (.int c2)] [(.int 2), (.ref a3)]) _
    refine XS.iload X8.here hx rfl (hb hby d6_28) rfl ?_
    show St p e below T8 (mkF m 30 #[.val (.ref a1), .val (.int 2), .val (.ref a3), .val (.int 2), .val (.int 3), .val (.int 2), .val (.int c2)] [(.int c2), (.int 2), (.ref a3)]) _
    refine XS.i2b X8.here hx rfl (hb hby d6_30) rfl ?_
    show St p e below T8 (mkF m 31 #[.val (.ref a1), .val (.int 2), .val (.ref a3), .val (.int 2), .val (.int 3), .val (.int 2), .val (.int c2)] [(.int (c2.toInt8.toInt32)), (.int 2), (.ref a3)]) _
    refine st13 _ ?_
    show St p e below T13 (mkF m 32 #[.val (.ref a1), .val (.int 2), .val (.ref a3), .val (.int 2), .val (.int 3), .val (.int 2), .val (.int c2)] []) _
    refine XS.iinc X13.here hx rfl (hb hby d6_32) rfl (l' := #[.val (.ref a1), .val (.int ((2 : Int32) + (1 : Int32))), .val (.ref a3), .val (.int 2), .val (.int 3), .val (.int 2), .val (.int c2)]) rfl ?_
    show St p e below T13 (mkF m 35 #[.val (.ref a1), .val (.int ((2 : Int32) + (1 : Int32))), .val (.ref a3), .val (.int 2), .val (.int 3), .val (.int 2), .val (.int c2)] []) _
    rw [(by decide : ((2 : Int32) + (1 : Int32)) = (3 : Int32))]
    show St p e below T13 (mkF m 35 #[.val (.ref a1), .val (.int 3), .val (.ref a3), .val (.int 2), .val (.int 3), .val (.int 2), .val (.int c2)] []) _
    refine XS.iinc X13.here hx rfl (hb hby d6_35) rfl (l' := #[.val (.ref a1), .val (.int 3), .val (.ref a3), .val (.int ((2 : Int32) + (1 : Int32))), .val (.int 3), .val (.int 2), .val (.int c2)]) rfl ?_
    show St p e below T13 (mkF m 38 #[.val (.ref a1), .val (.int 3), .val (.ref a3), .val (.int ((2 : Int32) + (1 : Int32))), .val (.int 3), .val (.int 2), .val (.int c2)] []) _
    rw [(by decide : ((2 : Int32) + (1 : Int32)) = (3 : Int32))]
    show St p e below T13 (mkF m 38 #[.val (.ref a1), .val (.int 3), .val (.ref a3), .val (.int 3), .val (.int 3), .val (.int 2), .val (.int c2)] []) _
    refine XS.iinc X13.here hx rfl (hb hby d6_38) rfl (l' := #[.val (.ref a1), .val (.int 3), .val (.ref a3), .val (.int 3), .val (.int 3), .val (.int ((2 : Int32) + (1 : Int32))), .val (.int c2)]) rfl ?_
    show St p e below T13 (mkF m 41 #[.val (.ref a1), .val (.int 3), .val (.ref a3), .val (.int 3), .val (.int 3), .val (.int ((2 : Int32) + (1 : Int32))), .val (.int c2)] []) _
    rw [(by decide : ((2 : Int32) + (1 : Int32)) = (3 : Int32))]
    show St p e below T13 (mkF m 41 #[.val (.ref a1), .val (.int 3), .val (.ref a3), .val (.int 3), .val (.int 3), .val (.int 3), .val (.int c2)] []) _
    refine XS.goto X13.here hx rfl (pc0 := 41) (pc' := 3) rfl (hb hby d6_41) (by decide) (by decide) ?_
    show St p e below T13 (mkF m 3 #[.val (.ref a1), .val (.int 3), .val (.ref a3), .val (.int 3), .val (.int 3), .val (.int 3), .val (.int c2)] []) _
    refine XS.iload X13.here hx rfl (hb hby d6_3) rfl ?_
    show St p e below T13 (mkF m 5 #[.val (.ref a1), .val (.int 3), .val (.ref a3), .val (.int 3), .val (.int 3), .val (.int 3), .val (.int c2)] [(.int 3)]) _
    refine XS.iload X13.here hx rfl (hb hby d6_5) rfl ?_
    show St p e below T13 (mkF m 7 #[.val (.ref a1), .val (.int 3), .val (.ref a3), .val (.int 3), .val (.int 3), .val (.int 3), .val (.int c2)] [(.int 3), (.int 3)]) _
    refine XS.icmpYes X13.here hx rfl (pc0 := 7) (pc' := 44) rfl (hb hby d6_7) rfl (flt (by decide : ¬ ((3 : Int32) < (3 : Int32)))).2.1 (by decide) (by decide) ?_
    show St p e below T13 (mkF m 44 #[.val (.ref a1), .val (.int 3), .val (.ref a3), .val (.int 3), .val (.int 3), .val (.int 3), .val (.int c2)] []) _
    refine XS.iload X13.here hx rfl (hb hby d6_44) rfl ?_
    show St p e below T13 (mkF m 46 #[.val (.ref a1), .val (.int 3), .val (.ref a3), .val (.int 3), .val (.int 3), .val (.int 3), .val (.int c2)] [(.int 3)]) _
    exact retI X13 hx Bd.returns (hb hby d6_46) hr
  · show Q_cmp5_3 Z a1 a3 k_a1 c0 c1 c2 k_a3 h0 n0 _ T13.heap _
    rw [e13]
    exact ⟨rfl, N13, K14, V13⟩
def Q_cmp3_3 (Z : State) (a1 : Addr) (k_a1 : ClassId) (c0 : Int32) (c1 : Int32) (c2 : Int32) (h0 : Heap) (n0 : Nat) (v : Option Value) (h : Heap) (L : List Loc) : Prop := ∃ (t : Addr) (kt : ClassId), v = some (.ref t) ∧ Fr n0 L ∧ Keep h0 h [] ∧ h0.size ≤ t ∧ Arv Z h t kt .byte (3 : Int32) [(.int (c0.toInt8.toInt32)), (.int (c1.toInt8.toInt32)), (.int (c2.toInt8.toInt32))] (.int 0)
set_option maxRecDepth 65536 in
set_option maxHeartbeats 40000000 in
theorem rm_cmp3_3 (l : Launch) (Z : State) (a0 : Array Value) (hw : ∀ d ∈ tables_1, d.before a0 Z = true) (ws : List Jvm.Cond) (a1 : Addr) (k_a1 : ClassId) (c0 : Int32) (c1 : Int32) (c2 : Int32) (h0 : Heap) (n0 : Nat) (Z0 : n0 ≤ h0.size) (V_a1 : Arv Z h0 a1 k_a1 .char (3 : Int32) [(.int c0), (.int c1), (.int c2)] (.int 0)) (hb_c0 : ¬ ((255 : Int32) < c0)) (hb_c1 : ¬ ((255 : Int32) < c1)) (hb_c2 : ¬ ((255 : Int32) < c2)) (O0 : Old Z n0 h0) :
    MetFree l (⟨"java/lang/StringUTF16", "compress", "([CII)[B"⟩ : MethodName) (head1 (Jvm.Cond.code (⟨"java/lang/StringUTF16", "compress", "([CII)[B"⟩ : MethodName) jdk_52_method_16_code 6 (some (.array .byte)) :: ws) ({ frames := 1, cells := 1, slots := 3, locals := 18 } : Room)) (fun a U => a = #[(.ref a1), (.int 0), (.int 3)] ∧ Z.Warmed39 U.vm ∧ U.heap = h0) (fun _ _ _ _ _ => True) (fun _ U o U' => ∃ v L, o = .returned v ∧ Q_cmp3_3 Z a1 k_a1 c0 c1 c2 h0 n0 v U'.heap L ∧ FrameEnd U o U' L ({ frames := 1, cells := 1, slots := 3, locals := 18 } : Room).cells ({ frames := 1, cells := 1, slots := 3, locals := 18 } : Room).slots) := by
  refine MetFree.of_bodySF (plainFor_of_name pn_5) hisR ?_
  intro p e s m args below meth c s₁ Bd hml0 hP hK
  obtain ⟨rfl, hZ, hh⟩ := hP
  have hx := Bd.exec
  have hby := Bd.bytes
  have hml : c.maxLocals = 6 := hml0
  have hown : s.vm.findClass "java/lang/StringUTF16" = some m.cls := findClass_of_methodNamed Bd.named
  have hnm := (name_of_methodNamed Bd.named Bd.method).1
  have X0 : Stand p l e ({ frames := 1, cells := 1, slots := 3, locals := 18 } : Room) s m #[(.ref a1), (.int 0), (.int 3)] below meth c s₁ [] 0 0 := Stand.of_body Bd
  have e0 : s₁.heap = h0 := by rw [← hh, Bd.state]; rfl
  have N0 := Fr.nil n0
  have pre0 : ∀ t, Steps p.tables e below (s₁.setTop (mkF m 0 #[.val (.ref a1), .val (.int 0), .val (.int 3), .unset, .unset, .unset] [])) t → Steps p.tables e below (s₁.setTop (entryFrame m #[(.ref a1), (.int 0), (.int 3)] 6)) t := fun t k => castTop (ef_5_RII m a1 (0 : Int32) (3 : Int32)) k
  obtain ⟨T1, h1, k1, X1, e1, E1, A1, st1⟩ := newP X0 hx hZ (hwi hw 19 rfl) e0 (g := (mkF m 1 #[.val (.ref a1), .val (.int 0), .val (.int 3), .unset, .unset, .unset] [(.int 3)])) rfl (hb hby d5_1) rfl (by decide) (cap := 3) (by decide) (by decide) (by decide) (by decide)
  obtain ⟨b1, g1⟩ : ∃ z, z = h0.size := ⟨_, rfl⟩
  rw [← g1] at A1 st1
  have bn_b1 : h0.size ≤ b1 := Nat.le_of_eq g1.symm
  have sz2 : h0.size ≤ h1.size := E1.1
  have Z2 : n0 ≤ h1.size := Nat.le_trans Z0 sz2
  have O2 := O0.ext E1
  have K2 : Keep h0 h1 [] := (Keep.refl h0 []).ext E1
  have V1 : Arv Z h1 b1 k1 .byte (3 : Int32) [(.int 0), (.int 0), (.int 0)] (.int 0) := (Arv.new A1 (by decide)).pad (pad_rep [] (.int 0) 3)
  have fc4 := (V_a1.ext E1)
  obtain ⟨_, _, ⟨T3, L3, k3, n3⟩, -, X3, ⟨Lc3, hQ3, l3, y3, z3⟩, st3⟩ := Jvm.LawKit.callS X1 hx (y := (⟨"java/lang/StringUTF16", "compress", "([CI[BII)I"⟩ : MethodName)) hown (mvT hZ (hwi hw 31 rfl)) (mvT hZ (hwi hw 32 rfl)) (mvT hZ (hwi hw 29 rfl)) (mvT hZ (hwi hw 33 rfl)) (by decide) (backOf (W := 0) (rm_cmp5_3 l Z a0 hw [] a1 b1 k_a1 c0 c1 c2 k1 h1 n0 Z2 fc4 V1 (neN (by have := ltN V_a1.lt; have := ltN V1.lt; omega)) hb_c0 hb_c1 hb_c2 (Nat.le_trans Z0 bn_b1) O2) hZ (hwi hw 33 rfl) (hwi hw 29 rfl) (by decide) (by decide)) (g := (mkF m 9 #[.val (.ref a1), .val (.int 0), .val (.int 3), .val (.ref b1), .unset, .unset] [(.int 3), (.int 0), (.ref b1), (.int 0), (.ref a1)])) rfl (by rw [hml]; rfl) (argsL := [(.ref a1), (.int 0), (.ref b1), (.int 0), (.int 3)]) (rest := []) (lenOf pd_CI_BII_I_688 rfl) rfl (by show 2 * 0 + _ ≤ _; exact Nat.le_of_eq rfl) (hb hby d5_9) (fun _ _ => ⟨rfl, e1, (by decide : 1 + 0 ≤ _), (by decide : 3 + 0 ≤ _)⟩)
  dsimp only [Pt.U, Pt.locs, Pt.cells, Pt.slots] at X3 l3 y3 z3 st3 hQ3
  subst l3 y3 z3
  obtain ⟨rfl, N3q, Kc3, g3_0⟩ := hQ3
  have N3 := Fr.app N0 N3q
  have sz5 : h1.size ≤ T3.heap.size := Kc3.1
  have Z5 : n0 ≤ T3.heap.size := Nat.le_trans Z2 sz5
  have O5 := O2.keep Kc3 (allS (Nat.le_trans Z0 bn_b1) all0)
  have K5 : Keep h0 T3.heap [] := K2.trans Kc3 (allS (Or.inr bn_b1) (all0))
  obtain ⟨fs, hr, hrun, hended, hW, hsame⟩ := X3.leave (v := some (.ref b1)) (fun h => by rw [Bd.returns] at h; cases h)
  refine ⟨_, _, pre0 _ ?_, hrun, hended, _, _, rfl, ?_, ⟨_, rfl⟩, hW, hsame.mono (by decide) (by decide)⟩
  · show St p e below s₁ (mkF m 0 #[.val (.ref a1), .val (.int 0), .val (.int 3), .unset, .unset, .unset] []) _
    refine XS.iloadN X0.here hx rfl (hb hby d5_0) rfl ?_
    show St p e below s₁ (mkF m 1 #[.val (.ref a1), .val (.int 0), .val (.int 3), .unset, .unset, .unset] [(.int 3)]) _
    refine st1 _ ?_
    show St p e below T1 (mkF m 3 #[.val (.ref a1), .val (.int 0), .val (.int 3), .unset, .unset, .unset] [(.ref b1)]) _
    refine XS.astoreN X1.here hx rfl (hb hby d5_3) rfl rfl (l' := #[.val (.ref a1), .val (.int 0), .val (.int 3), .val (.ref b1), .unset, .unset]) rfl ?_
    show St p e below T1 (mkF m 4 #[.val (.ref a1), .val (.int 0), .val (.int 3), .val (.ref b1), .unset, .unset] []) _
    refine XS.aloadN X1.here hx rfl (hb hby d5_4) rfl rfl ?_
    show St p e below T1 (mkF m 5 #[.val (.ref a1), .val (.int 0), .val (.int 3), .val (.ref b1), .unset, .unset] [(.ref a1)]) _
    refine XS.iloadN X1.here hx rfl (hb hby d5_5) rfl ?_
    show St p e below T1 (mkF m 6 #[.val (.ref a1), .val (.int 0), .val (.int 3), .val (.ref b1), .unset, .unset] [(.int 0), (.ref a1)]) _
    refine XS.aloadN X1.here hx rfl (hb hby d5_6) rfl rfl ?_
    show St p e below T1 (mkF m 7 #[.val (.ref a1), .val (.int 0), .val (.int 3), .val (.ref b1), .unset, .unset] [(.ref b1), (.int 0), (.ref a1)]) _
    refine XS.iconst X1.here hx rfl (hb hby d5_7) ?_
    show St p e below T1 (mkF m 8 #[.val (.ref a1), .val (.int 0), .val (.int 3), .val (.ref b1), .unset, .unset] [(.int 0), (.ref b1), (.int 0), (.ref a1)]) _
    refine XS.iloadN X1.here hx rfl (hb hby d5_8) rfl ?_
    show St p e below T1 (mkF m 9 #[.val (.ref a1), .val (.int 0), .val (.int 3), .val (.ref b1), .unset, .unset] [(.int 3), (.int 0), (.ref b1), (.int 0), (.ref a1)]) _
    refine st3 _ ?_
    show St p e below T3 (mkF m 12 #[.val (.ref a1), .val (.int 0), .val (.int 3), .val (.ref b1), .unset, .unset] [(.int 3)]) _
    refine XS.istore X3.here hx rfl (hb hby d5_12) rfl (l' := #[.val (.ref a1), .val (.int 0), .val (.int 3), .val (.ref b1), .val (.int 3), .unset]) rfl ?_
    show St p e below T3 (mkF m 14 #[.val (.ref a1), .val (.int 0), .val (.int 3), .val (.ref b1), .val (.int 3), .unset] []) _
    refine XS.iload X3.here hx rfl (hb hby d5_14) rfl ?_
    show St p e below T3 (mkF m 16 #[.val (.ref a1), .val (.int 0), .val (.int 3), .val (.ref b1), .val (.int 3), .unset] [(.int 3)]) _
    refine XS.iloadN X3.here hx rfl (hb hby d5_16) rfl ?_
    show St p e below T3 (mkF m 17 #[.val (.ref a1), .val (.int 0), .val (.int 3), .val (.ref b1), .val (.int 3), .unset] [(.int 3), (.int 3)]) _
    refine XS.icmpYes X3.here hx rfl (pc0 := 17) (pc' := 57) rfl (hb hby d5_17) rfl (teq (by decide : (3 : Int32) = (3 : Int32))).1 (by decide) (by decide) ?_
    show St p e below T3 (mkF m 57 #[.val (.ref a1), .val (.int 0), .val (.int 3), .val (.ref b1), .val (.int 3), .unset] []) _
    refine XS.aloadN X3.here hx rfl (hb hby d5_57) rfl rfl ?_
    show St p e below T3 (mkF m 58 #[.val (.ref a1), .val (.int 0), .val (.int 3), .val (.ref b1), .val (.int 3), .unset] [(.ref b1)]) _
    jvm_step X3.here [X3.here.top, hx, (hb hby d5_58), X3.method', Bd.returns, Value.isRef, FieldType.isReference]
    first | (intro acts; rw [hr _ acts rfl rfl rfl]) | rw [hr _ _ rfl rfl rfl]
    exact Steps.refl _
  · show Q_cmp3_3 Z a1 k_a1 c0 c1 c2 h0 n0 _ T3.heap _
    exact ⟨b1, k1, rfl, N3, K5, bn_b1, g3_0⟩
def Q_cod_3 (Z : State) (a1 : Addr) (k_a1 : ClassId) (by0 : Int32) (by1 : Int32) (by2 : Int32) (h0 : Heap) (n0 : Nat) (v : Option Value) (h : Heap) (L : List Loc) : Prop := v = some (.int 0) ∧ Fr n0 L ∧ h = h0
set_option maxRecDepth 65536 in
set_option maxHeartbeats 40000000 in
theorem rm_cod_3 (l : Launch) (Z : State) (a0 : Array Value) (hw : ∀ d ∈ tables_1, d.before a0 Z = true) (ws : List Jvm.Cond) (a1 : Addr) (k_a1 : ClassId) (by0 : Int32) (by1 : Int32) (by2 : Int32) (h0 : Heap) (n0 : Nat) (Z0 : n0 ≤ h0.size) (V_a1 : Arv Z h0 a1 k_a1 .byte (3 : Int32) [(.int by0), (.int by1), (.int by2)] (.int 0)) :
    MetFree l (⟨"java/lang/StringUTF16", "coderFromArrayLen", "([BI)B"⟩ : MethodName) (head1 (Jvm.Cond.code (⟨"java/lang/StringUTF16", "coderFromArrayLen", "([BI)B"⟩ : MethodName) jdk_52_method_15_code 2 (some .byte) :: ws) ({ frames := 0, cells := 0, slots := 0, locals := 0 } : Room)) (fun a U => a = #[(.ref a1), (.int 3)] ∧ Z.Warmed39 U.vm ∧ U.heap = h0) (fun _ _ _ _ _ => True) (fun _ U o U' => ∃ v L, o = .returned v ∧ Q_cod_3 Z a1 k_a1 by0 by1 by2 h0 n0 v U'.heap L ∧ FrameEnd U o U' L ({ frames := 0, cells := 0, slots := 0, locals := 0 } : Room).cells ({ frames := 0, cells := 0, slots := 0, locals := 0 } : Room).slots) := by
  refine MetFree.of_bodySF (plainFor_of_name pn_7) hisR ?_
  intro p e s m args below meth c s₁ Bd hml0 hP hK
  obtain ⟨rfl, hZ, hh⟩ := hP
  have hx := Bd.exec
  have hby := Bd.bytes
  have hml : c.maxLocals = 2 := hml0
  have hown : s.vm.findClass "java/lang/StringUTF16" = some m.cls := findClass_of_methodNamed Bd.named
  have hnm := (name_of_methodNamed Bd.named Bd.method).1
  have X0 : Stand p l e ({ frames := 0, cells := 0, slots := 0, locals := 0 } : Room) s m #[(.ref a1), (.int 3)] below meth c s₁ [] 0 0 := Stand.of_body Bd
  have e0 : s₁.heap = h0 := by rw [← hh, Bd.state]; rfl
  have N0 := Fr.nil n0
  have pre0 : ∀ t, Steps p.tables e below (s₁.setTop (mkF m 0 #[.val (.ref a1), .val (.int 3)] [])) t → Steps p.tables e below (s₁.setTop (entryFrame m #[(.ref a1), (.int 3)] 2)) t := fun t k => castTop (ef_7_RI m a1 (3 : Int32)) k
  obtain ⟨cl1, Ar1, -, S1, M1, -, -⟩ := id V_a1
  obtain ⟨fs, hr, hrun, hended, hW, hsame⟩ := X0.leave (v := some (.int 0)) (fun h => by rw [Bd.returns] at h; cases h)
  refine ⟨_, _, pre0 _ ?_, hrun, hended, _, _, rfl, ?_, ⟨_, rfl⟩, hW, hsame.mono (by decide) (by decide)⟩
  · show St p e below s₁ (mkF m 0 #[.val (.ref a1), .val (.int 3)] []) _
    refine XS.iloadN X0.here hx rfl (hb hby d7_0) rfl ?_
    show St p e below s₁ (mkF m 1 #[.val (.ref a1), .val (.int 3)] [(.int 3)]) _
    refine XS.aloadN X0.here hx rfl (hb hby d7_1) rfl rfl ?_
    show St p e below s₁ (mkF m 2 #[.val (.ref a1), .val (.int 3)] [(.ref a1), (.int 3)]) _
    refine X0.arraylength hx (by rw [e0]; exact Ar1.1) (State.isArrayOf_alike hZ.alike Ar1.2.1) (g := (mkF m 2 #[.val (.ref a1), .val (.int 3)] [(.ref a1), (.int 3)])) rfl rfl (hb hby d7_2) _ ?_
    rw [len_of S1 M1]
    show St p e below s₁ (mkF m 3 #[.val (.ref a1), .val (.int 3)] [(.int 3), (.int 3)]) _
    refine XS.isub X0.here hx rfl (hb hby d7_3) rfl ?_
    show St p e below s₁ (mkF m 4 #[.val (.ref a1), .val (.int 3)] [(.int ((3 : Int32) - (3 : Int32)))]) _
    rw [(by decide : ((3 : Int32) - (3 : Int32)) = (0 : Int32))]
    show St p e below s₁ (mkF m 4 #[.val (.ref a1), .val (.int 3)] [(.int 0)]) _
    refine XS.bipush X0.here hx rfl (hb hby d7_4) ?_
    show St p e below s₁ (mkF m 6 #[.val (.ref a1), .val (.int 3)] [(.int 31), (.int 0)]) _
    refine XS.iushr X0.here hx rfl (hb hby d7_6) rfl ?_
    show St p e below s₁ (mkF m 7 #[.val (.ref a1), .val (.int 3)] [(.int (((0 : Int32).toUInt32 >>> ((31 : Int32) &&& 31).toUInt32).toInt32))]) _
    rw [(by decide : (((0 : Int32).toUInt32 >>> ((31 : Int32) &&& 31).toUInt32).toInt32) = (0 : Int32))]
    show St p e below s₁ (mkF m 7 #[.val (.ref a1), .val (.int 3)] [(.int 0)]) _
    refine XS.i2b X0.here hx rfl (hb hby d7_7) rfl ?_
    show St p e below s₁ (mkF m 8 #[.val (.ref a1), .val (.int 3)] [(.int ((0 : Int32).toInt8.toInt32))]) _
    rw [(by decide : ((0 : Int32).toInt8.toInt32) = (0 : Int32))]
    show St p e below s₁ (mkF m 8 #[.val (.ref a1), .val (.int 3)] [(.int 0)]) _
    exact retN X0 hx (t := .byte) Bd.returns (by simp) (hb hby d7_8) hr
  · show Q_cod_3 Z a1 k_a1 by0 by1 by2 h0 n0 _ s₁.heap _
    rw [e0]
    exact ⟨rfl, N0, rfl⟩
def Q_new4_3 (Z : State) (a1 : Addr) (a2 : Addr) (w_COMPACT_STRINGS : Int32) (k_a2 : ClassId) (c0 : Int32) (c1 : Int32) (c2 : Int32) (u_a1_coder : Value) (u_a1_value : Value) (h0 : Heap) (n0 : Nat) (v : Option Value) (h : Heap) (L : List Loc) : Prop := ∃ (t : Addr) (kt : ClassId), v = none ∧ Fr n0 L ∧ Keep h0 h [a1] ∧ Exa Z h a1 "java/lang/String" ∧ Fld Z h a1 "java/lang/String" "coder" "B" (.int 0) ∧ Fld Z h a1 "java/lang/String" "value" "[B" (.ref t) ∧ h0.size ≤ t ∧ Arv Z h t kt .byte (3 : Int32) [(.int (c0.toInt8.toInt32)), (.int (c1.toInt8.toInt32)), (.int (c2.toInt8.toInt32))] (.int 0)
set_option maxRecDepth 65536 in
set_option maxHeartbeats 40000000 in
theorem rm_new4_3 (l : Launch) (Z : State) (a0 : Array Value) (hw : ∀ d ∈ tables_1, d.before a0 Z = true) (ws : List Jvm.Cond) (a1 : Addr) (a2 : Addr) (w_COMPACT_STRINGS : Int32) (k_a2 : ClassId) (c0 : Int32) (c1 : Int32) (c2 : Int32) (u_a1_coder : Value) (u_a1_value : Value) (h0 : Heap) (n0 : Nat) (Z0 : n0 ≤ h0.size) (S_COMPACT_STRINGS : Sta Z Z.heap "java/lang/String" "COMPACT_STRINGS" "Z" (.int w_COMPACT_STRINGS)) (hcs : ¬ (w_COMPACT_STRINGS = (0 : Int32))) (V_a2 : Arv Z h0 a2 k_a2 .char (3 : Int32) [(.int c0), (.int c1), (.int c2)] (.int 0)) (hb_c0 : ¬ ((255 : Int32) < c0)) (hb_c1 : ¬ ((255 : Int32) < c1)) (hb_c2 : ¬ ((255 : Int32) < c2)) (O0 : Old Z n0 h0) (E_a1 : Exa Z h0 a1 "java/lang/String") (F_a1_coder : Fld Z h0 a1 "java/lang/String" "coder" "B" u_a1_coder) (g_a1 : n0 ≤ a1) (F_a1_value : Fld Z h0 a1 "java/lang/String" "value" "[B" u_a1_value) :
    MetFree l (⟨"java/lang/String", "<init>", "([CIILjava/lang/Void;)V"⟩ : MethodName) (head1 (Jvm.Cond.code (⟨"java/lang/String", "<init>", "([CIILjava/lang/Void;)V"⟩ : MethodName) jdk_42_method_149_code 6 none :: ws) ({ frames := 2, cells := 1, slots := 3, locals := 35 } : Room)) (fun a U => a = #[(.ref a1), (.ref a2), (.int 0), (.int 3), .null] ∧ Z.Warmed39 U.vm ∧ U.heap = h0) (fun _ _ _ _ _ => True) (fun _ U o U' => ∃ v L, o = .returned v ∧ Q_new4_3 Z a1 a2 w_COMPACT_STRINGS k_a2 c0 c1 c2 u_a1_coder u_a1_value h0 n0 v U'.heap L ∧ FrameEnd U o U' L ({ frames := 2, cells := 1, slots := 3, locals := 35 } : Room).cells ({ frames := 2, cells := 1, slots := 3, locals := 35 } : Room).slots) := by
  refine MetFree.of_bodySF (plainFor_of_name pn_3) hisR ?_
  intro p e s m args below meth c s₁ Bd hml0 hP hK
  obtain ⟨rfl, hZ, hh⟩ := hP
  have hx := Bd.exec
  have hby := Bd.bytes
  have hml : c.maxLocals = 6 := hml0
  have hown : s.vm.findClass "java/lang/String" = some m.cls := findClass_of_methodNamed Bd.named
  have hnm := (name_of_methodNamed Bd.named Bd.method).1
  have X0 : Stand p l e ({ frames := 2, cells := 1, slots := 3, locals := 35 } : Room) s m #[(.ref a1), (.ref a2), (.int 0), (.int 3), .null] below meth c s₁ [] 0 0 := Stand.of_body Bd
  have e0 : s₁.heap = h0 := by rw [← hh, Bd.state]; rfl
  have N0 := Fr.nil n0
  have pre0 : ∀ t, Steps p.tables e below (s₁.setTop (mkF m 0 #[.val (.ref a1), .val (.ref a2), .val (.int 0), .val (.int 3), .val .null, .unset] [])) t → Steps p.tables e below (s₁.setTop (entryFrame m #[(.ref a1), (.ref a2), (.int 0), (.int 3), .null] 6)) t := fun t k => castTop (ef_3_RRIIn m a1 a2 (0 : Int32) (3 : Int32)) k
  obtain ⟨T1, X1, e1, st1⟩ := initO X0 hx hZ hown (hwi hw 15 rfl) (hwi hw 16 rfl) (hwi hw 17 rfl) e0 (g := (mkF m 1 #[.val (.ref a1), .val (.ref a2), .val (.int 0), .val (.int 3), .val .null, .unset] [(.ref a1)])) rfl (by rw [hml]; rfl) rfl (hb hby d3_1) (by decide) (W := 0) (by show 2 * 0 + _ ≤ _; exact Nat.le_of_eq rfl) (by decide)
  obtain ⟨T2, X2, e2, st2⟩ := getS2 X1 hx hZ hown (host := "") (Or.inl (hwi hw 26 rfl)) Via.refl e1 (S_COMPACT_STRINGS.ext O0.2) (g := (mkF m 27 #[.val (.ref a1), .val (.ref a2), .val (.int 0), .val (.int 3), .val .null, .unset] [])) rfl (hb hby d3_27)
  obtain ⟨_, _, ⟨T3, L3, k3, n3⟩, -, X3, ⟨Lc3, hQ3, l3, y3, z3⟩, st3⟩ := Jvm.LawKit.callS X2 hx (y := (⟨"java/lang/StringUTF16", "compress", "([CII)[B"⟩ : MethodName)) hown (mvT hZ (hwi hw 27 rfl)) (mvT hZ (hwi hw 28 rfl)) (mvT hZ (hwi hw 29 rfl)) (mvT hZ (hwi hw 30 rfl)) (by decide) (backOf (W := 0) (rm_cmp3_3 l Z a0 hw [] a2 k_a2 c0 c1 c2 h0 n0 Z0 V_a2 hb_c0 hb_c1 hb_c2 O0) hZ (hwi hw 30 rfl) (hwi hw 29 rfl) (by decide) (by decide)) (g := (mkF m 36 #[.val (.ref a1), .val (.ref a2), .val (.int 0), .val (.int 3), .val .null, .unset] [(.int 3), (.int 0), (.ref a2)])) rfl (by rw [hml]; rfl) (argsL := [(.ref a2), (.int 0), (.int 3)]) (rest := []) (lenOf pd_CII__B_542 rfl) rfl (by show 2 * 0 + _ ≤ _; exact Nat.le_of_eq rfl) (hb hby d3_36) (fun _ _ => ⟨rfl, e2, (by decide : 0 + 1 ≤ _), (by decide : 0 + 3 ≤ _)⟩)
  dsimp only [Pt.U, Pt.locs, Pt.cells, Pt.slots] at X3 l3 y3 z3 st3 hQ3
  subst l3 y3 z3
  obtain ⟨t_3, kt_3, rfl, N3q, Kc3, g3_0, g3_1⟩ := hQ3
  have N3 := Fr.app N0 N3q
  have sz4 : h0.size ≤ T3.heap.size := Kc3.1
  have Z4 : n0 ≤ T3.heap.size := Nat.le_trans Z0 sz4
  have O4 := O0.keep Kc3 all0
  have K4 : Keep h0 T3.heap [a1] := (Keep.refl h0 [a1]).trans Kc3 (all0)
  have bn_t_3 : h0.size ≤ t_3 := g3_0
  obtain ⟨_, _, ⟨T5, L5, k5, n5⟩, -, X5, ⟨Lc5, hQ5, l5, y5, z5⟩, st5⟩ := Jvm.LawKit.callS X3 hx (y := (⟨"java/lang/StringUTF16", "coderFromArrayLen", "([BI)B"⟩ : MethodName)) hown (mvT hZ (hwi hw 34 rfl)) (mvT hZ (hwi hw 35 rfl)) (mvT hZ (hwi hw 29 rfl)) (mvT hZ (hwi hw 36 rfl)) (by decide) (backOf (W := 1) (rm_cod_3 l Z a0 hw [] t_3 kt_3 (c0.toInt8.toInt32) (c1.toInt8.toInt32) (c2.toInt8.toInt32) T3.heap n0 Z4 g3_1) hZ (hwi hw 36 rfl) (hwi hw 29 rfl) (by decide) (by decide)) (g := (mkF m 45 #[.val (.ref a1), .val (.ref a2), .val (.int 0), .val (.int 3), .val .null, .val (.ref t_3)] [(.int 3), (.ref t_3), (.ref a1)])) rfl (by rw [hml]; rfl) (argsL := [(.ref t_3), (.int 3)]) (rest := [(.ref a1)]) (lenOf pd_BI_B_377 rfl) rfl (by show 2 * 0 + _ ≤ _; exact Nat.le_of_eq rfl) (hb hby d3_45) (fun _ _ => ⟨rfl, rfl, (by decide : 1 + 0 ≤ _), (by decide : 3 + 0 ≤ _)⟩)
  dsimp only [Pt.U, Pt.locs, Pt.cells, Pt.slots] at X5 l5 y5 z5 st5 hQ5
  subst l5 y5 z5
  obtain ⟨rfl, N5q, e5⟩ := hQ5
  have N5 := Fr.app N3 N5q
  have fc6 := (E_a1.keep Kc3)
  have fc7 := (F_a1_coder.keep Kc3 nin0)
  obtain ⟨T8, h8, X8, e8, W8, st8⟩ := putFN X5 hx hZ hown (hwi hw 25 rfl) Via.refl e5 fc7 fc6 (Or.inr ⟨(hwi hw 21 rfl), rfl, hnm⟩) (hwi hw 5 rfl) (ty := .byte) (v' := (.int 0)) (by decide) rfl (by decide) (g := (mkF m 48 #[.val (.ref a1), .val (.ref a2), .val (.int 0), .val (.int 3), .val .null, .val (.ref t_3)] [(.int 0), (.ref a1)])) rfl rfl (hb hby d3_48)
  have N8 := Fr.snoc X8 N5 g_a1
  have Fw8 := fc7.same W8
  have sz9 : T3.heap.size ≤ h8.size := Nat.le_of_eq W8.size.symm
  have Z9 : n0 ≤ h8.size := Nat.le_trans Z4 sz9
  have O9 := O4.wr W8 g_a1
  have K9 : Keep h0 h8 [a1] := K4.wr W8 (Or.inl (List.mem_of_getElem? (i := 0) rfl))
  have fc10 := (fc6.wr W8)
  have fc11 := ((F_a1_value.keep Kc3 nin0).other W8 (Or.inr (slot_ne (Or.inr (hwi hw 20 rfl)) (Or.inr (hwi hw 21 rfl)) (by decide) (t := (.array .byte)) (t' := .byte) (by decide) (by decide))))
  obtain ⟨T12, h12, X12, e12, W12, st12⟩ := putF X8 hx hZ hown (host := "") (Or.inl (hwi hw 24 rfl)) Via.refl e8 fc11 fc10 (Or.inr ⟨(hwi hw 20 rfl), rfl, hnm⟩) (hwi hw 5 rfl) (ty := (.array .byte)) (by decide) rfl rfl (g := (mkF m 54 #[.val (.ref a1), .val (.ref a2), .val (.int 0), .val (.int 3), .val .null, .val (.ref t_3)] [(.ref t_3), (.ref a1)])) rfl rfl (hb hby d3_54)
  have N12 := Fr.snoc X12 N8 g_a1
  have Fw12 := fc11.same W12
  have sz13 : h8.size ≤ h12.size := Nat.le_of_eq W12.size.symm
  have Z13 : n0 ≤ h12.size := Nat.le_trans Z9 sz13
  have O13 := O9.wr W12 g_a1
  have K13 : Keep h0 h12 [a1] := K9.wr W12 (Or.inl (List.mem_of_getElem? (i := 0) rfl))
  have fc14 := (fc10.wr W12)
  have fc15 := (Fw8.other W12 (Or.inr (slot_ne (Or.inr (hwi hw 21 rfl)) (Or.inr (hwi hw 20 rfl)) (by decide) (t := .byte) (t' := (.array .byte)) (by decide) (by decide))))
  have fc16 := ((g3_1.other W8 (neN (by have := ltN E_a1.lt; have := ltN g3_1.lt; omega))).other W12 (neN (by have := ltN E_a1.lt; have := ltN g3_1.lt; omega)))
  obtain ⟨fs, hr, hrun, hended, hW, hsame⟩ := X12.leave (v := none) (fun _ => rfl)
  refine ⟨_, _, pre0 _ ?_, hrun, hended, _, _, rfl, ?_, ⟨_, rfl⟩, hW, hsame.mono (by decide) (by decide)⟩
  · show St p e below s₁ (mkF m 0 #[.val (.ref a1), .val (.ref a2), .val (.int 0), .val (.int 3), .val .null, .unset] []) _
    refine XS.aloadN X0.here hx rfl (hb hby d3_0) rfl rfl ?_
    show St p e below s₁ (mkF m 1 #[.val (.ref a1), .val (.ref a2), .val (.int 0), .val (.int 3), .val .null, .unset] [(.ref a1)]) _
    refine st1 _ ?_
    show St p e below T1 (mkF m 4 #[.val (.ref a1), .val (.ref a2), .val (.int 0), .val (.int 3), .val .null, .unset] []) _
    refine XS.iloadN X1.here hx rfl (hb hby d3_4) rfl ?_
    show St p e below T1 (mkF m 5 #[.val (.ref a1), .val (.ref a2), .val (.int 0), .val (.int 3), .val .null, .unset] [(.int 3)]) _
    refine XS.ifYes X1.here hx rfl (pc0 := 5) (pc' := 27) rfl (hb hby d3_5) rfl ((if0 _ _).trans (feq (by decide : ¬ ((3 : Int32) = (0 : Int32)))).2) (by decide) (by decide) ?_
    show St p e below T1 (mkF m 27 #[.val (.ref a1), .val (.ref a2), .val (.int 0), .val (.int 3), .val .null, .unset] []) _
    refine st2 _ ?_
    show St p e below T2 (mkF m 30 #[.val (.ref a1), .val (.ref a2), .val (.int 0), .val (.int 3), .val .null, .unset] [(.int w_COMPACT_STRINGS)]) _
    refine XS.ifNo X2.here hx rfl (hb hby d3_30) rfl ((if0 _ _).trans (feq hcs).1) ?_
    show St p e below T2 (mkF m 33 #[.val (.ref a1), .val (.ref a2), .val (.int 0), .val (.int 3), .val .null, .unset] []) _
    refine XS.aloadN X2.here hx rfl (hb hby d3_33) rfl rfl ?_
    show St p e below T2 (mkF m 34 #[.val (.ref a1), .val (.ref a2), .val (.int 0), .val (.int 3), .val .null, .unset] [(.ref a2)]) _
    refine XS.iloadN X2.here hx rfl (hb hby d3_34) rfl ?_
    show St p e below T2 (mkF m 35 #[.val (.ref a1), .val (.ref a2), .val (.int 0), .val (.int 3), .val .null, .unset] [(.int 0), (.ref a2)]) _
    refine XS.iloadN X2.here hx rfl (hb hby d3_35) rfl ?_
    show St p e below T2 (mkF m 36 #[.val (.ref a1), .val (.ref a2), .val (.int 0), .val (.int 3), .val .null, .unset] [(.int 3), (.int 0), (.ref a2)]) _
    refine st3 _ ?_
    show St p e below T3 (mkF m 39 #[.val (.ref a1), .val (.ref a2), .val (.int 0), .val (.int 3), .val .null, .unset] [(.ref t_3)]) _
    refine XS.astore X3.here hx rfl (hb hby d3_39) rfl rfl (l' := #[.val (.ref a1), .val (.ref a2), .val (.int 0), .val (.int 3), .val .null, .val (.ref t_3)]) rfl ?_
    show St p e below T3 (mkF m 41 #[.val (.ref a1), .val (.ref a2), .val (.int 0), .val (.int 3), .val .null, .val (.ref t_3)] []) _
    refine XS.aloadN X3.here hx rfl (hb hby d3_41) rfl rfl ?_
    show St p e below T3 (mkF m 42 #[.val (.ref a1), .val (.ref a2), .val (.int 0), .val (.int 3), .val .null, .val (.ref t_3)] [(.ref a1)]) _
    refine XS.aload X3.here hx rfl (hb hby d3_42) rfl rfl ?_
    show St p e below T3 (mkF m 44 #[.val (.ref a1), .val (.ref a2), .val (.int 0), .val (.int 3), .val .null, .val (.ref t_3)] [(.ref t_3), (.ref a1)]) _
    refine XS.iloadN X3.here hx rfl (hb hby d3_44) rfl ?_
    show St p e below T3 (mkF m 45 #[.val (.ref a1), .val (.ref a2), .val (.int 0), .val (.int 3), .val .null, .val (.ref t_3)] [(.int 3), (.ref t_3), (.ref a1)]) _
    refine st5 _ ?_
    show St p e below T5 (mkF m 48 #[.val (.ref a1), .val (.ref a2), .val (.int 0), .val (.int 3), .val .null, .val (.ref t_3)] [(.int 0), (.ref a1)]) _
    refine st8 _ ?_
    show St p e below T8 (mkF m 51 #[.val (.ref a1), .val (.ref a2), .val (.int 0), .val (.int 3), .val .null, .val (.ref t_3)] []) _
    refine XS.aloadN X8.here hx rfl (hb hby d3_51) rfl rfl ?_
    show St p e below T8 (mkF m 52 #[.val (.ref a1), .val (.ref a2), .val (.int 0), .val (.int 3), .val .null, .val (.ref t_3)] [(.ref a1)]) _
    refine XS.aload X8.here hx rfl (hb hby d3_52) rfl rfl ?_
    show St p e below T8 (mkF m 54 #[.val (.ref a1), .val (.ref a2), .val (.int 0), .val (.int 3), .val .null, .val (.ref t_3)] [(.ref t_3), (.ref a1)]) _
    refine st12 _ ?_
    show St p e below T12 (mkF m 57 #[.val (.ref a1), .val (.ref a2), .val (.int 0), .val (.int 3), .val .null, .val (.ref t_3)] []) _
    exact X12.returnOut hx Bd.returns (hb hby d3_57) hr
  · show Q_new4_3 Z a1 a2 w_COMPACT_STRINGS k_a2 c0 c1 c2 u_a1_coder u_a1_value h0 n0 _ T12.heap _
    rw [e12]
    exact ⟨t_3, kt_3, rfl, N12, K13, fc14, fc15, Fw12, bn_t_3, fc16⟩
def Q_new1_3 (Z : State) (a1 : Addr) (a2 : Addr) (w_COMPACT_STRINGS : Int32) (k_a2 : ClassId) (c0 : Int32) (c1 : Int32) (c2 : Int32) (u_a1_coder : Value) (u_a1_value : Value) (h0 : Heap) (n0 : Nat) (v : Option Value) (h : Heap) (L : List Loc) : Prop := ∃ (t : Addr) (kt : ClassId), v = none ∧ Fr n0 L ∧ Keep h0 h [a1] ∧ Exa Z h a1 "java/lang/String" ∧ Fld Z h a1 "java/lang/String" "coder" "B" (.int 0) ∧ Fld Z h a1 "java/lang/String" "value" "[B" (.ref t) ∧ h0.size ≤ t ∧ Arv Z h t kt .byte (3 : Int32) [(.int (c0.toInt8.toInt32)), (.int (c1.toInt8.toInt32)), (.int (c2.toInt8.toInt32))] (.int 0)
set_option maxRecDepth 65536 in
set_option maxHeartbeats 40000000 in
theorem rm_new1_3 (l : Launch) (Z : State) (a0 : Array Value) (hw : ∀ d ∈ tables_1, d.before a0 Z = true) (ws : List Jvm.Cond) (a1 : Addr) (a2 : Addr) (w_COMPACT_STRINGS : Int32) (k_a2 : ClassId) (c0 : Int32) (c1 : Int32) (c2 : Int32) (u_a1_coder : Value) (u_a1_value : Value) (h0 : Heap) (n0 : Nat) (Z0 : n0 ≤ h0.size) (S_COMPACT_STRINGS : Sta Z Z.heap "java/lang/String" "COMPACT_STRINGS" "Z" (.int w_COMPACT_STRINGS)) (hcs : ¬ (w_COMPACT_STRINGS = (0 : Int32))) (V_a2 : Arv Z h0 a2 k_a2 .char (3 : Int32) [(.int c0), (.int c1), (.int c2)] (.int 0)) (hb_c0 : ¬ ((255 : Int32) < c0)) (hb_c1 : ¬ ((255 : Int32) < c1)) (hb_c2 : ¬ ((255 : Int32) < c2)) (O0 : Old Z n0 h0) (E_a1 : Exa Z h0 a1 "java/lang/String") (F_a1_coder : Fld Z h0 a1 "java/lang/String" "coder" "B" u_a1_coder) (g_a1 : n0 ≤ a1) (F_a1_value : Fld Z h0 a1 "java/lang/String" "value" "[B" u_a1_value) :
    MetFree l (⟨"java/lang/String", "<init>", "([C)V"⟩ : MethodName) (head1 (Jvm.Cond.code (⟨"java/lang/String", "<init>", "([C)V"⟩ : MethodName) jdk_42_method_3_code 2 none :: ws) ({ frames := 3, cells := 1, slots := 3, locals := 52 } : Room)) (fun a U => a = #[(.ref a1), (.ref a2)] ∧ Z.Warmed39 U.vm ∧ U.heap = h0) (fun _ _ _ _ _ => True) (fun _ U o U' => ∃ v L, o = .returned v ∧ Q_new1_3 Z a1 a2 w_COMPACT_STRINGS k_a2 c0 c1 c2 u_a1_coder u_a1_value h0 n0 v U'.heap L ∧ FrameEnd U o U' L ({ frames := 3, cells := 1, slots := 3, locals := 52 } : Room).cells ({ frames := 3, cells := 1, slots := 3, locals := 52 } : Room).slots) := by
  refine MetFree.of_bodySF (plainFor_of_name pn_2) hisR ?_
  intro p e s m args below meth c s₁ Bd hml0 hP hK
  obtain ⟨rfl, hZ, hh⟩ := hP
  have hx := Bd.exec
  have hby := Bd.bytes
  have hml : c.maxLocals = 2 := hml0
  have hown : s.vm.findClass "java/lang/String" = some m.cls := findClass_of_methodNamed Bd.named
  have hnm := (name_of_methodNamed Bd.named Bd.method).1
  have X0 : Stand p l e ({ frames := 3, cells := 1, slots := 3, locals := 52 } : Room) s m #[(.ref a1), (.ref a2)] below meth c s₁ [] 0 0 := Stand.of_body Bd
  have e0 : s₁.heap = h0 := by rw [← hh, Bd.state]; rfl
  have N0 := Fr.nil n0
  have pre0 : ∀ t, Steps p.tables e below (s₁.setTop (mkF m 0 #[.val (.ref a1), .val (.ref a2)] [])) t → Steps p.tables e below (s₁.setTop (entryFrame m #[(.ref a1), (.ref a2)] 2)) t := fun t k => castTop (ef_2_RR m a1 a2) k
  obtain ⟨cl1, Ar1, -, S1, M1, -, -⟩ := id V_a2
  obtain ⟨_, _, ⟨T2, L2, k2, n2⟩, -, X2, ⟨Lc2, hQ2, l2, y2, z2⟩, st2⟩ := X0.specialBack hx (y := (⟨"java/lang/String", "<init>", "([CIILjava/lang/Void;)V"⟩ : MethodName)) rfl hown (mvT hZ (hwi hw 11 rfl)) (mvT hZ (hwi hw 12 rfl)) (mvT hZ (hwi hw 14 rfl)) (by decide) (backOf (W := 0) (rm_new4_3 l Z a0 hw [] a1 a2 w_COMPACT_STRINGS k_a2 c0 c1 c2 u_a1_coder u_a1_value h0 n0 Z0 S_COMPACT_STRINGS hcs V_a2 hb_c0 hb_c1 hb_c2 O0 E_a1 F_a1_coder g_a1 F_a1_value) hZ (hwi hw 14 rfl) (hwi hw 6 rfl) (by decide) (by decide)) (g := (mkF m 6 #[.val (.ref a1), .val (.ref a2)] [.null, (.int 3), (.int 0), (.ref a2), (.ref a1)])) rfl (by rw [hml]; rfl) (Steps.refl _) (a := a1) (argsL := [(.ref a2), (.int 0), (.int 3), .null]) (rest := []) (lenOf pd_CIILjava_lang_Void__V_938 rfl) rfl (by show 2 * 0 + _ ≤ _; exact Nat.le_of_eq rfl) (hb hby d2_6) (fun _ _ => ⟨rfl, e0, (by decide : 0 + 1 ≤ _), (by decide : 0 + 3 ≤ _)⟩)
  dsimp only [Pt.U, Pt.locs, Pt.cells, Pt.slots] at X2 l2 y2 z2 st2 hQ2
  subst l2 y2 z2
  obtain ⟨t_2, kt_2, rfl, N2q, Kc2, g2_0, g2_1, g2_2, g2_3, g2_4⟩ := hQ2
  have N2 := Fr.app N0 N2q
  have sz3 : h0.size ≤ T2.heap.size := Kc2.1
  have Z3 : n0 ≤ T2.heap.size := Nat.le_trans Z0 sz3
  have O3 := O0.keep Kc2 (allS g_a1 all0)
  have K3 : Keep h0 T2.heap [a1] := (Keep.refl h0 [a1]).trans Kc2 (allS (Or.inl (List.mem_of_getElem? (i := 0) rfl)) (all0))
  have bn_t_2 : h0.size ≤ t_2 := g2_3
  obtain ⟨fs, hr, hrun, hended, hW, hsame⟩ := X2.leave (v := none) (fun _ => rfl)
  refine ⟨_, _, pre0 _ ?_, hrun, hended, _, _, rfl, ?_, ⟨_, rfl⟩, hW, hsame.mono (by decide) (by decide)⟩
  · show St p e below s₁ (mkF m 0 #[.val (.ref a1), .val (.ref a2)] []) _
    refine XS.aloadN X0.here hx rfl (hb hby d2_0) rfl rfl ?_
    show St p e below s₁ (mkF m 1 #[.val (.ref a1), .val (.ref a2)] [(.ref a1)]) _
    refine XS.aloadN X0.here hx rfl (hb hby d2_1) rfl rfl ?_
    show St p e below s₁ (mkF m 2 #[.val (.ref a1), .val (.ref a2)] [(.ref a2), (.ref a1)]) _
    refine XS.iconst X0.here hx rfl (hb hby d2_2) ?_
    show St p e below s₁ (mkF m 3 #[.val (.ref a1), .val (.ref a2)] [(.int 0), (.ref a2), (.ref a1)]) _
    refine XS.aloadN X0.here hx rfl (hb hby d2_3) rfl rfl ?_
    show St p e below s₁ (mkF m 4 #[.val (.ref a1), .val (.ref a2)] [(.ref a2), (.int 0), (.ref a2), (.ref a1)]) _
    refine X0.arraylength hx (by rw [e0]; exact Ar1.1) (State.isArrayOf_alike hZ.alike Ar1.2.1) (g := (mkF m 4 #[.val (.ref a1), .val (.ref a2)] [(.ref a2), (.int 0), (.ref a2), (.ref a1)])) rfl rfl (hb hby d2_4) _ ?_
    rw [len_of S1 M1]
    show St p e below s₁ (mkF m 5 #[.val (.ref a1), .val (.ref a2)] [(.int 3), (.int 0), (.ref a2), (.ref a1)]) _
    refine XS.aconstNull X0.here hx rfl (hb hby d2_5) ?_
    show St p e below s₁ (mkF m 6 #[.val (.ref a1), .val (.ref a2)] [.null, (.int 3), (.int 0), (.ref a2), (.ref a1)]) _
    refine st2.trans ?_
    show St p e below T2 (mkF m 9 #[.val (.ref a1), .val (.ref a2)] []) _
    exact X2.returnOut hx Bd.returns (hb hby d2_9) hr
  · show Q_new1_3 Z a1 a2 w_COMPACT_STRINGS k_a2 c0 c1 c2 u_a1_coder u_a1_value h0 n0 _ T2.heap _
    exact ⟨t_2, kt_2, rfl, N2, K3, g2_0, g2_1, g2_2, bn_t_2, g2_4⟩
theorem pd_C_V_325 : parseMethodDescriptor "([C)V" = some ⟨[(.array .char)], none⟩ := by decide +kernel
theorem d1_0 : decode method_2_code 0 = .ok (.iload_n 0, 1) := by decide +kernel
theorem d1_1 : decode method_2_code 1 = .ok (.iconst 3, 1) := by decide +kernel
theorem d1_2 : decode method_2_code 2 = .ok (.iand, 1) := by decide +kernel
theorem d1_3 : decode method_2_code 3 = .ok (.istore 4, 2) := by decide +kernel
theorem d1_5 : decode method_2_code 5 = .ok (.iload_n 1, 1) := by decide +kernel
theorem d1_6 : decode method_2_code 6 = .ok (.sipush 255, 3) := by decide +kernel
theorem d1_9 : decode method_2_code 9 = .ok (.iand, 1) := by decide +kernel
theorem d1_10 : decode method_2_code 10 = .ok (.i2c, 1) := by decide +kernel
theorem d1_11 : decode method_2_code 11 = .ok (.istore 5, 2) := by decide +kernel
theorem d1_13 : decode method_2_code 13 = .ok (.iload_n 2, 1) := by decide +kernel
theorem d1_14 : decode method_2_code 14 = .ok (.sipush 255, 3) := by decide +kernel
theorem d1_17 : decode method_2_code 17 = .ok (.iand, 1) := by decide +kernel
theorem d1_18 : decode method_2_code 18 = .ok (.i2c, 1) := by decide +kernel
theorem d1_19 : decode method_2_code 19 = .ok (.istore 6, 2) := by decide +kernel
theorem d1_21 : decode method_2_code 21 = .ok (.iload_n 3, 1) := by decide +kernel
theorem d1_22 : decode method_2_code 22 = .ok (.sipush 255, 3) := by decide +kernel
theorem d1_25 : decode method_2_code 25 = .ok (.iand, 1) := by decide +kernel
theorem d1_26 : decode method_2_code 26 = .ok (.i2c, 1) := by decide +kernel
theorem d1_27 : decode method_2_code 27 = .ok (.istore 7, 2) := by decide +kernel
theorem d1_29 : decode method_2_code 29 = .ok (.iload 4, 2) := by decide +kernel
theorem d1_31 : decode method_2_code 31 = .ok (.ifCond .ne 14, 3) := by decide +kernel
theorem d1_34 : decode method_2_code 34 = .ok (.new 7, 3) := by decide +kernel
theorem d1_37 : decode method_2_code 37 = .ok (.dup, 1) := by decide +kernel
theorem d1_38 : decode method_2_code 38 = .ok (.iconst 0, 1) := by decide +kernel
theorem d1_39 : decode method_2_code 39 = .ok (.newarray .char, 2) := by decide +kernel
theorem d1_41 : decode method_2_code 41 = .ok (.invokespecial 9, 3) := by decide +kernel
theorem d1_44 : decode method_2_code 44 = .ok (.areturn, 1) := by decide +kernel
theorem pn_1 : plainName "com/example/disbursa/disbursa/rails/OutcomeSettledPinLaw" = true := by first | (simp [plainName, overriddenIn]; done) | decide +kernel
theorem ef_1_IIII (m : MethodId) (x0 : Int32) (x1 : Int32) (x2 : Int32) (x3 : Int32) : entryFrame m #[(.int x0), (.int x1), (.int x2), (.int x3)] 8 = mkF m 0 #[.val (.int x0), .val (.int x1), .val (.int x2), .val (.int x3), .unset, .unset, .unset, .unset] [] := by first | (simp [entryFrame, mkF, argsToLocals, Value.category]; done) | rfl
def Q_str (h0 : Heap) (n0 : Nat) (v : Option Value) (h : Heap) (L : List Loc) : Prop := ∃ (r : Addr), v = some (.ref r) ∧ Fr n0 L ∧ Keep h0 h [] ∧ h0.size ≤ r
set_option maxRecDepth 65536 in
set_option maxHeartbeats 40000000 in
theorem rm_str_0 (l : Launch) (Z : State) (a0 : Array Value) (hw : ∀ d ∈ tables_1, d.before a0 Z = true) (hEL : EW Z a0 consts_1) (ws : List Jvm.Cond) (p1 : Int32) (p2 : Int32) (p3 : Int32) (p4 : Int32) (cA : Int32) (cB : Int32) (cC : Int32) (h0 : Heap) (n0 : Nat) (Z0 : n0 ≤ h0.size) (O0 : Old Z n0 h0) (hk : (p1 &&& (3 : Int32)) = (0 : Int32)) (hcA : ((p2 &&& (255 : Int32)).toUInt32.toUInt16.toUInt32.toInt32) = cA) (hcB : ((p3 &&& (255 : Int32)).toUInt32.toUInt16.toUInt32.toInt32) = cB) (hcC : ((p4 &&& (255 : Int32)).toUInt32.toUInt16.toUInt32.toInt32) = cC) :
    MetFree l (⟨"com/example/disbursa/disbursa/rails/OutcomeSettledPinLaw", "str", "(IIII)Ljava/lang/String;"⟩ : MethodName) (head1 (Jvm.Cond.code (⟨"com/example/disbursa/disbursa/rails/OutcomeSettledPinLaw", "str", "(IIII)Ljava/lang/String;"⟩ : MethodName) method_2_code 8 (some (.object "java/lang/String")) :: ws) ({ frames := 4, cells := 6, slots := 12, locals := 66 } : Room)) (fun a U => a = #[(.int p1), (.int p2), (.int p3), (.int p4)] ∧ Z.Warmed39 U.vm ∧ U.heap = h0 ∧ CHv Z consts_1 U.vm h0) (fun _ _ _ _ _ => True) (fun _ U o U' => ∃ v L, o = .returned v ∧ Q_str h0 n0 v U'.heap L ∧ CHr Z consts_1 U.vm U.heap U'.vm U'.heap ∧ ReturnedEndW U o U' L ({ frames := 4, cells := 6, slots := 12, locals := 66 } : Room).cells ({ frames := 4, cells := 6, slots := 12, locals := 66 } : Room).slots) := by
  refine MetFree.of_bodySF (plainFor_of_name pn_1) hisR ?_
  intro p e s m args below meth c s₁ Bd hml0 hP hK
  obtain ⟨rfl, hZ, hh, H0c⟩ := hP
  have hx := Bd.exec
  have hby := Bd.bytes
  have hml : c.maxLocals = 8 := hml0
  have hown : s.vm.findClass "com/example/disbursa/disbursa/rails/OutcomeSettledPinLaw" = some m.cls := findClass_of_methodNamed Bd.named
  have hnm := (name_of_methodNamed Bd.named Bd.method).1
  have X0 : Stand p l e ({ frames := 4, cells := 6, slots := 12, locals := 66 } : Room) (s.setVm s.vm) m #[(.int p1), (.int p2), (.int p3), (.int p4)] below meth c s₁ [] 0 0 := Stand.of_body Bd
  have e0 : s₁.heap = h0 := by rw [← hh, Bd.state]; rfl
  have N0 := Fr.nil n0
  have pre0 : ∀ t, Steps p.tables e below (s₁.setTop (mkF m 0 #[.val (.int p1), .val (.int p2), .val (.int p3), .val (.int p4), .unset, .unset, .unset, .unset] [])) t → Steps p.tables e below (s₁.setTop (entryFrame m #[(.int p1), (.int p2), (.int p3), (.int p4)] 8)) t := fun t k => castTop (ef_1_IIII m p1 p2 p3 p4) k
  have hS0 : s.Since s.vm 0 := (State.WarmedH.refl s).since 0
  have hk0 : 0 ≤ h0.size := Nat.zero_le _
  have C0c : CHr Z consts_1 s.vm h0 s.vm h0 := CHr.refl H0c
  obtain ⟨T1, h1, X1, e1, E1, A1, D1, -, st1⟩ := newO X0 hx hZ hown (hwi hw 4 rfl) (hwi hw 5 rfl) (hwi hw 6 rfl) e0 (g := (mkF m 34 #[.val (.int p1), .val (.int p2), .val (.int p3), .val (.int p4), .val (.int 0), .val (.int cA), .val (.int cB), .val (.int cC)] [])) rfl (hb hby d1_34) (by decide) (by decide)
  obtain ⟨b1, g1⟩ : ∃ z, z = h0.size := ⟨_, rfl⟩
  rw [← g1] at A1 D1 st1
  have bn_b1 : h0.size ≤ b1 := Nat.le_of_eq g1.symm
  have sfb1 : Safe Z consts_1 s.vm h0 b1 := Safe.new (Nat.le_of_eq g1.symm)
  have R2 := CHr.ext E1 H0c
  have sf_b1_2 := Safe.ext E1 H0c sfb1
  have CR2 := C0c.trans R2
  have sz3 : h0.size ≤ h1.size := E1.1
  have Z3 : n0 ≤ h1.size := Nat.le_trans Z0 sz3
  have hk3 := Nat.le_trans hk0 sz3
  have O3 := O0.ext E1
  have K3 : Keep h0 h1 [] := (Keep.refl h0 []).ext E1
  have F1_value : Fld Z h1 b1 "java/lang/String" "value" "[B" .null := D1 (Or.inr (hwi hw 20 rfl)) (ty := (.array .byte)) (by decide)
  have F1_coder : Fld Z h1 b1 "java/lang/String" "coder" "B" (.int 0) := D1 (Or.inr (hwi hw 21 rfl)) (ty := .byte) (by decide)
  obtain ⟨T4, h4, k4, X4, e4, E4, A4, st4⟩ := newP X1 hx hZ (hwi hw 7 rfl) e1 (g := (mkF m 39 #[.val (.int p1), .val (.int p2), .val (.int p3), .val (.int p4), .val (.int 0), .val (.int cA), .val (.int cB), .val (.int cC)] [(.int 0), (.ref b1), (.ref b1)])) rfl (hb hby d1_39) rfl (by decide) (cap := 0) (by decide) (by decide) (by decide) (by decide)
  obtain ⟨b4, g4⟩ : ∃ z, z = h1.size := ⟨_, rfl⟩
  rw [← g4] at A4 st4
  have bn_b4 : h0.size ≤ b4 := Nat.le_trans K3.1 (Nat.le_of_eq g4.symm)
  have R5 := CHr.ext E4 R2.1
  have sf_b1_5 := Safe.ext E4 R2.1 sf_b1_2
  have CR5 := CR2.trans R5
  have sz6 : h1.size ≤ h4.size := E4.1
  have Z6 : n0 ≤ h4.size := Nat.le_trans Z3 sz6
  have hk6 := Nat.le_trans hk3 sz6
  have O6 := O3.ext E4
  have K6 : Keep h0 h4 [] := K3.ext E4
  have V4 : Arv Z h4 b4 k4 .char (0 : Int32) [] (.int 0) := (Arv.new A4 (by decide)).pad (pad_rep [] (.int 0) 0)
  have fc8 := (A1.ext E4)
  have fc9 := (F1_value.ext E4)
  have fc10 := (F1_coder.ext E4)
  obtain ⟨_, _, ⟨T7, L7, k7, n7⟩, -, X7, hS7, gr7, ⟨Lc7, hQ7, l7, y7, z7, C7⟩, st7⟩ := X4.specialBackS hx (y := (⟨"java/lang/String", "<init>", "([C)V"⟩ : MethodName)) rfl hown (mvT hZ (hwi hw 8 rfl)) (mvT hZ (hwi hw 9 rfl)) (mvT hZ (hwi hw 10 rfl)) (by decide) (backOfSH (s := s) (vm0 := s.vm) (EL := consts_1) (W := 1) (rm_new1_0 l Z a0 hw hEL [] b1 b4 k4 h4 n0 Z6 fc8 fc9 fc10 V4 O6 (Nat.le_trans Z0 bn_b1)) hZ (hwi hw 10 rfl) (hwi hw 6 rfl) (by decide) (by decide) hEL R5.1) (g := (mkF m 41 #[.val (.int p1), .val (.int p2), .val (.int p3), .val (.int p4), .val (.int 0), .val (.int cA), .val (.int cB), .val (.int cC)] [(.ref b4), (.ref b1), (.ref b1)])) rfl (by rw [hml]; rfl) (Steps.refl _) (a := b1) (argsL := [(.ref b4)]) (rest := [(.ref b1)]) (lenOf pd_C_V_325 rfl) rfl (by show 2 * 0 + _ ≤ _; exact Nat.le_of_eq rfl) (hb hby d1_41) (fun _ _ => ⟨rfl, e4, (by decide : 2 + 4 ≤ _), (by decide : 4 + 8 ≤ _)⟩)
  dsimp only [Pt.U, Pt.locs, Pt.cells, Pt.slots] at X7 l7 y7 z7 st7 hQ7 hS7 gr7 C7
  subst l7 y7 z7
  obtain ⟨X7, hS7, hZ7, ho7⟩ := rebS hS0 (by rw [e4]; exact hk6) X7 hS7 gr7 hZ hown
  obtain ⟨t_7, kt_7, rfl, N7q, Kc7, g7_0, g7_1, g7_2, g7_3⟩ := hQ7
  have N7 := Fr.app N0 N7q
  have sf_b1_11 := CHr.safe C7 (show b1 < h4.size from ltN (by have := ltN A1.lt; omega)) sf_b1_5
  have R11 := C7
  have CR11 := CR5.trans R11
  have sz12 : h4.size ≤ T7.heap.size := Kc7.1
  have Z12 : n0 ≤ T7.heap.size := Nat.le_trans Z6 sz12
  have O12 := O6.keep Kc7 (allS (Nat.le_trans Z0 bn_b1) all0)
  have K12 : Keep h0 T7.heap [] := K6.trans Kc7 (allS (Or.inr bn_b1) (all0))
  have CRe := CR11.trans (CHv.at X7 hZ7 hEL R11.1)
  obtain ⟨fs, hr, hrun, hended, hRE⟩ := X7.leaveW hS7 (Nat.le_refl T7.heap.size) (v := some (.ref b1)) (fun h => by rw [Bd.returns] at h; cases h)
  refine ⟨_, _, pre0 _ ?_, hrun, hended, _, _, rfl, ?_, ?_, ⟨hRE.1, hRE.2.1, hRE.2.2.1, hRE.2.2.2.mono (by decide) (by decide)⟩⟩
  · show St p e below s₁ (mkF m 0 #[.val (.int p1), .val (.int p2), .val (.int p3), .val (.int p4), .unset, .unset, .unset, .unset] []) _
    refine XS.iloadN X0.here hx rfl (hb hby d1_0) rfl ?_
    show St p e below s₁ (mkF m 1 #[.val (.int p1), .val (.int p2), .val (.int p3), .val (.int p4), .unset, .unset, .unset, .unset] [(.int p1)]) _
    refine XS.iconst X0.here hx rfl (hb hby d1_1) ?_
    show St p e below s₁ (mkF m 2 #[.val (.int p1), .val (.int p2), .val (.int p3), .val (.int p4), .unset, .unset, .unset, .unset] [(.int 3), (.int p1)]) _
    refine XS.iand X0.here hx rfl (hb hby d1_2) rfl ?_
    show St p e below s₁ (mkF m 3 #[.val (.int p1), .val (.int p2), .val (.int p3), .val (.int p4), .unset, .unset, .unset, .unset] [(.int (p1 &&& (3 : Int32)))]) _
    rw [hk]
    show St p e below s₁ (mkF m 3 #[.val (.int p1), .val (.int p2), .val (.int p3), .val (.int p4), .unset, .unset, .unset, .unset] [(.int 0)]) _
    refine XS.istore X0.here hx rfl (hb hby d1_3) rfl (l' := #[.val (.int p1), .val (.int p2), .val (.int p3), .val (.int p4), .val (.int 0), .unset, .unset, .unset]) rfl ?_
    show St p e below s₁ (mkF m 5 #[.val (.int p1), .val (.int p2), .val (.int p3), .val (.int p4), .val (.int 0), .unset, .unset, .unset] []) _
    refine XS.iloadN X0.here hx rfl (hb hby d1_5) rfl ?_
    show St p e below s₁ (mkF m 6 #[.val (.int p1), .val (.int p2), .val (.int p3), .val (.int p4), .val (.int 0), .unset, .unset, .unset] [(.int p2)]) _
    refine XS.sipush X0.here hx rfl (hb hby d1_6) ?_
    show St p e below s₁ (mkF m 9 #[.val (.int p1), .val (.int p2), .val (.int p3), .val (.int p4), .val (.int 0), .unset, .unset, .unset] [(.int 255), (.int p2)]) _
    refine XS.iand X0.here hx rfl (hb hby d1_9) rfl ?_
    show St p e below s₁ (mkF m 10 #[.val (.int p1), .val (.int p2), .val (.int p3), .val (.int p4), .val (.int 0), .unset, .unset, .unset] [(.int (p2 &&& (255 : Int32)))]) _
    refine XS.i2c X0.here hx rfl (hb hby d1_10) rfl ?_
    show St p e below s₁ (mkF m 11 #[.val (.int p1), .val (.int p2), .val (.int p3), .val (.int p4), .val (.int 0), .unset, .unset, .unset] [(.int ((p2 &&& (255 : Int32)).toUInt32.toUInt16.toUInt32.toInt32))]) _
    rw [hcA]
    show St p e below s₁ (mkF m 11 #[.val (.int p1), .val (.int p2), .val (.int p3), .val (.int p4), .val (.int 0), .unset, .unset, .unset] [(.int cA)]) _
    refine XS.istore X0.here hx rfl (hb hby d1_11) rfl (l' := #[.val (.int p1), .val (.int p2), .val (.int p3), .val (.int p4), .val (.int 0), .val (.int cA), .unset, .unset]) rfl ?_
    show St p e below s₁ (mkF m 13 #[.val (.int p1), .val (.int p2), .val (.int p3), .val (.int p4), .val (.int 0), .val (.int cA), .unset, .unset] []) _
    refine XS.iloadN X0.here hx rfl (hb hby d1_13) rfl ?_
    show St p e below s₁ (mkF m 14 #[.val (.int p1), .val (.int p2), .val (.int p3), .val (.int p4), .val (.int 0), .val (.int cA), .unset, .unset] [(.int p3)]) _
    refine XS.sipush X0.here hx rfl (hb hby d1_14) ?_
    show St p e below s₁ (mkF m 17 #[.val (.int p1), .val (.int p2), .val (.int p3), .val (.int p4), .val (.int 0), .val (.int cA), .unset, .unset] [(.int 255), (.int p3)]) _
    refine XS.iand X0.here hx rfl (hb hby d1_17) rfl ?_
    show St p e below s₁ (mkF m 18 #[.val (.int p1), .val (.int p2), .val (.int p3), .val (.int p4), .val (.int 0), .val (.int cA), .unset, .unset] [(.int (p3 &&& (255 : Int32)))]) _
    refine XS.i2c X0.here hx rfl (hb hby d1_18) rfl ?_
    show St p e below s₁ (mkF m 19 #[.val (.int p1), .val (.int p2), .val (.int p3), .val (.int p4), .val (.int 0), .val (.int cA), .unset, .unset] [(.int ((p3 &&& (255 : Int32)).toUInt32.toUInt16.toUInt32.toInt32))]) _
    rw [hcB]
    show St p e below s₁ (mkF m 19 #[.val (.int p1), .val (.int p2), .val (.int p3), .val (.int p4), .val (.int 0), .val (.int cA), .unset, .unset] [(.int cB)]) _
    refine XS.istore X0.here hx rfl (hb hby d1_19) rfl (l' := #[.val (.int p1), .val (.int p2), .val (.int p3), .val (.int p4), .val (.int 0), .val (.int cA), .val (.int cB), .unset]) rfl ?_
    show St p e below s₁ (mkF m 21 #[.val (.int p1), .val (.int p2), .val (.int p3), .val (.int p4), .val (.int 0), .val (.int cA), .val (.int cB), .unset] []) _
    refine XS.iloadN X0.here hx rfl (hb hby d1_21) rfl ?_
    show St p e below s₁ (mkF m 22 #[.val (.int p1), .val (.int p2), .val (.int p3), .val (.int p4), .val (.int 0), .val (.int cA), .val (.int cB), .unset] [(.int p4)]) _
    refine XS.sipush X0.here hx rfl (hb hby d1_22) ?_
    show St p e below s₁ (mkF m 25 #[.val (.int p1), .val (.int p2), .val (.int p3), .val (.int p4), .val (.int 0), .val (.int cA), .val (.int cB), .unset] [(.int 255), (.int p4)]) _
    refine XS.iand X0.here hx rfl (hb hby d1_25) rfl ?_
    show St p e below s₁ (mkF m 26 #[.val (.int p1), .val (.int p2), .val (.int p3), .val (.int p4), .val (.int 0), .val (.int cA), .val (.int cB), .unset] [(.int (p4 &&& (255 : Int32)))]) _
    refine XS.i2c X0.here hx rfl (hb hby d1_26) rfl ?_
    show St p e below s₁ (mkF m 27 #[.val (.int p1), .val (.int p2), .val (.int p3), .val (.int p4), .val (.int 0), .val (.int cA), .val (.int cB), .unset] [(.int ((p4 &&& (255 : Int32)).toUInt32.toUInt16.toUInt32.toInt32))]) _
    rw [hcC]
    show St p e below s₁ (mkF m 27 #[.val (.int p1), .val (.int p2), .val (.int p3), .val (.int p4), .val (.int 0), .val (.int cA), .val (.int cB), .unset] [(.int cC)]) _
    refine XS.istore X0.here hx rfl (hb hby d1_27) rfl (l' := #[.val (.int p1), .val (.int p2), .val (.int p3), .val (.int p4), .val (.int 0), .val (.int cA), .val (.int cB), .val (.int cC)]) rfl ?_
    show St p e below s₁ (mkF m 29 #[.val (.int p1), .val (.int p2), .val (.int p3), .val (.int p4), .val (.int 0), .val (.int cA), .val (.int cB), .val (.int cC)] []) _
    refine XS.iload X0.here hx rfl (hb hby d1_29) rfl ?_
    show St p e below s₁ (mkF m 31 #[.val (.int p1), .val (.int p2), .val (.int p3), .val (.int p4), .val (.int 0), .val (.int cA), .val (.int cB), .val (.int cC)] [(.int 0)]) _
    refine XS.ifNo X0.here hx rfl (hb hby d1_31) rfl ((if0 _ _).trans (teq (by decide : (0 : Int32) = (0 : Int32))).2) ?_
    show St p e below s₁ (mkF m 34 #[.val (.int p1), .val (.int p2), .val (.int p3), .val (.int p4), .val (.int 0), .val (.int cA), .val (.int cB), .val (.int cC)] []) _
    refine st1 _ ?_
    show St p e below T1 (mkF m 37 #[.val (.int p1), .val (.int p2), .val (.int p3), .val (.int p4), .val (.int 0), .val (.int cA), .val (.int cB), .val (.int cC)] [(.ref b1)]) _
    refine XS.dup X1.here hx rfl (hb hby d1_37) rfl rfl ?_
    show St p e below T1 (mkF m 38 #[.val (.int p1), .val (.int p2), .val (.int p3), .val (.int p4), .val (.int 0), .val (.int cA), .val (.int cB), .val (.int cC)] [(.ref b1), (.ref b1)]) _
    refine XS.iconst X1.here hx rfl (hb hby d1_38) ?_
    show St p e below T1 (mkF m 39 #[.val (.int p1), .val (.int p2), .val (.int p3), .val (.int p4), .val (.int 0), .val (.int cA), .val (.int cB), .val (.int cC)] [(.int 0), (.ref b1), (.ref b1)]) _
    refine st4 _ ?_
    show St p e below T4 (mkF m 41 #[.val (.int p1), .val (.int p2), .val (.int p3), .val (.int p4), .val (.int 0), .val (.int cA), .val (.int cB), .val (.int cC)] [(.ref b4), (.ref b1), (.ref b1)]) _
    refine st7.trans ?_
    show St p e below T7 (mkF m 44 #[.val (.int p1), .val (.int p2), .val (.int p3), .val (.int p4), .val (.int 0), .val (.int cA), .val (.int cB), .val (.int cC)] [(.ref b1)]) _
    jvm_step X7.here [X7.here.top, hx, (hb hby d1_44), X7.method', Bd.returns, Value.isRef, FieldType.isReference]
    first | (intro acts; rw [hr _ acts rfl rfl rfl]) | rw [hr _ _ rfl rfl rfl]
    exact Steps.refl _
  · show Q_str h0 n0 _ T7.heap _
    exact ⟨b1, rfl, N7, K12, bn_b1⟩
  · show CHr Z consts_1 s.vm s.heap T7.vm T7.heap
    rw [hh]
    exact CRe
theorem d1_45 : decode method_2_code 45 = .ok (.iload 4, 2) := by decide +kernel
theorem d1_47 : decode method_2_code 47 = .ok (.iconst 1, 1) := by decide +kernel
theorem d1_48 : decode method_2_code 48 = .ok (.if_icmp .ne 19, 3) := by decide +kernel
theorem d1_51 : decode method_2_code 51 = .ok (.new 7, 3) := by decide +kernel
theorem d1_54 : decode method_2_code 54 = .ok (.dup, 1) := by decide +kernel
theorem d1_55 : decode method_2_code 55 = .ok (.iconst 1, 1) := by decide +kernel
theorem d1_56 : decode method_2_code 56 = .ok (.newarray .char, 2) := by decide +kernel
theorem d1_58 : decode method_2_code 58 = .ok (.dup, 1) := by decide +kernel
theorem d1_59 : decode method_2_code 59 = .ok (.iconst 0, 1) := by decide +kernel
theorem d1_60 : decode method_2_code 60 = .ok (.iload 5, 2) := by decide +kernel
theorem d1_62 : decode method_2_code 62 = .ok (.castore, 1) := by decide +kernel
theorem d1_63 : decode method_2_code 63 = .ok (.invokespecial 9, 3) := by decide +kernel
theorem d1_66 : decode method_2_code 66 = .ok (.areturn, 1) := by decide +kernel
set_option maxRecDepth 65536 in
set_option maxHeartbeats 40000000 in
theorem rm_str_1 (l : Launch) (Z : State) (a0 : Array Value) (hw : ∀ d ∈ tables_1, d.before a0 Z = true) (hEL : EW Z a0 consts_1) (ws : List Jvm.Cond) (p1 : Int32) (p2 : Int32) (p3 : Int32) (p4 : Int32) (cA : Int32) (cB : Int32) (cC : Int32) (w_COMPACT_STRINGS : Int32) (h0 : Heap) (n0 : Nat) (Z0 : n0 ≤ h0.size) (hbcA : ¬ ((255 : Int32) < cA)) (S_COMPACT_STRINGS : Sta Z Z.heap "java/lang/String" "COMPACT_STRINGS" "Z" (.int w_COMPACT_STRINGS)) (hcs : ¬ (w_COMPACT_STRINGS = (0 : Int32))) (O0 : Old Z n0 h0) (hk : (p1 &&& (3 : Int32)) = (1 : Int32)) (hcA : ((p2 &&& (255 : Int32)).toUInt32.toUInt16.toUInt32.toInt32) = cA) (hcB : ((p3 &&& (255 : Int32)).toUInt32.toUInt16.toUInt32.toInt32) = cB) (hcC : ((p4 &&& (255 : Int32)).toUInt32.toUInt16.toUInt32.toInt32) = cC) (hncA : (cA.toUInt32.toUInt16.toUInt32.toInt32) = cA) :
    MetFree l (⟨"com/example/disbursa/disbursa/rails/OutcomeSettledPinLaw", "str", "(IIII)Ljava/lang/String;"⟩ : MethodName) (head1 (Jvm.Cond.code (⟨"com/example/disbursa/disbursa/rails/OutcomeSettledPinLaw", "str", "(IIII)Ljava/lang/String;"⟩ : MethodName) method_2_code 8 (some (.object "java/lang/String")) :: ws) ({ frames := 4, cells := 6, slots := 12, locals := 66 } : Room)) (fun a U => a = #[(.int p1), (.int p2), (.int p3), (.int p4)] ∧ Z.Warmed39 U.vm ∧ U.heap = h0 ∧ CHv Z consts_1 U.vm h0) (fun _ _ _ _ _ => True) (fun _ U o U' => ∃ v L, o = .returned v ∧ Q_str h0 n0 v U'.heap L ∧ CHr Z consts_1 U.vm U.heap U'.vm U'.heap ∧ ReturnedEndW U o U' L ({ frames := 4, cells := 6, slots := 12, locals := 66 } : Room).cells ({ frames := 4, cells := 6, slots := 12, locals := 66 } : Room).slots) := by
  refine MetFree.of_bodySF (plainFor_of_name pn_1) hisR ?_
  intro p e s m args below meth c s₁ Bd hml0 hP hK
  obtain ⟨rfl, hZ, hh, H0c⟩ := hP
  have hx := Bd.exec
  have hby := Bd.bytes
  have hml : c.maxLocals = 8 := hml0
  have hown : s.vm.findClass "com/example/disbursa/disbursa/rails/OutcomeSettledPinLaw" = some m.cls := findClass_of_methodNamed Bd.named
  have hnm := (name_of_methodNamed Bd.named Bd.method).1
  have X0 : Stand p l e ({ frames := 4, cells := 6, slots := 12, locals := 66 } : Room) (s.setVm s.vm) m #[(.int p1), (.int p2), (.int p3), (.int p4)] below meth c s₁ [] 0 0 := Stand.of_body Bd
  have e0 : s₁.heap = h0 := by rw [← hh, Bd.state]; rfl
  have N0 := Fr.nil n0
  have pre0 : ∀ t, Steps p.tables e below (s₁.setTop (mkF m 0 #[.val (.int p1), .val (.int p2), .val (.int p3), .val (.int p4), .unset, .unset, .unset, .unset] [])) t → Steps p.tables e below (s₁.setTop (entryFrame m #[(.int p1), (.int p2), (.int p3), (.int p4)] 8)) t := fun t k => castTop (ef_1_IIII m p1 p2 p3 p4) k
  have hS0 : s.Since s.vm 0 := (State.WarmedH.refl s).since 0
  have hk0 : 0 ≤ h0.size := Nat.zero_le _
  have C0c : CHr Z consts_1 s.vm h0 s.vm h0 := CHr.refl H0c
  obtain ⟨T1, h1, X1, e1, E1, A1, D1, -, st1⟩ := newO X0 hx hZ hown (hwi hw 4 rfl) (hwi hw 5 rfl) (hwi hw 6 rfl) e0 (g := (mkF m 51 #[.val (.int p1), .val (.int p2), .val (.int p3), .val (.int p4), .val (.int 1), .val (.int cA), .val (.int cB), .val (.int cC)] [])) rfl (hb hby d1_51) (by decide) (by decide)
  obtain ⟨b1, g1⟩ : ∃ z, z = h0.size := ⟨_, rfl⟩
  rw [← g1] at A1 D1 st1
  have bn_b1 : h0.size ≤ b1 := Nat.le_of_eq g1.symm
  have sfb1 : Safe Z consts_1 s.vm h0 b1 := Safe.new (Nat.le_of_eq g1.symm)
  have R2 := CHr.ext E1 H0c
  have sf_b1_2 := Safe.ext E1 H0c sfb1
  have CR2 := C0c.trans R2
  have sz3 : h0.size ≤ h1.size := E1.1
  have Z3 : n0 ≤ h1.size := Nat.le_trans Z0 sz3
  have hk3 := Nat.le_trans hk0 sz3
  have O3 := O0.ext E1
  have K3 : Keep h0 h1 [] := (Keep.refl h0 []).ext E1
  have F1_value : Fld Z h1 b1 "java/lang/String" "value" "[B" .null := D1 (Or.inr (hwi hw 20 rfl)) (ty := (.array .byte)) (by decide)
  have F1_coder : Fld Z h1 b1 "java/lang/String" "coder" "B" (.int 0) := D1 (Or.inr (hwi hw 21 rfl)) (ty := .byte) (by decide)
  obtain ⟨T4, h4, k4, X4, e4, E4, A4, st4⟩ := newP X1 hx hZ (hwi hw 7 rfl) e1 (g := (mkF m 56 #[.val (.int p1), .val (.int p2), .val (.int p3), .val (.int p4), .val (.int 1), .val (.int cA), .val (.int cB), .val (.int cC)] [(.int 1), (.ref b1), (.ref b1)])) rfl (hb hby d1_56) rfl (by decide) (cap := 1) (by decide) (by decide) (by decide) (by decide)
  obtain ⟨b4, g4⟩ : ∃ z, z = h1.size := ⟨_, rfl⟩
  rw [← g4] at A4 st4
  have bn_b4 : h0.size ≤ b4 := Nat.le_trans K3.1 (Nat.le_of_eq g4.symm)
  have R5 := CHr.ext E4 R2.1
  have sf_b1_5 := Safe.ext E4 R2.1 sf_b1_2
  have CR5 := CR2.trans R5
  have sz6 : h1.size ≤ h4.size := E4.1
  have Z6 : n0 ≤ h4.size := Nat.le_trans Z3 sz6
  have hk6 := Nat.le_trans hk3 sz6
  have O6 := O3.ext E4
  have K6 : Keep h0 h4 [] := K3.ext E4
  have V4 : Arv Z h4 b4 k4 .char (1 : Int32) [(.int 0)] (.int 0) := (Arv.new A4 (by decide)).pad (pad_rep [] (.int 0) 1)
  obtain ⟨cl7, Ar7, q7, S7, M7, H7, G7⟩ := id V4
  have hin7 : ¬ ((0 : Int32) < 0 ∨ cl7.slots.size ≤ ((0 : Int32)).toNatClampNeg) := inb_of S7 ⟨by decide, by decide⟩
  obtain ⟨T8, h8, X8, e8, W8, st8⟩ := stC X4 hx hZ e4 Ar7 (j := (0 : Int32)) hin7 (g := (mkF m 62 #[.val (.int p1), .val (.int p2), .val (.int p3), .val (.int p4), .val (.int 1), .val (.int cA), .val (.int cB), .val (.int cC)] [(.int cA), (.int 0), (.ref b4), (.ref b4), (.ref b1), (.ref b1)])) rfl rfl (hb hby d1_62)
  have N8 := Fr.snoc X8 N0 (Nat.le_trans Z0 bn_b4)
  have V8 : Arv Z h8 b4 k4 .char (1 : Int32) [(.int (cA.toUInt32.toUInt16.toUInt32.toInt32))] (.int 0) := Arv.set Ar7 q7 S7 M7 H7 G7 (fits_nar_char _) W8 0 rfl (Nat.le_of_ble_eq_true rfl)
  rw [hncA] at V8
  have R9 := CHr.wr W8 (Safe.arv hZ.alike V4 (by decide)) R5.1
  have sf_b1_9 := Safe.wr W8 (Safe.arv hZ.alike V4 (by decide)) R5.1 sf_b1_5
  have CR9 := CR5.trans R9
  have sz10 : h4.size ≤ h8.size := Nat.le_of_eq W8.size.symm
  have Z10 : n0 ≤ h8.size := Nat.le_trans Z6 sz10
  have hk10 := Nat.le_trans hk6 sz10
  have O10 := O6.wr W8 (Nat.le_trans Z0 bn_b4)
  have K10 : Keep h0 h8 [] := K6.wr W8 (Or.inr bn_b4)
  have fc12 := ((A1.ext E4).wr W8)
  have fc13 := ((F1_coder.ext E4).other W8 (Or.inl (neN (by have := ltN A1.lt; have := ltN V4.lt; omega))))
  have fc14 := ((F1_value.ext E4).other W8 (Or.inl (neN (by have := ltN A1.lt; have := ltN V4.lt; omega))))
  obtain ⟨_, _, ⟨T11, L11, k11, n11⟩, -, X11, ⟨Lc11, hQ11, l11, y11, z11⟩, st11⟩ := X8.specialBack hx (y := (⟨"java/lang/String", "<init>", "([C)V"⟩ : MethodName)) rfl hown (mvT hZ (hwi hw 8 rfl)) (mvT hZ (hwi hw 9 rfl)) (mvT hZ (hwi hw 10 rfl)) (by decide) (backOf (W := 1) (rm_new1_1 l Z a0 hw [] b1 b4 w_COMPACT_STRINGS k4 cA (.int 0) .null h8 n0 Z10 S_COMPACT_STRINGS hcs V8 hbcA O10 fc12 fc13 (Nat.le_trans Z0 bn_b1) fc14) hZ (hwi hw 10 rfl) (hwi hw 6 rfl) (by decide) (by decide)) (g := (mkF m 63 #[.val (.int p1), .val (.int p2), .val (.int p3), .val (.int p4), .val (.int 1), .val (.int cA), .val (.int cB), .val (.int cC)] [(.ref b4), (.ref b1), (.ref b1)])) rfl (by rw [hml]; rfl) (Steps.refl _) (a := b1) (argsL := [(.ref b4)]) (rest := [(.ref b1)]) (lenOf pd_C_V_325 rfl) rfl (by show 2 * 0 + _ ≤ _; exact Nat.le_of_eq rfl) (hb hby d1_63) (fun _ _ => ⟨rfl, e8, (by decide : 2 + 1 ≤ _), (by decide : 5 + 1 ≤ _)⟩)
  dsimp only [Pt.U, Pt.locs, Pt.cells, Pt.slots] at X11 l11 y11 z11 st11 hQ11
  subst l11 y11 z11
  obtain ⟨t_11, kt_11, rfl, N11q, Kc11, g11_0, g11_1, g11_2, g11_3, g11_4⟩ := hQ11
  have N11 := Fr.app N8 N11q
  have sfb11_3 : Safe Z consts_1 s.vm h8 t_11 := Safe.new g11_3
  have R15 := CHr.keep Kc11 (sfS sf_b1_9 sf0) R9.1
  have sf_b1_15 := Safe.keep Kc11 (sfS sf_b1_9 sf0) R9.1 sf_b1_9
  have sf_t_11_15 := Safe.keep Kc11 (sfS sf_b1_9 sf0) R9.1 sfb11_3
  have CR15 := CR9.trans R15
  have sz16 : h8.size ≤ T11.heap.size := Kc11.1
  have Z16 : n0 ≤ T11.heap.size := Nat.le_trans Z10 sz16
  have hk16 := Nat.le_trans hk10 sz16
  have O16 := O10.keep Kc11 (allS (Nat.le_trans Z0 bn_b1) all0)
  have K16 : Keep h0 T11.heap [] := K10.trans Kc11 (allS (Or.inr bn_b1) (all0))
  have bn_t_11 : h0.size ≤ t_11 := Nat.le_trans K10.1 g11_3
  have CRe := CR15.trans (CHv.at X11 hZ hEL R15.1)
  obtain ⟨fs, hr, hrun, hended, hRE⟩ := X11.leaveW hS0 hk16 (v := some (.ref b1)) (fun h => by rw [Bd.returns] at h; cases h)
  refine ⟨_, _, pre0 _ ?_, hrun, hended, _, _, rfl, ?_, ?_, ⟨hRE.1, hRE.2.1, hRE.2.2.1, hRE.2.2.2.mono (by decide) (by decide)⟩⟩
  · show St p e below s₁ (mkF m 0 #[.val (.int p1), .val (.int p2), .val (.int p3), .val (.int p4), .unset, .unset, .unset, .unset] []) _
    refine XS.iloadN X0.here hx rfl (hb hby d1_0) rfl ?_
    show St p e below s₁ (mkF m 1 #[.val (.int p1), .val (.int p2), .val (.int p3), .val (.int p4), .unset, .unset, .unset, .unset] [(.int p1)]) _
    refine XS.iconst X0.here hx rfl (hb hby d1_1) ?_
    show St p e below s₁ (mkF m 2 #[.val (.int p1), .val (.int p2), .val (.int p3), .val (.int p4), .unset, .unset, .unset, .unset] [(.int 3), (.int p1)]) _
    refine XS.iand X0.here hx rfl (hb hby d1_2) rfl ?_
    show St p e below s₁ (mkF m 3 #[.val (.int p1), .val (.int p2), .val (.int p3), .val (.int p4), .unset, .unset, .unset, .unset] [(.int (p1 &&& (3 : Int32)))]) _
    rw [hk]
    show St p e below s₁ (mkF m 3 #[.val (.int p1), .val (.int p2), .val (.int p3), .val (.int p4), .unset, .unset, .unset, .unset] [(.int 1)]) _
    refine XS.istore X0.here hx rfl (hb hby d1_3) rfl (l' := #[.val (.int p1), .val (.int p2), .val (.int p3), .val (.int p4), .val (.int 1), .unset, .unset, .unset]) rfl ?_
    show St p e below s₁ (mkF m 5 #[.val (.int p1), .val (.int p2), .val (.int p3), .val (.int p4), .val (.int 1), .unset, .unset, .unset] []) _
    refine XS.iloadN X0.here hx rfl (hb hby d1_5) rfl ?_
    show St p e below s₁ (mkF m 6 #[.val (.int p1), .val (.int p2), .val (.int p3), .val (.int p4), .val (.int 1), .unset, .unset, .unset] [(.int p2)]) _
    refine XS.sipush X0.here hx rfl (hb hby d1_6) ?_
    show St p e below s₁ (mkF m 9 #[.val (.int p1), .val (.int p2), .val (.int p3), .val (.int p4), .val (.int 1), .unset, .unset, .unset] [(.int 255), (.int p2)]) _
    refine XS.iand X0.here hx rfl (hb hby d1_9) rfl ?_
    show St p e below s₁ (mkF m 10 #[.val (.int p1), .val (.int p2), .val (.int p3), .val (.int p4), .val (.int 1), .unset, .unset, .unset] [(.int (p2 &&& (255 : Int32)))]) _
    refine XS.i2c X0.here hx rfl (hb hby d1_10) rfl ?_
    show St p e below s₁ (mkF m 11 #[.val (.int p1), .val (.int p2), .val (.int p3), .val (.int p4), .val (.int 1), .unset, .unset, .unset] [(.int ((p2 &&& (255 : Int32)).toUInt32.toUInt16.toUInt32.toInt32))]) _
    rw [hcA]
    show St p e below s₁ (mkF m 11 #[.val (.int p1), .val (.int p2), .val (.int p3), .val (.int p4), .val (.int 1), .unset, .unset, .unset] [(.int cA)]) _
    refine XS.istore X0.here hx rfl (hb hby d1_11) rfl (l' := #[.val (.int p1), .val (.int p2), .val (.int p3), .val (.int p4), .val (.int 1), .val (.int cA), .unset, .unset]) rfl ?_
    show St p e below s₁ (mkF m 13 #[.val (.int p1), .val (.int p2), .val (.int p3), .val (.int p4), .val (.int 1), .val (.int cA), .unset, .unset] []) _
    refine XS.iloadN X0.here hx rfl (hb hby d1_13) rfl ?_
    show St p e below s₁ (mkF m 14 #[.val (.int p1), .val (.int p2), .val (.int p3), .val (.int p4), .val (.int 1), .val (.int cA), .unset, .unset] [(.int p3)]) _
    refine XS.sipush X0.here hx rfl (hb hby d1_14) ?_
    show St p e below s₁ (mkF m 17 #[.val (.int p1), .val (.int p2), .val (.int p3), .val (.int p4), .val (.int 1), .val (.int cA), .unset, .unset] [(.int 255), (.int p3)]) _
    refine XS.iand X0.here hx rfl (hb hby d1_17) rfl ?_
    show St p e below s₁ (mkF m 18 #[.val (.int p1), .val (.int p2), .val (.int p3), .val (.int p4), .val (.int 1), .val (.int cA), .unset, .unset] [(.int (p3 &&& (255 : Int32)))]) _
    refine XS.i2c X0.here hx rfl (hb hby d1_18) rfl ?_
    show St p e below s₁ (mkF m 19 #[.val (.int p1), .val (.int p2), .val (.int p3), .val (.int p4), .val (.int 1), .val (.int cA), .unset, .unset] [(.int ((p3 &&& (255 : Int32)).toUInt32.toUInt16.toUInt32.toInt32))]) _
    rw [hcB]
    show St p e below s₁ (mkF m 19 #[.val (.int p1), .val (.int p2), .val (.int p3), .val (.int p4), .val (.int 1), .val (.int cA), .unset, .unset] [(.int cB)]) _
    refine XS.istore X0.here hx rfl (hb hby d1_19) rfl (l' := #[.val (.int p1), .val (.int p2), .val (.int p3), .val (.int p4), .val (.int 1), .val (.int cA), .val (.int cB), .unset]) rfl ?_
    show St p e below s₁ (mkF m 21 #[.val (.int p1), .val (.int p2), .val (.int p3), .val (.int p4), .val (.int 1), .val (.int cA), .val (.int cB), .unset] []) _
    refine XS.iloadN X0.here hx rfl (hb hby d1_21) rfl ?_
    show St p e below s₁ (mkF m 22 #[.val (.int p1), .val (.int p2), .val (.int p3), .val (.int p4), .val (.int 1), .val (.int cA), .val (.int cB), .unset] [(.int p4)]) _
    refine XS.sipush X0.here hx rfl (hb hby d1_22) ?_
    show St p e below s₁ (mkF m 25 #[.val (.int p1), .val (.int p2), .val (.int p3), .val (.int p4), .val (.int 1), .val (.int cA), .val (.int cB), .unset] [(.int 255), (.int p4)]) _
    refine XS.iand X0.here hx rfl (hb hby d1_25) rfl ?_
    show St p e below s₁ (mkF m 26 #[.val (.int p1), .val (.int p2), .val (.int p3), .val (.int p4), .val (.int 1), .val (.int cA), .val (.int cB), .unset] [(.int (p4 &&& (255 : Int32)))]) _
    refine XS.i2c X0.here hx rfl (hb hby d1_26) rfl ?_
    show St p e below s₁ (mkF m 27 #[.val (.int p1), .val (.int p2), .val (.int p3), .val (.int p4), .val (.int 1), .val (.int cA), .val (.int cB), .unset] [(.int ((p4 &&& (255 : Int32)).toUInt32.toUInt16.toUInt32.toInt32))]) _
    rw [hcC]
    show St p e below s₁ (mkF m 27 #[.val (.int p1), .val (.int p2), .val (.int p3), .val (.int p4), .val (.int 1), .val (.int cA), .val (.int cB), .unset] [(.int cC)]) _
    refine XS.istore X0.here hx rfl (hb hby d1_27) rfl (l' := #[.val (.int p1), .val (.int p2), .val (.int p3), .val (.int p4), .val (.int 1), .val (.int cA), .val (.int cB), .val (.int cC)]) rfl ?_
    show St p e below s₁ (mkF m 29 #[.val (.int p1), .val (.int p2), .val (.int p3), .val (.int p4), .val (.int 1), .val (.int cA), .val (.int cB), .val (.int cC)] []) _
    refine XS.iload X0.here hx rfl (hb hby d1_29) rfl ?_
    show St p e below s₁ (mkF m 31 #[.val (.int p1), .val (.int p2), .val (.int p3), .val (.int p4), .val (.int 1), .val (.int cA), .val (.int cB), .val (.int cC)] [(.int 1)]) _
    refine XS.ifYes X0.here hx rfl (pc0 := 31) (pc' := 45) rfl (hb hby d1_31) rfl ((if0 _ _).trans (feq (by decide : ¬ ((1 : Int32) = (0 : Int32)))).2) (by decide) (by decide) ?_
    show St p e below s₁ (mkF m 45 #[.val (.int p1), .val (.int p2), .val (.int p3), .val (.int p4), .val (.int 1), .val (.int cA), .val (.int cB), .val (.int cC)] []) _
    refine XS.iload X0.here hx rfl (hb hby d1_45) rfl ?_
    show St p e below s₁ (mkF m 47 #[.val (.int p1), .val (.int p2), .val (.int p3), .val (.int p4), .val (.int 1), .val (.int cA), .val (.int cB), .val (.int cC)] [(.int 1)]) _
    refine XS.iconst X0.here hx rfl (hb hby d1_47) ?_
    show St p e below s₁ (mkF m 48 #[.val (.int p1), .val (.int p2), .val (.int p3), .val (.int p4), .val (.int 1), .val (.int cA), .val (.int cB), .val (.int cC)] [(.int 1), (.int 1)]) _
    refine XS.icmpNo X0.here hx rfl (hb hby d1_48) rfl (teq (by decide : (1 : Int32) = (1 : Int32))).2 ?_
    show St p e below s₁ (mkF m 51 #[.val (.int p1), .val (.int p2), .val (.int p3), .val (.int p4), .val (.int 1), .val (.int cA), .val (.int cB), .val (.int cC)] []) _
    refine st1 _ ?_
    show St p e below T1 (mkF m 54 #[.val (.int p1), .val (.int p2), .val (.int p3), .val (.int p4), .val (.int 1), .val (.int cA), .val (.int cB), .val (.int cC)] [(.ref b1)]) _
    refine XS.dup X1.here hx rfl (hb hby d1_54) rfl rfl ?_
    show St p e below T1 (mkF m 55 #[.val (.int p1), .val (.int p2), .val (.int p3), .val (.int p4), .val (.int 1), .val (.int cA), .val (.int cB), .val (.int cC)] [(.ref b1), (.ref b1)]) _
    refine XS.iconst X1.here hx rfl (hb hby d1_55) ?_
    show St p e below T1 (mkF m 56 #[.val (.int p1), .val (.int p2), .val (.int p3), .val (.int p4), .val (.int 1), .val (.int cA), .val (.int cB), .val (.int cC)] [(.int 1), (.ref b1), (.ref b1)]) _
    refine st4 _ ?_
    show St p e below T4 (mkF m 58 #[.val (.int p1), .val (.int p2), .val (.int p3), .val (.int p4), .val (.int 1), .val (.int cA), .val (.int cB), .val (.int cC)] [(.ref b4), (.ref b1), (.ref b1)]) _
    refine XS.dup X4.here hx rfl (hb hby d1_58) rfl rfl ?_
    show St p e below T4 (mkF m 59 #[.val (.int p1), .val (.int p2), .val (.int p3), .val (.int p4), .val (.int 1), .val (.int cA), .val (.int cB), .val (.int cC)] [(.ref b4), (.ref b4), (.ref b1), (.ref b1)]) _
    refine XS.iconst X4.here hx rfl (hb hby d1_59) ?_
    show St p e below T4 (mkF m 60 #[.val (.int p1), .val (.int p2), .val (.int p3), .val (.int p4), .val (.int 1), .val (.int cA), .val (.int cB), .val (.int cC)] [(.int 0), (.ref b4), (.ref b4), (.ref b1), (.ref b1)]) _
    refine XS.iload X4.here hx rfl (hb hby d1_60) rfl ?_
    show St p e below T4 (mkF m 62 #[.val (.int p1), .val (.int p2), .val (.int p3), .val (.int p4), .val (.int 1), .val (.int cA), .val (.int cB), .val (.int cC)] [(.int cA), (.int 0), (.ref b4), (.ref b4), (.ref b1), (.ref b1)]) _
    refine st8 _ ?_
    show St p e below T8 (mkF m 63 #[.val (.int p1), .val (.int p2), .val (.int p3), .val (.int p4), .val (.int 1), .val (.int cA), .val (.int cB), .val (.int cC)] [(.ref b4), (.ref b1), (.ref b1)]) _
    refine st11.trans ?_
    show St p e below T11 (mkF m 66 #[.val (.int p1), .val (.int p2), .val (.int p3), .val (.int p4), .val (.int 1), .val (.int cA), .val (.int cB), .val (.int cC)] [(.ref b1)]) _
    jvm_step X11.here [X11.here.top, hx, (hb hby d1_66), X11.method', Bd.returns, Value.isRef, FieldType.isReference]
    first | (intro acts; rw [hr _ acts rfl rfl rfl]) | rw [hr _ _ rfl rfl rfl]
    exact Steps.refl _
  · show Q_str h0 n0 _ T11.heap _
    exact ⟨b1, rfl, N11, K16, bn_b1⟩
  · show CHr Z consts_1 s.vm s.heap T11.vm T11.heap
    rw [hh]
    exact CRe
theorem d1_67 : decode method_2_code 67 = .ok (.iload 4, 2) := by decide +kernel
theorem d1_69 : decode method_2_code 69 = .ok (.iconst 2, 1) := by decide +kernel
theorem d1_70 : decode method_2_code 70 = .ok (.if_icmp .ne 24, 3) := by decide +kernel
theorem d1_73 : decode method_2_code 73 = .ok (.new 7, 3) := by decide +kernel
theorem d1_76 : decode method_2_code 76 = .ok (.dup, 1) := by decide +kernel
theorem d1_77 : decode method_2_code 77 = .ok (.iconst 2, 1) := by decide +kernel
theorem d1_78 : decode method_2_code 78 = .ok (.newarray .char, 2) := by decide +kernel
theorem d1_80 : decode method_2_code 80 = .ok (.dup, 1) := by decide +kernel
theorem d1_81 : decode method_2_code 81 = .ok (.iconst 0, 1) := by decide +kernel
theorem d1_82 : decode method_2_code 82 = .ok (.iload 5, 2) := by decide +kernel
theorem d1_84 : decode method_2_code 84 = .ok (.castore, 1) := by decide +kernel
theorem d1_85 : decode method_2_code 85 = .ok (.dup, 1) := by decide +kernel
theorem d1_86 : decode method_2_code 86 = .ok (.iconst 1, 1) := by decide +kernel
theorem d1_87 : decode method_2_code 87 = .ok (.iload 6, 2) := by decide +kernel
theorem d1_89 : decode method_2_code 89 = .ok (.castore, 1) := by decide +kernel
theorem d1_90 : decode method_2_code 90 = .ok (.invokespecial 9, 3) := by decide +kernel
theorem d1_93 : decode method_2_code 93 = .ok (.areturn, 1) := by decide +kernel
set_option maxRecDepth 65536 in
set_option maxHeartbeats 40000000 in
theorem rm_str_2 (l : Launch) (Z : State) (a0 : Array Value) (hw : ∀ d ∈ tables_1, d.before a0 Z = true) (hEL : EW Z a0 consts_1) (ws : List Jvm.Cond) (p1 : Int32) (p2 : Int32) (p3 : Int32) (p4 : Int32) (cA : Int32) (cB : Int32) (cC : Int32) (w_COMPACT_STRINGS : Int32) (h0 : Heap) (n0 : Nat) (Z0 : n0 ≤ h0.size) (hbcA : ¬ ((255 : Int32) < cA)) (hbcB : ¬ ((255 : Int32) < cB)) (S_COMPACT_STRINGS : Sta Z Z.heap "java/lang/String" "COMPACT_STRINGS" "Z" (.int w_COMPACT_STRINGS)) (hcs : ¬ (w_COMPACT_STRINGS = (0 : Int32))) (O0 : Old Z n0 h0) (hk : (p1 &&& (3 : Int32)) = (2 : Int32)) (hcA : ((p2 &&& (255 : Int32)).toUInt32.toUInt16.toUInt32.toInt32) = cA) (hcB : ((p3 &&& (255 : Int32)).toUInt32.toUInt16.toUInt32.toInt32) = cB) (hcC : ((p4 &&& (255 : Int32)).toUInt32.toUInt16.toUInt32.toInt32) = cC) (hncA : (cA.toUInt32.toUInt16.toUInt32.toInt32) = cA) (hncB : (cB.toUInt32.toUInt16.toUInt32.toInt32) = cB) :
    MetFree l (⟨"com/example/disbursa/disbursa/rails/OutcomeSettledPinLaw", "str", "(IIII)Ljava/lang/String;"⟩ : MethodName) (head1 (Jvm.Cond.code (⟨"com/example/disbursa/disbursa/rails/OutcomeSettledPinLaw", "str", "(IIII)Ljava/lang/String;"⟩ : MethodName) method_2_code 8 (some (.object "java/lang/String")) :: ws) ({ frames := 4, cells := 6, slots := 12, locals := 66 } : Room)) (fun a U => a = #[(.int p1), (.int p2), (.int p3), (.int p4)] ∧ Z.Warmed39 U.vm ∧ U.heap = h0 ∧ CHv Z consts_1 U.vm h0) (fun _ _ _ _ _ => True) (fun _ U o U' => ∃ v L, o = .returned v ∧ Q_str h0 n0 v U'.heap L ∧ CHr Z consts_1 U.vm U.heap U'.vm U'.heap ∧ ReturnedEndW U o U' L ({ frames := 4, cells := 6, slots := 12, locals := 66 } : Room).cells ({ frames := 4, cells := 6, slots := 12, locals := 66 } : Room).slots) := by
  refine MetFree.of_bodySF (plainFor_of_name pn_1) hisR ?_
  intro p e s m args below meth c s₁ Bd hml0 hP hK
  obtain ⟨rfl, hZ, hh, H0c⟩ := hP
  have hx := Bd.exec
  have hby := Bd.bytes
  have hml : c.maxLocals = 8 := hml0
  have hown : s.vm.findClass "com/example/disbursa/disbursa/rails/OutcomeSettledPinLaw" = some m.cls := findClass_of_methodNamed Bd.named
  have hnm := (name_of_methodNamed Bd.named Bd.method).1
  have X0 : Stand p l e ({ frames := 4, cells := 6, slots := 12, locals := 66 } : Room) (s.setVm s.vm) m #[(.int p1), (.int p2), (.int p3), (.int p4)] below meth c s₁ [] 0 0 := Stand.of_body Bd
  have e0 : s₁.heap = h0 := by rw [← hh, Bd.state]; rfl
  have N0 := Fr.nil n0
  have pre0 : ∀ t, Steps p.tables e below (s₁.setTop (mkF m 0 #[.val (.int p1), .val (.int p2), .val (.int p3), .val (.int p4), .unset, .unset, .unset, .unset] [])) t → Steps p.tables e below (s₁.setTop (entryFrame m #[(.int p1), (.int p2), (.int p3), (.int p4)] 8)) t := fun t k => castTop (ef_1_IIII m p1 p2 p3 p4) k
  have hS0 : s.Since s.vm 0 := (State.WarmedH.refl s).since 0
  have hk0 : 0 ≤ h0.size := Nat.zero_le _
  have C0c : CHr Z consts_1 s.vm h0 s.vm h0 := CHr.refl H0c
  obtain ⟨T1, h1, X1, e1, E1, A1, D1, -, st1⟩ := newO X0 hx hZ hown (hwi hw 4 rfl) (hwi hw 5 rfl) (hwi hw 6 rfl) e0 (g := (mkF m 73 #[.val (.int p1), .val (.int p2), .val (.int p3), .val (.int p4), .val (.int 2), .val (.int cA), .val (.int cB), .val (.int cC)] [])) rfl (hb hby d1_73) (by decide) (by decide)
  obtain ⟨b1, g1⟩ : ∃ z, z = h0.size := ⟨_, rfl⟩
  rw [← g1] at A1 D1 st1
  have bn_b1 : h0.size ≤ b1 := Nat.le_of_eq g1.symm
  have sfb1 : Safe Z consts_1 s.vm h0 b1 := Safe.new (Nat.le_of_eq g1.symm)
  have R2 := CHr.ext E1 H0c
  have sf_b1_2 := Safe.ext E1 H0c sfb1
  have CR2 := C0c.trans R2
  have sz3 : h0.size ≤ h1.size := E1.1
  have Z3 : n0 ≤ h1.size := Nat.le_trans Z0 sz3
  have hk3 := Nat.le_trans hk0 sz3
  have O3 := O0.ext E1
  have K3 : Keep h0 h1 [] := (Keep.refl h0 []).ext E1
  have F1_value : Fld Z h1 b1 "java/lang/String" "value" "[B" .null := D1 (Or.inr (hwi hw 20 rfl)) (ty := (.array .byte)) (by decide)
  have F1_coder : Fld Z h1 b1 "java/lang/String" "coder" "B" (.int 0) := D1 (Or.inr (hwi hw 21 rfl)) (ty := .byte) (by decide)
  obtain ⟨T4, h4, k4, X4, e4, E4, A4, st4⟩ := newP X1 hx hZ (hwi hw 7 rfl) e1 (g := (mkF m 78 #[.val (.int p1), .val (.int p2), .val (.int p3), .val (.int p4), .val (.int 2), .val (.int cA), .val (.int cB), .val (.int cC)] [(.int 2), (.ref b1), (.ref b1)])) rfl (hb hby d1_78) rfl (by decide) (cap := 2) (by decide) (by decide) (by decide) (by decide)
  obtain ⟨b4, g4⟩ : ∃ z, z = h1.size := ⟨_, rfl⟩
  rw [← g4] at A4 st4
  have bn_b4 : h0.size ≤ b4 := Nat.le_trans K3.1 (Nat.le_of_eq g4.symm)
  have R5 := CHr.ext E4 R2.1
  have sf_b1_5 := Safe.ext E4 R2.1 sf_b1_2
  have CR5 := CR2.trans R5
  have sz6 : h1.size ≤ h4.size := E4.1
  have Z6 : n0 ≤ h4.size := Nat.le_trans Z3 sz6
  have hk6 := Nat.le_trans hk3 sz6
  have O6 := O3.ext E4
  have K6 : Keep h0 h4 [] := K3.ext E4
  have V4 : Arv Z h4 b4 k4 .char (2 : Int32) [(.int 0), (.int 0)] (.int 0) := (Arv.new A4 (by decide)).pad (pad_rep [] (.int 0) 2)
  obtain ⟨cl7, Ar7, q7, S7, M7, H7, G7⟩ := id V4
  have hin7 : ¬ ((0 : Int32) < 0 ∨ cl7.slots.size ≤ ((0 : Int32)).toNatClampNeg) := inb_of S7 ⟨by decide, by decide⟩
  obtain ⟨T8, h8, X8, e8, W8, st8⟩ := stC X4 hx hZ e4 Ar7 (j := (0 : Int32)) hin7 (g := (mkF m 84 #[.val (.int p1), .val (.int p2), .val (.int p3), .val (.int p4), .val (.int 2), .val (.int cA), .val (.int cB), .val (.int cC)] [(.int cA), (.int 0), (.ref b4), (.ref b4), (.ref b1), (.ref b1)])) rfl rfl (hb hby d1_84)
  have N8 := Fr.snoc X8 N0 (Nat.le_trans Z0 bn_b4)
  have V8 : Arv Z h8 b4 k4 .char (2 : Int32) [(.int (cA.toUInt32.toUInt16.toUInt32.toInt32)), (.int 0)] (.int 0) := Arv.set Ar7 q7 S7 M7 H7 G7 (fits_nar_char _) W8 0 rfl (Nat.le_of_ble_eq_true rfl)
  rw [hncA] at V8
  have R9 := CHr.wr W8 (Safe.arv hZ.alike V4 (by decide)) R5.1
  have sf_b1_9 := Safe.wr W8 (Safe.arv hZ.alike V4 (by decide)) R5.1 sf_b1_5
  have CR9 := CR5.trans R9
  have sz10 : h4.size ≤ h8.size := Nat.le_of_eq W8.size.symm
  have Z10 : n0 ≤ h8.size := Nat.le_trans Z6 sz10
  have hk10 := Nat.le_trans hk6 sz10
  have O10 := O6.wr W8 (Nat.le_trans Z0 bn_b4)
  have K10 : Keep h0 h8 [] := K6.wr W8 (Or.inr bn_b4)
  obtain ⟨cl11, Ar11, q11, S11, M11, H11, G11⟩ := id V8
  have hin11 : ¬ ((1 : Int32) < 0 ∨ cl11.slots.size ≤ ((1 : Int32)).toNatClampNeg) := inb_of S11 ⟨by decide, by decide⟩
  obtain ⟨T12, h12, X12, e12, W12, st12⟩ := stC X8 hx hZ e8 Ar11 (j := (1 : Int32)) hin11 (g := (mkF m 89 #[.val (.int p1), .val (.int p2), .val (.int p3), .val (.int p4), .val (.int 2), .val (.int cA), .val (.int cB), .val (.int cC)] [(.int cB), (.int 1), (.ref b4), (.ref b4), (.ref b1), (.ref b1)])) rfl rfl (hb hby d1_89)
  have N12 := Fr.snoc X12 N8 (Nat.le_trans Z0 bn_b4)
  have V12 : Arv Z h12 b4 k4 .char (2 : Int32) [(.int cA), (.int (cB.toUInt32.toUInt16.toUInt32.toInt32))] (.int 0) := Arv.set Ar11 q11 S11 M11 H11 G11 (fits_nar_char _) W12 1 rfl (Nat.le_of_ble_eq_true rfl)
  rw [hncB] at V12
  have R13 := CHr.wr W12 (Safe.arv hZ.alike V8 (by decide)) R9.1
  have sf_b1_13 := Safe.wr W12 (Safe.arv hZ.alike V8 (by decide)) R9.1 sf_b1_9
  have CR13 := CR9.trans R13
  have sz14 : h8.size ≤ h12.size := Nat.le_of_eq W12.size.symm
  have Z14 : n0 ≤ h12.size := Nat.le_trans Z10 sz14
  have hk14 := Nat.le_trans hk10 sz14
  have O14 := O10.wr W12 (Nat.le_trans Z0 bn_b4)
  have K14 : Keep h0 h12 [] := K10.wr W12 (Or.inr bn_b4)
  have fc16 := (((A1.ext E4).wr W8).wr W12)
  have fc17 := (((F1_coder.ext E4).other W8 (Or.inl (neN (by have := ltN A1.lt; have := ltN V4.lt; omega)))).other W12 (Or.inl (neN (by have := ltN A1.lt; have := ltN V4.lt; omega))))
  have fc18 := (((F1_value.ext E4).other W8 (Or.inl (neN (by have := ltN A1.lt; have := ltN V4.lt; omega)))).other W12 (Or.inl (neN (by have := ltN A1.lt; have := ltN V4.lt; omega))))
  obtain ⟨_, _, ⟨T15, L15, k15, n15⟩, -, X15, ⟨Lc15, hQ15, l15, y15, z15⟩, st15⟩ := X12.specialBack hx (y := (⟨"java/lang/String", "<init>", "([C)V"⟩ : MethodName)) rfl hown (mvT hZ (hwi hw 8 rfl)) (mvT hZ (hwi hw 9 rfl)) (mvT hZ (hwi hw 10 rfl)) (by decide) (backOf (W := 1) (rm_new1_2 l Z a0 hw [] b1 b4 w_COMPACT_STRINGS k4 cA cB (.int 0) .null h12 n0 Z14 S_COMPACT_STRINGS hcs V12 hbcA hbcB O14 fc16 fc17 (Nat.le_trans Z0 bn_b1) fc18) hZ (hwi hw 10 rfl) (hwi hw 6 rfl) (by decide) (by decide)) (g := (mkF m 90 #[.val (.int p1), .val (.int p2), .val (.int p3), .val (.int p4), .val (.int 2), .val (.int cA), .val (.int cB), .val (.int cC)] [(.ref b4), (.ref b1), (.ref b1)])) rfl (by rw [hml]; rfl) (Steps.refl _) (a := b1) (argsL := [(.ref b4)]) (rest := [(.ref b1)]) (lenOf pd_C_V_325 rfl) rfl (by show 2 * 0 + _ ≤ _; exact Nat.le_of_eq rfl) (hb hby d1_90) (fun _ _ => ⟨rfl, e12, (by decide : 2 + 1 ≤ _), (by decide : 6 + 2 ≤ _)⟩)
  dsimp only [Pt.U, Pt.locs, Pt.cells, Pt.slots] at X15 l15 y15 z15 st15 hQ15
  subst l15 y15 z15
  obtain ⟨t_15, kt_15, rfl, N15q, Kc15, g15_0, g15_1, g15_2, g15_3, g15_4⟩ := hQ15
  have N15 := Fr.app N12 N15q
  have sfb15_3 : Safe Z consts_1 s.vm h12 t_15 := Safe.new g15_3
  have R19 := CHr.keep Kc15 (sfS sf_b1_13 sf0) R13.1
  have sf_b1_19 := Safe.keep Kc15 (sfS sf_b1_13 sf0) R13.1 sf_b1_13
  have sf_t_15_19 := Safe.keep Kc15 (sfS sf_b1_13 sf0) R13.1 sfb15_3
  have CR19 := CR13.trans R19
  have sz20 : h12.size ≤ T15.heap.size := Kc15.1
  have Z20 : n0 ≤ T15.heap.size := Nat.le_trans Z14 sz20
  have hk20 := Nat.le_trans hk14 sz20
  have O20 := O14.keep Kc15 (allS (Nat.le_trans Z0 bn_b1) all0)
  have K20 : Keep h0 T15.heap [] := K14.trans Kc15 (allS (Or.inr bn_b1) (all0))
  have bn_t_15 : h0.size ≤ t_15 := Nat.le_trans K14.1 g15_3
  have CRe := CR19.trans (CHv.at X15 hZ hEL R19.1)
  obtain ⟨fs, hr, hrun, hended, hRE⟩ := X15.leaveW hS0 hk20 (v := some (.ref b1)) (fun h => by rw [Bd.returns] at h; cases h)
  refine ⟨_, _, pre0 _ ?_, hrun, hended, _, _, rfl, ?_, ?_, ⟨hRE.1, hRE.2.1, hRE.2.2.1, hRE.2.2.2.mono (by decide) (by decide)⟩⟩
  · show St p e below s₁ (mkF m 0 #[.val (.int p1), .val (.int p2), .val (.int p3), .val (.int p4), .unset, .unset, .unset, .unset] []) _
    refine XS.iloadN X0.here hx rfl (hb hby d1_0) rfl ?_
    show St p e below s₁ (mkF m 1 #[.val (.int p1), .val (.int p2), .val (.int p3), .val (.int p4), .unset, .unset, .unset, .unset] [(.int p1)]) _
    refine XS.iconst X0.here hx rfl (hb hby d1_1) ?_
    show St p e below s₁ (mkF m 2 #[.val (.int p1), .val (.int p2), .val (.int p3), .val (.int p4), .unset, .unset, .unset, .unset] [(.int 3), (.int p1)]) _
    refine XS.iand X0.here hx rfl (hb hby d1_2) rfl ?_
    show St p e below s₁ (mkF m 3 #[.val (.int p1), .val (.int p2), .val (.int p3), .val (.int p4), .unset, .unset, .unset, .unset] [(.int (p1 &&& (3 : Int32)))]) _
    rw [hk]
    show St p e below s₁ (mkF m 3 #[.val (.int p1), .val (.int p2), .val (.int p3), .val (.int p4), .unset, .unset, .unset, .unset] [(.int 2)]) _
    refine XS.istore X0.here hx rfl (hb hby d1_3) rfl (l' := #[.val (.int p1), .val (.int p2), .val (.int p3), .val (.int p4), .val (.int 2), .unset, .unset, .unset]) rfl ?_
    show St p e below s₁ (mkF m 5 #[.val (.int p1), .val (.int p2), .val (.int p3), .val (.int p4), .val (.int 2), .unset, .unset, .unset] []) _
    refine XS.iloadN X0.here hx rfl (hb hby d1_5) rfl ?_
    show St p e below s₁ (mkF m 6 #[.val (.int p1), .val (.int p2), .val (.int p3), .val (.int p4), .val (.int 2), .unset, .unset, .unset] [(.int p2)]) _
    refine XS.sipush X0.here hx rfl (hb hby d1_6) ?_
    show St p e below s₁ (mkF m 9 #[.val (.int p1), .val (.int p2), .val (.int p3), .val (.int p4), .val (.int 2), .unset, .unset, .unset] [(.int 255), (.int p2)]) _
    refine XS.iand X0.here hx rfl (hb hby d1_9) rfl ?_
    show St p e below s₁ (mkF m 10 #[.val (.int p1), .val (.int p2), .val (.int p3), .val (.int p4), .val (.int 2), .unset, .unset, .unset] [(.int (p2 &&& (255 : Int32)))]) _
    refine XS.i2c X0.here hx rfl (hb hby d1_10) rfl ?_
    show St p e below s₁ (mkF m 11 #[.val (.int p1), .val (.int p2), .val (.int p3), .val (.int p4), .val (.int 2), .unset, .unset, .unset] [(.int ((p2 &&& (255 : Int32)).toUInt32.toUInt16.toUInt32.toInt32))]) _
    rw [hcA]
    show St p e below s₁ (mkF m 11 #[.val (.int p1), .val (.int p2), .val (.int p3), .val (.int p4), .val (.int 2), .unset, .unset, .unset] [(.int cA)]) _
    refine XS.istore X0.here hx rfl (hb hby d1_11) rfl (l' := #[.val (.int p1), .val (.int p2), .val (.int p3), .val (.int p4), .val (.int 2), .val (.int cA), .unset, .unset]) rfl ?_
    show St p e below s₁ (mkF m 13 #[.val (.int p1), .val (.int p2), .val (.int p3), .val (.int p4), .val (.int 2), .val (.int cA), .unset, .unset] []) _
    refine XS.iloadN X0.here hx rfl (hb hby d1_13) rfl ?_
    show St p e below s₁ (mkF m 14 #[.val (.int p1), .val (.int p2), .val (.int p3), .val (.int p4), .val (.int 2), .val (.int cA), .unset, .unset] [(.int p3)]) _
    refine XS.sipush X0.here hx rfl (hb hby d1_14) ?_
    show St p e below s₁ (mkF m 17 #[.val (.int p1), .val (.int p2), .val (.int p3), .val (.int p4), .val (.int 2), .val (.int cA), .unset, .unset] [(.int 255), (.int p3)]) _
    refine XS.iand X0.here hx rfl (hb hby d1_17) rfl ?_
    show St p e below s₁ (mkF m 18 #[.val (.int p1), .val (.int p2), .val (.int p3), .val (.int p4), .val (.int 2), .val (.int cA), .unset, .unset] [(.int (p3 &&& (255 : Int32)))]) _
    refine XS.i2c X0.here hx rfl (hb hby d1_18) rfl ?_
    show St p e below s₁ (mkF m 19 #[.val (.int p1), .val (.int p2), .val (.int p3), .val (.int p4), .val (.int 2), .val (.int cA), .unset, .unset] [(.int ((p3 &&& (255 : Int32)).toUInt32.toUInt16.toUInt32.toInt32))]) _
    rw [hcB]
    show St p e below s₁ (mkF m 19 #[.val (.int p1), .val (.int p2), .val (.int p3), .val (.int p4), .val (.int 2), .val (.int cA), .unset, .unset] [(.int cB)]) _
    refine XS.istore X0.here hx rfl (hb hby d1_19) rfl (l' := #[.val (.int p1), .val (.int p2), .val (.int p3), .val (.int p4), .val (.int 2), .val (.int cA), .val (.int cB), .unset]) rfl ?_
    show St p e below s₁ (mkF m 21 #[.val (.int p1), .val (.int p2), .val (.int p3), .val (.int p4), .val (.int 2), .val (.int cA), .val (.int cB), .unset] []) _
    refine XS.iloadN X0.here hx rfl (hb hby d1_21) rfl ?_
    show St p e below s₁ (mkF m 22 #[.val (.int p1), .val (.int p2), .val (.int p3), .val (.int p4), .val (.int 2), .val (.int cA), .val (.int cB), .unset] [(.int p4)]) _
    refine XS.sipush X0.here hx rfl (hb hby d1_22) ?_
    show St p e below s₁ (mkF m 25 #[.val (.int p1), .val (.int p2), .val (.int p3), .val (.int p4), .val (.int 2), .val (.int cA), .val (.int cB), .unset] [(.int 255), (.int p4)]) _
    refine XS.iand X0.here hx rfl (hb hby d1_25) rfl ?_
    show St p e below s₁ (mkF m 26 #[.val (.int p1), .val (.int p2), .val (.int p3), .val (.int p4), .val (.int 2), .val (.int cA), .val (.int cB), .unset] [(.int (p4 &&& (255 : Int32)))]) _
    refine XS.i2c X0.here hx rfl (hb hby d1_26) rfl ?_
    show St p e below s₁ (mkF m 27 #[.val (.int p1), .val (.int p2), .val (.int p3), .val (.int p4), .val (.int 2), .val (.int cA), .val (.int cB), .unset] [(.int ((p4 &&& (255 : Int32)).toUInt32.toUInt16.toUInt32.toInt32))]) _
    rw [hcC]
    show St p e below s₁ (mkF m 27 #[.val (.int p1), .val (.int p2), .val (.int p3), .val (.int p4), .val (.int 2), .val (.int cA), .val (.int cB), .unset] [(.int cC)]) _
    refine XS.istore X0.here hx rfl (hb hby d1_27) rfl (l' := #[.val (.int p1), .val (.int p2), .val (.int p3), .val (.int p4), .val (.int 2), .val (.int cA), .val (.int cB), .val (.int cC)]) rfl ?_
    show St p e below s₁ (mkF m 29 #[.val (.int p1), .val (.int p2), .val (.int p3), .val (.int p4), .val (.int 2), .val (.int cA), .val (.int cB), .val (.int cC)] []) _
    refine XS.iload X0.here hx rfl (hb hby d1_29) rfl ?_
    show St p e below s₁ (mkF m 31 #[.val (.int p1), .val (.int p2), .val (.int p3), .val (.int p4), .val (.int 2), .val (.int cA), .val (.int cB), .val (.int cC)] [(.int 2)]) _
    refine XS.ifYes X0.here hx rfl (pc0 := 31) (pc' := 45) rfl (hb hby d1_31) rfl ((if0 _ _).trans (feq (by decide : ¬ ((2 : Int32) = (0 : Int32)))).2) (by decide) (by decide) ?_
    show St p e below s₁ (mkF m 45 #[.val (.int p1), .val (.int p2), .val (.int p3), .val (.int p4), .val (.int 2), .val (.int cA), .val (.int cB), .val (.int cC)] []) _
    refine XS.iload X0.here hx rfl (hb hby d1_45) rfl ?_
    show St p e below s₁ (mkF m 47 #[.val (.int p1), .val (.int p2), .val (.int p3), .val (.int p4), .val (.int 2), .val (.int cA), .val (.int cB), .val (.int cC)] [(.int 2)]) _
    refine XS.iconst X0.here hx rfl (hb hby d1_47) ?_
    show St p e below s₁ (mkF m 48 #[.val (.int p1), .val (.int p2), .val (.int p3), .val (.int p4), .val (.int 2), .val (.int cA), .val (.int cB), .val (.int cC)] [(.int 1), (.int 2)]) _
    refine XS.icmpYes X0.here hx rfl (pc0 := 48) (pc' := 67) rfl (hb hby d1_48) rfl (feq (by decide : ¬ ((2 : Int32) = (1 : Int32)))).2 (by decide) (by decide) ?_
    show St p e below s₁ (mkF m 67 #[.val (.int p1), .val (.int p2), .val (.int p3), .val (.int p4), .val (.int 2), .val (.int cA), .val (.int cB), .val (.int cC)] []) _
    refine XS.iload X0.here hx rfl (hb hby d1_67) rfl ?_
    show St p e below s₁ (mkF m 69 #[.val (.int p1), .val (.int p2), .val (.int p3), .val (.int p4), .val (.int 2), .val (.int cA), .val (.int cB), .val (.int cC)] [(.int 2)]) _
    refine XS.iconst X0.here hx rfl (hb hby d1_69) ?_
    show St p e below s₁ (mkF m 70 #[.val (.int p1), .val (.int p2), .val (.int p3), .val (.int p4), .val (.int 2), .val (.int cA), .val (.int cB), .val (.int cC)] [(.int 2), (.int 2)]) _
    refine XS.icmpNo X0.here hx rfl (hb hby d1_70) rfl (teq (by decide : (2 : Int32) = (2 : Int32))).2 ?_
    show St p e below s₁ (mkF m 73 #[.val (.int p1), .val (.int p2), .val (.int p3), .val (.int p4), .val (.int 2), .val (.int cA), .val (.int cB), .val (.int cC)] []) _
    refine st1 _ ?_
    show St p e below T1 (mkF m 76 #[.val (.int p1), .val (.int p2), .val (.int p3), .val (.int p4), .val (.int 2), .val (.int cA), .val (.int cB), .val (.int cC)] [(.ref b1)]) _
    refine XS.dup X1.here hx rfl (hb hby d1_76) rfl rfl ?_
    show St p e below T1 (mkF m 77 #[.val (.int p1), .val (.int p2), .val (.int p3), .val (.int p4), .val (.int 2), .val (.int cA), .val (.int cB), .val (.int cC)] [(.ref b1), (.ref b1)]) _
    refine XS.iconst X1.here hx rfl (hb hby d1_77) ?_
    show St p e below T1 (mkF m 78 #[.val (.int p1), .val (.int p2), .val (.int p3), .val (.int p4), .val (.int 2), .val (.int cA), .val (.int cB), .val (.int cC)] [(.int 2), (.ref b1), (.ref b1)]) _
    refine st4 _ ?_
    show St p e below T4 (mkF m 80 #[.val (.int p1), .val (.int p2), .val (.int p3), .val (.int p4), .val (.int 2), .val (.int cA), .val (.int cB), .val (.int cC)] [(.ref b4), (.ref b1), (.ref b1)]) _
    refine XS.dup X4.here hx rfl (hb hby d1_80) rfl rfl ?_
    show St p e below T4 (mkF m 81 #[.val (.int p1), .val (.int p2), .val (.int p3), .val (.int p4), .val (.int 2), .val (.int cA), .val (.int cB), .val (.int cC)] [(.ref b4), (.ref b4), (.ref b1), (.ref b1)]) _
    refine XS.iconst X4.here hx rfl (hb hby d1_81) ?_
    show St p e below T4 (mkF m 82 #[.val (.int p1), .val (.int p2), .val (.int p3), .val (.int p4), .val (.int 2), .val (.int cA), .val (.int cB), .val (.int cC)] [(.int 0), (.ref b4), (.ref b4), (.ref b1), (.ref b1)]) _
    refine XS.iload X4.here hx rfl (hb hby d1_82) rfl ?_
    show St p e below T4 (mkF m 84 #[.val (.int p1), .val (.int p2), .val (.int p3), .val (.int p4), .val (.int 2), .val (.int cA), .val (.int cB), .val (.int cC)] [(.int cA), (.int 0), (.ref b4), (.ref b4), (.ref b1), (.ref b1)]) _
    refine st8 _ ?_
    show St p e below T8 (mkF m 85 #[.val (.int p1), .val (.int p2), .val (.int p3), .val (.int p4), .val (.int 2), .val (.int cA), .val (.int cB), .val (.int cC)] [(.ref b4), (.ref b1), (.ref b1)]) _
    refine XS.dup X8.here hx rfl (hb hby d1_85) rfl rfl ?_
    show St p e below T8 (mkF m 86 #[.val (.int p1), .val (.int p2), .val (.int p3), .val (.int p4), .val (.int 2), .val (.int cA), .val (.int cB), .val (.int cC)] [(.ref b4), (.ref b4), (.ref b1), (.ref b1)]) _
    refine XS.iconst X8.here hx rfl (hb hby d1_86) ?_
    show St p e below T8 (mkF m 87 #[.val (.int p1), .val (.int p2), .val (.int p3), .val (.int p4), .val (.int 2), .val (.int cA), .val (.int cB), .val (.int cC)] [(.int 1), (.ref b4), (.ref b4), (.ref b1), (.ref b1)]) _
    refine XS.iload X8.here hx rfl (hb hby d1_87) rfl ?_
    show St p e below T8 (mkF m 89 #[.val (.int p1), .val (.int p2), .val (.int p3), .val (.int p4), .val (.int 2), .val (.int cA), .val (.int cB), .val (.int cC)] [(.int cB), (.int 1), (.ref b4), (.ref b4), (.ref b1), (.ref b1)]) _
    refine st12 _ ?_
    show St p e below T12 (mkF m 90 #[.val (.int p1), .val (.int p2), .val (.int p3), .val (.int p4), .val (.int 2), .val (.int cA), .val (.int cB), .val (.int cC)] [(.ref b4), (.ref b1), (.ref b1)]) _
    refine st15.trans ?_
    show St p e below T15 (mkF m 93 #[.val (.int p1), .val (.int p2), .val (.int p3), .val (.int p4), .val (.int 2), .val (.int cA), .val (.int cB), .val (.int cC)] [(.ref b1)]) _
    jvm_step X15.here [X15.here.top, hx, (hb hby d1_93), X15.method', Bd.returns, Value.isRef, FieldType.isReference]
    first | (intro acts; rw [hr _ acts rfl rfl rfl]) | rw [hr _ _ rfl rfl rfl]
    exact Steps.refl _
  · show Q_str h0 n0 _ T15.heap _
    exact ⟨b1, rfl, N15, K20, bn_b1⟩
  · show CHr Z consts_1 s.vm s.heap T15.vm T15.heap
    rw [hh]
    exact CRe
theorem d1_94 : decode method_2_code 94 = .ok (.new 7, 3) := by decide +kernel
theorem d1_97 : decode method_2_code 97 = .ok (.dup, 1) := by decide +kernel
theorem d1_98 : decode method_2_code 98 = .ok (.iconst 3, 1) := by decide +kernel
theorem d1_99 : decode method_2_code 99 = .ok (.newarray .char, 2) := by decide +kernel
theorem d1_101 : decode method_2_code 101 = .ok (.dup, 1) := by decide +kernel
theorem d1_102 : decode method_2_code 102 = .ok (.iconst 0, 1) := by decide +kernel
theorem d1_103 : decode method_2_code 103 = .ok (.iload 5, 2) := by decide +kernel
theorem d1_105 : decode method_2_code 105 = .ok (.castore, 1) := by decide +kernel
theorem d1_106 : decode method_2_code 106 = .ok (.dup, 1) := by decide +kernel
theorem d1_107 : decode method_2_code 107 = .ok (.iconst 1, 1) := by decide +kernel
theorem d1_108 : decode method_2_code 108 = .ok (.iload 6, 2) := by decide +kernel
theorem d1_110 : decode method_2_code 110 = .ok (.castore, 1) := by decide +kernel
theorem d1_111 : decode method_2_code 111 = .ok (.dup, 1) := by decide +kernel
theorem d1_112 : decode method_2_code 112 = .ok (.iconst 2, 1) := by decide +kernel
theorem d1_113 : decode method_2_code 113 = .ok (.iload 7, 2) := by decide +kernel
theorem d1_115 : decode method_2_code 115 = .ok (.castore, 1) := by decide +kernel
theorem d1_116 : decode method_2_code 116 = .ok (.invokespecial 9, 3) := by decide +kernel
theorem d1_119 : decode method_2_code 119 = .ok (.areturn, 1) := by decide +kernel
set_option maxRecDepth 65536 in
set_option maxHeartbeats 40000000 in
theorem rm_str_3 (l : Launch) (Z : State) (a0 : Array Value) (hw : ∀ d ∈ tables_1, d.before a0 Z = true) (hEL : EW Z a0 consts_1) (ws : List Jvm.Cond) (p1 : Int32) (p2 : Int32) (p3 : Int32) (p4 : Int32) (cA : Int32) (cB : Int32) (cC : Int32) (w_COMPACT_STRINGS : Int32) (h0 : Heap) (n0 : Nat) (Z0 : n0 ≤ h0.size) (hbcA : ¬ ((255 : Int32) < cA)) (hbcB : ¬ ((255 : Int32) < cB)) (hbcC : ¬ ((255 : Int32) < cC)) (S_COMPACT_STRINGS : Sta Z Z.heap "java/lang/String" "COMPACT_STRINGS" "Z" (.int w_COMPACT_STRINGS)) (hcs : ¬ (w_COMPACT_STRINGS = (0 : Int32))) (O0 : Old Z n0 h0) (hk : (p1 &&& (3 : Int32)) = (3 : Int32)) (hcA : ((p2 &&& (255 : Int32)).toUInt32.toUInt16.toUInt32.toInt32) = cA) (hcB : ((p3 &&& (255 : Int32)).toUInt32.toUInt16.toUInt32.toInt32) = cB) (hcC : ((p4 &&& (255 : Int32)).toUInt32.toUInt16.toUInt32.toInt32) = cC) (hncA : (cA.toUInt32.toUInt16.toUInt32.toInt32) = cA) (hncB : (cB.toUInt32.toUInt16.toUInt32.toInt32) = cB) (hncC : (cC.toUInt32.toUInt16.toUInt32.toInt32) = cC) :
    MetFree l (⟨"com/example/disbursa/disbursa/rails/OutcomeSettledPinLaw", "str", "(IIII)Ljava/lang/String;"⟩ : MethodName) (head1 (Jvm.Cond.code (⟨"com/example/disbursa/disbursa/rails/OutcomeSettledPinLaw", "str", "(IIII)Ljava/lang/String;"⟩ : MethodName) method_2_code 8 (some (.object "java/lang/String")) :: ws) ({ frames := 4, cells := 6, slots := 12, locals := 66 } : Room)) (fun a U => a = #[(.int p1), (.int p2), (.int p3), (.int p4)] ∧ Z.Warmed39 U.vm ∧ U.heap = h0 ∧ CHv Z consts_1 U.vm h0) (fun _ _ _ _ _ => True) (fun _ U o U' => ∃ v L, o = .returned v ∧ Q_str h0 n0 v U'.heap L ∧ CHr Z consts_1 U.vm U.heap U'.vm U'.heap ∧ ReturnedEndW U o U' L ({ frames := 4, cells := 6, slots := 12, locals := 66 } : Room).cells ({ frames := 4, cells := 6, slots := 12, locals := 66 } : Room).slots) := by
  refine MetFree.of_bodySF (plainFor_of_name pn_1) hisR ?_
  intro p e s m args below meth c s₁ Bd hml0 hP hK
  obtain ⟨rfl, hZ, hh, H0c⟩ := hP
  have hx := Bd.exec
  have hby := Bd.bytes
  have hml : c.maxLocals = 8 := hml0
  have hown : s.vm.findClass "com/example/disbursa/disbursa/rails/OutcomeSettledPinLaw" = some m.cls := findClass_of_methodNamed Bd.named
  have hnm := (name_of_methodNamed Bd.named Bd.method).1
  have X0 : Stand p l e ({ frames := 4, cells := 6, slots := 12, locals := 66 } : Room) (s.setVm s.vm) m #[(.int p1), (.int p2), (.int p3), (.int p4)] below meth c s₁ [] 0 0 := Stand.of_body Bd
  have e0 : s₁.heap = h0 := by rw [← hh, Bd.state]; rfl
  have N0 := Fr.nil n0
  have pre0 : ∀ t, Steps p.tables e below (s₁.setTop (mkF m 0 #[.val (.int p1), .val (.int p2), .val (.int p3), .val (.int p4), .unset, .unset, .unset, .unset] [])) t → Steps p.tables e below (s₁.setTop (entryFrame m #[(.int p1), (.int p2), (.int p3), (.int p4)] 8)) t := fun t k => castTop (ef_1_IIII m p1 p2 p3 p4) k
  have hS0 : s.Since s.vm 0 := (State.WarmedH.refl s).since 0
  have hk0 : 0 ≤ h0.size := Nat.zero_le _
  have C0c : CHr Z consts_1 s.vm h0 s.vm h0 := CHr.refl H0c
  obtain ⟨T1, h1, X1, e1, E1, A1, D1, -, st1⟩ := newO X0 hx hZ hown (hwi hw 4 rfl) (hwi hw 5 rfl) (hwi hw 6 rfl) e0 (g := (mkF m 94 #[.val (.int p1), .val (.int p2), .val (.int p3), .val (.int p4), .val (.int 3), .val (.int cA), .val (.int cB), .val (.int cC)] [])) rfl (hb hby d1_94) (by decide) (by decide)
  obtain ⟨b1, g1⟩ : ∃ z, z = h0.size := ⟨_, rfl⟩
  rw [← g1] at A1 D1 st1
  have bn_b1 : h0.size ≤ b1 := Nat.le_of_eq g1.symm
  have sfb1 : Safe Z consts_1 s.vm h0 b1 := Safe.new (Nat.le_of_eq g1.symm)
  have R2 := CHr.ext E1 H0c
  have sf_b1_2 := Safe.ext E1 H0c sfb1
  have CR2 := C0c.trans R2
  have sz3 : h0.size ≤ h1.size := E1.1
  have Z3 : n0 ≤ h1.size := Nat.le_trans Z0 sz3
  have hk3 := Nat.le_trans hk0 sz3
  have O3 := O0.ext E1
  have K3 : Keep h0 h1 [] := (Keep.refl h0 []).ext E1
  have F1_value : Fld Z h1 b1 "java/lang/String" "value" "[B" .null := D1 (Or.inr (hwi hw 20 rfl)) (ty := (.array .byte)) (by decide)
  have F1_coder : Fld Z h1 b1 "java/lang/String" "coder" "B" (.int 0) := D1 (Or.inr (hwi hw 21 rfl)) (ty := .byte) (by decide)
  obtain ⟨T4, h4, k4, X4, e4, E4, A4, st4⟩ := newP X1 hx hZ (hwi hw 7 rfl) e1 (g := (mkF m 99 #[.val (.int p1), .val (.int p2), .val (.int p3), .val (.int p4), .val (.int 3), .val (.int cA), .val (.int cB), .val (.int cC)] [(.int 3), (.ref b1), (.ref b1)])) rfl (hb hby d1_99) rfl (by decide) (cap := 3) (by decide) (by decide) (by decide) (by decide)
  obtain ⟨b4, g4⟩ : ∃ z, z = h1.size := ⟨_, rfl⟩
  rw [← g4] at A4 st4
  have bn_b4 : h0.size ≤ b4 := Nat.le_trans K3.1 (Nat.le_of_eq g4.symm)
  have R5 := CHr.ext E4 R2.1
  have sf_b1_5 := Safe.ext E4 R2.1 sf_b1_2
  have CR5 := CR2.trans R5
  have sz6 : h1.size ≤ h4.size := E4.1
  have Z6 : n0 ≤ h4.size := Nat.le_trans Z3 sz6
  have hk6 := Nat.le_trans hk3 sz6
  have O6 := O3.ext E4
  have K6 : Keep h0 h4 [] := K3.ext E4
  have V4 : Arv Z h4 b4 k4 .char (3 : Int32) [(.int 0), (.int 0), (.int 0)] (.int 0) := (Arv.new A4 (by decide)).pad (pad_rep [] (.int 0) 3)
  obtain ⟨cl7, Ar7, q7, S7, M7, H7, G7⟩ := id V4
  have hin7 : ¬ ((0 : Int32) < 0 ∨ cl7.slots.size ≤ ((0 : Int32)).toNatClampNeg) := inb_of S7 ⟨by decide, by decide⟩
  obtain ⟨T8, h8, X8, e8, W8, st8⟩ := stC X4 hx hZ e4 Ar7 (j := (0 : Int32)) hin7 (g := (mkF m 105 #[.val (.int p1), .val (.int p2), .val (.int p3), .val (.int p4), .val (.int 3), .val (.int cA), .val (.int cB), .val (.int cC)] [(.int cA), (.int 0), (.ref b4), (.ref b4), (.ref b1), (.ref b1)])) rfl rfl (hb hby d1_105)
  have N8 := Fr.snoc X8 N0 (Nat.le_trans Z0 bn_b4)
  have V8 : Arv Z h8 b4 k4 .char (3 : Int32) [(.int (cA.toUInt32.toUInt16.toUInt32.toInt32)), (.int 0), (.int 0)] (.int 0) := Arv.set Ar7 q7 S7 M7 H7 G7 (fits_nar_char _) W8 0 rfl (Nat.le_of_ble_eq_true rfl)
  rw [hncA] at V8
  have R9 := CHr.wr W8 (Safe.arv hZ.alike V4 (by decide)) R5.1
  have sf_b1_9 := Safe.wr W8 (Safe.arv hZ.alike V4 (by decide)) R5.1 sf_b1_5
  have CR9 := CR5.trans R9
  have sz10 : h4.size ≤ h8.size := Nat.le_of_eq W8.size.symm
  have Z10 : n0 ≤ h8.size := Nat.le_trans Z6 sz10
  have hk10 := Nat.le_trans hk6 sz10
  have O10 := O6.wr W8 (Nat.le_trans Z0 bn_b4)
  have K10 : Keep h0 h8 [] := K6.wr W8 (Or.inr bn_b4)
  obtain ⟨cl11, Ar11, q11, S11, M11, H11, G11⟩ := id V8
  have hin11 : ¬ ((1 : Int32) < 0 ∨ cl11.slots.size ≤ ((1 : Int32)).toNatClampNeg) := inb_of S11 ⟨by decide, by decide⟩
  obtain ⟨T12, h12, X12, e12, W12, st12⟩ := stC X8 hx hZ e8 Ar11 (j := (1 : Int32)) hin11 (g := (mkF m 110 #[.val (.int p1), .val (.int p2), .val (.int p3), .val (.int p4), .val (.int 3), .val (.int cA), .val (.int cB), .val (.int cC)] [(.int cB), (.int 1), (.ref b4), (.ref b4), (.ref b1), (.ref b1)])) rfl rfl (hb hby d1_110)
  have N12 := Fr.snoc X12 N8 (Nat.le_trans Z0 bn_b4)
  have V12 : Arv Z h12 b4 k4 .char (3 : Int32) [(.int cA), (.int (cB.toUInt32.toUInt16.toUInt32.toInt32)), (.int 0)] (.int 0) := Arv.set Ar11 q11 S11 M11 H11 G11 (fits_nar_char _) W12 1 rfl (Nat.le_of_ble_eq_true rfl)
  rw [hncB] at V12
  have R13 := CHr.wr W12 (Safe.arv hZ.alike V8 (by decide)) R9.1
  have sf_b1_13 := Safe.wr W12 (Safe.arv hZ.alike V8 (by decide)) R9.1 sf_b1_9
  have CR13 := CR9.trans R13
  have sz14 : h8.size ≤ h12.size := Nat.le_of_eq W12.size.symm
  have Z14 : n0 ≤ h12.size := Nat.le_trans Z10 sz14
  have hk14 := Nat.le_trans hk10 sz14
  have O14 := O10.wr W12 (Nat.le_trans Z0 bn_b4)
  have K14 : Keep h0 h12 [] := K10.wr W12 (Or.inr bn_b4)
  obtain ⟨cl15, Ar15, q15, S15, M15, H15, G15⟩ := id V12
  have hin15 : ¬ ((2 : Int32) < 0 ∨ cl15.slots.size ≤ ((2 : Int32)).toNatClampNeg) := inb_of S15 ⟨by decide, by decide⟩
  obtain ⟨T16, h16, X16, e16, W16, st16⟩ := stC X12 hx hZ e12 Ar15 (j := (2 : Int32)) hin15 (g := (mkF m 115 #[.val (.int p1), .val (.int p2), .val (.int p3), .val (.int p4), .val (.int 3), .val (.int cA), .val (.int cB), .val (.int cC)] [(.int cC), (.int 2), (.ref b4), (.ref b4), (.ref b1), (.ref b1)])) rfl rfl (hb hby d1_115)
  have N16 := Fr.snoc X16 N12 (Nat.le_trans Z0 bn_b4)
  have V16 : Arv Z h16 b4 k4 .char (3 : Int32) [(.int cA), (.int cB), (.int (cC.toUInt32.toUInt16.toUInt32.toInt32))] (.int 0) := Arv.set Ar15 q15 S15 M15 H15 G15 (fits_nar_char _) W16 2 rfl (Nat.le_of_ble_eq_true rfl)
  rw [hncC] at V16
  have R17 := CHr.wr W16 (Safe.arv hZ.alike V12 (by decide)) R13.1
  have sf_b1_17 := Safe.wr W16 (Safe.arv hZ.alike V12 (by decide)) R13.1 sf_b1_13
  have CR17 := CR13.trans R17
  have sz18 : h12.size ≤ h16.size := Nat.le_of_eq W16.size.symm
  have Z18 : n0 ≤ h16.size := Nat.le_trans Z14 sz18
  have hk18 := Nat.le_trans hk14 sz18
  have O18 := O14.wr W16 (Nat.le_trans Z0 bn_b4)
  have K18 : Keep h0 h16 [] := K14.wr W16 (Or.inr bn_b4)
  have fc20 := ((((A1.ext E4).wr W8).wr W12).wr W16)
  have fc21 := ((((F1_coder.ext E4).other W8 (Or.inl (neN (by have := ltN A1.lt; have := ltN V4.lt; omega)))).other W12 (Or.inl (neN (by have := ltN A1.lt; have := ltN V4.lt; omega)))).other W16 (Or.inl (neN (by have := ltN A1.lt; have := ltN V4.lt; omega))))
  have fc22 := ((((F1_value.ext E4).other W8 (Or.inl (neN (by have := ltN A1.lt; have := ltN V4.lt; omega)))).other W12 (Or.inl (neN (by have := ltN A1.lt; have := ltN V4.lt; omega)))).other W16 (Or.inl (neN (by have := ltN A1.lt; have := ltN V4.lt; omega))))
  obtain ⟨_, _, ⟨T19, L19, k19, n19⟩, -, X19, ⟨Lc19, hQ19, l19, y19, z19⟩, st19⟩ := X16.specialBack hx (y := (⟨"java/lang/String", "<init>", "([C)V"⟩ : MethodName)) rfl hown (mvT hZ (hwi hw 8 rfl)) (mvT hZ (hwi hw 9 rfl)) (mvT hZ (hwi hw 10 rfl)) (by decide) (backOf (W := 1) (rm_new1_3 l Z a0 hw [] b1 b4 w_COMPACT_STRINGS k4 cA cB cC (.int 0) .null h16 n0 Z18 S_COMPACT_STRINGS hcs V16 hbcA hbcB hbcC O18 fc20 fc21 (Nat.le_trans Z0 bn_b1) fc22) hZ (hwi hw 10 rfl) (hwi hw 6 rfl) (by decide) (by decide)) (g := (mkF m 116 #[.val (.int p1), .val (.int p2), .val (.int p3), .val (.int p4), .val (.int 3), .val (.int cA), .val (.int cB), .val (.int cC)] [(.ref b4), (.ref b1), (.ref b1)])) rfl (by rw [hml]; rfl) (Steps.refl _) (a := b1) (argsL := [(.ref b4)]) (rest := [(.ref b1)]) (lenOf pd_C_V_325 rfl) rfl (by show 2 * 0 + _ ≤ _; exact Nat.le_of_eq rfl) (hb hby d1_116) (fun _ _ => ⟨rfl, e16, (by decide : 2 + 1 ≤ _), (by decide : 7 + 3 ≤ _)⟩)
  dsimp only [Pt.U, Pt.locs, Pt.cells, Pt.slots] at X19 l19 y19 z19 st19 hQ19
  subst l19 y19 z19
  obtain ⟨t_19, kt_19, rfl, N19q, Kc19, g19_0, g19_1, g19_2, g19_3, g19_4⟩ := hQ19
  have N19 := Fr.app N16 N19q
  have sfb19_3 : Safe Z consts_1 s.vm h16 t_19 := Safe.new g19_3
  have R23 := CHr.keep Kc19 (sfS sf_b1_17 sf0) R17.1
  have sf_b1_23 := Safe.keep Kc19 (sfS sf_b1_17 sf0) R17.1 sf_b1_17
  have sf_t_19_23 := Safe.keep Kc19 (sfS sf_b1_17 sf0) R17.1 sfb19_3
  have CR23 := CR17.trans R23
  have sz24 : h16.size ≤ T19.heap.size := Kc19.1
  have Z24 : n0 ≤ T19.heap.size := Nat.le_trans Z18 sz24
  have hk24 := Nat.le_trans hk18 sz24
  have O24 := O18.keep Kc19 (allS (Nat.le_trans Z0 bn_b1) all0)
  have K24 : Keep h0 T19.heap [] := K18.trans Kc19 (allS (Or.inr bn_b1) (all0))
  have bn_t_19 : h0.size ≤ t_19 := Nat.le_trans K18.1 g19_3
  have CRe := CR23.trans (CHv.at X19 hZ hEL R23.1)
  obtain ⟨fs, hr, hrun, hended, hRE⟩ := X19.leaveW hS0 hk24 (v := some (.ref b1)) (fun h => by rw [Bd.returns] at h; cases h)
  refine ⟨_, _, pre0 _ ?_, hrun, hended, _, _, rfl, ?_, ?_, ⟨hRE.1, hRE.2.1, hRE.2.2.1, hRE.2.2.2.mono (by decide) (by decide)⟩⟩
  · show St p e below s₁ (mkF m 0 #[.val (.int p1), .val (.int p2), .val (.int p3), .val (.int p4), .unset, .unset, .unset, .unset] []) _
    refine XS.iloadN X0.here hx rfl (hb hby d1_0) rfl ?_
    show St p e below s₁ (mkF m 1 #[.val (.int p1), .val (.int p2), .val (.int p3), .val (.int p4), .unset, .unset, .unset, .unset] [(.int p1)]) _
    refine XS.iconst X0.here hx rfl (hb hby d1_1) ?_
    show St p e below s₁ (mkF m 2 #[.val (.int p1), .val (.int p2), .val (.int p3), .val (.int p4), .unset, .unset, .unset, .unset] [(.int 3), (.int p1)]) _
    refine XS.iand X0.here hx rfl (hb hby d1_2) rfl ?_
    show St p e below s₁ (mkF m 3 #[.val (.int p1), .val (.int p2), .val (.int p3), .val (.int p4), .unset, .unset, .unset, .unset] [(.int (p1 &&& (3 : Int32)))]) _
    rw [hk]
    show St p e below s₁ (mkF m 3 #[.val (.int p1), .val (.int p2), .val (.int p3), .val (.int p4), .unset, .unset, .unset, .unset] [(.int 3)]) _
    refine XS.istore X0.here hx rfl (hb hby d1_3) rfl (l' := #[.val (.int p1), .val (.int p2), .val (.int p3), .val (.int p4), .val (.int 3), .unset, .unset, .unset]) rfl ?_
    show St p e below s₁ (mkF m 5 #[.val (.int p1), .val (.int p2), .val (.int p3), .val (.int p4), .val (.int 3), .unset, .unset, .unset] []) _
    refine XS.iloadN X0.here hx rfl (hb hby d1_5) rfl ?_
    show St p e below s₁ (mkF m 6 #[.val (.int p1), .val (.int p2), .val (.int p3), .val (.int p4), .val (.int 3), .unset, .unset, .unset] [(.int p2)]) _
    refine XS.sipush X0.here hx rfl (hb hby d1_6) ?_
    show St p e below s₁ (mkF m 9 #[.val (.int p1), .val (.int p2), .val (.int p3), .val (.int p4), .val (.int 3), .unset, .unset, .unset] [(.int 255), (.int p2)]) _
    refine XS.iand X0.here hx rfl (hb hby d1_9) rfl ?_
    show St p e below s₁ (mkF m 10 #[.val (.int p1), .val (.int p2), .val (.int p3), .val (.int p4), .val (.int 3), .unset, .unset, .unset] [(.int (p2 &&& (255 : Int32)))]) _
    refine XS.i2c X0.here hx rfl (hb hby d1_10) rfl ?_
    show St p e below s₁ (mkF m 11 #[.val (.int p1), .val (.int p2), .val (.int p3), .val (.int p4), .val (.int 3), .unset, .unset, .unset] [(.int ((p2 &&& (255 : Int32)).toUInt32.toUInt16.toUInt32.toInt32))]) _
    rw [hcA]
    show St p e below s₁ (mkF m 11 #[.val (.int p1), .val (.int p2), .val (.int p3), .val (.int p4), .val (.int 3), .unset, .unset, .unset] [(.int cA)]) _
    refine XS.istore X0.here hx rfl (hb hby d1_11) rfl (l' := #[.val (.int p1), .val (.int p2), .val (.int p3), .val (.int p4), .val (.int 3), .val (.int cA), .unset, .unset]) rfl ?_
    show St p e below s₁ (mkF m 13 #[.val (.int p1), .val (.int p2), .val (.int p3), .val (.int p4), .val (.int 3), .val (.int cA), .unset, .unset] []) _
    refine XS.iloadN X0.here hx rfl (hb hby d1_13) rfl ?_
    show St p e below s₁ (mkF m 14 #[.val (.int p1), .val (.int p2), .val (.int p3), .val (.int p4), .val (.int 3), .val (.int cA), .unset, .unset] [(.int p3)]) _
    refine XS.sipush X0.here hx rfl (hb hby d1_14) ?_
    show St p e below s₁ (mkF m 17 #[.val (.int p1), .val (.int p2), .val (.int p3), .val (.int p4), .val (.int 3), .val (.int cA), .unset, .unset] [(.int 255), (.int p3)]) _
    refine XS.iand X0.here hx rfl (hb hby d1_17) rfl ?_
    show St p e below s₁ (mkF m 18 #[.val (.int p1), .val (.int p2), .val (.int p3), .val (.int p4), .val (.int 3), .val (.int cA), .unset, .unset] [(.int (p3 &&& (255 : Int32)))]) _
    refine XS.i2c X0.here hx rfl (hb hby d1_18) rfl ?_
    show St p e below s₁ (mkF m 19 #[.val (.int p1), .val (.int p2), .val (.int p3), .val (.int p4), .val (.int 3), .val (.int cA), .unset, .unset] [(.int ((p3 &&& (255 : Int32)).toUInt32.toUInt16.toUInt32.toInt32))]) _
    rw [hcB]
    show St p e below s₁ (mkF m 19 #[.val (.int p1), .val (.int p2), .val (.int p3), .val (.int p4), .val (.int 3), .val (.int cA), .unset, .unset] [(.int cB)]) _
    refine XS.istore X0.here hx rfl (hb hby d1_19) rfl (l' := #[.val (.int p1), .val (.int p2), .val (.int p3), .val (.int p4), .val (.int 3), .val (.int cA), .val (.int cB), .unset]) rfl ?_
    show St p e below s₁ (mkF m 21 #[.val (.int p1), .val (.int p2), .val (.int p3), .val (.int p4), .val (.int 3), .val (.int cA), .val (.int cB), .unset] []) _
    refine XS.iloadN X0.here hx rfl (hb hby d1_21) rfl ?_
    show St p e below s₁ (mkF m 22 #[.val (.int p1), .val (.int p2), .val (.int p3), .val (.int p4), .val (.int 3), .val (.int cA), .val (.int cB), .unset] [(.int p4)]) _
    refine XS.sipush X0.here hx rfl (hb hby d1_22) ?_
    show St p e below s₁ (mkF m 25 #[.val (.int p1), .val (.int p2), .val (.int p3), .val (.int p4), .val (.int 3), .val (.int cA), .val (.int cB), .unset] [(.int 255), (.int p4)]) _
    refine XS.iand X0.here hx rfl (hb hby d1_25) rfl ?_
    show St p e below s₁ (mkF m 26 #[.val (.int p1), .val (.int p2), .val (.int p3), .val (.int p4), .val (.int 3), .val (.int cA), .val (.int cB), .unset] [(.int (p4 &&& (255 : Int32)))]) _
    refine XS.i2c X0.here hx rfl (hb hby d1_26) rfl ?_
    show St p e below s₁ (mkF m 27 #[.val (.int p1), .val (.int p2), .val (.int p3), .val (.int p4), .val (.int 3), .val (.int cA), .val (.int cB), .unset] [(.int ((p4 &&& (255 : Int32)).toUInt32.toUInt16.toUInt32.toInt32))]) _
    rw [hcC]
    show St p e below s₁ (mkF m 27 #[.val (.int p1), .val (.int p2), .val (.int p3), .val (.int p4), .val (.int 3), .val (.int cA), .val (.int cB), .unset] [(.int cC)]) _
    refine XS.istore X0.here hx rfl (hb hby d1_27) rfl (l' := #[.val (.int p1), .val (.int p2), .val (.int p3), .val (.int p4), .val (.int 3), .val (.int cA), .val (.int cB), .val (.int cC)]) rfl ?_
    show St p e below s₁ (mkF m 29 #[.val (.int p1), .val (.int p2), .val (.int p3), .val (.int p4), .val (.int 3), .val (.int cA), .val (.int cB), .val (.int cC)] []) _
    refine XS.iload X0.here hx rfl (hb hby d1_29) rfl ?_
    show St p e below s₁ (mkF m 31 #[.val (.int p1), .val (.int p2), .val (.int p3), .val (.int p4), .val (.int 3), .val (.int cA), .val (.int cB), .val (.int cC)] [(.int 3)]) _
    refine XS.ifYes X0.here hx rfl (pc0 := 31) (pc' := 45) rfl (hb hby d1_31) rfl ((if0 _ _).trans (feq (by decide : ¬ ((3 : Int32) = (0 : Int32)))).2) (by decide) (by decide) ?_
    show St p e below s₁ (mkF m 45 #[.val (.int p1), .val (.int p2), .val (.int p3), .val (.int p4), .val (.int 3), .val (.int cA), .val (.int cB), .val (.int cC)] []) _
    refine XS.iload X0.here hx rfl (hb hby d1_45) rfl ?_
    show St p e below s₁ (mkF m 47 #[.val (.int p1), .val (.int p2), .val (.int p3), .val (.int p4), .val (.int 3), .val (.int cA), .val (.int cB), .val (.int cC)] [(.int 3)]) _
    refine XS.iconst X0.here hx rfl (hb hby d1_47) ?_
    show St p e below s₁ (mkF m 48 #[.val (.int p1), .val (.int p2), .val (.int p3), .val (.int p4), .val (.int 3), .val (.int cA), .val (.int cB), .val (.int cC)] [(.int 1), (.int 3)]) _
    refine XS.icmpYes X0.here hx rfl (pc0 := 48) (pc' := 67) rfl (hb hby d1_48) rfl (feq (by decide : ¬ ((3 : Int32) = (1 : Int32)))).2 (by decide) (by decide) ?_
    show St p e below s₁ (mkF m 67 #[.val (.int p1), .val (.int p2), .val (.int p3), .val (.int p4), .val (.int 3), .val (.int cA), .val (.int cB), .val (.int cC)] []) _
    refine XS.iload X0.here hx rfl (hb hby d1_67) rfl ?_
    show St p e below s₁ (mkF m 69 #[.val (.int p1), .val (.int p2), .val (.int p3), .val (.int p4), .val (.int 3), .val (.int cA), .val (.int cB), .val (.int cC)] [(.int 3)]) _
    refine XS.iconst X0.here hx rfl (hb hby d1_69) ?_
    show St p e below s₁ (mkF m 70 #[.val (.int p1), .val (.int p2), .val (.int p3), .val (.int p4), .val (.int 3), .val (.int cA), .val (.int cB), .val (.int cC)] [(.int 2), (.int 3)]) _
    refine XS.icmpYes X0.here hx rfl (pc0 := 70) (pc' := 94) rfl (hb hby d1_70) rfl (feq (by decide : ¬ ((3 : Int32) = (2 : Int32)))).2 (by decide) (by decide) ?_
    show St p e below s₁ (mkF m 94 #[.val (.int p1), .val (.int p2), .val (.int p3), .val (.int p4), .val (.int 3), .val (.int cA), .val (.int cB), .val (.int cC)] []) _
    refine st1 _ ?_
    show St p e below T1 (mkF m 97 #[.val (.int p1), .val (.int p2), .val (.int p3), .val (.int p4), .val (.int 3), .val (.int cA), .val (.int cB), .val (.int cC)] [(.ref b1)]) _
    refine XS.dup X1.here hx rfl (hb hby d1_97) rfl rfl ?_
    show St p e below T1 (mkF m 98 #[.val (.int p1), .val (.int p2), .val (.int p3), .val (.int p4), .val (.int 3), .val (.int cA), .val (.int cB), .val (.int cC)] [(.ref b1), (.ref b1)]) _
    refine XS.iconst X1.here hx rfl (hb hby d1_98) ?_
    show St p e below T1 (mkF m 99 #[.val (.int p1), .val (.int p2), .val (.int p3), .val (.int p4), .val (.int 3), .val (.int cA), .val (.int cB), .val (.int cC)] [(.int 3), (.ref b1), (.ref b1)]) _
    refine st4 _ ?_
    show St p e below T4 (mkF m 101 #[.val (.int p1), .val (.int p2), .val (.int p3), .val (.int p4), .val (.int 3), .val (.int cA), .val (.int cB), .val (.int cC)] [(.ref b4), (.ref b1), (.ref b1)]) _
    refine XS.dup X4.here hx rfl (hb hby d1_101) rfl rfl ?_
    show St p e below T4 (mkF m 102 #[.val (.int p1), .val (.int p2), .val (.int p3), .val (.int p4), .val (.int 3), .val (.int cA), .val (.int cB), .val (.int cC)] [(.ref b4), (.ref b4), (.ref b1), (.ref b1)]) _
    refine XS.iconst X4.here hx rfl (hb hby d1_102) ?_
    show St p e below T4 (mkF m 103 #[.val (.int p1), .val (.int p2), .val (.int p3), .val (.int p4), .val (.int 3), .val (.int cA), .val (.int cB), .val (.int cC)] [(.int 0), (.ref b4), (.ref b4), (.ref b1), (.ref b1)]) _
    refine XS.iload X4.here hx rfl (hb hby d1_103) rfl ?_
    show St p e below T4 (mkF m 105 #[.val (.int p1), .val (.int p2), .val (.int p3), .val (.int p4), .val (.int 3), .val (.int cA), .val (.int cB), .val (.int cC)] [(.int cA), (.int 0), (.ref b4), (.ref b4), (.ref b1), (.ref b1)]) _
    refine st8 _ ?_
    show St p e below T8 (mkF m 106 #[.val (.int p1), .val (.int p2), .val (.int p3), .val (.int p4), .val (.int 3), .val (.int cA), .val (.int cB), .val (.int cC)] [(.ref b4), (.ref b1), (.ref b1)]) _
    refine XS.dup X8.here hx rfl (hb hby d1_106) rfl rfl ?_
    show St p e below T8 (mkF m 107 #[.val (.int p1), .val (.int p2), .val (.int p3), .val (.int p4), .val (.int 3), .val (.int cA), .val (.int cB), .val (.int cC)] [(.ref b4), (.ref b4), (.ref b1), (.ref b1)]) _
    refine XS.iconst X8.here hx rfl (hb hby d1_107) ?_
    show St p e below T8 (mkF m 108 #[.val (.int p1), .val (.int p2), .val (.int p3), .val (.int p4), .val (.int 3), .val (.int cA), .val (.int cB), .val (.int cC)] [(.int 1), (.ref b4), (.ref b4), (.ref b1), (.ref b1)]) _
    refine XS.iload X8.here hx rfl (hb hby d1_108) rfl ?_
    show St p e below T8 (mkF m 110 #[.val (.int p1), .val (.int p2), .val (.int p3), .val (.int p4), .val (.int 3), .val (.int cA), .val (.int cB), .val (.int cC)] [(.int cB), (.int 1), (.ref b4), (.ref b4), (.ref b1), (.ref b1)]) _
    refine st12 _ ?_
    show St p e below T12 (mkF m 111 #[.val (.int p1), .val (.int p2), .val (.int p3), .val (.int p4), .val (.int 3), .val (.int cA), .val (.int cB), .val (.int cC)] [(.ref b4), (.ref b1), (.ref b1)]) _
    refine XS.dup X12.here hx rfl (hb hby d1_111) rfl rfl ?_
    show St p e below T12 (mkF m 112 #[.val (.int p1), .val (.int p2), .val (.int p3), .val (.int p4), .val (.int 3), .val (.int cA), .val (.int cB), .val (.int cC)] [(.ref b4), (.ref b4), (.ref b1), (.ref b1)]) _
    refine XS.iconst X12.here hx rfl (hb hby d1_112) ?_
    show St p e below T12 (mkF m 113 #[.val (.int p1), .val (.int p2), .val (.int p3), .val (.int p4), .val (.int 3), .val (.int cA), .val (.int cB), .val (.int cC)] [(.int 2), (.ref b4), (.ref b4), (.ref b1), (.ref b1)]) _
    refine XS.iload X12.here hx rfl (hb hby d1_113) rfl ?_
    show St p e below T12 (mkF m 115 #[.val (.int p1), .val (.int p2), .val (.int p3), .val (.int p4), .val (.int 3), .val (.int cA), .val (.int cB), .val (.int cC)] [(.int cC), (.int 2), (.ref b4), (.ref b4), (.ref b1), (.ref b1)]) _
    refine st16 _ ?_
    show St p e below T16 (mkF m 116 #[.val (.int p1), .val (.int p2), .val (.int p3), .val (.int p4), .val (.int 3), .val (.int cA), .val (.int cB), .val (.int cC)] [(.ref b4), (.ref b1), (.ref b1)]) _
    refine st19.trans ?_
    show St p e below T19 (mkF m 119 #[.val (.int p1), .val (.int p2), .val (.int p3), .val (.int p4), .val (.int 3), .val (.int cA), .val (.int cB), .val (.int cC)] [(.ref b1)]) _
    jvm_step X19.here [X19.here.top, hx, (hb hby d1_119), X19.method', Bd.returns, Value.isRef, FieldType.isReference]
    first | (intro acts; rw [hr _ acts rfl rfl rfl]) | rw [hr _ _ rfl rfl rfl]
    exact Steps.refl _
  · show Q_str h0 n0 _ T19.heap _
    exact ⟨b1, rfl, N19, K24, bn_b1⟩
  · show CHr Z consts_1 s.vm s.heap T19.vm T19.heap
    rw [hh]
    exact CRe
theorem rm_str_all (l : Launch) (Z : State) (a0 : Array Value) (hw : ∀ d ∈ tables_1, d.before a0 Z = true) (hEL : EW Z a0 consts_1) (ws : List Jvm.Cond) (p1 : Int32) (p2 : Int32) (p3 : Int32) (p4 : Int32) (w_COMPACT_STRINGS : Int32) (h0 : Heap) (n0 : Nat) (Z0 : n0 ≤ h0.size) (O0 : Old Z n0 h0) (S_COMPACT_STRINGS : Sta Z Z.heap "java/lang/String" "COMPACT_STRINGS" "Z" (.int w_COMPACT_STRINGS)) (hcs : ¬ (w_COMPACT_STRINGS = (0 : Int32))) :
    MetFree l (⟨"com/example/disbursa/disbursa/rails/OutcomeSettledPinLaw", "str", "(IIII)Ljava/lang/String;"⟩ : MethodName) (head1 (Jvm.Cond.code (⟨"com/example/disbursa/disbursa/rails/OutcomeSettledPinLaw", "str", "(IIII)Ljava/lang/String;"⟩ : MethodName) method_2_code 8 (some (.object "java/lang/String")) :: ws) ({ frames := 4, cells := 6, slots := 12, locals := 66 } : Room)) (fun a U => a = #[(.int p1), (.int p2), (.int p3), (.int p4)] ∧ Z.Warmed39 U.vm ∧ U.heap = h0 ∧ CHv Z consts_1 U.vm h0) (fun _ _ _ _ _ => True) (fun _ U o U' => ∃ v L, o = .returned v ∧ Q_str h0 n0 v U'.heap L ∧ CHr Z consts_1 U.vm U.heap U'.vm U'.heap ∧ ReturnedEndW U o U' L ({ frames := 4, cells := 6, slots := 12, locals := 66 } : Room).cells ({ frames := 4, cells := 6, slots := 12, locals := 66 } : Room).slots) := by
  rcases own_and3 p1 with hk | hk | hk | hk
  · exact rm_str_0 l Z a0 hw hEL ws p1 p2 p3 p4 ((p2 &&& (255 : Int32)).toUInt32.toUInt16.toUInt32.toInt32) ((p3 &&& (255 : Int32)).toUInt32.toUInt16.toUInt32.toInt32) ((p4 &&& (255 : Int32)).toUInt32.toUInt16.toUInt32.toInt32) h0 n0 Z0 O0 hk rfl rfl rfl
  · exact rm_str_1 l Z a0 hw hEL ws p1 p2 p3 p4 ((p2 &&& (255 : Int32)).toUInt32.toUInt16.toUInt32.toInt32) ((p3 &&& (255 : Int32)).toUInt32.toUInt16.toUInt32.toInt32) ((p4 &&& (255 : Int32)).toUInt32.toUInt16.toUInt32.toInt32) w_COMPACT_STRINGS h0 n0 Z0 (own_char p2).2.2 S_COMPACT_STRINGS hcs O0 hk rfl rfl rfl (own_char p2).1
  · exact rm_str_2 l Z a0 hw hEL ws p1 p2 p3 p4 ((p2 &&& (255 : Int32)).toUInt32.toUInt16.toUInt32.toInt32) ((p3 &&& (255 : Int32)).toUInt32.toUInt16.toUInt32.toInt32) ((p4 &&& (255 : Int32)).toUInt32.toUInt16.toUInt32.toInt32) w_COMPACT_STRINGS h0 n0 Z0 (own_char p2).2.2 (own_char p3).2.2 S_COMPACT_STRINGS hcs O0 hk rfl rfl rfl (own_char p2).1 (own_char p3).1
  · exact rm_str_3 l Z a0 hw hEL ws p1 p2 p3 p4 ((p2 &&& (255 : Int32)).toUInt32.toUInt16.toUInt32.toInt32) ((p3 &&& (255 : Int32)).toUInt32.toUInt16.toUInt32.toInt32) ((p4 &&& (255 : Int32)).toUInt32.toUInt16.toUInt32.toInt32) w_COMPACT_STRINGS h0 n0 Z0 (own_char p2).2.2 (own_char p3).2.2 (own_char p4).2.2 S_COMPACT_STRINGS hcs O0 hk rfl rfl rfl (own_char p2).1 (own_char p3).1 (own_char p4).1
theorem d9_0 : decode jdk_30_method_1_code 0 = .ok (.aload_n 0, 1) := by decide +kernel
theorem d9_1 : decode jdk_30_method_1_code 1 = .ok (.invokespecial 1, 3) := by decide +kernel
theorem d9_4 : decode jdk_30_method_1_code 4 = .ok (.return_, 1) := by decide +kernel
theorem pn_9 : plainName "java/lang/Record" = true := by first | (simp [plainName, overriddenIn]; done) | decide +kernel
theorem ef_9_R (m : MethodId) (x0 : Addr) : entryFrame m #[(.ref x0)] 1 = mkF m 0 #[.val (.ref x0)] [] := by first | (simp [entryFrame, mkF, argsToLocals, Value.category]; done) | rfl
def Q_recinit (Z : State) (a1 : Addr) (h0 : Heap) (n0 : Nat) (v : Option Value) (h : Heap) (L : List Loc) : Prop := v = none ∧ Fr n0 L ∧ h = h0
set_option maxRecDepth 65536 in
set_option maxHeartbeats 40000000 in
theorem rm_recinit (l : Launch) (Z : State) (a0 : Array Value) (hw : ∀ d ∈ tables_1, d.before a0 Z = true) (ws : List Jvm.Cond) (a1 : Addr) (h0 : Heap) (n0 : Nat) (Z0 : n0 ≤ h0.size) :
    MetFree l (⟨"java/lang/Record", "<init>", "()V"⟩ : MethodName) (head1 (Jvm.Cond.code (⟨"java/lang/Record", "<init>", "()V"⟩ : MethodName) jdk_30_method_1_code 1 none :: ws) ({ frames := 1, cells := 0, slots := 0, locals := 12 } : Room)) (fun a U => a = #[(.ref a1)] ∧ Z.Warmed39 U.vm ∧ U.heap = h0) (fun _ _ _ _ _ => True) (fun _ U o U' => ∃ v L, o = .returned v ∧ Q_recinit Z a1 h0 n0 v U'.heap L ∧ FrameEnd U o U' L ({ frames := 1, cells := 0, slots := 0, locals := 12 } : Room).cells ({ frames := 1, cells := 0, slots := 0, locals := 12 } : Room).slots) := by
  refine MetFree.of_bodySF (plainFor_of_name pn_9) hisR ?_
  intro p e s m args below meth c s₁ Bd hml0 hP hK
  obtain ⟨rfl, hZ, hh⟩ := hP
  have hx := Bd.exec
  have hby := Bd.bytes
  have hml : c.maxLocals = 1 := hml0
  have hown : s.vm.findClass "java/lang/Record" = some m.cls := findClass_of_methodNamed Bd.named
  have hnm := (name_of_methodNamed Bd.named Bd.method).1
  have X0 : Stand p l e ({ frames := 1, cells := 0, slots := 0, locals := 12 } : Room) s m #[(.ref a1)] below meth c s₁ [] 0 0 := Stand.of_body Bd
  have e0 : s₁.heap = h0 := by rw [← hh, Bd.state]; rfl
  have N0 := Fr.nil n0
  have pre0 : ∀ t, Steps p.tables e below (s₁.setTop (mkF m 0 #[.val (.ref a1)] [])) t → Steps p.tables e below (s₁.setTop (entryFrame m #[(.ref a1)] 1)) t := fun t k => castTop (ef_9_R m a1) k
  obtain ⟨T1, X1, e1, st1⟩ := initO X0 hx hZ hown (hwi hw 48 rfl) (hwi hw 16 rfl) (hwi hw 17 rfl) e0 (g := (mkF m 1 #[.val (.ref a1)] [(.ref a1)])) rfl (by rw [hml]; rfl) rfl (hb hby d9_1) (by decide) (W := 0) (by show 2 * 0 + _ ≤ _; exact Nat.le_of_eq rfl) (by decide)
  obtain ⟨fs, hr, hrun, hended, hW, hsame⟩ := X1.leave (v := none) (fun _ => rfl)
  refine ⟨_, _, pre0 _ ?_, hrun, hended, _, _, rfl, ?_, ⟨_, rfl⟩, hW, hsame.mono (by decide) (by decide)⟩
  · show St p e below s₁ (mkF m 0 #[.val (.ref a1)] []) _
    refine XS.aloadN X0.here hx rfl (hb hby d9_0) rfl rfl ?_
    show St p e below s₁ (mkF m 1 #[.val (.ref a1)] [(.ref a1)]) _
    refine st1 _ ?_
    show St p e below T1 (mkF m 4 #[.val (.ref a1)] []) _
    exact X1.returnOut hx Bd.returns (hb hby d9_4) hr
  · show Q_recinit Z a1 h0 n0 _ T1.heap _
    rw [e1]
    exact ⟨rfl, N0, rfl⟩
theorem pd_V_167 : parseMethodDescriptor "()V" = some ⟨[], none⟩ := by decide +kernel
theorem d8_0 : decode prog_116_method_1_code 0 = .ok (.aload_n 0, 1) := by decide +kernel
theorem d8_1 : decode prog_116_method_1_code 1 = .ok (.invokespecial 1, 3) := by decide +kernel
theorem d8_4 : decode prog_116_method_1_code 4 = .ok (.aload_n 0, 1) := by decide +kernel
theorem d8_5 : decode prog_116_method_1_code 5 = .ok (.aload_n 1, 1) := by decide +kernel
theorem d8_6 : decode prog_116_method_1_code 6 = .ok (.putfield 7, 3) := by decide +kernel
theorem d8_9 : decode prog_116_method_1_code 9 = .ok (.aload_n 0, 1) := by decide +kernel
theorem d8_10 : decode prog_116_method_1_code 10 = .ok (.aload_n 2, 1) := by decide +kernel
theorem d8_11 : decode prog_116_method_1_code 11 = .ok (.putfield 13, 3) := by decide +kernel
theorem d8_14 : decode prog_116_method_1_code 14 = .ok (.return_, 1) := by decide +kernel
theorem pn_8 : plainName "com/example/disbursa/disbursa/rails/Outcome" = true := by first | (simp [plainName, overriddenIn]; done) | decide +kernel
theorem ef_8_RRR (m : MethodId) (x0 : Addr) (x1 : Addr) (x2 : Addr) : entryFrame m #[(.ref x0), (.ref x1), (.ref x2)] 3 = mkF m 0 #[.val (.ref x0), .val (.ref x1), .val (.ref x2)] [] := by first | (simp [entryFrame, mkF, argsToLocals, Value.category]; done) | rfl
def Q_oc_00 (Z : State) (a1 : Addr) (a2 : Addr) (a3 : Addr) (u_a1_transferId : Value) (u_a1_reason : Value) (h0 : Heap) (n0 : Nat) (v : Option Value) (h : Heap) (L : List Loc) : Prop := v = none ∧ Fr n0 L ∧ Keep h0 h [a1] ∧ Exa Z h a1 "com/example/disbursa/disbursa/rails/Outcome" ∧ Fld Z h a1 "com/example/disbursa/disbursa/rails/Outcome" "transferId" "Ljava/lang/String;" (.ref a2) ∧ Fld Z h a1 "com/example/disbursa/disbursa/rails/Outcome" "reason" "Ljava/lang/String;" (.ref a3)
set_option maxRecDepth 65536 in
set_option maxHeartbeats 40000000 in
theorem rm_oc_00 (l : Launch) (Z : State) (a0 : Array Value) (hw : ∀ d ∈ tables_1, d.before a0 Z = true) (ws : List Jvm.Cond) (a1 : Addr) (a2 : Addr) (a3 : Addr) (u_a1_transferId : Value) (u_a1_reason : Value) (h0 : Heap) (n0 : Nat) (Z0 : n0 ≤ h0.size) (E_a1 : Exa Z h0 a1 "com/example/disbursa/disbursa/rails/Outcome") (F_a1_transferId : Fld Z h0 a1 "com/example/disbursa/disbursa/rails/Outcome" "transferId" "Ljava/lang/String;" u_a1_transferId) (g_a1 : n0 ≤ a1) (O0 : Old Z n0 h0) (F_a1_reason : Fld Z h0 a1 "com/example/disbursa/disbursa/rails/Outcome" "reason" "Ljava/lang/String;" u_a1_reason) :
    MetFree l (⟨"com/example/disbursa/disbursa/rails/Outcome", "<init>", "(Ljava/lang/String;Ljava/lang/String;)V"⟩ : MethodName) (head1 (Jvm.Cond.code (⟨"com/example/disbursa/disbursa/rails/Outcome", "<init>", "(Ljava/lang/String;Ljava/lang/String;)V"⟩ : MethodName) prog_116_method_1_code 3 none :: ws) ({ frames := 2, cells := 0, slots := 0, locals := 24 } : Room)) (fun a U => a = #[(.ref a1), (.ref a2), (.ref a3)] ∧ Z.Warmed39 U.vm ∧ U.heap = h0) (fun _ _ _ _ _ => True) (fun _ U o U' => ∃ v L, o = .returned v ∧ Q_oc_00 Z a1 a2 a3 u_a1_transferId u_a1_reason h0 n0 v U'.heap L ∧ FrameEnd U o U' L ({ frames := 2, cells := 0, slots := 0, locals := 24 } : Room).cells ({ frames := 2, cells := 0, slots := 0, locals := 24 } : Room).slots) := by
  refine MetFree.of_bodySF (plainFor_of_name pn_8) hisR ?_
  intro p e s m args below meth c s₁ Bd hml0 hP hK
  obtain ⟨rfl, hZ, hh⟩ := hP
  have hx := Bd.exec
  have hby := Bd.bytes
  have hml : c.maxLocals = 3 := hml0
  have hown : s.vm.findClass "com/example/disbursa/disbursa/rails/Outcome" = some m.cls := findClass_of_methodNamed Bd.named
  have hnm := (name_of_methodNamed Bd.named Bd.method).1
  have X0 : Stand p l e ({ frames := 2, cells := 0, slots := 0, locals := 24 } : Room) s m #[(.ref a1), (.ref a2), (.ref a3)] below meth c s₁ [] 0 0 := Stand.of_body Bd
  have e0 : s₁.heap = h0 := by rw [← hh, Bd.state]; rfl
  have N0 := Fr.nil n0
  have pre0 : ∀ t, Steps p.tables e below (s₁.setTop (mkF m 0 #[.val (.ref a1), .val (.ref a2), .val (.ref a3)] [])) t → Steps p.tables e below (s₁.setTop (entryFrame m #[(.ref a1), (.ref a2), (.ref a3)] 3)) t := fun t k => castTop (ef_8_RRR m a1 a2 a3) k
  obtain ⟨_, _, ⟨T1, L1, k1, n1⟩, -, X1, ⟨Lc1, hQ1, l1, y1, z1⟩, st1⟩ := X0.specialBack hx (y := (⟨"java/lang/Record", "<init>", "()V"⟩ : MethodName)) rfl hown (mvT hZ (hwi hw 43 rfl)) (mvT hZ (hwi hw 44 rfl)) (mvT hZ (hwi hw 47 rfl)) (by decide) (backOf (W := 0) (rm_recinit l Z a0 hw [] a1 h0 n0 Z0) hZ (hwi hw 47 rfl) (hwi hw 46 rfl) (by decide) (by decide)) (g := (mkF m 1 #[.val (.ref a1), .val (.ref a2), .val (.ref a3)] [(.ref a1)])) rfl (by rw [hml]; rfl) (Steps.refl _) (a := a1) (argsL := []) (rest := []) (lenOf pd_V_167 rfl) rfl (by show 2 * 0 + _ ≤ _; exact Nat.le_of_eq rfl) (hb hby d8_1) (fun _ _ => ⟨rfl, e0, (by decide : 0 + 0 ≤ _), (by decide : 0 + 0 ≤ _)⟩)
  dsimp only [Pt.U, Pt.locs, Pt.cells, Pt.slots] at X1 l1 y1 z1 st1 hQ1
  subst l1 y1 z1
  obtain ⟨rfl, N1q, e1⟩ := hQ1
  have N1 := Fr.app N0 N1q
  obtain ⟨T2, h2, X2, e2, W2, st2⟩ := putF X1 hx hZ hown (host := "") (Or.inl (hwi hw 49 rfl)) Via.refl e1 F_a1_transferId E_a1 (Or.inr ⟨(hwi hw 50 rfl), rfl, hnm⟩) (hwi hw 38 rfl) (ty := (.object "java/lang/String")) (by decide) rfl rfl (g := (mkF m 6 #[.val (.ref a1), .val (.ref a2), .val (.ref a3)] [(.ref a2), (.ref a1)])) rfl rfl (hb hby d8_6)
  have N2 := Fr.snoc X2 N1 g_a1
  have Fw2 := F_a1_transferId.same W2
  have sz3 : h0.size ≤ h2.size := Nat.le_of_eq W2.size.symm
  have Z3 : n0 ≤ h2.size := Nat.le_trans Z0 sz3
  have O3 := O0.wr W2 g_a1
  have K3 : Keep h0 h2 [a1] := (Keep.refl h0 [a1]).wr W2 (Or.inl (List.mem_of_getElem? (i := 0) rfl))
  have fc4 := (E_a1.wr W2)
  have fc5 := (F_a1_reason.other W2 (Or.inr (slot_ne (Or.inr (hwi hw 52 rfl)) (Or.inr (hwi hw 50 rfl)) (by decide) (t := (.object "java/lang/String")) (t' := (.object "java/lang/String")) (by decide) (by decide))))
  obtain ⟨T6, h6, X6, e6, W6, st6⟩ := putF X2 hx hZ hown (host := "") (Or.inl (hwi hw 51 rfl)) Via.refl e2 fc5 fc4 (Or.inr ⟨(hwi hw 52 rfl), rfl, hnm⟩) (hwi hw 38 rfl) (ty := (.object "java/lang/String")) (by decide) rfl rfl (g := (mkF m 11 #[.val (.ref a1), .val (.ref a2), .val (.ref a3)] [(.ref a3), (.ref a1)])) rfl rfl (hb hby d8_11)
  have N6 := Fr.snoc X6 N2 g_a1
  have Fw6 := fc5.same W6
  have sz7 : h2.size ≤ h6.size := Nat.le_of_eq W6.size.symm
  have Z7 : n0 ≤ h6.size := Nat.le_trans Z3 sz7
  have O7 := O3.wr W6 g_a1
  have K7 : Keep h0 h6 [a1] := K3.wr W6 (Or.inl (List.mem_of_getElem? (i := 0) rfl))
  have fc8 := (fc4.wr W6)
  have fc9 := (Fw2.other W6 (Or.inr (slot_ne (Or.inr (hwi hw 50 rfl)) (Or.inr (hwi hw 52 rfl)) (by decide) (t := (.object "java/lang/String")) (t' := (.object "java/lang/String")) (by decide) (by decide))))
  obtain ⟨fs, hr, hrun, hended, hW, hsame⟩ := X6.leave (v := none) (fun _ => rfl)
  refine ⟨_, _, pre0 _ ?_, hrun, hended, _, _, rfl, ?_, ⟨_, rfl⟩, hW, hsame.mono (by decide) (by decide)⟩
  · show St p e below s₁ (mkF m 0 #[.val (.ref a1), .val (.ref a2), .val (.ref a3)] []) _
    refine XS.aloadN X0.here hx rfl (hb hby d8_0) rfl rfl ?_
    show St p e below s₁ (mkF m 1 #[.val (.ref a1), .val (.ref a2), .val (.ref a3)] [(.ref a1)]) _
    refine st1.trans ?_
    show St p e below T1 (mkF m 4 #[.val (.ref a1), .val (.ref a2), .val (.ref a3)] []) _
    refine XS.aloadN X1.here hx rfl (hb hby d8_4) rfl rfl ?_
    show St p e below T1 (mkF m 5 #[.val (.ref a1), .val (.ref a2), .val (.ref a3)] [(.ref a1)]) _
    refine XS.aloadN X1.here hx rfl (hb hby d8_5) rfl rfl ?_
    show St p e below T1 (mkF m 6 #[.val (.ref a1), .val (.ref a2), .val (.ref a3)] [(.ref a2), (.ref a1)]) _
    refine st2 _ ?_
    show St p e below T2 (mkF m 9 #[.val (.ref a1), .val (.ref a2), .val (.ref a3)] []) _
    refine XS.aloadN X2.here hx rfl (hb hby d8_9) rfl rfl ?_
    show St p e below T2 (mkF m 10 #[.val (.ref a1), .val (.ref a2), .val (.ref a3)] [(.ref a1)]) _
    refine XS.aloadN X2.here hx rfl (hb hby d8_10) rfl rfl ?_
    show St p e below T2 (mkF m 11 #[.val (.ref a1), .val (.ref a2), .val (.ref a3)] [(.ref a3), (.ref a1)]) _
    refine st6 _ ?_
    show St p e below T6 (mkF m 14 #[.val (.ref a1), .val (.ref a2), .val (.ref a3)] []) _
    exact X6.returnOut hx Bd.returns (hb hby d8_14) hr
  · show Q_oc_00 Z a1 a2 a3 u_a1_transferId u_a1_reason h0 n0 _ T6.heap _
    rw [e6]
    exact ⟨rfl, N6, K7, fc8, fc9, Fw6⟩
theorem ef_8_RRn (m : MethodId) (x0 : Addr) (x1 : Addr) : entryFrame m #[(.ref x0), (.ref x1), .null] 3 = mkF m 0 #[.val (.ref x0), .val (.ref x1), .val .null] [] := by first | (simp [entryFrame, mkF, argsToLocals, Value.category]; done) | rfl
def Q_oc_01 (Z : State) (a1 : Addr) (a2 : Addr) (u_a1_transferId : Value) (u_a1_reason : Value) (h0 : Heap) (n0 : Nat) (v : Option Value) (h : Heap) (L : List Loc) : Prop := v = none ∧ Fr n0 L ∧ Keep h0 h [a1] ∧ Exa Z h a1 "com/example/disbursa/disbursa/rails/Outcome" ∧ Fld Z h a1 "com/example/disbursa/disbursa/rails/Outcome" "transferId" "Ljava/lang/String;" (.ref a2) ∧ Fld Z h a1 "com/example/disbursa/disbursa/rails/Outcome" "reason" "Ljava/lang/String;" .null
set_option maxRecDepth 65536 in
set_option maxHeartbeats 40000000 in
theorem rm_oc_01 (l : Launch) (Z : State) (a0 : Array Value) (hw : ∀ d ∈ tables_1, d.before a0 Z = true) (ws : List Jvm.Cond) (a1 : Addr) (a2 : Addr) (u_a1_transferId : Value) (u_a1_reason : Value) (h0 : Heap) (n0 : Nat) (Z0 : n0 ≤ h0.size) (E_a1 : Exa Z h0 a1 "com/example/disbursa/disbursa/rails/Outcome") (F_a1_transferId : Fld Z h0 a1 "com/example/disbursa/disbursa/rails/Outcome" "transferId" "Ljava/lang/String;" u_a1_transferId) (g_a1 : n0 ≤ a1) (O0 : Old Z n0 h0) (F_a1_reason : Fld Z h0 a1 "com/example/disbursa/disbursa/rails/Outcome" "reason" "Ljava/lang/String;" u_a1_reason) :
    MetFree l (⟨"com/example/disbursa/disbursa/rails/Outcome", "<init>", "(Ljava/lang/String;Ljava/lang/String;)V"⟩ : MethodName) (head1 (Jvm.Cond.code (⟨"com/example/disbursa/disbursa/rails/Outcome", "<init>", "(Ljava/lang/String;Ljava/lang/String;)V"⟩ : MethodName) prog_116_method_1_code 3 none :: ws) ({ frames := 2, cells := 0, slots := 0, locals := 24 } : Room)) (fun a U => a = #[(.ref a1), (.ref a2), .null] ∧ Z.Warmed39 U.vm ∧ U.heap = h0) (fun _ _ _ _ _ => True) (fun _ U o U' => ∃ v L, o = .returned v ∧ Q_oc_01 Z a1 a2 u_a1_transferId u_a1_reason h0 n0 v U'.heap L ∧ FrameEnd U o U' L ({ frames := 2, cells := 0, slots := 0, locals := 24 } : Room).cells ({ frames := 2, cells := 0, slots := 0, locals := 24 } : Room).slots) := by
  refine MetFree.of_bodySF (plainFor_of_name pn_8) hisR ?_
  intro p e s m args below meth c s₁ Bd hml0 hP hK
  obtain ⟨rfl, hZ, hh⟩ := hP
  have hx := Bd.exec
  have hby := Bd.bytes
  have hml : c.maxLocals = 3 := hml0
  have hown : s.vm.findClass "com/example/disbursa/disbursa/rails/Outcome" = some m.cls := findClass_of_methodNamed Bd.named
  have hnm := (name_of_methodNamed Bd.named Bd.method).1
  have X0 : Stand p l e ({ frames := 2, cells := 0, slots := 0, locals := 24 } : Room) s m #[(.ref a1), (.ref a2), .null] below meth c s₁ [] 0 0 := Stand.of_body Bd
  have e0 : s₁.heap = h0 := by rw [← hh, Bd.state]; rfl
  have N0 := Fr.nil n0
  have pre0 : ∀ t, Steps p.tables e below (s₁.setTop (mkF m 0 #[.val (.ref a1), .val (.ref a2), .val .null] [])) t → Steps p.tables e below (s₁.setTop (entryFrame m #[(.ref a1), (.ref a2), .null] 3)) t := fun t k => castTop (ef_8_RRn m a1 a2) k
  obtain ⟨_, _, ⟨T1, L1, k1, n1⟩, -, X1, ⟨Lc1, hQ1, l1, y1, z1⟩, st1⟩ := X0.specialBack hx (y := (⟨"java/lang/Record", "<init>", "()V"⟩ : MethodName)) rfl hown (mvT hZ (hwi hw 43 rfl)) (mvT hZ (hwi hw 44 rfl)) (mvT hZ (hwi hw 47 rfl)) (by decide) (backOf (W := 0) (rm_recinit l Z a0 hw [] a1 h0 n0 Z0) hZ (hwi hw 47 rfl) (hwi hw 46 rfl) (by decide) (by decide)) (g := (mkF m 1 #[.val (.ref a1), .val (.ref a2), .val .null] [(.ref a1)])) rfl (by rw [hml]; rfl) (Steps.refl _) (a := a1) (argsL := []) (rest := []) (lenOf pd_V_167 rfl) rfl (by show 2 * 0 + _ ≤ _; exact Nat.le_of_eq rfl) (hb hby d8_1) (fun _ _ => ⟨rfl, e0, (by decide : 0 + 0 ≤ _), (by decide : 0 + 0 ≤ _)⟩)
  dsimp only [Pt.U, Pt.locs, Pt.cells, Pt.slots] at X1 l1 y1 z1 st1 hQ1
  subst l1 y1 z1
  obtain ⟨rfl, N1q, e1⟩ := hQ1
  have N1 := Fr.app N0 N1q
  obtain ⟨T2, h2, X2, e2, W2, st2⟩ := putF X1 hx hZ hown (host := "") (Or.inl (hwi hw 49 rfl)) Via.refl e1 F_a1_transferId E_a1 (Or.inr ⟨(hwi hw 50 rfl), rfl, hnm⟩) (hwi hw 38 rfl) (ty := (.object "java/lang/String")) (by decide) rfl rfl (g := (mkF m 6 #[.val (.ref a1), .val (.ref a2), .val .null] [(.ref a2), (.ref a1)])) rfl rfl (hb hby d8_6)
  have N2 := Fr.snoc X2 N1 g_a1
  have Fw2 := F_a1_transferId.same W2
  have sz3 : h0.size ≤ h2.size := Nat.le_of_eq W2.size.symm
  have Z3 : n0 ≤ h2.size := Nat.le_trans Z0 sz3
  have O3 := O0.wr W2 g_a1
  have K3 : Keep h0 h2 [a1] := (Keep.refl h0 [a1]).wr W2 (Or.inl (List.mem_of_getElem? (i := 0) rfl))
  have fc4 := (E_a1.wr W2)
  have fc5 := (F_a1_reason.other W2 (Or.inr (slot_ne (Or.inr (hwi hw 52 rfl)) (Or.inr (hwi hw 50 rfl)) (by decide) (t := (.object "java/lang/String")) (t' := (.object "java/lang/String")) (by decide) (by decide))))
  obtain ⟨T6, h6, X6, e6, W6, st6⟩ := putF X2 hx hZ hown (host := "") (Or.inl (hwi hw 51 rfl)) Via.refl e2 fc5 fc4 (Or.inr ⟨(hwi hw 52 rfl), rfl, hnm⟩) (hwi hw 38 rfl) (ty := (.object "java/lang/String")) (by decide) rfl rfl (g := (mkF m 11 #[.val (.ref a1), .val (.ref a2), .val .null] [.null, (.ref a1)])) rfl rfl (hb hby d8_11)
  have N6 := Fr.snoc X6 N2 g_a1
  have Fw6 := fc5.same W6
  have sz7 : h2.size ≤ h6.size := Nat.le_of_eq W6.size.symm
  have Z7 : n0 ≤ h6.size := Nat.le_trans Z3 sz7
  have O7 := O3.wr W6 g_a1
  have K7 : Keep h0 h6 [a1] := K3.wr W6 (Or.inl (List.mem_of_getElem? (i := 0) rfl))
  have fc8 := (fc4.wr W6)
  have fc9 := (Fw2.other W6 (Or.inr (slot_ne (Or.inr (hwi hw 50 rfl)) (Or.inr (hwi hw 52 rfl)) (by decide) (t := (.object "java/lang/String")) (t' := (.object "java/lang/String")) (by decide) (by decide))))
  obtain ⟨fs, hr, hrun, hended, hW, hsame⟩ := X6.leave (v := none) (fun _ => rfl)
  refine ⟨_, _, pre0 _ ?_, hrun, hended, _, _, rfl, ?_, ⟨_, rfl⟩, hW, hsame.mono (by decide) (by decide)⟩
  · show St p e below s₁ (mkF m 0 #[.val (.ref a1), .val (.ref a2), .val .null] []) _
    refine XS.aloadN X0.here hx rfl (hb hby d8_0) rfl rfl ?_
    show St p e below s₁ (mkF m 1 #[.val (.ref a1), .val (.ref a2), .val .null] [(.ref a1)]) _
    refine st1.trans ?_
    show St p e below T1 (mkF m 4 #[.val (.ref a1), .val (.ref a2), .val .null] []) _
    refine XS.aloadN X1.here hx rfl (hb hby d8_4) rfl rfl ?_
    show St p e below T1 (mkF m 5 #[.val (.ref a1), .val (.ref a2), .val .null] [(.ref a1)]) _
    refine XS.aloadN X1.here hx rfl (hb hby d8_5) rfl rfl ?_
    show St p e below T1 (mkF m 6 #[.val (.ref a1), .val (.ref a2), .val .null] [(.ref a2), (.ref a1)]) _
    refine st2 _ ?_
    show St p e below T2 (mkF m 9 #[.val (.ref a1), .val (.ref a2), .val .null] []) _
    refine XS.aloadN X2.here hx rfl (hb hby d8_9) rfl rfl ?_
    show St p e below T2 (mkF m 10 #[.val (.ref a1), .val (.ref a2), .val .null] [(.ref a1)]) _
    refine XS.aloadN X2.here hx rfl (hb hby d8_10) rfl rfl ?_
    show St p e below T2 (mkF m 11 #[.val (.ref a1), .val (.ref a2), .val .null] [.null, (.ref a1)]) _
    refine st6 _ ?_
    show St p e below T6 (mkF m 14 #[.val (.ref a1), .val (.ref a2), .val .null] []) _
    exact X6.returnOut hx Bd.returns (hb hby d8_14) hr
  · show Q_oc_01 Z a1 a2 u_a1_transferId u_a1_reason h0 n0 _ T6.heap _
    rw [e6]
    exact ⟨rfl, N6, K7, fc8, fc9, Fw6⟩
theorem ef_8_RnR (m : MethodId) (x0 : Addr) (x2 : Addr) : entryFrame m #[(.ref x0), .null, (.ref x2)] 3 = mkF m 0 #[.val (.ref x0), .val .null, .val (.ref x2)] [] := by first | (simp [entryFrame, mkF, argsToLocals, Value.category]; done) | rfl
def Q_oc_10 (Z : State) (a1 : Addr) (a3 : Addr) (u_a1_transferId : Value) (u_a1_reason : Value) (h0 : Heap) (n0 : Nat) (v : Option Value) (h : Heap) (L : List Loc) : Prop := v = none ∧ Fr n0 L ∧ Keep h0 h [a1] ∧ Exa Z h a1 "com/example/disbursa/disbursa/rails/Outcome" ∧ Fld Z h a1 "com/example/disbursa/disbursa/rails/Outcome" "transferId" "Ljava/lang/String;" .null ∧ Fld Z h a1 "com/example/disbursa/disbursa/rails/Outcome" "reason" "Ljava/lang/String;" (.ref a3)
set_option maxRecDepth 65536 in
set_option maxHeartbeats 40000000 in
theorem rm_oc_10 (l : Launch) (Z : State) (a0 : Array Value) (hw : ∀ d ∈ tables_1, d.before a0 Z = true) (ws : List Jvm.Cond) (a1 : Addr) (a3 : Addr) (u_a1_transferId : Value) (u_a1_reason : Value) (h0 : Heap) (n0 : Nat) (Z0 : n0 ≤ h0.size) (E_a1 : Exa Z h0 a1 "com/example/disbursa/disbursa/rails/Outcome") (F_a1_transferId : Fld Z h0 a1 "com/example/disbursa/disbursa/rails/Outcome" "transferId" "Ljava/lang/String;" u_a1_transferId) (g_a1 : n0 ≤ a1) (O0 : Old Z n0 h0) (F_a1_reason : Fld Z h0 a1 "com/example/disbursa/disbursa/rails/Outcome" "reason" "Ljava/lang/String;" u_a1_reason) :
    MetFree l (⟨"com/example/disbursa/disbursa/rails/Outcome", "<init>", "(Ljava/lang/String;Ljava/lang/String;)V"⟩ : MethodName) (head1 (Jvm.Cond.code (⟨"com/example/disbursa/disbursa/rails/Outcome", "<init>", "(Ljava/lang/String;Ljava/lang/String;)V"⟩ : MethodName) prog_116_method_1_code 3 none :: ws) ({ frames := 2, cells := 0, slots := 0, locals := 24 } : Room)) (fun a U => a = #[(.ref a1), .null, (.ref a3)] ∧ Z.Warmed39 U.vm ∧ U.heap = h0) (fun _ _ _ _ _ => True) (fun _ U o U' => ∃ v L, o = .returned v ∧ Q_oc_10 Z a1 a3 u_a1_transferId u_a1_reason h0 n0 v U'.heap L ∧ FrameEnd U o U' L ({ frames := 2, cells := 0, slots := 0, locals := 24 } : Room).cells ({ frames := 2, cells := 0, slots := 0, locals := 24 } : Room).slots) := by
  refine MetFree.of_bodySF (plainFor_of_name pn_8) hisR ?_
  intro p e s m args below meth c s₁ Bd hml0 hP hK
  obtain ⟨rfl, hZ, hh⟩ := hP
  have hx := Bd.exec
  have hby := Bd.bytes
  have hml : c.maxLocals = 3 := hml0
  have hown : s.vm.findClass "com/example/disbursa/disbursa/rails/Outcome" = some m.cls := findClass_of_methodNamed Bd.named
  have hnm := (name_of_methodNamed Bd.named Bd.method).1
  have X0 : Stand p l e ({ frames := 2, cells := 0, slots := 0, locals := 24 } : Room) s m #[(.ref a1), .null, (.ref a3)] below meth c s₁ [] 0 0 := Stand.of_body Bd
  have e0 : s₁.heap = h0 := by rw [← hh, Bd.state]; rfl
  have N0 := Fr.nil n0
  have pre0 : ∀ t, Steps p.tables e below (s₁.setTop (mkF m 0 #[.val (.ref a1), .val .null, .val (.ref a3)] [])) t → Steps p.tables e below (s₁.setTop (entryFrame m #[(.ref a1), .null, (.ref a3)] 3)) t := fun t k => castTop (ef_8_RnR m a1 a3) k
  obtain ⟨_, _, ⟨T1, L1, k1, n1⟩, -, X1, ⟨Lc1, hQ1, l1, y1, z1⟩, st1⟩ := X0.specialBack hx (y := (⟨"java/lang/Record", "<init>", "()V"⟩ : MethodName)) rfl hown (mvT hZ (hwi hw 43 rfl)) (mvT hZ (hwi hw 44 rfl)) (mvT hZ (hwi hw 47 rfl)) (by decide) (backOf (W := 0) (rm_recinit l Z a0 hw [] a1 h0 n0 Z0) hZ (hwi hw 47 rfl) (hwi hw 46 rfl) (by decide) (by decide)) (g := (mkF m 1 #[.val (.ref a1), .val .null, .val (.ref a3)] [(.ref a1)])) rfl (by rw [hml]; rfl) (Steps.refl _) (a := a1) (argsL := []) (rest := []) (lenOf pd_V_167 rfl) rfl (by show 2 * 0 + _ ≤ _; exact Nat.le_of_eq rfl) (hb hby d8_1) (fun _ _ => ⟨rfl, e0, (by decide : 0 + 0 ≤ _), (by decide : 0 + 0 ≤ _)⟩)
  dsimp only [Pt.U, Pt.locs, Pt.cells, Pt.slots] at X1 l1 y1 z1 st1 hQ1
  subst l1 y1 z1
  obtain ⟨rfl, N1q, e1⟩ := hQ1
  have N1 := Fr.app N0 N1q
  obtain ⟨T2, h2, X2, e2, W2, st2⟩ := putF X1 hx hZ hown (host := "") (Or.inl (hwi hw 49 rfl)) Via.refl e1 F_a1_transferId E_a1 (Or.inr ⟨(hwi hw 50 rfl), rfl, hnm⟩) (hwi hw 38 rfl) (ty := (.object "java/lang/String")) (by decide) rfl rfl (g := (mkF m 6 #[.val (.ref a1), .val .null, .val (.ref a3)] [.null, (.ref a1)])) rfl rfl (hb hby d8_6)
  have N2 := Fr.snoc X2 N1 g_a1
  have Fw2 := F_a1_transferId.same W2
  have sz3 : h0.size ≤ h2.size := Nat.le_of_eq W2.size.symm
  have Z3 : n0 ≤ h2.size := Nat.le_trans Z0 sz3
  have O3 := O0.wr W2 g_a1
  have K3 : Keep h0 h2 [a1] := (Keep.refl h0 [a1]).wr W2 (Or.inl (List.mem_of_getElem? (i := 0) rfl))
  have fc4 := (E_a1.wr W2)
  have fc5 := (F_a1_reason.other W2 (Or.inr (slot_ne (Or.inr (hwi hw 52 rfl)) (Or.inr (hwi hw 50 rfl)) (by decide) (t := (.object "java/lang/String")) (t' := (.object "java/lang/String")) (by decide) (by decide))))
  obtain ⟨T6, h6, X6, e6, W6, st6⟩ := putF X2 hx hZ hown (host := "") (Or.inl (hwi hw 51 rfl)) Via.refl e2 fc5 fc4 (Or.inr ⟨(hwi hw 52 rfl), rfl, hnm⟩) (hwi hw 38 rfl) (ty := (.object "java/lang/String")) (by decide) rfl rfl (g := (mkF m 11 #[.val (.ref a1), .val .null, .val (.ref a3)] [(.ref a3), (.ref a1)])) rfl rfl (hb hby d8_11)
  have N6 := Fr.snoc X6 N2 g_a1
  have Fw6 := fc5.same W6
  have sz7 : h2.size ≤ h6.size := Nat.le_of_eq W6.size.symm
  have Z7 : n0 ≤ h6.size := Nat.le_trans Z3 sz7
  have O7 := O3.wr W6 g_a1
  have K7 : Keep h0 h6 [a1] := K3.wr W6 (Or.inl (List.mem_of_getElem? (i := 0) rfl))
  have fc8 := (fc4.wr W6)
  have fc9 := (Fw2.other W6 (Or.inr (slot_ne (Or.inr (hwi hw 50 rfl)) (Or.inr (hwi hw 52 rfl)) (by decide) (t := (.object "java/lang/String")) (t' := (.object "java/lang/String")) (by decide) (by decide))))
  obtain ⟨fs, hr, hrun, hended, hW, hsame⟩ := X6.leave (v := none) (fun _ => rfl)
  refine ⟨_, _, pre0 _ ?_, hrun, hended, _, _, rfl, ?_, ⟨_, rfl⟩, hW, hsame.mono (by decide) (by decide)⟩
  · show St p e below s₁ (mkF m 0 #[.val (.ref a1), .val .null, .val (.ref a3)] []) _
    refine XS.aloadN X0.here hx rfl (hb hby d8_0) rfl rfl ?_
    show St p e below s₁ (mkF m 1 #[.val (.ref a1), .val .null, .val (.ref a3)] [(.ref a1)]) _
    refine st1.trans ?_
    show St p e below T1 (mkF m 4 #[.val (.ref a1), .val .null, .val (.ref a3)] []) _
    refine XS.aloadN X1.here hx rfl (hb hby d8_4) rfl rfl ?_
    show St p e below T1 (mkF m 5 #[.val (.ref a1), .val .null, .val (.ref a3)] [(.ref a1)]) _
    refine XS.aloadN X1.here hx rfl (hb hby d8_5) rfl rfl ?_
    show St p e below T1 (mkF m 6 #[.val (.ref a1), .val .null, .val (.ref a3)] [.null, (.ref a1)]) _
    refine st2 _ ?_
    show St p e below T2 (mkF m 9 #[.val (.ref a1), .val .null, .val (.ref a3)] []) _
    refine XS.aloadN X2.here hx rfl (hb hby d8_9) rfl rfl ?_
    show St p e below T2 (mkF m 10 #[.val (.ref a1), .val .null, .val (.ref a3)] [(.ref a1)]) _
    refine XS.aloadN X2.here hx rfl (hb hby d8_10) rfl rfl ?_
    show St p e below T2 (mkF m 11 #[.val (.ref a1), .val .null, .val (.ref a3)] [(.ref a3), (.ref a1)]) _
    refine st6 _ ?_
    show St p e below T6 (mkF m 14 #[.val (.ref a1), .val .null, .val (.ref a3)] []) _
    exact X6.returnOut hx Bd.returns (hb hby d8_14) hr
  · show Q_oc_10 Z a1 a3 u_a1_transferId u_a1_reason h0 n0 _ T6.heap _
    rw [e6]
    exact ⟨rfl, N6, K7, fc8, fc9, Fw6⟩
theorem ef_8_Rnn (m : MethodId) (x0 : Addr) : entryFrame m #[(.ref x0), .null, .null] 3 = mkF m 0 #[.val (.ref x0), .val .null, .val .null] [] := by first | (simp [entryFrame, mkF, argsToLocals, Value.category]; done) | rfl
def Q_oc_11 (Z : State) (a1 : Addr) (u_a1_transferId : Value) (u_a1_reason : Value) (h0 : Heap) (n0 : Nat) (v : Option Value) (h : Heap) (L : List Loc) : Prop := v = none ∧ Fr n0 L ∧ Keep h0 h [a1] ∧ Exa Z h a1 "com/example/disbursa/disbursa/rails/Outcome" ∧ Fld Z h a1 "com/example/disbursa/disbursa/rails/Outcome" "transferId" "Ljava/lang/String;" .null ∧ Fld Z h a1 "com/example/disbursa/disbursa/rails/Outcome" "reason" "Ljava/lang/String;" .null
set_option maxRecDepth 65536 in
set_option maxHeartbeats 40000000 in
theorem rm_oc_11 (l : Launch) (Z : State) (a0 : Array Value) (hw : ∀ d ∈ tables_1, d.before a0 Z = true) (ws : List Jvm.Cond) (a1 : Addr) (u_a1_transferId : Value) (u_a1_reason : Value) (h0 : Heap) (n0 : Nat) (Z0 : n0 ≤ h0.size) (E_a1 : Exa Z h0 a1 "com/example/disbursa/disbursa/rails/Outcome") (F_a1_transferId : Fld Z h0 a1 "com/example/disbursa/disbursa/rails/Outcome" "transferId" "Ljava/lang/String;" u_a1_transferId) (g_a1 : n0 ≤ a1) (O0 : Old Z n0 h0) (F_a1_reason : Fld Z h0 a1 "com/example/disbursa/disbursa/rails/Outcome" "reason" "Ljava/lang/String;" u_a1_reason) :
    MetFree l (⟨"com/example/disbursa/disbursa/rails/Outcome", "<init>", "(Ljava/lang/String;Ljava/lang/String;)V"⟩ : MethodName) (head1 (Jvm.Cond.code (⟨"com/example/disbursa/disbursa/rails/Outcome", "<init>", "(Ljava/lang/String;Ljava/lang/String;)V"⟩ : MethodName) prog_116_method_1_code 3 none :: ws) ({ frames := 2, cells := 0, slots := 0, locals := 24 } : Room)) (fun a U => a = #[(.ref a1), .null, .null] ∧ Z.Warmed39 U.vm ∧ U.heap = h0) (fun _ _ _ _ _ => True) (fun _ U o U' => ∃ v L, o = .returned v ∧ Q_oc_11 Z a1 u_a1_transferId u_a1_reason h0 n0 v U'.heap L ∧ FrameEnd U o U' L ({ frames := 2, cells := 0, slots := 0, locals := 24 } : Room).cells ({ frames := 2, cells := 0, slots := 0, locals := 24 } : Room).slots) := by
  refine MetFree.of_bodySF (plainFor_of_name pn_8) hisR ?_
  intro p e s m args below meth c s₁ Bd hml0 hP hK
  obtain ⟨rfl, hZ, hh⟩ := hP
  have hx := Bd.exec
  have hby := Bd.bytes
  have hml : c.maxLocals = 3 := hml0
  have hown : s.vm.findClass "com/example/disbursa/disbursa/rails/Outcome" = some m.cls := findClass_of_methodNamed Bd.named
  have hnm := (name_of_methodNamed Bd.named Bd.method).1
  have X0 : Stand p l e ({ frames := 2, cells := 0, slots := 0, locals := 24 } : Room) s m #[(.ref a1), .null, .null] below meth c s₁ [] 0 0 := Stand.of_body Bd
  have e0 : s₁.heap = h0 := by rw [← hh, Bd.state]; rfl
  have N0 := Fr.nil n0
  have pre0 : ∀ t, Steps p.tables e below (s₁.setTop (mkF m 0 #[.val (.ref a1), .val .null, .val .null] [])) t → Steps p.tables e below (s₁.setTop (entryFrame m #[(.ref a1), .null, .null] 3)) t := fun t k => castTop (ef_8_Rnn m a1) k
  obtain ⟨_, _, ⟨T1, L1, k1, n1⟩, -, X1, ⟨Lc1, hQ1, l1, y1, z1⟩, st1⟩ := X0.specialBack hx (y := (⟨"java/lang/Record", "<init>", "()V"⟩ : MethodName)) rfl hown (mvT hZ (hwi hw 43 rfl)) (mvT hZ (hwi hw 44 rfl)) (mvT hZ (hwi hw 47 rfl)) (by decide) (backOf (W := 0) (rm_recinit l Z a0 hw [] a1 h0 n0 Z0) hZ (hwi hw 47 rfl) (hwi hw 46 rfl) (by decide) (by decide)) (g := (mkF m 1 #[.val (.ref a1), .val .null, .val .null] [(.ref a1)])) rfl (by rw [hml]; rfl) (Steps.refl _) (a := a1) (argsL := []) (rest := []) (lenOf pd_V_167 rfl) rfl (by show 2 * 0 + _ ≤ _; exact Nat.le_of_eq rfl) (hb hby d8_1) (fun _ _ => ⟨rfl, e0, (by decide : 0 + 0 ≤ _), (by decide : 0 + 0 ≤ _)⟩)
  dsimp only [Pt.U, Pt.locs, Pt.cells, Pt.slots] at X1 l1 y1 z1 st1 hQ1
  subst l1 y1 z1
  obtain ⟨rfl, N1q, e1⟩ := hQ1
  have N1 := Fr.app N0 N1q
  obtain ⟨T2, h2, X2, e2, W2, st2⟩ := putF X1 hx hZ hown (host := "") (Or.inl (hwi hw 49 rfl)) Via.refl e1 F_a1_transferId E_a1 (Or.inr ⟨(hwi hw 50 rfl), rfl, hnm⟩) (hwi hw 38 rfl) (ty := (.object "java/lang/String")) (by decide) rfl rfl (g := (mkF m 6 #[.val (.ref a1), .val .null, .val .null] [.null, (.ref a1)])) rfl rfl (hb hby d8_6)
  have N2 := Fr.snoc X2 N1 g_a1
  have Fw2 := F_a1_transferId.same W2
  have sz3 : h0.size ≤ h2.size := Nat.le_of_eq W2.size.symm
  have Z3 : n0 ≤ h2.size := Nat.le_trans Z0 sz3
  have O3 := O0.wr W2 g_a1
  have K3 : Keep h0 h2 [a1] := (Keep.refl h0 [a1]).wr W2 (Or.inl (List.mem_of_getElem? (i := 0) rfl))
  have fc4 := (E_a1.wr W2)
  have fc5 := (F_a1_reason.other W2 (Or.inr (slot_ne (Or.inr (hwi hw 52 rfl)) (Or.inr (hwi hw 50 rfl)) (by decide) (t := (.object "java/lang/String")) (t' := (.object "java/lang/String")) (by decide) (by decide))))
  obtain ⟨T6, h6, X6, e6, W6, st6⟩ := putF X2 hx hZ hown (host := "") (Or.inl (hwi hw 51 rfl)) Via.refl e2 fc5 fc4 (Or.inr ⟨(hwi hw 52 rfl), rfl, hnm⟩) (hwi hw 38 rfl) (ty := (.object "java/lang/String")) (by decide) rfl rfl (g := (mkF m 11 #[.val (.ref a1), .val .null, .val .null] [.null, (.ref a1)])) rfl rfl (hb hby d8_11)
  have N6 := Fr.snoc X6 N2 g_a1
  have Fw6 := fc5.same W6
  have sz7 : h2.size ≤ h6.size := Nat.le_of_eq W6.size.symm
  have Z7 : n0 ≤ h6.size := Nat.le_trans Z3 sz7
  have O7 := O3.wr W6 g_a1
  have K7 : Keep h0 h6 [a1] := K3.wr W6 (Or.inl (List.mem_of_getElem? (i := 0) rfl))
  have fc8 := (fc4.wr W6)
  have fc9 := (Fw2.other W6 (Or.inr (slot_ne (Or.inr (hwi hw 50 rfl)) (Or.inr (hwi hw 52 rfl)) (by decide) (t := (.object "java/lang/String")) (t' := (.object "java/lang/String")) (by decide) (by decide))))
  obtain ⟨fs, hr, hrun, hended, hW, hsame⟩ := X6.leave (v := none) (fun _ => rfl)
  refine ⟨_, _, pre0 _ ?_, hrun, hended, _, _, rfl, ?_, ⟨_, rfl⟩, hW, hsame.mono (by decide) (by decide)⟩
  · show St p e below s₁ (mkF m 0 #[.val (.ref a1), .val .null, .val .null] []) _
    refine XS.aloadN X0.here hx rfl (hb hby d8_0) rfl rfl ?_
    show St p e below s₁ (mkF m 1 #[.val (.ref a1), .val .null, .val .null] [(.ref a1)]) _
    refine st1.trans ?_
    show St p e below T1 (mkF m 4 #[.val (.ref a1), .val .null, .val .null] []) _
    refine XS.aloadN X1.here hx rfl (hb hby d8_4) rfl rfl ?_
    show St p e below T1 (mkF m 5 #[.val (.ref a1), .val .null, .val .null] [(.ref a1)]) _
    refine XS.aloadN X1.here hx rfl (hb hby d8_5) rfl rfl ?_
    show St p e below T1 (mkF m 6 #[.val (.ref a1), .val .null, .val .null] [.null, (.ref a1)]) _
    refine st2 _ ?_
    show St p e below T2 (mkF m 9 #[.val (.ref a1), .val .null, .val .null] []) _
    refine XS.aloadN X2.here hx rfl (hb hby d8_9) rfl rfl ?_
    show St p e below T2 (mkF m 10 #[.val (.ref a1), .val .null, .val .null] [(.ref a1)]) _
    refine XS.aloadN X2.here hx rfl (hb hby d8_10) rfl rfl ?_
    show St p e below T2 (mkF m 11 #[.val (.ref a1), .val .null, .val .null] [.null, (.ref a1)]) _
    refine st6 _ ?_
    show St p e below T6 (mkF m 14 #[.val (.ref a1), .val .null, .val .null] []) _
    exact X6.returnOut hx Bd.returns (hb hby d8_14) hr
  · show Q_oc_11 Z a1 u_a1_transferId u_a1_reason h0 n0 _ T6.heap _
    rw [e6]
    exact ⟨rfl, N6, K7, fc8, fc9, Fw6⟩
theorem d10_0 : decode prog_116_method_2_code 0 = .ok (.aload_n 0, 1) := by decide +kernel
theorem d10_1 : decode prog_116_method_2_code 1 = .ok (.getfield 13, 3) := by decide +kernel
theorem d10_4 : decode prog_116_method_2_code 4 = .ok (.ifnonnull 7, 3) := by decide +kernel
theorem d10_11 : decode prog_116_method_2_code 11 = .ok (.iconst 0, 1) := by decide +kernel
theorem d10_12 : decode prog_116_method_2_code 12 = .ok (.ireturn, 1) := by decide +kernel
theorem pn_10 : plainName "com/example/disbursa/disbursa/rails/Outcome" = true := by first | (simp [plainName, overriddenIn]; done) | decide +kernel
theorem ef_10_R (m : MethodId) (x0 : Addr) : entryFrame m #[(.ref x0)] 1 = mkF m 0 #[.val (.ref x0)] [] := by first | (simp [entryFrame, mkF, argsToLocals, Value.category]; done) | rfl
def Q_settled_0 (Z : State) (a1 : Addr) (v_a1_reason : Addr) (h0 : Heap) (n0 : Nat) (v : Option Value) (h : Heap) (L : List Loc) : Prop := v = some (.int 0) ∧ Fr n0 L ∧ h = h0
set_option maxRecDepth 65536 in
set_option maxHeartbeats 40000000 in
theorem rm_settled_0 (l : Launch) (Z : State) (a0 : Array Value) (hw : ∀ d ∈ tables_1, d.before a0 Z = true) (ws : List Jvm.Cond) (a1 : Addr) (v_a1_reason : Addr) (h0 : Heap) (n0 : Nat) (Z0 : n0 ≤ h0.size) (F_a1_reason : Fld Z h0 a1 "com/example/disbursa/disbursa/rails/Outcome" "reason" "Ljava/lang/String;" (.ref v_a1_reason)) :
    MetFree l (⟨"com/example/disbursa/disbursa/rails/Outcome", "settled", "()Z"⟩ : MethodName) (head1 (Jvm.Cond.code (⟨"com/example/disbursa/disbursa/rails/Outcome", "settled", "()Z"⟩ : MethodName) prog_116_method_2_code 1 (some .boolean) :: ws) ({ frames := 0, cells := 0, slots := 0, locals := 0 } : Room)) (fun a U => a = #[(.ref a1)] ∧ Z.Warmed39 U.vm ∧ U.heap = h0) (fun _ _ _ _ _ => True) (fun _ U o U' => ∃ v L, o = .returned v ∧ Q_settled_0 Z a1 v_a1_reason h0 n0 v U'.heap L ∧ FrameEnd U o U' L ({ frames := 0, cells := 0, slots := 0, locals := 0 } : Room).cells ({ frames := 0, cells := 0, slots := 0, locals := 0 } : Room).slots) := by
  refine MetFree.of_bodySF (plainFor_of_name pn_10) hisR ?_
  intro p e s m args below meth c s₁ Bd hml0 hP hK
  obtain ⟨rfl, hZ, hh⟩ := hP
  have hx := Bd.exec
  have hby := Bd.bytes
  have hml : c.maxLocals = 1 := hml0
  have hown : s.vm.findClass "com/example/disbursa/disbursa/rails/Outcome" = some m.cls := findClass_of_methodNamed Bd.named
  have hnm := (name_of_methodNamed Bd.named Bd.method).1
  have X0 : Stand p l e ({ frames := 0, cells := 0, slots := 0, locals := 0 } : Room) s m #[(.ref a1)] below meth c s₁ [] 0 0 := Stand.of_body Bd
  have e0 : s₁.heap = h0 := by rw [← hh, Bd.state]; rfl
  have N0 := Fr.nil n0
  have pre0 : ∀ t, Steps p.tables e below (s₁.setTop (mkF m 0 #[.val (.ref a1)] [])) t → Steps p.tables e below (s₁.setTop (entryFrame m #[(.ref a1)] 1)) t := fun t k => castTop (ef_10_R m a1) k
  obtain ⟨T1, X1, e1, st1⟩ := getF X0 hx hZ hown (host := "") (Or.inl (hwi hw 51 rfl)) Via.refl e0 F_a1_reason (g := (mkF m 1 #[.val (.ref a1)] [(.ref a1)])) rfl rfl (hb hby d10_1)
  obtain ⟨fs, hr, hrun, hended, hW, hsame⟩ := X1.leave (v := some (.int 0)) (fun h => by rw [Bd.returns] at h; cases h)
  refine ⟨_, _, pre0 _ ?_, hrun, hended, _, _, rfl, ?_, ⟨_, rfl⟩, hW, hsame.mono (by decide) (by decide)⟩
  · show St p e below s₁ (mkF m 0 #[.val (.ref a1)] []) _
    refine XS.aloadN X0.here hx rfl (hb hby d10_0) rfl rfl ?_
    show St p e below s₁ (mkF m 1 #[.val (.ref a1)] [(.ref a1)]) _
    refine st1 _ ?_
    show St p e below T1 (mkF m 4 #[.val (.ref a1)] [(.ref v_a1_reason)]) _
    refine XS.ifnonnullYes X1.here hx rfl (pc0 := 4) (pc' := 11) rfl (hb hby d10_4) rfl (by decide) (by decide) ?_
    show St p e below T1 (mkF m 11 #[.val (.ref a1)] []) _
    refine XS.iconst X1.here hx rfl (hb hby d10_11) ?_
    show St p e below T1 (mkF m 12 #[.val (.ref a1)] [(.int 0)]) _
    exact retN X1 hx (t := .boolean) Bd.returns (by simp) (hb hby d10_12) hr
  · show Q_settled_0 Z a1 v_a1_reason h0 n0 _ T1.heap _
    rw [e1]
    exact ⟨rfl, N0, rfl⟩
theorem d10_7 : decode prog_116_method_2_code 7 = .ok (.iconst 1, 1) := by decide +kernel
theorem d10_8 : decode prog_116_method_2_code 8 = .ok (.goto 4, 3) := by decide +kernel
def Q_settled_1 (Z : State) (a1 : Addr) (h0 : Heap) (n0 : Nat) (v : Option Value) (h : Heap) (L : List Loc) : Prop := v = some (.int 1) ∧ Fr n0 L ∧ h = h0
set_option maxRecDepth 65536 in
set_option maxHeartbeats 40000000 in
theorem rm_settled_1 (l : Launch) (Z : State) (a0 : Array Value) (hw : ∀ d ∈ tables_1, d.before a0 Z = true) (ws : List Jvm.Cond) (a1 : Addr) (h0 : Heap) (n0 : Nat) (Z0 : n0 ≤ h0.size) (F_a1_reason : Fld Z h0 a1 "com/example/disbursa/disbursa/rails/Outcome" "reason" "Ljava/lang/String;" .null) :
    MetFree l (⟨"com/example/disbursa/disbursa/rails/Outcome", "settled", "()Z"⟩ : MethodName) (head1 (Jvm.Cond.code (⟨"com/example/disbursa/disbursa/rails/Outcome", "settled", "()Z"⟩ : MethodName) prog_116_method_2_code 1 (some .boolean) :: ws) ({ frames := 0, cells := 0, slots := 0, locals := 0 } : Room)) (fun a U => a = #[(.ref a1)] ∧ Z.Warmed39 U.vm ∧ U.heap = h0) (fun _ _ _ _ _ => True) (fun _ U o U' => ∃ v L, o = .returned v ∧ Q_settled_1 Z a1 h0 n0 v U'.heap L ∧ FrameEnd U o U' L ({ frames := 0, cells := 0, slots := 0, locals := 0 } : Room).cells ({ frames := 0, cells := 0, slots := 0, locals := 0 } : Room).slots) := by
  refine MetFree.of_bodySF (plainFor_of_name pn_10) hisR ?_
  intro p e s m args below meth c s₁ Bd hml0 hP hK
  obtain ⟨rfl, hZ, hh⟩ := hP
  have hx := Bd.exec
  have hby := Bd.bytes
  have hml : c.maxLocals = 1 := hml0
  have hown : s.vm.findClass "com/example/disbursa/disbursa/rails/Outcome" = some m.cls := findClass_of_methodNamed Bd.named
  have hnm := (name_of_methodNamed Bd.named Bd.method).1
  have X0 : Stand p l e ({ frames := 0, cells := 0, slots := 0, locals := 0 } : Room) s m #[(.ref a1)] below meth c s₁ [] 0 0 := Stand.of_body Bd
  have e0 : s₁.heap = h0 := by rw [← hh, Bd.state]; rfl
  have N0 := Fr.nil n0
  have pre0 : ∀ t, Steps p.tables e below (s₁.setTop (mkF m 0 #[.val (.ref a1)] [])) t → Steps p.tables e below (s₁.setTop (entryFrame m #[(.ref a1)] 1)) t := fun t k => castTop (ef_10_R m a1) k
  obtain ⟨T1, X1, e1, st1⟩ := getF X0 hx hZ hown (host := "") (Or.inl (hwi hw 51 rfl)) Via.refl e0 F_a1_reason (g := (mkF m 1 #[.val (.ref a1)] [(.ref a1)])) rfl rfl (hb hby d10_1)
  obtain ⟨fs, hr, hrun, hended, hW, hsame⟩ := X1.leave (v := some (.int 1)) (fun h => by rw [Bd.returns] at h; cases h)
  refine ⟨_, _, pre0 _ ?_, hrun, hended, _, _, rfl, ?_, ⟨_, rfl⟩, hW, hsame.mono (by decide) (by decide)⟩
  · show St p e below s₁ (mkF m 0 #[.val (.ref a1)] []) _
    refine XS.aloadN X0.here hx rfl (hb hby d10_0) rfl rfl ?_
    show St p e below s₁ (mkF m 1 #[.val (.ref a1)] [(.ref a1)]) _
    refine st1 _ ?_
    show St p e below T1 (mkF m 4 #[.val (.ref a1)] [.null]) _
    refine XS.ifnonnullNo X1.here hx rfl (hb hby d10_4) rfl ?_
    show St p e below T1 (mkF m 7 #[.val (.ref a1)] []) _
    refine XS.iconst X1.here hx rfl (hb hby d10_7) ?_
    show St p e below T1 (mkF m 8 #[.val (.ref a1)] [(.int 1)]) _
    refine XS.goto X1.here hx rfl (pc0 := 8) (pc' := 12) rfl (hb hby d10_8) (by decide) (by decide) ?_
    show St p e below T1 (mkF m 12 #[.val (.ref a1)] [(.int 1)]) _
    exact retN X1 hx (t := .boolean) Bd.returns (by simp) (hb hby d10_12) hr
  · show Q_settled_1 Z a1 h0 n0 _ T1.heap _
    rw [e1]
    exact ⟨rfl, N0, rfl⟩
theorem d11_0 : decode prog_116_method_7_code 0 = .ok (.aload_n 0, 1) := by decide +kernel
theorem d11_1 : decode prog_116_method_7_code 1 = .ok (.getfield 13, 3) := by decide +kernel
theorem d11_4 : decode prog_116_method_7_code 4 = .ok (.areturn, 1) := by decide +kernel
theorem pn_11 : plainName "com/example/disbursa/disbursa/rails/Outcome" = true := by first | (simp [plainName, overriddenIn]; done) | decide +kernel
theorem ef_11_R (m : MethodId) (x0 : Addr) : entryFrame m #[(.ref x0)] 1 = mkF m 0 #[.val (.ref x0)] [] := by first | (simp [entryFrame, mkF, argsToLocals, Value.category]; done) | rfl
def Q_reason_0 (Z : State) (a1 : Addr) (v_a1_reason : Addr) (h0 : Heap) (n0 : Nat) (v : Option Value) (h : Heap) (L : List Loc) : Prop := v = some (.ref v_a1_reason) ∧ Fr n0 L ∧ h = h0
set_option maxRecDepth 65536 in
set_option maxHeartbeats 40000000 in
theorem rm_reason_0 (l : Launch) (Z : State) (a0 : Array Value) (hw : ∀ d ∈ tables_1, d.before a0 Z = true) (ws : List Jvm.Cond) (a1 : Addr) (v_a1_reason : Addr) (h0 : Heap) (n0 : Nat) (Z0 : n0 ≤ h0.size) (F_a1_reason : Fld Z h0 a1 "com/example/disbursa/disbursa/rails/Outcome" "reason" "Ljava/lang/String;" (.ref v_a1_reason)) :
    MetFree l (⟨"com/example/disbursa/disbursa/rails/Outcome", "reason", "()Ljava/lang/String;"⟩ : MethodName) (head1 (Jvm.Cond.code (⟨"com/example/disbursa/disbursa/rails/Outcome", "reason", "()Ljava/lang/String;"⟩ : MethodName) prog_116_method_7_code 1 (some (.object "java/lang/String")) :: ws) ({ frames := 0, cells := 0, slots := 0, locals := 0 } : Room)) (fun a U => a = #[(.ref a1)] ∧ Z.Warmed39 U.vm ∧ U.heap = h0) (fun _ _ _ _ _ => True) (fun _ U o U' => ∃ v L, o = .returned v ∧ Q_reason_0 Z a1 v_a1_reason h0 n0 v U'.heap L ∧ FrameEnd U o U' L ({ frames := 0, cells := 0, slots := 0, locals := 0 } : Room).cells ({ frames := 0, cells := 0, slots := 0, locals := 0 } : Room).slots) := by
  refine MetFree.of_bodySF (plainFor_of_name pn_11) hisR ?_
  intro p e s m args below meth c s₁ Bd hml0 hP hK
  obtain ⟨rfl, hZ, hh⟩ := hP
  have hx := Bd.exec
  have hby := Bd.bytes
  have hml : c.maxLocals = 1 := hml0
  have hown : s.vm.findClass "com/example/disbursa/disbursa/rails/Outcome" = some m.cls := findClass_of_methodNamed Bd.named
  have hnm := (name_of_methodNamed Bd.named Bd.method).1
  have X0 : Stand p l e ({ frames := 0, cells := 0, slots := 0, locals := 0 } : Room) s m #[(.ref a1)] below meth c s₁ [] 0 0 := Stand.of_body Bd
  have e0 : s₁.heap = h0 := by rw [← hh, Bd.state]; rfl
  have N0 := Fr.nil n0
  have pre0 : ∀ t, Steps p.tables e below (s₁.setTop (mkF m 0 #[.val (.ref a1)] [])) t → Steps p.tables e below (s₁.setTop (entryFrame m #[(.ref a1)] 1)) t := fun t k => castTop (ef_11_R m a1) k
  obtain ⟨T1, X1, e1, st1⟩ := getF X0 hx hZ hown (host := "") (Or.inl (hwi hw 51 rfl)) Via.refl e0 F_a1_reason (g := (mkF m 1 #[.val (.ref a1)] [(.ref a1)])) rfl rfl (hb hby d11_1)
  obtain ⟨fs, hr, hrun, hended, hW, hsame⟩ := X1.leave (v := some (.ref v_a1_reason)) (fun h => by rw [Bd.returns] at h; cases h)
  refine ⟨_, _, pre0 _ ?_, hrun, hended, _, _, rfl, ?_, ⟨_, rfl⟩, hW, hsame.mono (by decide) (by decide)⟩
  · show St p e below s₁ (mkF m 0 #[.val (.ref a1)] []) _
    refine XS.aloadN X0.here hx rfl (hb hby d11_0) rfl rfl ?_
    show St p e below s₁ (mkF m 1 #[.val (.ref a1)] [(.ref a1)]) _
    refine st1 _ ?_
    show St p e below T1 (mkF m 4 #[.val (.ref a1)] [(.ref v_a1_reason)]) _
    jvm_step X1.here [X1.here.top, hx, (hb hby d11_4), X1.method', Bd.returns, Value.isRef, FieldType.isReference]
    first | (intro acts; rw [hr _ acts rfl rfl rfl]) | rw [hr _ _ rfl rfl rfl]
    exact Steps.refl _
  · show Q_reason_0 Z a1 v_a1_reason h0 n0 _ T1.heap _
    rw [e1]
    exact ⟨rfl, N0, rfl⟩
def Q_reason_1 (Z : State) (a1 : Addr) (h0 : Heap) (n0 : Nat) (v : Option Value) (h : Heap) (L : List Loc) : Prop := v = some .null ∧ Fr n0 L ∧ h = h0
set_option maxRecDepth 65536 in
set_option maxHeartbeats 40000000 in
theorem rm_reason_1 (l : Launch) (Z : State) (a0 : Array Value) (hw : ∀ d ∈ tables_1, d.before a0 Z = true) (ws : List Jvm.Cond) (a1 : Addr) (h0 : Heap) (n0 : Nat) (Z0 : n0 ≤ h0.size) (F_a1_reason : Fld Z h0 a1 "com/example/disbursa/disbursa/rails/Outcome" "reason" "Ljava/lang/String;" .null) :
    MetFree l (⟨"com/example/disbursa/disbursa/rails/Outcome", "reason", "()Ljava/lang/String;"⟩ : MethodName) (head1 (Jvm.Cond.code (⟨"com/example/disbursa/disbursa/rails/Outcome", "reason", "()Ljava/lang/String;"⟩ : MethodName) prog_116_method_7_code 1 (some (.object "java/lang/String")) :: ws) ({ frames := 0, cells := 0, slots := 0, locals := 0 } : Room)) (fun a U => a = #[(.ref a1)] ∧ Z.Warmed39 U.vm ∧ U.heap = h0) (fun _ _ _ _ _ => True) (fun _ U o U' => ∃ v L, o = .returned v ∧ Q_reason_1 Z a1 h0 n0 v U'.heap L ∧ FrameEnd U o U' L ({ frames := 0, cells := 0, slots := 0, locals := 0 } : Room).cells ({ frames := 0, cells := 0, slots := 0, locals := 0 } : Room).slots) := by
  refine MetFree.of_bodySF (plainFor_of_name pn_11) hisR ?_
  intro p e s m args below meth c s₁ Bd hml0 hP hK
  obtain ⟨rfl, hZ, hh⟩ := hP
  have hx := Bd.exec
  have hby := Bd.bytes
  have hml : c.maxLocals = 1 := hml0
  have hown : s.vm.findClass "com/example/disbursa/disbursa/rails/Outcome" = some m.cls := findClass_of_methodNamed Bd.named
  have hnm := (name_of_methodNamed Bd.named Bd.method).1
  have X0 : Stand p l e ({ frames := 0, cells := 0, slots := 0, locals := 0 } : Room) s m #[(.ref a1)] below meth c s₁ [] 0 0 := Stand.of_body Bd
  have e0 : s₁.heap = h0 := by rw [← hh, Bd.state]; rfl
  have N0 := Fr.nil n0
  have pre0 : ∀ t, Steps p.tables e below (s₁.setTop (mkF m 0 #[.val (.ref a1)] [])) t → Steps p.tables e below (s₁.setTop (entryFrame m #[(.ref a1)] 1)) t := fun t k => castTop (ef_11_R m a1) k
  obtain ⟨T1, X1, e1, st1⟩ := getF X0 hx hZ hown (host := "") (Or.inl (hwi hw 51 rfl)) Via.refl e0 F_a1_reason (g := (mkF m 1 #[.val (.ref a1)] [(.ref a1)])) rfl rfl (hb hby d11_1)
  obtain ⟨fs, hr, hrun, hended, hW, hsame⟩ := X1.leave (v := some .null) (fun h => by rw [Bd.returns] at h; cases h)
  refine ⟨_, _, pre0 _ ?_, hrun, hended, _, _, rfl, ?_, ⟨_, rfl⟩, hW, hsame.mono (by decide) (by decide)⟩
  · show St p e below s₁ (mkF m 0 #[.val (.ref a1)] []) _
    refine XS.aloadN X0.here hx rfl (hb hby d11_0) rfl rfl ?_
    show St p e below s₁ (mkF m 1 #[.val (.ref a1)] [(.ref a1)]) _
    refine st1 _ ?_
    show St p e below T1 (mkF m 4 #[.val (.ref a1)] [.null]) _
    jvm_step X1.here [X1.here.top, hx, (hb hby d11_4), X1.method', Bd.returns, Value.isRef, FieldType.isReference]
    first | (intro acts; rw [hr _ acts rfl rfl rfl]) | rw [hr _ _ rfl rfl rfl]
    exact Steps.refl _
  · show Q_reason_1 Z a1 h0 n0 _ T1.heap _
    rw [e1]
    exact ⟨rfl, N0, rfl⟩
theorem d12_0 : decode prog_116_method_6_code 0 = .ok (.aload_n 0, 1) := by decide +kernel
theorem d12_1 : decode prog_116_method_6_code 1 = .ok (.getfield 7, 3) := by decide +kernel
theorem d12_4 : decode prog_116_method_6_code 4 = .ok (.areturn, 1) := by decide +kernel
theorem pn_12 : plainName "com/example/disbursa/disbursa/rails/Outcome" = true := by first | (simp [plainName, overriddenIn]; done) | decide +kernel
theorem ef_12_R (m : MethodId) (x0 : Addr) : entryFrame m #[(.ref x0)] 1 = mkF m 0 #[.val (.ref x0)] [] := by first | (simp [entryFrame, mkF, argsToLocals, Value.category]; done) | rfl
def Q_transferId_0 (Z : State) (a1 : Addr) (v_a1_transferId : Addr) (h0 : Heap) (n0 : Nat) (v : Option Value) (h : Heap) (L : List Loc) : Prop := v = some (.ref v_a1_transferId) ∧ Fr n0 L ∧ h = h0
set_option maxRecDepth 65536 in
set_option maxHeartbeats 40000000 in
theorem rm_transferId_0 (l : Launch) (Z : State) (a0 : Array Value) (hw : ∀ d ∈ tables_1, d.before a0 Z = true) (ws : List Jvm.Cond) (a1 : Addr) (v_a1_transferId : Addr) (h0 : Heap) (n0 : Nat) (Z0 : n0 ≤ h0.size) (F_a1_transferId : Fld Z h0 a1 "com/example/disbursa/disbursa/rails/Outcome" "transferId" "Ljava/lang/String;" (.ref v_a1_transferId)) :
    MetFree l (⟨"com/example/disbursa/disbursa/rails/Outcome", "transferId", "()Ljava/lang/String;"⟩ : MethodName) (head1 (Jvm.Cond.code (⟨"com/example/disbursa/disbursa/rails/Outcome", "transferId", "()Ljava/lang/String;"⟩ : MethodName) prog_116_method_6_code 1 (some (.object "java/lang/String")) :: ws) ({ frames := 0, cells := 0, slots := 0, locals := 0 } : Room)) (fun a U => a = #[(.ref a1)] ∧ Z.Warmed39 U.vm ∧ U.heap = h0) (fun _ _ _ _ _ => True) (fun _ U o U' => ∃ v L, o = .returned v ∧ Q_transferId_0 Z a1 v_a1_transferId h0 n0 v U'.heap L ∧ FrameEnd U o U' L ({ frames := 0, cells := 0, slots := 0, locals := 0 } : Room).cells ({ frames := 0, cells := 0, slots := 0, locals := 0 } : Room).slots) := by
  refine MetFree.of_bodySF (plainFor_of_name pn_12) hisR ?_
  intro p e s m args below meth c s₁ Bd hml0 hP hK
  obtain ⟨rfl, hZ, hh⟩ := hP
  have hx := Bd.exec
  have hby := Bd.bytes
  have hml : c.maxLocals = 1 := hml0
  have hown : s.vm.findClass "com/example/disbursa/disbursa/rails/Outcome" = some m.cls := findClass_of_methodNamed Bd.named
  have hnm := (name_of_methodNamed Bd.named Bd.method).1
  have X0 : Stand p l e ({ frames := 0, cells := 0, slots := 0, locals := 0 } : Room) s m #[(.ref a1)] below meth c s₁ [] 0 0 := Stand.of_body Bd
  have e0 : s₁.heap = h0 := by rw [← hh, Bd.state]; rfl
  have N0 := Fr.nil n0
  have pre0 : ∀ t, Steps p.tables e below (s₁.setTop (mkF m 0 #[.val (.ref a1)] [])) t → Steps p.tables e below (s₁.setTop (entryFrame m #[(.ref a1)] 1)) t := fun t k => castTop (ef_12_R m a1) k
  obtain ⟨T1, X1, e1, st1⟩ := getF X0 hx hZ hown (host := "") (Or.inl (hwi hw 49 rfl)) Via.refl e0 F_a1_transferId (g := (mkF m 1 #[.val (.ref a1)] [(.ref a1)])) rfl rfl (hb hby d12_1)
  obtain ⟨fs, hr, hrun, hended, hW, hsame⟩ := X1.leave (v := some (.ref v_a1_transferId)) (fun h => by rw [Bd.returns] at h; cases h)
  refine ⟨_, _, pre0 _ ?_, hrun, hended, _, _, rfl, ?_, ⟨_, rfl⟩, hW, hsame.mono (by decide) (by decide)⟩
  · show St p e below s₁ (mkF m 0 #[.val (.ref a1)] []) _
    refine XS.aloadN X0.here hx rfl (hb hby d12_0) rfl rfl ?_
    show St p e below s₁ (mkF m 1 #[.val (.ref a1)] [(.ref a1)]) _
    refine st1 _ ?_
    show St p e below T1 (mkF m 4 #[.val (.ref a1)] [(.ref v_a1_transferId)]) _
    jvm_step X1.here [X1.here.top, hx, (hb hby d12_4), X1.method', Bd.returns, Value.isRef, FieldType.isReference]
    first | (intro acts; rw [hr _ acts rfl rfl rfl]) | rw [hr _ _ rfl rfl rfl]
    exact Steps.refl _
  · show Q_transferId_0 Z a1 v_a1_transferId h0 n0 _ T1.heap _
    rw [e1]
    exact ⟨rfl, N0, rfl⟩
def Q_transferId_1 (Z : State) (a1 : Addr) (h0 : Heap) (n0 : Nat) (v : Option Value) (h : Heap) (L : List Loc) : Prop := v = some .null ∧ Fr n0 L ∧ h = h0
set_option maxRecDepth 65536 in
set_option maxHeartbeats 40000000 in
theorem rm_transferId_1 (l : Launch) (Z : State) (a0 : Array Value) (hw : ∀ d ∈ tables_1, d.before a0 Z = true) (ws : List Jvm.Cond) (a1 : Addr) (h0 : Heap) (n0 : Nat) (Z0 : n0 ≤ h0.size) (F_a1_transferId : Fld Z h0 a1 "com/example/disbursa/disbursa/rails/Outcome" "transferId" "Ljava/lang/String;" .null) :
    MetFree l (⟨"com/example/disbursa/disbursa/rails/Outcome", "transferId", "()Ljava/lang/String;"⟩ : MethodName) (head1 (Jvm.Cond.code (⟨"com/example/disbursa/disbursa/rails/Outcome", "transferId", "()Ljava/lang/String;"⟩ : MethodName) prog_116_method_6_code 1 (some (.object "java/lang/String")) :: ws) ({ frames := 0, cells := 0, slots := 0, locals := 0 } : Room)) (fun a U => a = #[(.ref a1)] ∧ Z.Warmed39 U.vm ∧ U.heap = h0) (fun _ _ _ _ _ => True) (fun _ U o U' => ∃ v L, o = .returned v ∧ Q_transferId_1 Z a1 h0 n0 v U'.heap L ∧ FrameEnd U o U' L ({ frames := 0, cells := 0, slots := 0, locals := 0 } : Room).cells ({ frames := 0, cells := 0, slots := 0, locals := 0 } : Room).slots) := by
  refine MetFree.of_bodySF (plainFor_of_name pn_12) hisR ?_
  intro p e s m args below meth c s₁ Bd hml0 hP hK
  obtain ⟨rfl, hZ, hh⟩ := hP
  have hx := Bd.exec
  have hby := Bd.bytes
  have hml : c.maxLocals = 1 := hml0
  have hown : s.vm.findClass "com/example/disbursa/disbursa/rails/Outcome" = some m.cls := findClass_of_methodNamed Bd.named
  have hnm := (name_of_methodNamed Bd.named Bd.method).1
  have X0 : Stand p l e ({ frames := 0, cells := 0, slots := 0, locals := 0 } : Room) s m #[(.ref a1)] below meth c s₁ [] 0 0 := Stand.of_body Bd
  have e0 : s₁.heap = h0 := by rw [← hh, Bd.state]; rfl
  have N0 := Fr.nil n0
  have pre0 : ∀ t, Steps p.tables e below (s₁.setTop (mkF m 0 #[.val (.ref a1)] [])) t → Steps p.tables e below (s₁.setTop (entryFrame m #[(.ref a1)] 1)) t := fun t k => castTop (ef_12_R m a1) k
  obtain ⟨T1, X1, e1, st1⟩ := getF X0 hx hZ hown (host := "") (Or.inl (hwi hw 49 rfl)) Via.refl e0 F_a1_transferId (g := (mkF m 1 #[.val (.ref a1)] [(.ref a1)])) rfl rfl (hb hby d12_1)
  obtain ⟨fs, hr, hrun, hended, hW, hsame⟩ := X1.leave (v := some .null) (fun h => by rw [Bd.returns] at h; cases h)
  refine ⟨_, _, pre0 _ ?_, hrun, hended, _, _, rfl, ?_, ⟨_, rfl⟩, hW, hsame.mono (by decide) (by decide)⟩
  · show St p e below s₁ (mkF m 0 #[.val (.ref a1)] []) _
    refine XS.aloadN X0.here hx rfl (hb hby d12_0) rfl rfl ?_
    show St p e below s₁ (mkF m 1 #[.val (.ref a1)] [(.ref a1)]) _
    refine st1 _ ?_
    show St p e below T1 (mkF m 4 #[.val (.ref a1)] [.null]) _
    jvm_step X1.here [X1.here.top, hx, (hb hby d12_4), X1.method', Bd.returns, Value.isRef, FieldType.isReference]
    first | (intro acts; rw [hr _ acts rfl rfl rfl]) | rw [hr _ _ rfl rfl rfl]
    exact Steps.refl _
  · show Q_transferId_1 Z a1 h0 n0 _ T1.heap _
    rw [e1]
    exact ⟨rfl, N0, rfl⟩
theorem pd_IIII_Ljava_lang_String_69 : parseMethodDescriptor "(IIII)Ljava/lang/String;" = some ⟨[.int, .int, .int, .int], some (.object "java/lang/String")⟩ := by decide +kernel
theorem pd_Ljava_lang_String_Ljava_lang_String__V_559 : parseMethodDescriptor "(Ljava/lang/String;Ljava/lang/String;)V" = some ⟨[(.object "java/lang/String"), (.object "java/lang/String")], none⟩ := by decide +kernel
theorem pd_Z_171 : parseMethodDescriptor "()Z" = some ⟨[], some .boolean⟩ := by decide +kernel
theorem pd_Ljava_lang_String_777 : parseMethodDescriptor "()Ljava/lang/String;" = some ⟨[], some (.object "java/lang/String")⟩ := by decide +kernel
theorem pn_0 : plainName "com/example/disbursa/disbursa/rails/OutcomeSettledPinLaw" = true := by first | (simp [plainName, overriddenIn]; done) | decide +kernel
theorem ef_0_IIIIII (m : MethodId) (x0 : Int32) (x1 : Int32) (x2 : Int32) (x3 : Int32) (x4 : Int32) (x5 : Int32) : entryFrame m #[(.int x0), (.int x1), (.int x2), (.int x3), (.int x4), (.int x5)] maxLocals = mkF m 0 #[.val (.int x0), .val (.int x1), .val (.int x2), .val (.int x3), .val (.int x4), .val (.int x5), .unset, .unset, .unset, .unset, .unset, .unset] [] := by first | (simp [entryFrame, mkF, argsToLocals, Value.category, maxLocals]; done) | rfl
def Q_law (n0 : Nat) (v : Option Value) (L : List Loc) : Prop := v = some (.int 1) ∧ Fr n0 L
set_option maxRecDepth 65536 in
set_option maxHeartbeats 40000000 in
theorem rm_law_00 (l : Launch) (Z : State) (a0 : Array Value) (hw : ∀ d ∈ tables_1, d.before a0 Z = true) (hEL : EW Z a0 consts_1) (ws : List Jvm.Cond) (p1 : Int32) (p2 : Int32) (p3 : Int32) (p4 : Int32) (p5 : Int32) (p6 : Int32) (w_COMPACT_STRINGS : Int32) (h0 : Heap) (n0 : Nat) (Z0 : n0 ≤ h0.size) (hr_ : (p1 &&& (2 : Int32)) = (0 : Int32)) (S_COMPACT_STRINGS : Sta Z Z.heap "java/lang/String" "COMPACT_STRINGS" "Z" (.int w_COMPACT_STRINGS)) (hcs : ¬ (w_COMPACT_STRINGS = (0 : Int32))) (O0 : Old Z n0 h0) (hi : (p1 &&& (1 : Int32)) = (0 : Int32)) :
    MetFree l x (head1 (Jvm.Cond.code x code maxLocals ret :: ws) room_1) (fun a U => a = #[(.int p1), (.int p2), (.int p3), (.int p4), (.int p5), (.int p6)] ∧ Z.Warmed39 U.vm ∧ U.heap = h0 ∧ CHv Z consts_1 U.vm h0) (fun _ _ _ _ _ => True) (fun _ U o U' => ∃ v L, o = .returned v ∧ Q_law n0 v L ∧ CHr Z consts_1 U.vm U.heap U'.vm U'.heap ∧ ReturnedEndW U o U' L room_1.cells room_1.slots) := by
  refine MetFree.of_bodySF (plainFor_of_name pn_0) hisR ?_
  intro p e s m args below meth c s₁ Bd hml0 hP hK
  obtain ⟨rfl, hZ, hh, H0c⟩ := hP
  have hx := Bd.exec
  have hby := Bd.bytes
  have hml : c.maxLocals = 12 := hml0
  have hown : s.vm.findClass "com/example/disbursa/disbursa/rails/OutcomeSettledPinLaw" = some m.cls := findClass_of_methodNamed Bd.named
  have hnm := (name_of_methodNamed Bd.named Bd.method).1
  have X0 : Stand p l e room_1 (s.setVm s.vm) m #[(.int p1), (.int p2), (.int p3), (.int p4), (.int p5), (.int p6)] below meth c s₁ [] 0 0 := Stand.of_body Bd
  have e0 : s₁.heap = h0 := by rw [← hh, Bd.state]; rfl
  have N0 := Fr.nil n0
  have pre0 : ∀ t, Steps p.tables e below (s₁.setTop (mkF m 0 #[.val (.int p1), .val (.int p2), .val (.int p3), .val (.int p4), .val (.int p5), .val (.int p6), .unset, .unset, .unset, .unset, .unset, .unset] [])) t → Steps p.tables e below (s₁.setTop (entryFrame m #[(.int p1), (.int p2), (.int p3), (.int p4), (.int p5), (.int p6)] maxLocals)) t := fun t k => castTop (ef_0_IIIIII m p1 p2 p3 p4 p5 p6) k
  have hS0 : s.Since s.vm 0 := (State.WarmedH.refl s).since 0
  have hk0 : 0 ≤ h0.size := Nat.zero_le _
  have C0c : CHr Z consts_1 s.vm h0 s.vm h0 := CHr.refl H0c
  obtain ⟨_, _, ⟨T1, L1, k1, n1⟩, -, X1, hS1, gr1, ⟨Lc1, hQ1, l1, y1, z1, C1⟩, st1⟩ := callSS X0 hx (y := (⟨"com/example/disbursa/disbursa/rails/OutcomeSettledPinLaw", "str", "(IIII)Ljava/lang/String;"⟩ : MethodName)) hown (mvT hZ (hwi hw 0 rfl)) (mvT hZ (hwi hw 1 rfl)) (mvT hZ (hwi hw 2 rfl)) (mvT hZ (hwi hw 3 rfl)) (by decide) (backOfSH (s := s) (vm0 := s.vm) (EL := consts_1) (W := 0) (rm_str_all l Z a0 hw hEL [] p5 p4 p3 p2 w_COMPACT_STRINGS h0 n0 Z0 O0 S_COMPACT_STRINGS hcs) hZ (hwi hw 3 rfl) (hwi hw 2 rfl) (by decide) (by decide) hEL H0c) (g := (mkF m 40 #[.val (.int p1), .val (.int p2), .val (.int p3), .val (.int p4), .val (.int p5), .val (.int p6), .val (.int 0), .val (.int 0), .unset, .unset, .unset, .unset] [(.int p2), (.int p3), (.int p4), (.int p5)])) rfl (by rw [hml]; rfl) (argsL := [(.int p5), (.int p4), (.int p3), (.int p2)]) (rest := []) (lenOf pd_IIII_Ljava_lang_String_69 rfl) rfl (by show 2 * 0 + _ ≤ _; exact Nat.le_of_eq rfl) (hb hby at_40) (fun _ _ => ⟨rfl, e0, (by decide : 0 + 6 ≤ _), (by decide : 0 + 12 ≤ _)⟩)
  dsimp only [Pt.U, Pt.locs, Pt.cells, Pt.slots] at X1 l1 y1 z1 st1 hQ1 hS1 gr1 C1
  subst l1 y1 z1
  obtain ⟨X1, hS1, hZ1, ho1⟩ := rebS hS0 (by rw [e0]; exact hk0) X1 hS1 gr1 hZ hown
  obtain ⟨r_1, rfl, N1q, Kc1, g1_0⟩ := hQ1
  have N1 := Fr.app N0 N1q
  have R2 := C1
  have CR2 := C0c.trans R2
  have sz3 : h0.size ≤ T1.heap.size := Kc1.1
  have Z3 : n0 ≤ T1.heap.size := Nat.le_trans Z0 sz3
  have O3 := O0.keep Kc1 all0
  have K3 : Keep h0 T1.heap [] := (Keep.refl h0 []).trans Kc1 (all0)
  have bn_r_1 : h0.size ≤ r_1 := g1_0
  obtain ⟨_, _, ⟨T4, L4, k4, n4⟩, -, X4, hS4, gr4, ⟨Lc4, hQ4, l4, y4, z4, C4⟩, st4⟩ := callSS X1 hx (y := (⟨"com/example/disbursa/disbursa/rails/OutcomeSettledPinLaw", "str", "(IIII)Ljava/lang/String;"⟩ : MethodName)) ho1 (mvT hZ1 (hwi hw 0 rfl)) (mvT hZ1 (hwi hw 1 rfl)) (mvT hZ1 (hwi hw 2 rfl)) (mvT hZ1 (hwi hw 3 rfl)) (by decide) (backOfSH (s := s) (vm0 := T1.vm) (EL := consts_1) (W := 0) (rm_str_all l Z a0 hw hEL [] p6 p2 p3 p4 w_COMPACT_STRINGS T1.heap n0 Z3 O3 S_COMPACT_STRINGS hcs) hZ1 (hwi hw 3 rfl) (hwi hw 2 rfl) (by decide) (by decide) hEL R2.1) (g := (mkF m 59 #[.val (.int p1), .val (.int p2), .val (.int p3), .val (.int p4), .val (.int p5), .val (.int p6), .val (.int 0), .val (.int 0), .val (.ref r_1), .unset, .unset, .unset] [(.int p4), (.int p3), (.int p2), (.int p6)])) rfl (by rw [hml]; rfl) (argsL := [(.int p6), (.int p2), (.int p3), (.int p4)]) (rest := []) (lenOf pd_IIII_Ljava_lang_String_69 rfl) rfl (by show 2 * 0 + _ ≤ _; exact Nat.le_of_eq rfl) (hb hby at_59) (fun _ _ => ⟨rfl, rfl, (by decide : 6 + 6 ≤ _), (by decide : 12 + 12 ≤ _)⟩)
  dsimp only [Pt.U, Pt.locs, Pt.cells, Pt.slots] at X4 l4 y4 z4 st4 hQ4 hS4 gr4 C4
  subst l4 y4 z4
  obtain ⟨X4, hS4, hZ4, ho4⟩ := rebS hS1 (Nat.le_refl T1.heap.size) X4 hS4 gr4 hZ1 ho1
  obtain ⟨r_4, rfl, N4q, Kc4, g4_0⟩ := hQ4
  have N4 := Fr.app N1 N4q
  have R5 := C4
  have CR5 := CR2.trans R5
  have sz6 : T1.heap.size ≤ T4.heap.size := Kc4.1
  have Z6 : n0 ≤ T4.heap.size := Nat.le_trans Z3 sz6
  have O6 := O3.keep Kc4 all0
  have K6 : Keep h0 T4.heap [] := K3.trans Kc4 (all0)
  have bn_r_4 : h0.size ≤ r_4 := Nat.le_trans K3.1 g4_0
  obtain ⟨T7, h7, X7, e7, E7, A7, D7, -, st7⟩ := newO X4 hx hZ4 ho4 (hwi hw 37 rfl) (hwi hw 38 rfl) (hwi hw 39 rfl) rfl (g := (mkF m 64 #[.val (.int p1), .val (.int p2), .val (.int p3), .val (.int p4), .val (.int p5), .val (.int p6), .val (.int 0), .val (.int 0), .val (.ref r_1), .val (.ref r_4), .unset, .unset] [])) rfl (hb hby at_64) (by decide) (by decide)
  obtain ⟨b7, g7⟩ : ∃ z, z = T4.heap.size := ⟨_, rfl⟩
  rw [← g7] at A7 D7 st7
  have bn_b7 : h0.size ≤ b7 := Nat.le_trans K6.1 (Nat.le_of_eq g7.symm)
  have R8 := CHr.ext E7 R5.1
  have CR8 := CR5.trans R8
  have sz9 : T4.heap.size ≤ h7.size := E7.1
  have Z9 : n0 ≤ h7.size := Nat.le_trans Z6 sz9
  have hk9 := Nat.le_trans (Nat.le_refl T4.heap.size) sz9
  have O9 := O6.ext E7
  have K9 : Keep h0 h7 [] := K6.ext E7
  have F7_transferId : Fld Z h7 b7 "com/example/disbursa/disbursa/rails/Outcome" "transferId" "Ljava/lang/String;" .null := D7 (Or.inr (hwi hw 50 rfl)) (ty := (.object "java/lang/String")) (by decide)
  have F7_reason : Fld Z h7 b7 "com/example/disbursa/disbursa/rails/Outcome" "reason" "Ljava/lang/String;" .null := D7 (Or.inr (hwi hw 52 rfl)) (ty := (.object "java/lang/String")) (by decide)
  obtain ⟨_, _, ⟨T10, L10, k10, n10⟩, -, X10, ⟨Lc10, hQ10, l10, y10, z10⟩, st10⟩ := X7.specialBack hx (y := (⟨"com/example/disbursa/disbursa/rails/Outcome", "<init>", "(Ljava/lang/String;Ljava/lang/String;)V"⟩ : MethodName)) rfl ho4 (mvT hZ4 (hwi hw 40 rfl)) (mvT hZ4 (hwi hw 41 rfl)) (mvT hZ4 (hwi hw 42 rfl)) (by decide) (backOf (W := 1) (rm_oc_00 l Z a0 hw [] b7 r_1 r_4 .null .null h7 n0 Z9 A7 F7_transferId (Nat.le_trans Z0 bn_b7) O9 F7_reason) hZ4 (hwi hw 42 rfl) (hwi hw 39 rfl) (by decide) (by decide)) (g := (mkF m 72 #[.val (.int p1), .val (.int p2), .val (.int p3), .val (.int p4), .val (.int p5), .val (.int p6), .val (.int 0), .val (.int 0), .val (.ref r_1), .val (.ref r_4), .unset, .unset] [(.ref r_4), (.ref r_1), (.ref b7), (.ref b7)])) rfl (by rw [hml]; rfl) (Steps.refl _) (a := b7) (argsL := [(.ref r_1), (.ref r_4)]) (rest := [(.ref b7)]) (lenOf pd_Ljava_lang_String_Ljava_lang_String__V_559 rfl) rfl (by show 2 * 0 + _ ≤ _; exact Nat.le_of_eq rfl) (hb hby at_72) (fun _ _ => ⟨rfl, e7, (by decide : 13 + 0 ≤ _), (by decide : 26 + 0 ≤ _)⟩)
  dsimp only [Pt.U, Pt.locs, Pt.cells, Pt.slots] at X10 l10 y10 z10 st10 hQ10
  subst l10 y10 z10
  obtain ⟨rfl, N10q, Kc10, g10_0, g10_1, g10_2⟩ := hQ10
  have N10 := Fr.app N4 N10q
  have R11 := CHr.keep Kc10 (sfS (Safe.exa hZ4.alike A7 (by decide) (by decide)) sf0) R8.1
  have CR11 := CR8.trans R11
  have sz12 : h7.size ≤ T10.heap.size := Kc10.1
  have Z12 : n0 ≤ T10.heap.size := Nat.le_trans Z9 sz12
  have hk12 := Nat.le_trans hk9 sz12
  have O12 := O9.keep Kc10 (allS (Nat.le_trans Z0 bn_b7) all0)
  have K12 : Keep h0 T10.heap [] := K9.trans Kc10 (allS (Or.inr bn_b7) (all0))
  obtain ⟨cq13, kq13, q13a, q13b, q13c⟩ := isOf hZ4 rfl g10_0
  obtain ⟨_, _, ⟨T13, L13, k13, n13⟩, -, X13, ⟨Lc13, hQ13, l13, y13, z13⟩, st13⟩ := X10.virtualBack hx (y := (⟨"com/example/disbursa/disbursa/rails/Outcome", "settled", "()Z"⟩ : MethodName)) (z := (⟨"com/example/disbursa/disbursa/rails/Outcome", "settled", "()Z"⟩ : MethodName)) ho4 (mvT hZ4 (hwi hw 53 rfl)) (mvT hZ4 (hwi hw 54 rfl)) (notFace_of_selects (args := #[]) (mvT hZ4 (hwi hw 56 rfl))) (mvT hZ4 (hwi hw 56 rfl)) (mvT hZ4 (hwi hw 55 rfl)) (by decide) (backOf (W := 0) (rm_settled_0 l Z a0 hw [] b7 r_4 T10.heap n0 Z12 g10_2) hZ4 (hwi hw 57 rfl) (hwi hw 39 rfl) (by decide) (by decide)) q13a q13c (g := (mkF m 83 #[.val (.int p1), .val (.int p2), .val (.int p3), .val (.int p4), .val (.int p5), .val (.int p6), .val (.int 0), .val (.int 0), .val (.ref r_1), .val (.ref r_4), .val (.ref b7), .val (.int 0)] [(.ref b7)])) rfl (by rw [hml]; rfl) (Steps.refl _) (argsL := []) (rest := []) (lenOf pd_Z_171 rfl) rfl (by show 2 * 0 + _ ≤ _; exact Nat.le_of_eq rfl) (hb hby at_83) (fun _ _ => ⟨rfl, rfl, (by decide : 13 + 0 ≤ _), (by decide : 26 + 0 ≤ _)⟩)
  dsimp only [Pt.U, Pt.locs, Pt.cells, Pt.slots] at X13 l13 y13 z13 st13 hQ13
  subst l13 y13 z13
  obtain ⟨rfl, N13q, e13⟩ := hQ13
  have N13 := Fr.app N10 N13q
  obtain ⟨cq14, kq14, q14a, q14b, q14c⟩ := isOf hZ4 e13 g10_0
  obtain ⟨_, _, ⟨T14, L14, k14, n14⟩, -, X14, ⟨Lc14, hQ14, l14, y14, z14⟩, st14⟩ := X13.virtualBack hx (y := (⟨"com/example/disbursa/disbursa/rails/Outcome", "reason", "()Ljava/lang/String;"⟩ : MethodName)) (z := (⟨"com/example/disbursa/disbursa/rails/Outcome", "reason", "()Ljava/lang/String;"⟩ : MethodName)) ho4 (mvT hZ4 (hwi hw 58 rfl)) (mvT hZ4 (hwi hw 59 rfl)) (notFace_of_selects (args := #[]) (mvT hZ4 (hwi hw 61 rfl))) (mvT hZ4 (hwi hw 61 rfl)) (mvT hZ4 (hwi hw 60 rfl)) (by decide) (backOf (W := 0) (rm_reason_0 l Z a0 hw [] b7 r_4 T10.heap n0 Z12 g10_2) hZ4 (hwi hw 62 rfl) (hwi hw 39 rfl) (by decide) (by decide)) q14a q14c (g := (mkF m 93 #[.val (.int p1), .val (.int p2), .val (.int p3), .val (.int p4), .val (.int p5), .val (.int p6), .val (.int 0), .val (.int 0), .val (.ref r_1), .val (.ref r_4), .val (.ref b7), .val (.int 0)] [(.ref b7)])) rfl (by rw [hml]; rfl) (Steps.refl _) (argsL := []) (rest := []) (lenOf pd_Ljava_lang_String_777 rfl) rfl (by show 2 * 0 + _ ≤ _; exact Nat.le_of_eq rfl) (hb hby at_93) (fun _ _ => ⟨rfl, e13, (by decide : 13 + 0 ≤ _), (by decide : 26 + 0 ≤ _)⟩)
  dsimp only [Pt.U, Pt.locs, Pt.cells, Pt.slots] at X14 l14 y14 z14 st14 hQ14
  subst l14 y14 z14
  obtain ⟨rfl, N14q, e14⟩ := hQ14
  have N14 := Fr.app N13 N14q
  obtain ⟨cq15, kq15, q15a, q15b, q15c⟩ := isOf hZ4 e14 g10_0
  obtain ⟨_, _, ⟨T15, L15, k15, n15⟩, -, X15, ⟨Lc15, hQ15, l15, y15, z15⟩, st15⟩ := X14.virtualBack hx (y := (⟨"com/example/disbursa/disbursa/rails/Outcome", "transferId", "()Ljava/lang/String;"⟩ : MethodName)) (z := (⟨"com/example/disbursa/disbursa/rails/Outcome", "transferId", "()Ljava/lang/String;"⟩ : MethodName)) ho4 (mvT hZ4 (hwi hw 63 rfl)) (mvT hZ4 (hwi hw 64 rfl)) (notFace_of_selects (args := #[]) (mvT hZ4 (hwi hw 66 rfl))) (mvT hZ4 (hwi hw 66 rfl)) (mvT hZ4 (hwi hw 65 rfl)) (by decide) (backOf (W := 0) (rm_transferId_0 l Z a0 hw [] b7 r_1 T10.heap n0 Z12 g10_1) hZ4 (hwi hw 67 rfl) (hwi hw 39 rfl) (by decide) (by decide)) q15a q15c (g := (mkF m 103 #[.val (.int p1), .val (.int p2), .val (.int p3), .val (.int p4), .val (.int p5), .val (.int p6), .val (.int 0), .val (.int 0), .val (.ref r_1), .val (.ref r_4), .val (.ref b7), .val (.int 0)] [(.ref b7)])) rfl (by rw [hml]; rfl) (Steps.refl _) (argsL := []) (rest := []) (lenOf pd_Ljava_lang_String_777 rfl) rfl (by show 2 * 0 + _ ≤ _; exact Nat.le_of_eq rfl) (hb hby at_103) (fun _ _ => ⟨rfl, e14, (by decide : 13 + 0 ≤ _), (by decide : 26 + 0 ≤ _)⟩)
  dsimp only [Pt.U, Pt.locs, Pt.cells, Pt.slots] at X15 l15 y15 z15 st15 hQ15
  subst l15 y15 z15
  obtain ⟨rfl, N15q, e15⟩ := hQ15
  have N15 := Fr.app N14 N15q
  have CRe := CR11.trans (CHv.at X15 hZ4 hEL R11.1)
  obtain ⟨fs, hr, hrun, hended, hRE⟩ := X15.leaveW hS4 (by rw [e15]; exact hk12) (v := some (.int 1)) (fun h => by rw [Bd.returns] at h; cases h)
  refine ⟨_, _, pre0 _ ?_, hrun, hended, _, _, rfl, ?_, ?_, ⟨hRE.1, hRE.2.1, hRE.2.2.1, hRE.2.2.2.mono (by decide) (by decide)⟩⟩
  · show St p e below s₁ (mkF m 0 #[.val (.int p1), .val (.int p2), .val (.int p3), .val (.int p4), .val (.int p5), .val (.int p6), .unset, .unset, .unset, .unset, .unset, .unset] []) _
    refine XS.iloadN X0.here hx rfl (hb hby at_0) rfl ?_
    show St p e below s₁ (mkF m 1 #[.val (.int p1), .val (.int p2), .val (.int p3), .val (.int p4), .val (.int p5), .val (.int p6), .unset, .unset, .unset, .unset, .unset, .unset] [(.int p1)]) _
    refine XS.iconst X0.here hx rfl (hb hby at_1) ?_
    show St p e below s₁ (mkF m 2 #[.val (.int p1), .val (.int p2), .val (.int p3), .val (.int p4), .val (.int p5), .val (.int p6), .unset, .unset, .unset, .unset, .unset, .unset] [(.int 1), (.int p1)]) _
    refine XS.iand X0.here hx rfl (hb hby at_2) rfl ?_
    show St p e below s₁ (mkF m 3 #[.val (.int p1), .val (.int p2), .val (.int p3), .val (.int p4), .val (.int p5), .val (.int p6), .unset, .unset, .unset, .unset, .unset, .unset] [(.int (p1 &&& (1 : Int32)))]) _
    rw [hi]
    show St p e below s₁ (mkF m 3 #[.val (.int p1), .val (.int p2), .val (.int p3), .val (.int p4), .val (.int p5), .val (.int p6), .unset, .unset, .unset, .unset, .unset, .unset] [(.int 0)]) _
    refine XS.ifYes X0.here hx rfl (pc0 := 3) (pc' := 10) rfl (hb hby at_3) rfl ((if0 _ _).trans (teq (by decide : (0 : Int32) = (0 : Int32))).1) (by decide) (by decide) ?_
    show St p e below s₁ (mkF m 10 #[.val (.int p1), .val (.int p2), .val (.int p3), .val (.int p4), .val (.int p5), .val (.int p6), .unset, .unset, .unset, .unset, .unset, .unset] []) _
    refine XS.iconst X0.here hx rfl (hb hby at_10) ?_
    show St p e below s₁ (mkF m 11 #[.val (.int p1), .val (.int p2), .val (.int p3), .val (.int p4), .val (.int p5), .val (.int p6), .unset, .unset, .unset, .unset, .unset, .unset] [(.int 0)]) _
    refine XS.istore X0.here hx rfl (hb hby at_11) rfl (l' := #[.val (.int p1), .val (.int p2), .val (.int p3), .val (.int p4), .val (.int p5), .val (.int p6), .val (.int 0), .unset, .unset, .unset, .unset, .unset]) rfl ?_
    show St p e below s₁ (mkF m 13 #[.val (.int p1), .val (.int p2), .val (.int p3), .val (.int p4), .val (.int p5), .val (.int p6), .val (.int 0), .unset, .unset, .unset, .unset, .unset] []) _
    refine XS.iloadN X0.here hx rfl (hb hby at_13) rfl ?_
    show St p e below s₁ (mkF m 14 #[.val (.int p1), .val (.int p2), .val (.int p3), .val (.int p4), .val (.int p5), .val (.int p6), .val (.int 0), .unset, .unset, .unset, .unset, .unset] [(.int p1)]) _
    refine XS.iconst X0.here hx rfl (hb hby at_14) ?_
    show St p e below s₁ (mkF m 15 #[.val (.int p1), .val (.int p2), .val (.int p3), .val (.int p4), .val (.int p5), .val (.int p6), .val (.int 0), .unset, .unset, .unset, .unset, .unset] [(.int 2), (.int p1)]) _
    refine XS.iand X0.here hx rfl (hb hby at_15) rfl ?_
    show St p e below s₁ (mkF m 16 #[.val (.int p1), .val (.int p2), .val (.int p3), .val (.int p4), .val (.int p5), .val (.int p6), .val (.int 0), .unset, .unset, .unset, .unset, .unset] [(.int (p1 &&& (2 : Int32)))]) _
    refine XS.ifYes X0.here hx rfl (pc0 := 16) (pc' := 23) rfl (hb hby at_16) rfl ((if0 _ _).trans (teq hr_).1) (by decide) (by decide) ?_
    show St p e below s₁ (mkF m 23 #[.val (.int p1), .val (.int p2), .val (.int p3), .val (.int p4), .val (.int p5), .val (.int p6), .val (.int 0), .unset, .unset, .unset, .unset, .unset] []) _
    refine XS.iconst X0.here hx rfl (hb hby at_23) ?_
    show St p e below s₁ (mkF m 24 #[.val (.int p1), .val (.int p2), .val (.int p3), .val (.int p4), .val (.int p5), .val (.int p6), .val (.int 0), .unset, .unset, .unset, .unset, .unset] [(.int 0)]) _
    refine XS.istore X0.here hx rfl (hb hby at_24) rfl (l' := #[.val (.int p1), .val (.int p2), .val (.int p3), .val (.int p4), .val (.int p5), .val (.int p6), .val (.int 0), .val (.int 0), .unset, .unset, .unset, .unset]) rfl ?_
    show St p e below s₁ (mkF m 26 #[.val (.int p1), .val (.int p2), .val (.int p3), .val (.int p4), .val (.int p5), .val (.int p6), .val (.int 0), .val (.int 0), .unset, .unset, .unset, .unset] []) _
    refine XS.iload X0.here hx rfl (hb hby at_26) rfl ?_
    show St p e below s₁ (mkF m 28 #[.val (.int p1), .val (.int p2), .val (.int p3), .val (.int p4), .val (.int p5), .val (.int p6), .val (.int 0), .val (.int 0), .unset, .unset, .unset, .unset] [(.int 0)]) _
    refine XS.ifYes X0.here hx rfl (pc0 := 28) (pc' := 35) rfl (hb hby at_28) rfl ((if0 _ _).trans (teq (by decide : (0 : Int32) = (0 : Int32))).1) (by decide) (by decide) ?_
    show St p e below s₁ (mkF m 35 #[.val (.int p1), .val (.int p2), .val (.int p3), .val (.int p4), .val (.int p5), .val (.int p6), .val (.int 0), .val (.int 0), .unset, .unset, .unset, .unset] []) _
    refine XS.iload X0.here hx rfl (hb hby at_35) rfl ?_
    show St p e below s₁ (mkF m 37 #[.val (.int p1), .val (.int p2), .val (.int p3), .val (.int p4), .val (.int p5), .val (.int p6), .val (.int 0), .val (.int 0), .unset, .unset, .unset, .unset] [(.int p5)]) _
    refine XS.iloadN X0.here hx rfl (hb hby at_37) rfl ?_
    show St p e below s₁ (mkF m 38 #[.val (.int p1), .val (.int p2), .val (.int p3), .val (.int p4), .val (.int p5), .val (.int p6), .val (.int 0), .val (.int 0), .unset, .unset, .unset, .unset] [(.int p4), (.int p5)]) _
    refine XS.iloadN X0.here hx rfl (hb hby at_38) rfl ?_
    show St p e below s₁ (mkF m 39 #[.val (.int p1), .val (.int p2), .val (.int p3), .val (.int p4), .val (.int p5), .val (.int p6), .val (.int 0), .val (.int 0), .unset, .unset, .unset, .unset] [(.int p3), (.int p4), (.int p5)]) _
    refine XS.iloadN X0.here hx rfl (hb hby at_39) rfl ?_
    show St p e below s₁ (mkF m 40 #[.val (.int p1), .val (.int p2), .val (.int p3), .val (.int p4), .val (.int p5), .val (.int p6), .val (.int 0), .val (.int 0), .unset, .unset, .unset, .unset] [(.int p2), (.int p3), (.int p4), (.int p5)]) _
    refine st1.trans ?_
    show St p e below T1 (mkF m 43 #[.val (.int p1), .val (.int p2), .val (.int p3), .val (.int p4), .val (.int p5), .val (.int p6), .val (.int 0), .val (.int 0), .unset, .unset, .unset, .unset] [(.ref r_1)]) _
    refine XS.astore X1.here hx rfl (hb hby at_43) rfl rfl (l' := #[.val (.int p1), .val (.int p2), .val (.int p3), .val (.int p4), .val (.int p5), .val (.int p6), .val (.int 0), .val (.int 0), .val (.ref r_1), .unset, .unset, .unset]) rfl ?_
    show St p e below T1 (mkF m 45 #[.val (.int p1), .val (.int p2), .val (.int p3), .val (.int p4), .val (.int p5), .val (.int p6), .val (.int 0), .val (.int 0), .val (.ref r_1), .unset, .unset, .unset] []) _
    refine XS.iload X1.here hx rfl (hb hby at_45) rfl ?_
    show St p e below T1 (mkF m 47 #[.val (.int p1), .val (.int p2), .val (.int p3), .val (.int p4), .val (.int p5), .val (.int p6), .val (.int 0), .val (.int 0), .val (.ref r_1), .unset, .unset, .unset] [(.int 0)]) _
    refine XS.ifYes X1.here hx rfl (pc0 := 47) (pc' := 54) rfl (hb hby at_47) rfl ((if0 _ _).trans (teq (by decide : (0 : Int32) = (0 : Int32))).1) (by decide) (by decide) ?_
    show St p e below T1 (mkF m 54 #[.val (.int p1), .val (.int p2), .val (.int p3), .val (.int p4), .val (.int p5), .val (.int p6), .val (.int 0), .val (.int 0), .val (.ref r_1), .unset, .unset, .unset] []) _
    refine XS.iload X1.here hx rfl (hb hby at_54) rfl ?_
    show St p e below T1 (mkF m 56 #[.val (.int p1), .val (.int p2), .val (.int p3), .val (.int p4), .val (.int p5), .val (.int p6), .val (.int 0), .val (.int 0), .val (.ref r_1), .unset, .unset, .unset] [(.int p6)]) _
    refine XS.iloadN X1.here hx rfl (hb hby at_56) rfl ?_
    show St p e below T1 (mkF m 57 #[.val (.int p1), .val (.int p2), .val (.int p3), .val (.int p4), .val (.int p5), .val (.int p6), .val (.int 0), .val (.int 0), .val (.ref r_1), .unset, .unset, .unset] [(.int p2), (.int p6)]) _
    refine XS.iloadN X1.here hx rfl (hb hby at_57) rfl ?_
    show St p e below T1 (mkF m 58 #[.val (.int p1), .val (.int p2), .val (.int p3), .val (.int p4), .val (.int p5), .val (.int p6), .val (.int 0), .val (.int 0), .val (.ref r_1), .unset, .unset, .unset] [(.int p3), (.int p2), (.int p6)]) _
    refine XS.iloadN X1.here hx rfl (hb hby at_58) rfl ?_
    show St p e below T1 (mkF m 59 #[.val (.int p1), .val (.int p2), .val (.int p3), .val (.int p4), .val (.int p5), .val (.int p6), .val (.int 0), .val (.int 0), .val (.ref r_1), .unset, .unset, .unset] [(.int p4), (.int p3), (.int p2), (.int p6)]) _
    refine st4.trans ?_
    show St p e below T4 (mkF m 62 #[.val (.int p1), .val (.int p2), .val (.int p3), .val (.int p4), .val (.int p5), .val (.int p6), .val (.int 0), .val (.int 0), .val (.ref r_1), .unset, .unset, .unset] [(.ref r_4)]) _
    refine XS.astore X4.here hx rfl (hb hby at_62) rfl rfl (l' := #[.val (.int p1), .val (.int p2), .val (.int p3), .val (.int p4), .val (.int p5), .val (.int p6), .val (.int 0), .val (.int 0), .val (.ref r_1), .val (.ref r_4), .unset, .unset]) rfl ?_
    show St p e below T4 (mkF m 64 #[.val (.int p1), .val (.int p2), .val (.int p3), .val (.int p4), .val (.int p5), .val (.int p6), .val (.int 0), .val (.int 0), .val (.ref r_1), .val (.ref r_4), .unset, .unset] []) _
    refine st7 _ ?_
    show St p e below T7 (mkF m 67 #[.val (.int p1), .val (.int p2), .val (.int p3), .val (.int p4), .val (.int p5), .val (.int p6), .val (.int 0), .val (.int 0), .val (.ref r_1), .val (.ref r_4), .unset, .unset] [(.ref b7)]) _
    refine XS.dup X7.here hx rfl (hb hby at_67) rfl rfl ?_
    show St p e below T7 (mkF m 68 #[.val (.int p1), .val (.int p2), .val (.int p3), .val (.int p4), .val (.int p5), .val (.int p6), .val (.int 0), .val (.int 0), .val (.ref r_1), .val (.ref r_4), .unset, .unset] [(.ref b7), (.ref b7)]) _
    refine XS.aload X7.here hx rfl (hb hby at_68) rfl rfl ?_
    show St p e below T7 (mkF m 70 #[.val (.int p1), .val (.int p2), .val (.int p3), .val (.int p4), .val (.int p5), .val (.int p6), .val (.int 0), .val (.int 0), .val (.ref r_1), .val (.ref r_4), .unset, .unset] [(.ref r_1), (.ref b7), (.ref b7)]) _
    refine XS.aload X7.here hx rfl (hb hby at_70) rfl rfl ?_
    show St p e below T7 (mkF m 72 #[.val (.int p1), .val (.int p2), .val (.int p3), .val (.int p4), .val (.int p5), .val (.int p6), .val (.int 0), .val (.int 0), .val (.ref r_1), .val (.ref r_4), .unset, .unset] [(.ref r_4), (.ref r_1), (.ref b7), (.ref b7)]) _
    refine st10.trans ?_
    show St p e below T10 (mkF m 75 #[.val (.int p1), .val (.int p2), .val (.int p3), .val (.int p4), .val (.int p5), .val (.int p6), .val (.int 0), .val (.int 0), .val (.ref r_1), .val (.ref r_4), .unset, .unset] [(.ref b7)]) _
    refine XS.astore X10.here hx rfl (hb hby at_75) rfl rfl (l' := #[.val (.int p1), .val (.int p2), .val (.int p3), .val (.int p4), .val (.int p5), .val (.int p6), .val (.int 0), .val (.int 0), .val (.ref r_1), .val (.ref r_4), .val (.ref b7), .unset]) rfl ?_
    show St p e below T10 (mkF m 77 #[.val (.int p1), .val (.int p2), .val (.int p3), .val (.int p4), .val (.int p5), .val (.int p6), .val (.int 0), .val (.int 0), .val (.ref r_1), .val (.ref r_4), .val (.ref b7), .unset] []) _
    refine XS.iload X10.here hx rfl (hb hby at_77) rfl ?_
    show St p e below T10 (mkF m 79 #[.val (.int p1), .val (.int p2), .val (.int p3), .val (.int p4), .val (.int p5), .val (.int p6), .val (.int 0), .val (.int 0), .val (.ref r_1), .val (.ref r_4), .val (.ref b7), .unset] [(.int 0)]) _
    refine XS.istore X10.here hx rfl (hb hby at_79) rfl (l' := #[.val (.int p1), .val (.int p2), .val (.int p3), .val (.int p4), .val (.int p5), .val (.int p6), .val (.int 0), .val (.int 0), .val (.ref r_1), .val (.ref r_4), .val (.ref b7), .val (.int 0)]) rfl ?_
    show St p e below T10 (mkF m 81 #[.val (.int p1), .val (.int p2), .val (.int p3), .val (.int p4), .val (.int p5), .val (.int p6), .val (.int 0), .val (.int 0), .val (.ref r_1), .val (.ref r_4), .val (.ref b7), .val (.int 0)] []) _
    refine XS.aload X10.here hx rfl (hb hby at_81) rfl rfl ?_
    show St p e below T10 (mkF m 83 #[.val (.int p1), .val (.int p2), .val (.int p3), .val (.int p4), .val (.int p5), .val (.int p6), .val (.int 0), .val (.int 0), .val (.ref r_1), .val (.ref r_4), .val (.ref b7), .val (.int 0)] [(.ref b7)]) _
    refine st13.trans ?_
    show St p e below T13 (mkF m 86 #[.val (.int p1), .val (.int p2), .val (.int p3), .val (.int p4), .val (.int p5), .val (.int p6), .val (.int 0), .val (.int 0), .val (.ref r_1), .val (.ref r_4), .val (.ref b7), .val (.int 0)] [(.int 0)]) _
    refine XS.iload X13.here hx rfl (hb hby at_86) rfl ?_
    show St p e below T13 (mkF m 88 #[.val (.int p1), .val (.int p2), .val (.int p3), .val (.int p4), .val (.int p5), .val (.int p6), .val (.int 0), .val (.int 0), .val (.ref r_1), .val (.ref r_4), .val (.ref b7), .val (.int 0)] [(.int 0), (.int 0)]) _
    refine XS.icmpNo X13.here hx rfl (hb hby at_88) rfl (teq (by decide : (0 : Int32) = (0 : Int32))).2 ?_
    show St p e below T13 (mkF m 91 #[.val (.int p1), .val (.int p2), .val (.int p3), .val (.int p4), .val (.int p5), .val (.int p6), .val (.int 0), .val (.int 0), .val (.ref r_1), .val (.ref r_4), .val (.ref b7), .val (.int 0)] []) _
    refine XS.aload X13.here hx rfl (hb hby at_91) rfl rfl ?_
    show St p e below T13 (mkF m 93 #[.val (.int p1), .val (.int p2), .val (.int p3), .val (.int p4), .val (.int p5), .val (.int p6), .val (.int 0), .val (.int 0), .val (.ref r_1), .val (.ref r_4), .val (.ref b7), .val (.int 0)] [(.ref b7)]) _
    refine st14.trans ?_
    show St p e below T14 (mkF m 96 #[.val (.int p1), .val (.int p2), .val (.int p3), .val (.int p4), .val (.int p5), .val (.int p6), .val (.int 0), .val (.int 0), .val (.ref r_1), .val (.ref r_4), .val (.ref b7), .val (.int 0)] [(.ref r_4)]) _
    refine XS.aload X14.here hx rfl (hb hby at_96) rfl rfl ?_
    show St p e below T14 (mkF m 98 #[.val (.int p1), .val (.int p2), .val (.int p3), .val (.int p4), .val (.int p5), .val (.int p6), .val (.int 0), .val (.int 0), .val (.ref r_1), .val (.ref r_4), .val (.ref b7), .val (.int 0)] [(.ref r_4), (.ref r_4)]) _
    refine Jvm.RoadKit.acmp (g := (mkF m 98 #[.val (.int p1), .val (.int p2), .val (.int p3), .val (.int p4), .val (.int p5), .val (.int p6), .val (.int 0), .val (.int 0), .val (.ref r_1), .val (.ref r_4), .val (.ref b7), .val (.int 0)] [(.ref r_4), (.ref r_4)])) X14 hx rfl rfl rfl (pc0 := 98) (pc' := 101) (same := true) rfl (hb hby at_98) rfl (decide_eq_true rfl) (by decide) (by decide) ?_
    show St p e below T14 (mkF m 101 #[.val (.int p1), .val (.int p2), .val (.int p3), .val (.int p4), .val (.int p5), .val (.int p6), .val (.int 0), .val (.int 0), .val (.ref r_1), .val (.ref r_4), .val (.ref b7), .val (.int 0)] []) _
    refine XS.aload X14.here hx rfl (hb hby at_101) rfl rfl ?_
    show St p e below T14 (mkF m 103 #[.val (.int p1), .val (.int p2), .val (.int p3), .val (.int p4), .val (.int p5), .val (.int p6), .val (.int 0), .val (.int 0), .val (.ref r_1), .val (.ref r_4), .val (.ref b7), .val (.int 0)] [(.ref b7)]) _
    refine st15.trans ?_
    show St p e below T15 (mkF m 106 #[.val (.int p1), .val (.int p2), .val (.int p3), .val (.int p4), .val (.int p5), .val (.int p6), .val (.int 0), .val (.int 0), .val (.ref r_1), .val (.ref r_4), .val (.ref b7), .val (.int 0)] [(.ref r_1)]) _
    refine XS.aload X15.here hx rfl (hb hby at_106) rfl rfl ?_
    show St p e below T15 (mkF m 108 #[.val (.int p1), .val (.int p2), .val (.int p3), .val (.int p4), .val (.int p5), .val (.int p6), .val (.int 0), .val (.int 0), .val (.ref r_1), .val (.ref r_4), .val (.ref b7), .val (.int 0)] [(.ref r_1), (.ref r_1)]) _
    refine Jvm.RoadKit.acmp (g := (mkF m 108 #[.val (.int p1), .val (.int p2), .val (.int p3), .val (.int p4), .val (.int p5), .val (.int p6), .val (.int 0), .val (.int 0), .val (.ref r_1), .val (.ref r_4), .val (.ref b7), .val (.int 0)] [(.ref r_1), (.ref r_1)])) X15 hx rfl rfl rfl (pc0 := 108) (pc' := 111) (same := true) rfl (hb hby at_108) rfl (decide_eq_true rfl) (by decide) (by decide) ?_
    show St p e below T15 (mkF m 111 #[.val (.int p1), .val (.int p2), .val (.int p3), .val (.int p4), .val (.int p5), .val (.int p6), .val (.int 0), .val (.int 0), .val (.ref r_1), .val (.ref r_4), .val (.ref b7), .val (.int 0)] []) _
    refine XS.iconst X15.here hx rfl (hb hby at_111) ?_
    show St p e below T15 (mkF m 112 #[.val (.int p1), .val (.int p2), .val (.int p3), .val (.int p4), .val (.int p5), .val (.int p6), .val (.int 0), .val (.int 0), .val (.ref r_1), .val (.ref r_4), .val (.ref b7), .val (.int 0)] [(.int 1)]) _
    refine XS.goto X15.here hx rfl (pc0 := 112) (pc' := 116) rfl (hb hby at_112) (by decide) (by decide) ?_
    show St p e below T15 (mkF m 116 #[.val (.int p1), .val (.int p2), .val (.int p3), .val (.int p4), .val (.int p5), .val (.int p6), .val (.int 0), .val (.int 0), .val (.ref r_1), .val (.ref r_4), .val (.ref b7), .val (.int 0)] [(.int 1)]) _
    exact retN X15 hx (t := .boolean) Bd.returns (by simp) (hb hby at_116) hr
  · exact ⟨rfl, N15⟩
  · show CHr Z consts_1 s.vm s.heap T15.vm T15.heap
    rw [hh, e15]
    exact CRe
set_option maxRecDepth 65536 in
set_option maxHeartbeats 40000000 in
theorem rm_law_01 (l : Launch) (Z : State) (a0 : Array Value) (hw : ∀ d ∈ tables_1, d.before a0 Z = true) (hEL : EW Z a0 consts_1) (ws : List Jvm.Cond) (p1 : Int32) (p2 : Int32) (p3 : Int32) (p4 : Int32) (p5 : Int32) (p6 : Int32) (w_COMPACT_STRINGS : Int32) (h0 : Heap) (n0 : Nat) (Z0 : n0 ≤ h0.size) (hr_ : ¬ ((p1 &&& (2 : Int32)) = (0 : Int32))) (S_COMPACT_STRINGS : Sta Z Z.heap "java/lang/String" "COMPACT_STRINGS" "Z" (.int w_COMPACT_STRINGS)) (hcs : ¬ (w_COMPACT_STRINGS = (0 : Int32))) (O0 : Old Z n0 h0) (hi : (p1 &&& (1 : Int32)) = (0 : Int32)) :
    MetFree l x (head1 (Jvm.Cond.code x code maxLocals ret :: ws) room_1) (fun a U => a = #[(.int p1), (.int p2), (.int p3), (.int p4), (.int p5), (.int p6)] ∧ Z.Warmed39 U.vm ∧ U.heap = h0 ∧ CHv Z consts_1 U.vm h0) (fun _ _ _ _ _ => True) (fun _ U o U' => ∃ v L, o = .returned v ∧ Q_law n0 v L ∧ CHr Z consts_1 U.vm U.heap U'.vm U'.heap ∧ ReturnedEndW U o U' L room_1.cells room_1.slots) := by
  refine MetFree.of_bodySF (plainFor_of_name pn_0) hisR ?_
  intro p e s m args below meth c s₁ Bd hml0 hP hK
  obtain ⟨rfl, hZ, hh, H0c⟩ := hP
  have hx := Bd.exec
  have hby := Bd.bytes
  have hml : c.maxLocals = 12 := hml0
  have hown : s.vm.findClass "com/example/disbursa/disbursa/rails/OutcomeSettledPinLaw" = some m.cls := findClass_of_methodNamed Bd.named
  have hnm := (name_of_methodNamed Bd.named Bd.method).1
  have X0 : Stand p l e room_1 (s.setVm s.vm) m #[(.int p1), (.int p2), (.int p3), (.int p4), (.int p5), (.int p6)] below meth c s₁ [] 0 0 := Stand.of_body Bd
  have e0 : s₁.heap = h0 := by rw [← hh, Bd.state]; rfl
  have N0 := Fr.nil n0
  have pre0 : ∀ t, Steps p.tables e below (s₁.setTop (mkF m 0 #[.val (.int p1), .val (.int p2), .val (.int p3), .val (.int p4), .val (.int p5), .val (.int p6), .unset, .unset, .unset, .unset, .unset, .unset] [])) t → Steps p.tables e below (s₁.setTop (entryFrame m #[(.int p1), (.int p2), (.int p3), (.int p4), (.int p5), (.int p6)] maxLocals)) t := fun t k => castTop (ef_0_IIIIII m p1 p2 p3 p4 p5 p6) k
  have hS0 : s.Since s.vm 0 := (State.WarmedH.refl s).since 0
  have hk0 : 0 ≤ h0.size := Nat.zero_le _
  have C0c : CHr Z consts_1 s.vm h0 s.vm h0 := CHr.refl H0c
  obtain ⟨_, _, ⟨T1, L1, k1, n1⟩, -, X1, hS1, gr1, ⟨Lc1, hQ1, l1, y1, z1, C1⟩, st1⟩ := callSS X0 hx (y := (⟨"com/example/disbursa/disbursa/rails/OutcomeSettledPinLaw", "str", "(IIII)Ljava/lang/String;"⟩ : MethodName)) hown (mvT hZ (hwi hw 0 rfl)) (mvT hZ (hwi hw 1 rfl)) (mvT hZ (hwi hw 2 rfl)) (mvT hZ (hwi hw 3 rfl)) (by decide) (backOfSH (s := s) (vm0 := s.vm) (EL := consts_1) (W := 0) (rm_str_all l Z a0 hw hEL [] p5 p4 p3 p2 w_COMPACT_STRINGS h0 n0 Z0 O0 S_COMPACT_STRINGS hcs) hZ (hwi hw 3 rfl) (hwi hw 2 rfl) (by decide) (by decide) hEL H0c) (g := (mkF m 40 #[.val (.int p1), .val (.int p2), .val (.int p3), .val (.int p4), .val (.int p5), .val (.int p6), .val (.int 0), .val (.int 1), .unset, .unset, .unset, .unset] [(.int p2), (.int p3), (.int p4), (.int p5)])) rfl (by rw [hml]; rfl) (argsL := [(.int p5), (.int p4), (.int p3), (.int p2)]) (rest := []) (lenOf pd_IIII_Ljava_lang_String_69 rfl) rfl (by show 2 * 0 + _ ≤ _; exact Nat.le_of_eq rfl) (hb hby at_40) (fun _ _ => ⟨rfl, e0, (by decide : 0 + 6 ≤ _), (by decide : 0 + 12 ≤ _)⟩)
  dsimp only [Pt.U, Pt.locs, Pt.cells, Pt.slots] at X1 l1 y1 z1 st1 hQ1 hS1 gr1 C1
  subst l1 y1 z1
  obtain ⟨X1, hS1, hZ1, ho1⟩ := rebS hS0 (by rw [e0]; exact hk0) X1 hS1 gr1 hZ hown
  obtain ⟨r_1, rfl, N1q, Kc1, g1_0⟩ := hQ1
  have N1 := Fr.app N0 N1q
  have R2 := C1
  have CR2 := C0c.trans R2
  have sz3 : h0.size ≤ T1.heap.size := Kc1.1
  have Z3 : n0 ≤ T1.heap.size := Nat.le_trans Z0 sz3
  have O3 := O0.keep Kc1 all0
  have K3 : Keep h0 T1.heap [] := (Keep.refl h0 []).trans Kc1 (all0)
  have bn_r_1 : h0.size ≤ r_1 := g1_0
  obtain ⟨T4, h4, X4, e4, E4, A4, D4, -, st4⟩ := newO X1 hx hZ1 ho1 (hwi hw 37 rfl) (hwi hw 38 rfl) (hwi hw 39 rfl) rfl (g := (mkF m 64 #[.val (.int p1), .val (.int p2), .val (.int p3), .val (.int p4), .val (.int p5), .val (.int p6), .val (.int 0), .val (.int 1), .val (.ref r_1), .val .null, .unset, .unset] [])) rfl (hb hby at_64) (by decide) (by decide)
  obtain ⟨b4, g4⟩ : ∃ z, z = T1.heap.size := ⟨_, rfl⟩
  rw [← g4] at A4 D4 st4
  have bn_b4 : h0.size ≤ b4 := Nat.le_trans K3.1 (Nat.le_of_eq g4.symm)
  have R5 := CHr.ext E4 R2.1
  have CR5 := CR2.trans R5
  have sz6 : T1.heap.size ≤ h4.size := E4.1
  have Z6 : n0 ≤ h4.size := Nat.le_trans Z3 sz6
  have hk6 := Nat.le_trans (Nat.le_refl T1.heap.size) sz6
  have O6 := O3.ext E4
  have K6 : Keep h0 h4 [] := K3.ext E4
  have F4_transferId : Fld Z h4 b4 "com/example/disbursa/disbursa/rails/Outcome" "transferId" "Ljava/lang/String;" .null := D4 (Or.inr (hwi hw 50 rfl)) (ty := (.object "java/lang/String")) (by decide)
  have F4_reason : Fld Z h4 b4 "com/example/disbursa/disbursa/rails/Outcome" "reason" "Ljava/lang/String;" .null := D4 (Or.inr (hwi hw 52 rfl)) (ty := (.object "java/lang/String")) (by decide)
  obtain ⟨_, _, ⟨T7, L7, k7, n7⟩, -, X7, ⟨Lc7, hQ7, l7, y7, z7⟩, st7⟩ := X4.specialBack hx (y := (⟨"com/example/disbursa/disbursa/rails/Outcome", "<init>", "(Ljava/lang/String;Ljava/lang/String;)V"⟩ : MethodName)) rfl ho1 (mvT hZ1 (hwi hw 40 rfl)) (mvT hZ1 (hwi hw 41 rfl)) (mvT hZ1 (hwi hw 42 rfl)) (by decide) (backOf (W := 1) (rm_oc_01 l Z a0 hw [] b4 r_1 .null .null h4 n0 Z6 A4 F4_transferId (Nat.le_trans Z0 bn_b4) O6 F4_reason) hZ1 (hwi hw 42 rfl) (hwi hw 39 rfl) (by decide) (by decide)) (g := (mkF m 72 #[.val (.int p1), .val (.int p2), .val (.int p3), .val (.int p4), .val (.int p5), .val (.int p6), .val (.int 0), .val (.int 1), .val (.ref r_1), .val .null, .unset, .unset] [.null, (.ref r_1), (.ref b4), (.ref b4)])) rfl (by rw [hml]; rfl) (Steps.refl _) (a := b4) (argsL := [(.ref r_1), .null]) (rest := [(.ref b4)]) (lenOf pd_Ljava_lang_String_Ljava_lang_String__V_559 rfl) rfl (by show 2 * 0 + _ ≤ _; exact Nat.le_of_eq rfl) (hb hby at_72) (fun _ _ => ⟨rfl, e4, (by decide : 7 + 0 ≤ _), (by decide : 14 + 0 ≤ _)⟩)
  dsimp only [Pt.U, Pt.locs, Pt.cells, Pt.slots] at X7 l7 y7 z7 st7 hQ7
  subst l7 y7 z7
  obtain ⟨rfl, N7q, Kc7, g7_0, g7_1, g7_2⟩ := hQ7
  have N7 := Fr.app N1 N7q
  have R8 := CHr.keep Kc7 (sfS (Safe.exa hZ1.alike A4 (by decide) (by decide)) sf0) R5.1
  have CR8 := CR5.trans R8
  have sz9 : h4.size ≤ T7.heap.size := Kc7.1
  have Z9 : n0 ≤ T7.heap.size := Nat.le_trans Z6 sz9
  have hk9 := Nat.le_trans hk6 sz9
  have O9 := O6.keep Kc7 (allS (Nat.le_trans Z0 bn_b4) all0)
  have K9 : Keep h0 T7.heap [] := K6.trans Kc7 (allS (Or.inr bn_b4) (all0))
  obtain ⟨cq10, kq10, q10a, q10b, q10c⟩ := isOf hZ1 rfl g7_0
  obtain ⟨_, _, ⟨T10, L10, k10, n10⟩, -, X10, ⟨Lc10, hQ10, l10, y10, z10⟩, st10⟩ := X7.virtualBack hx (y := (⟨"com/example/disbursa/disbursa/rails/Outcome", "settled", "()Z"⟩ : MethodName)) (z := (⟨"com/example/disbursa/disbursa/rails/Outcome", "settled", "()Z"⟩ : MethodName)) ho1 (mvT hZ1 (hwi hw 53 rfl)) (mvT hZ1 (hwi hw 54 rfl)) (notFace_of_selects (args := #[]) (mvT hZ1 (hwi hw 56 rfl))) (mvT hZ1 (hwi hw 56 rfl)) (mvT hZ1 (hwi hw 55 rfl)) (by decide) (backOf (W := 0) (rm_settled_1 l Z a0 hw [] b4 T7.heap n0 Z9 g7_2) hZ1 (hwi hw 57 rfl) (hwi hw 39 rfl) (by decide) (by decide)) q10a q10c (g := (mkF m 83 #[.val (.int p1), .val (.int p2), .val (.int p3), .val (.int p4), .val (.int p5), .val (.int p6), .val (.int 0), .val (.int 1), .val (.ref r_1), .val .null, .val (.ref b4), .val (.int 1)] [(.ref b4)])) rfl (by rw [hml]; rfl) (Steps.refl _) (argsL := []) (rest := []) (lenOf pd_Z_171 rfl) rfl (by show 2 * 0 + _ ≤ _; exact Nat.le_of_eq rfl) (hb hby at_83) (fun _ _ => ⟨rfl, rfl, (by decide : 7 + 0 ≤ _), (by decide : 14 + 0 ≤ _)⟩)
  dsimp only [Pt.U, Pt.locs, Pt.cells, Pt.slots] at X10 l10 y10 z10 st10 hQ10
  subst l10 y10 z10
  obtain ⟨rfl, N10q, e10⟩ := hQ10
  have N10 := Fr.app N7 N10q
  obtain ⟨cq11, kq11, q11a, q11b, q11c⟩ := isOf hZ1 e10 g7_0
  obtain ⟨_, _, ⟨T11, L11, k11, n11⟩, -, X11, ⟨Lc11, hQ11, l11, y11, z11⟩, st11⟩ := X10.virtualBack hx (y := (⟨"com/example/disbursa/disbursa/rails/Outcome", "reason", "()Ljava/lang/String;"⟩ : MethodName)) (z := (⟨"com/example/disbursa/disbursa/rails/Outcome", "reason", "()Ljava/lang/String;"⟩ : MethodName)) ho1 (mvT hZ1 (hwi hw 58 rfl)) (mvT hZ1 (hwi hw 59 rfl)) (notFace_of_selects (args := #[]) (mvT hZ1 (hwi hw 61 rfl))) (mvT hZ1 (hwi hw 61 rfl)) (mvT hZ1 (hwi hw 60 rfl)) (by decide) (backOf (W := 0) (rm_reason_1 l Z a0 hw [] b4 T7.heap n0 Z9 g7_2) hZ1 (hwi hw 62 rfl) (hwi hw 39 rfl) (by decide) (by decide)) q11a q11c (g := (mkF m 93 #[.val (.int p1), .val (.int p2), .val (.int p3), .val (.int p4), .val (.int p5), .val (.int p6), .val (.int 0), .val (.int 1), .val (.ref r_1), .val .null, .val (.ref b4), .val (.int 1)] [(.ref b4)])) rfl (by rw [hml]; rfl) (Steps.refl _) (argsL := []) (rest := []) (lenOf pd_Ljava_lang_String_777 rfl) rfl (by show 2 * 0 + _ ≤ _; exact Nat.le_of_eq rfl) (hb hby at_93) (fun _ _ => ⟨rfl, e10, (by decide : 7 + 0 ≤ _), (by decide : 14 + 0 ≤ _)⟩)
  dsimp only [Pt.U, Pt.locs, Pt.cells, Pt.slots] at X11 l11 y11 z11 st11 hQ11
  subst l11 y11 z11
  obtain ⟨rfl, N11q, e11⟩ := hQ11
  have N11 := Fr.app N10 N11q
  obtain ⟨cq12, kq12, q12a, q12b, q12c⟩ := isOf hZ1 e11 g7_0
  obtain ⟨_, _, ⟨T12, L12, k12, n12⟩, -, X12, ⟨Lc12, hQ12, l12, y12, z12⟩, st12⟩ := X11.virtualBack hx (y := (⟨"com/example/disbursa/disbursa/rails/Outcome", "transferId", "()Ljava/lang/String;"⟩ : MethodName)) (z := (⟨"com/example/disbursa/disbursa/rails/Outcome", "transferId", "()Ljava/lang/String;"⟩ : MethodName)) ho1 (mvT hZ1 (hwi hw 63 rfl)) (mvT hZ1 (hwi hw 64 rfl)) (notFace_of_selects (args := #[]) (mvT hZ1 (hwi hw 66 rfl))) (mvT hZ1 (hwi hw 66 rfl)) (mvT hZ1 (hwi hw 65 rfl)) (by decide) (backOf (W := 0) (rm_transferId_0 l Z a0 hw [] b4 r_1 T7.heap n0 Z9 g7_1) hZ1 (hwi hw 67 rfl) (hwi hw 39 rfl) (by decide) (by decide)) q12a q12c (g := (mkF m 103 #[.val (.int p1), .val (.int p2), .val (.int p3), .val (.int p4), .val (.int p5), .val (.int p6), .val (.int 0), .val (.int 1), .val (.ref r_1), .val .null, .val (.ref b4), .val (.int 1)] [(.ref b4)])) rfl (by rw [hml]; rfl) (Steps.refl _) (argsL := []) (rest := []) (lenOf pd_Ljava_lang_String_777 rfl) rfl (by show 2 * 0 + _ ≤ _; exact Nat.le_of_eq rfl) (hb hby at_103) (fun _ _ => ⟨rfl, e11, (by decide : 7 + 0 ≤ _), (by decide : 14 + 0 ≤ _)⟩)
  dsimp only [Pt.U, Pt.locs, Pt.cells, Pt.slots] at X12 l12 y12 z12 st12 hQ12
  subst l12 y12 z12
  obtain ⟨rfl, N12q, e12⟩ := hQ12
  have N12 := Fr.app N11 N12q
  have CRe := CR8.trans (CHv.at X12 hZ1 hEL R8.1)
  obtain ⟨fs, hr, hrun, hended, hRE⟩ := X12.leaveW hS1 (by rw [e12]; exact hk9) (v := some (.int 1)) (fun h => by rw [Bd.returns] at h; cases h)
  refine ⟨_, _, pre0 _ ?_, hrun, hended, _, _, rfl, ?_, ?_, ⟨hRE.1, hRE.2.1, hRE.2.2.1, hRE.2.2.2.mono (by decide) (by decide)⟩⟩
  · show St p e below s₁ (mkF m 0 #[.val (.int p1), .val (.int p2), .val (.int p3), .val (.int p4), .val (.int p5), .val (.int p6), .unset, .unset, .unset, .unset, .unset, .unset] []) _
    refine XS.iloadN X0.here hx rfl (hb hby at_0) rfl ?_
    show St p e below s₁ (mkF m 1 #[.val (.int p1), .val (.int p2), .val (.int p3), .val (.int p4), .val (.int p5), .val (.int p6), .unset, .unset, .unset, .unset, .unset, .unset] [(.int p1)]) _
    refine XS.iconst X0.here hx rfl (hb hby at_1) ?_
    show St p e below s₁ (mkF m 2 #[.val (.int p1), .val (.int p2), .val (.int p3), .val (.int p4), .val (.int p5), .val (.int p6), .unset, .unset, .unset, .unset, .unset, .unset] [(.int 1), (.int p1)]) _
    refine XS.iand X0.here hx rfl (hb hby at_2) rfl ?_
    show St p e below s₁ (mkF m 3 #[.val (.int p1), .val (.int p2), .val (.int p3), .val (.int p4), .val (.int p5), .val (.int p6), .unset, .unset, .unset, .unset, .unset, .unset] [(.int (p1 &&& (1 : Int32)))]) _
    rw [hi]
    show St p e below s₁ (mkF m 3 #[.val (.int p1), .val (.int p2), .val (.int p3), .val (.int p4), .val (.int p5), .val (.int p6), .unset, .unset, .unset, .unset, .unset, .unset] [(.int 0)]) _
    refine XS.ifYes X0.here hx rfl (pc0 := 3) (pc' := 10) rfl (hb hby at_3) rfl ((if0 _ _).trans (teq (by decide : (0 : Int32) = (0 : Int32))).1) (by decide) (by decide) ?_
    show St p e below s₁ (mkF m 10 #[.val (.int p1), .val (.int p2), .val (.int p3), .val (.int p4), .val (.int p5), .val (.int p6), .unset, .unset, .unset, .unset, .unset, .unset] []) _
    refine XS.iconst X0.here hx rfl (hb hby at_10) ?_
    show St p e below s₁ (mkF m 11 #[.val (.int p1), .val (.int p2), .val (.int p3), .val (.int p4), .val (.int p5), .val (.int p6), .unset, .unset, .unset, .unset, .unset, .unset] [(.int 0)]) _
    refine XS.istore X0.here hx rfl (hb hby at_11) rfl (l' := #[.val (.int p1), .val (.int p2), .val (.int p3), .val (.int p4), .val (.int p5), .val (.int p6), .val (.int 0), .unset, .unset, .unset, .unset, .unset]) rfl ?_
    show St p e below s₁ (mkF m 13 #[.val (.int p1), .val (.int p2), .val (.int p3), .val (.int p4), .val (.int p5), .val (.int p6), .val (.int 0), .unset, .unset, .unset, .unset, .unset] []) _
    refine XS.iloadN X0.here hx rfl (hb hby at_13) rfl ?_
    show St p e below s₁ (mkF m 14 #[.val (.int p1), .val (.int p2), .val (.int p3), .val (.int p4), .val (.int p5), .val (.int p6), .val (.int 0), .unset, .unset, .unset, .unset, .unset] [(.int p1)]) _
    refine XS.iconst X0.here hx rfl (hb hby at_14) ?_
    show St p e below s₁ (mkF m 15 #[.val (.int p1), .val (.int p2), .val (.int p3), .val (.int p4), .val (.int p5), .val (.int p6), .val (.int 0), .unset, .unset, .unset, .unset, .unset] [(.int 2), (.int p1)]) _
    refine XS.iand X0.here hx rfl (hb hby at_15) rfl ?_
    show St p e below s₁ (mkF m 16 #[.val (.int p1), .val (.int p2), .val (.int p3), .val (.int p4), .val (.int p5), .val (.int p6), .val (.int 0), .unset, .unset, .unset, .unset, .unset] [(.int (p1 &&& (2 : Int32)))]) _
    refine XS.ifNo X0.here hx rfl (hb hby at_16) rfl ((if0 _ _).trans (feq hr_).1) ?_
    show St p e below s₁ (mkF m 19 #[.val (.int p1), .val (.int p2), .val (.int p3), .val (.int p4), .val (.int p5), .val (.int p6), .val (.int 0), .unset, .unset, .unset, .unset, .unset] []) _
    refine XS.iconst X0.here hx rfl (hb hby at_19) ?_
    show St p e below s₁ (mkF m 20 #[.val (.int p1), .val (.int p2), .val (.int p3), .val (.int p4), .val (.int p5), .val (.int p6), .val (.int 0), .unset, .unset, .unset, .unset, .unset] [(.int 1)]) _
    refine XS.goto X0.here hx rfl (pc0 := 20) (pc' := 24) rfl (hb hby at_20) (by decide) (by decide) ?_
    show St p e below s₁ (mkF m 24 #[.val (.int p1), .val (.int p2), .val (.int p3), .val (.int p4), .val (.int p5), .val (.int p6), .val (.int 0), .unset, .unset, .unset, .unset, .unset] [(.int 1)]) _
    refine XS.istore X0.here hx rfl (hb hby at_24) rfl (l' := #[.val (.int p1), .val (.int p2), .val (.int p3), .val (.int p4), .val (.int p5), .val (.int p6), .val (.int 0), .val (.int 1), .unset, .unset, .unset, .unset]) rfl ?_
    show St p e below s₁ (mkF m 26 #[.val (.int p1), .val (.int p2), .val (.int p3), .val (.int p4), .val (.int p5), .val (.int p6), .val (.int 0), .val (.int 1), .unset, .unset, .unset, .unset] []) _
    refine XS.iload X0.here hx rfl (hb hby at_26) rfl ?_
    show St p e below s₁ (mkF m 28 #[.val (.int p1), .val (.int p2), .val (.int p3), .val (.int p4), .val (.int p5), .val (.int p6), .val (.int 0), .val (.int 1), .unset, .unset, .unset, .unset] [(.int 0)]) _
    refine XS.ifYes X0.here hx rfl (pc0 := 28) (pc' := 35) rfl (hb hby at_28) rfl ((if0 _ _).trans (teq (by decide : (0 : Int32) = (0 : Int32))).1) (by decide) (by decide) ?_
    show St p e below s₁ (mkF m 35 #[.val (.int p1), .val (.int p2), .val (.int p3), .val (.int p4), .val (.int p5), .val (.int p6), .val (.int 0), .val (.int 1), .unset, .unset, .unset, .unset] []) _
    refine XS.iload X0.here hx rfl (hb hby at_35) rfl ?_
    show St p e below s₁ (mkF m 37 #[.val (.int p1), .val (.int p2), .val (.int p3), .val (.int p4), .val (.int p5), .val (.int p6), .val (.int 0), .val (.int 1), .unset, .unset, .unset, .unset] [(.int p5)]) _
    refine XS.iloadN X0.here hx rfl (hb hby at_37) rfl ?_
    show St p e below s₁ (mkF m 38 #[.val (.int p1), .val (.int p2), .val (.int p3), .val (.int p4), .val (.int p5), .val (.int p6), .val (.int 0), .val (.int 1), .unset, .unset, .unset, .unset] [(.int p4), (.int p5)]) _
    refine XS.iloadN X0.here hx rfl (hb hby at_38) rfl ?_
    show St p e below s₁ (mkF m 39 #[.val (.int p1), .val (.int p2), .val (.int p3), .val (.int p4), .val (.int p5), .val (.int p6), .val (.int 0), .val (.int 1), .unset, .unset, .unset, .unset] [(.int p3), (.int p4), (.int p5)]) _
    refine XS.iloadN X0.here hx rfl (hb hby at_39) rfl ?_
    show St p e below s₁ (mkF m 40 #[.val (.int p1), .val (.int p2), .val (.int p3), .val (.int p4), .val (.int p5), .val (.int p6), .val (.int 0), .val (.int 1), .unset, .unset, .unset, .unset] [(.int p2), (.int p3), (.int p4), (.int p5)]) _
    refine st1.trans ?_
    show St p e below T1 (mkF m 43 #[.val (.int p1), .val (.int p2), .val (.int p3), .val (.int p4), .val (.int p5), .val (.int p6), .val (.int 0), .val (.int 1), .unset, .unset, .unset, .unset] [(.ref r_1)]) _
    refine XS.astore X1.here hx rfl (hb hby at_43) rfl rfl (l' := #[.val (.int p1), .val (.int p2), .val (.int p3), .val (.int p4), .val (.int p5), .val (.int p6), .val (.int 0), .val (.int 1), .val (.ref r_1), .unset, .unset, .unset]) rfl ?_
    show St p e below T1 (mkF m 45 #[.val (.int p1), .val (.int p2), .val (.int p3), .val (.int p4), .val (.int p5), .val (.int p6), .val (.int 0), .val (.int 1), .val (.ref r_1), .unset, .unset, .unset] []) _
    refine XS.iload X1.here hx rfl (hb hby at_45) rfl ?_
    show St p e below T1 (mkF m 47 #[.val (.int p1), .val (.int p2), .val (.int p3), .val (.int p4), .val (.int p5), .val (.int p6), .val (.int 0), .val (.int 1), .val (.ref r_1), .unset, .unset, .unset] [(.int 1)]) _
    refine XS.ifNo X1.here hx rfl (hb hby at_47) rfl ((if0 _ _).trans (feq (by decide : ¬ ((1 : Int32) = (0 : Int32)))).1) ?_
    show St p e below T1 (mkF m 50 #[.val (.int p1), .val (.int p2), .val (.int p3), .val (.int p4), .val (.int p5), .val (.int p6), .val (.int 0), .val (.int 1), .val (.ref r_1), .unset, .unset, .unset] []) _
    refine XS.aconstNull X1.here hx rfl (hb hby at_50) ?_
    show St p e below T1 (mkF m 51 #[.val (.int p1), .val (.int p2), .val (.int p3), .val (.int p4), .val (.int p5), .val (.int p6), .val (.int 0), .val (.int 1), .val (.ref r_1), .unset, .unset, .unset] [.null]) _
    refine XS.goto X1.here hx rfl (pc0 := 51) (pc' := 62) rfl (hb hby at_51) (by decide) (by decide) ?_
    show St p e below T1 (mkF m 62 #[.val (.int p1), .val (.int p2), .val (.int p3), .val (.int p4), .val (.int p5), .val (.int p6), .val (.int 0), .val (.int 1), .val (.ref r_1), .unset, .unset, .unset] [.null]) _
    refine XS.astore X1.here hx rfl (hb hby at_62) rfl rfl (l' := #[.val (.int p1), .val (.int p2), .val (.int p3), .val (.int p4), .val (.int p5), .val (.int p6), .val (.int 0), .val (.int 1), .val (.ref r_1), .val .null, .unset, .unset]) rfl ?_
    show St p e below T1 (mkF m 64 #[.val (.int p1), .val (.int p2), .val (.int p3), .val (.int p4), .val (.int p5), .val (.int p6), .val (.int 0), .val (.int 1), .val (.ref r_1), .val .null, .unset, .unset] []) _
    refine st4 _ ?_
    show St p e below T4 (mkF m 67 #[.val (.int p1), .val (.int p2), .val (.int p3), .val (.int p4), .val (.int p5), .val (.int p6), .val (.int 0), .val (.int 1), .val (.ref r_1), .val .null, .unset, .unset] [(.ref b4)]) _
    refine XS.dup X4.here hx rfl (hb hby at_67) rfl rfl ?_
    show St p e below T4 (mkF m 68 #[.val (.int p1), .val (.int p2), .val (.int p3), .val (.int p4), .val (.int p5), .val (.int p6), .val (.int 0), .val (.int 1), .val (.ref r_1), .val .null, .unset, .unset] [(.ref b4), (.ref b4)]) _
    refine XS.aload X4.here hx rfl (hb hby at_68) rfl rfl ?_
    show St p e below T4 (mkF m 70 #[.val (.int p1), .val (.int p2), .val (.int p3), .val (.int p4), .val (.int p5), .val (.int p6), .val (.int 0), .val (.int 1), .val (.ref r_1), .val .null, .unset, .unset] [(.ref r_1), (.ref b4), (.ref b4)]) _
    refine XS.aload X4.here hx rfl (hb hby at_70) rfl rfl ?_
    show St p e below T4 (mkF m 72 #[.val (.int p1), .val (.int p2), .val (.int p3), .val (.int p4), .val (.int p5), .val (.int p6), .val (.int 0), .val (.int 1), .val (.ref r_1), .val .null, .unset, .unset] [.null, (.ref r_1), (.ref b4), (.ref b4)]) _
    refine st7.trans ?_
    show St p e below T7 (mkF m 75 #[.val (.int p1), .val (.int p2), .val (.int p3), .val (.int p4), .val (.int p5), .val (.int p6), .val (.int 0), .val (.int 1), .val (.ref r_1), .val .null, .unset, .unset] [(.ref b4)]) _
    refine XS.astore X7.here hx rfl (hb hby at_75) rfl rfl (l' := #[.val (.int p1), .val (.int p2), .val (.int p3), .val (.int p4), .val (.int p5), .val (.int p6), .val (.int 0), .val (.int 1), .val (.ref r_1), .val .null, .val (.ref b4), .unset]) rfl ?_
    show St p e below T7 (mkF m 77 #[.val (.int p1), .val (.int p2), .val (.int p3), .val (.int p4), .val (.int p5), .val (.int p6), .val (.int 0), .val (.int 1), .val (.ref r_1), .val .null, .val (.ref b4), .unset] []) _
    refine XS.iload X7.here hx rfl (hb hby at_77) rfl ?_
    show St p e below T7 (mkF m 79 #[.val (.int p1), .val (.int p2), .val (.int p3), .val (.int p4), .val (.int p5), .val (.int p6), .val (.int 0), .val (.int 1), .val (.ref r_1), .val .null, .val (.ref b4), .unset] [(.int 1)]) _
    refine XS.istore X7.here hx rfl (hb hby at_79) rfl (l' := #[.val (.int p1), .val (.int p2), .val (.int p3), .val (.int p4), .val (.int p5), .val (.int p6), .val (.int 0), .val (.int 1), .val (.ref r_1), .val .null, .val (.ref b4), .val (.int 1)]) rfl ?_
    show St p e below T7 (mkF m 81 #[.val (.int p1), .val (.int p2), .val (.int p3), .val (.int p4), .val (.int p5), .val (.int p6), .val (.int 0), .val (.int 1), .val (.ref r_1), .val .null, .val (.ref b4), .val (.int 1)] []) _
    refine XS.aload X7.here hx rfl (hb hby at_81) rfl rfl ?_
    show St p e below T7 (mkF m 83 #[.val (.int p1), .val (.int p2), .val (.int p3), .val (.int p4), .val (.int p5), .val (.int p6), .val (.int 0), .val (.int 1), .val (.ref r_1), .val .null, .val (.ref b4), .val (.int 1)] [(.ref b4)]) _
    refine st10.trans ?_
    show St p e below T10 (mkF m 86 #[.val (.int p1), .val (.int p2), .val (.int p3), .val (.int p4), .val (.int p5), .val (.int p6), .val (.int 0), .val (.int 1), .val (.ref r_1), .val .null, .val (.ref b4), .val (.int 1)] [(.int 1)]) _
    refine XS.iload X10.here hx rfl (hb hby at_86) rfl ?_
    show St p e below T10 (mkF m 88 #[.val (.int p1), .val (.int p2), .val (.int p3), .val (.int p4), .val (.int p5), .val (.int p6), .val (.int 0), .val (.int 1), .val (.ref r_1), .val .null, .val (.ref b4), .val (.int 1)] [(.int 1), (.int 1)]) _
    refine XS.icmpNo X10.here hx rfl (hb hby at_88) rfl (teq (by decide : (1 : Int32) = (1 : Int32))).2 ?_
    show St p e below T10 (mkF m 91 #[.val (.int p1), .val (.int p2), .val (.int p3), .val (.int p4), .val (.int p5), .val (.int p6), .val (.int 0), .val (.int 1), .val (.ref r_1), .val .null, .val (.ref b4), .val (.int 1)] []) _
    refine XS.aload X10.here hx rfl (hb hby at_91) rfl rfl ?_
    show St p e below T10 (mkF m 93 #[.val (.int p1), .val (.int p2), .val (.int p3), .val (.int p4), .val (.int p5), .val (.int p6), .val (.int 0), .val (.int 1), .val (.ref r_1), .val .null, .val (.ref b4), .val (.int 1)] [(.ref b4)]) _
    refine st11.trans ?_
    show St p e below T11 (mkF m 96 #[.val (.int p1), .val (.int p2), .val (.int p3), .val (.int p4), .val (.int p5), .val (.int p6), .val (.int 0), .val (.int 1), .val (.ref r_1), .val .null, .val (.ref b4), .val (.int 1)] [.null]) _
    refine XS.aload X11.here hx rfl (hb hby at_96) rfl rfl ?_
    show St p e below T11 (mkF m 98 #[.val (.int p1), .val (.int p2), .val (.int p3), .val (.int p4), .val (.int p5), .val (.int p6), .val (.int 0), .val (.int 1), .val (.ref r_1), .val .null, .val (.ref b4), .val (.int 1)] [.null, .null]) _
    refine Jvm.RoadKit.acmp (g := (mkF m 98 #[.val (.int p1), .val (.int p2), .val (.int p3), .val (.int p4), .val (.int p5), .val (.int p6), .val (.int 0), .val (.int 1), .val (.ref r_1), .val .null, .val (.ref b4), .val (.int 1)] [.null, .null])) X11 hx rfl rfl rfl (pc0 := 98) (pc' := 101) (same := true) rfl (hb hby at_98) rfl (decide_eq_true rfl) (by decide) (by decide) ?_
    show St p e below T11 (mkF m 101 #[.val (.int p1), .val (.int p2), .val (.int p3), .val (.int p4), .val (.int p5), .val (.int p6), .val (.int 0), .val (.int 1), .val (.ref r_1), .val .null, .val (.ref b4), .val (.int 1)] []) _
    refine XS.aload X11.here hx rfl (hb hby at_101) rfl rfl ?_
    show St p e below T11 (mkF m 103 #[.val (.int p1), .val (.int p2), .val (.int p3), .val (.int p4), .val (.int p5), .val (.int p6), .val (.int 0), .val (.int 1), .val (.ref r_1), .val .null, .val (.ref b4), .val (.int 1)] [(.ref b4)]) _
    refine st12.trans ?_
    show St p e below T12 (mkF m 106 #[.val (.int p1), .val (.int p2), .val (.int p3), .val (.int p4), .val (.int p5), .val (.int p6), .val (.int 0), .val (.int 1), .val (.ref r_1), .val .null, .val (.ref b4), .val (.int 1)] [(.ref r_1)]) _
    refine XS.aload X12.here hx rfl (hb hby at_106) rfl rfl ?_
    show St p e below T12 (mkF m 108 #[.val (.int p1), .val (.int p2), .val (.int p3), .val (.int p4), .val (.int p5), .val (.int p6), .val (.int 0), .val (.int 1), .val (.ref r_1), .val .null, .val (.ref b4), .val (.int 1)] [(.ref r_1), (.ref r_1)]) _
    refine Jvm.RoadKit.acmp (g := (mkF m 108 #[.val (.int p1), .val (.int p2), .val (.int p3), .val (.int p4), .val (.int p5), .val (.int p6), .val (.int 0), .val (.int 1), .val (.ref r_1), .val .null, .val (.ref b4), .val (.int 1)] [(.ref r_1), (.ref r_1)])) X12 hx rfl rfl rfl (pc0 := 108) (pc' := 111) (same := true) rfl (hb hby at_108) rfl (decide_eq_true rfl) (by decide) (by decide) ?_
    show St p e below T12 (mkF m 111 #[.val (.int p1), .val (.int p2), .val (.int p3), .val (.int p4), .val (.int p5), .val (.int p6), .val (.int 0), .val (.int 1), .val (.ref r_1), .val .null, .val (.ref b4), .val (.int 1)] []) _
    refine XS.iconst X12.here hx rfl (hb hby at_111) ?_
    show St p e below T12 (mkF m 112 #[.val (.int p1), .val (.int p2), .val (.int p3), .val (.int p4), .val (.int p5), .val (.int p6), .val (.int 0), .val (.int 1), .val (.ref r_1), .val .null, .val (.ref b4), .val (.int 1)] [(.int 1)]) _
    refine XS.goto X12.here hx rfl (pc0 := 112) (pc' := 116) rfl (hb hby at_112) (by decide) (by decide) ?_
    show St p e below T12 (mkF m 116 #[.val (.int p1), .val (.int p2), .val (.int p3), .val (.int p4), .val (.int p5), .val (.int p6), .val (.int 0), .val (.int 1), .val (.ref r_1), .val .null, .val (.ref b4), .val (.int 1)] [(.int 1)]) _
    exact retN X12 hx (t := .boolean) Bd.returns (by simp) (hb hby at_116) hr
  · exact ⟨rfl, N12⟩
  · show CHr Z consts_1 s.vm s.heap T12.vm T12.heap
    rw [hh, e12]
    exact CRe
set_option maxRecDepth 65536 in
set_option maxHeartbeats 40000000 in
theorem rm_law_10 (l : Launch) (Z : State) (a0 : Array Value) (hw : ∀ d ∈ tables_1, d.before a0 Z = true) (hEL : EW Z a0 consts_1) (ws : List Jvm.Cond) (p1 : Int32) (p2 : Int32) (p3 : Int32) (p4 : Int32) (p5 : Int32) (p6 : Int32) (w_COMPACT_STRINGS : Int32) (h0 : Heap) (n0 : Nat) (Z0 : n0 ≤ h0.size) (hr_ : (p1 &&& (2 : Int32)) = (0 : Int32)) (S_COMPACT_STRINGS : Sta Z Z.heap "java/lang/String" "COMPACT_STRINGS" "Z" (.int w_COMPACT_STRINGS)) (hcs : ¬ (w_COMPACT_STRINGS = (0 : Int32))) (O0 : Old Z n0 h0) (hi : (p1 &&& (1 : Int32)) = (1 : Int32)) :
    MetFree l x (head1 (Jvm.Cond.code x code maxLocals ret :: ws) room_1) (fun a U => a = #[(.int p1), (.int p2), (.int p3), (.int p4), (.int p5), (.int p6)] ∧ Z.Warmed39 U.vm ∧ U.heap = h0 ∧ CHv Z consts_1 U.vm h0) (fun _ _ _ _ _ => True) (fun _ U o U' => ∃ v L, o = .returned v ∧ Q_law n0 v L ∧ CHr Z consts_1 U.vm U.heap U'.vm U'.heap ∧ ReturnedEndW U o U' L room_1.cells room_1.slots) := by
  refine MetFree.of_bodySF (plainFor_of_name pn_0) hisR ?_
  intro p e s m args below meth c s₁ Bd hml0 hP hK
  obtain ⟨rfl, hZ, hh, H0c⟩ := hP
  have hx := Bd.exec
  have hby := Bd.bytes
  have hml : c.maxLocals = 12 := hml0
  have hown : s.vm.findClass "com/example/disbursa/disbursa/rails/OutcomeSettledPinLaw" = some m.cls := findClass_of_methodNamed Bd.named
  have hnm := (name_of_methodNamed Bd.named Bd.method).1
  have X0 : Stand p l e room_1 (s.setVm s.vm) m #[(.int p1), (.int p2), (.int p3), (.int p4), (.int p5), (.int p6)] below meth c s₁ [] 0 0 := Stand.of_body Bd
  have e0 : s₁.heap = h0 := by rw [← hh, Bd.state]; rfl
  have N0 := Fr.nil n0
  have pre0 : ∀ t, Steps p.tables e below (s₁.setTop (mkF m 0 #[.val (.int p1), .val (.int p2), .val (.int p3), .val (.int p4), .val (.int p5), .val (.int p6), .unset, .unset, .unset, .unset, .unset, .unset] [])) t → Steps p.tables e below (s₁.setTop (entryFrame m #[(.int p1), (.int p2), (.int p3), (.int p4), (.int p5), (.int p6)] maxLocals)) t := fun t k => castTop (ef_0_IIIIII m p1 p2 p3 p4 p5 p6) k
  have hS0 : s.Since s.vm 0 := (State.WarmedH.refl s).since 0
  have hk0 : 0 ≤ h0.size := Nat.zero_le _
  have C0c : CHr Z consts_1 s.vm h0 s.vm h0 := CHr.refl H0c
  obtain ⟨_, _, ⟨T1, L1, k1, n1⟩, -, X1, hS1, gr1, ⟨Lc1, hQ1, l1, y1, z1, C1⟩, st1⟩ := callSS X0 hx (y := (⟨"com/example/disbursa/disbursa/rails/OutcomeSettledPinLaw", "str", "(IIII)Ljava/lang/String;"⟩ : MethodName)) hown (mvT hZ (hwi hw 0 rfl)) (mvT hZ (hwi hw 1 rfl)) (mvT hZ (hwi hw 2 rfl)) (mvT hZ (hwi hw 3 rfl)) (by decide) (backOfSH (s := s) (vm0 := s.vm) (EL := consts_1) (W := 0) (rm_str_all l Z a0 hw hEL [] p6 p2 p3 p4 w_COMPACT_STRINGS h0 n0 Z0 O0 S_COMPACT_STRINGS hcs) hZ (hwi hw 3 rfl) (hwi hw 2 rfl) (by decide) (by decide) hEL H0c) (g := (mkF m 59 #[.val (.int p1), .val (.int p2), .val (.int p3), .val (.int p4), .val (.int p5), .val (.int p6), .val (.int 1), .val (.int 0), .val .null, .unset, .unset, .unset] [(.int p4), (.int p3), (.int p2), (.int p6)])) rfl (by rw [hml]; rfl) (argsL := [(.int p6), (.int p2), (.int p3), (.int p4)]) (rest := []) (lenOf pd_IIII_Ljava_lang_String_69 rfl) rfl (by show 2 * 0 + _ ≤ _; exact Nat.le_of_eq rfl) (hb hby at_59) (fun _ _ => ⟨rfl, e0, (by decide : 0 + 6 ≤ _), (by decide : 0 + 12 ≤ _)⟩)
  dsimp only [Pt.U, Pt.locs, Pt.cells, Pt.slots] at X1 l1 y1 z1 st1 hQ1 hS1 gr1 C1
  subst l1 y1 z1
  obtain ⟨X1, hS1, hZ1, ho1⟩ := rebS hS0 (by rw [e0]; exact hk0) X1 hS1 gr1 hZ hown
  obtain ⟨r_1, rfl, N1q, Kc1, g1_0⟩ := hQ1
  have N1 := Fr.app N0 N1q
  have R2 := C1
  have CR2 := C0c.trans R2
  have sz3 : h0.size ≤ T1.heap.size := Kc1.1
  have Z3 : n0 ≤ T1.heap.size := Nat.le_trans Z0 sz3
  have O3 := O0.keep Kc1 all0
  have K3 : Keep h0 T1.heap [] := (Keep.refl h0 []).trans Kc1 (all0)
  have bn_r_1 : h0.size ≤ r_1 := g1_0
  obtain ⟨T4, h4, X4, e4, E4, A4, D4, -, st4⟩ := newO X1 hx hZ1 ho1 (hwi hw 37 rfl) (hwi hw 38 rfl) (hwi hw 39 rfl) rfl (g := (mkF m 64 #[.val (.int p1), .val (.int p2), .val (.int p3), .val (.int p4), .val (.int p5), .val (.int p6), .val (.int 1), .val (.int 0), .val .null, .val (.ref r_1), .unset, .unset] [])) rfl (hb hby at_64) (by decide) (by decide)
  obtain ⟨b4, g4⟩ : ∃ z, z = T1.heap.size := ⟨_, rfl⟩
  rw [← g4] at A4 D4 st4
  have bn_b4 : h0.size ≤ b4 := Nat.le_trans K3.1 (Nat.le_of_eq g4.symm)
  have R5 := CHr.ext E4 R2.1
  have CR5 := CR2.trans R5
  have sz6 : T1.heap.size ≤ h4.size := E4.1
  have Z6 : n0 ≤ h4.size := Nat.le_trans Z3 sz6
  have hk6 := Nat.le_trans (Nat.le_refl T1.heap.size) sz6
  have O6 := O3.ext E4
  have K6 : Keep h0 h4 [] := K3.ext E4
  have F4_transferId : Fld Z h4 b4 "com/example/disbursa/disbursa/rails/Outcome" "transferId" "Ljava/lang/String;" .null := D4 (Or.inr (hwi hw 50 rfl)) (ty := (.object "java/lang/String")) (by decide)
  have F4_reason : Fld Z h4 b4 "com/example/disbursa/disbursa/rails/Outcome" "reason" "Ljava/lang/String;" .null := D4 (Or.inr (hwi hw 52 rfl)) (ty := (.object "java/lang/String")) (by decide)
  obtain ⟨_, _, ⟨T7, L7, k7, n7⟩, -, X7, ⟨Lc7, hQ7, l7, y7, z7⟩, st7⟩ := X4.specialBack hx (y := (⟨"com/example/disbursa/disbursa/rails/Outcome", "<init>", "(Ljava/lang/String;Ljava/lang/String;)V"⟩ : MethodName)) rfl ho1 (mvT hZ1 (hwi hw 40 rfl)) (mvT hZ1 (hwi hw 41 rfl)) (mvT hZ1 (hwi hw 42 rfl)) (by decide) (backOf (W := 1) (rm_oc_10 l Z a0 hw [] b4 r_1 .null .null h4 n0 Z6 A4 F4_transferId (Nat.le_trans Z0 bn_b4) O6 F4_reason) hZ1 (hwi hw 42 rfl) (hwi hw 39 rfl) (by decide) (by decide)) (g := (mkF m 72 #[.val (.int p1), .val (.int p2), .val (.int p3), .val (.int p4), .val (.int p5), .val (.int p6), .val (.int 1), .val (.int 0), .val .null, .val (.ref r_1), .unset, .unset] [(.ref r_1), .null, (.ref b4), (.ref b4)])) rfl (by rw [hml]; rfl) (Steps.refl _) (a := b4) (argsL := [.null, (.ref r_1)]) (rest := [(.ref b4)]) (lenOf pd_Ljava_lang_String_Ljava_lang_String__V_559 rfl) rfl (by show 2 * 0 + _ ≤ _; exact Nat.le_of_eq rfl) (hb hby at_72) (fun _ _ => ⟨rfl, e4, (by decide : 7 + 0 ≤ _), (by decide : 14 + 0 ≤ _)⟩)
  dsimp only [Pt.U, Pt.locs, Pt.cells, Pt.slots] at X7 l7 y7 z7 st7 hQ7
  subst l7 y7 z7
  obtain ⟨rfl, N7q, Kc7, g7_0, g7_1, g7_2⟩ := hQ7
  have N7 := Fr.app N1 N7q
  have R8 := CHr.keep Kc7 (sfS (Safe.exa hZ1.alike A4 (by decide) (by decide)) sf0) R5.1
  have CR8 := CR5.trans R8
  have sz9 : h4.size ≤ T7.heap.size := Kc7.1
  have Z9 : n0 ≤ T7.heap.size := Nat.le_trans Z6 sz9
  have hk9 := Nat.le_trans hk6 sz9
  have O9 := O6.keep Kc7 (allS (Nat.le_trans Z0 bn_b4) all0)
  have K9 : Keep h0 T7.heap [] := K6.trans Kc7 (allS (Or.inr bn_b4) (all0))
  obtain ⟨cq10, kq10, q10a, q10b, q10c⟩ := isOf hZ1 rfl g7_0
  obtain ⟨_, _, ⟨T10, L10, k10, n10⟩, -, X10, ⟨Lc10, hQ10, l10, y10, z10⟩, st10⟩ := X7.virtualBack hx (y := (⟨"com/example/disbursa/disbursa/rails/Outcome", "settled", "()Z"⟩ : MethodName)) (z := (⟨"com/example/disbursa/disbursa/rails/Outcome", "settled", "()Z"⟩ : MethodName)) ho1 (mvT hZ1 (hwi hw 53 rfl)) (mvT hZ1 (hwi hw 54 rfl)) (notFace_of_selects (args := #[]) (mvT hZ1 (hwi hw 56 rfl))) (mvT hZ1 (hwi hw 56 rfl)) (mvT hZ1 (hwi hw 55 rfl)) (by decide) (backOf (W := 0) (rm_settled_0 l Z a0 hw [] b4 r_1 T7.heap n0 Z9 g7_2) hZ1 (hwi hw 57 rfl) (hwi hw 39 rfl) (by decide) (by decide)) q10a q10c (g := (mkF m 83 #[.val (.int p1), .val (.int p2), .val (.int p3), .val (.int p4), .val (.int p5), .val (.int p6), .val (.int 1), .val (.int 0), .val .null, .val (.ref r_1), .val (.ref b4), .val (.int 0)] [(.ref b4)])) rfl (by rw [hml]; rfl) (Steps.refl _) (argsL := []) (rest := []) (lenOf pd_Z_171 rfl) rfl (by show 2 * 0 + _ ≤ _; exact Nat.le_of_eq rfl) (hb hby at_83) (fun _ _ => ⟨rfl, rfl, (by decide : 7 + 0 ≤ _), (by decide : 14 + 0 ≤ _)⟩)
  dsimp only [Pt.U, Pt.locs, Pt.cells, Pt.slots] at X10 l10 y10 z10 st10 hQ10
  subst l10 y10 z10
  obtain ⟨rfl, N10q, e10⟩ := hQ10
  have N10 := Fr.app N7 N10q
  obtain ⟨cq11, kq11, q11a, q11b, q11c⟩ := isOf hZ1 e10 g7_0
  obtain ⟨_, _, ⟨T11, L11, k11, n11⟩, -, X11, ⟨Lc11, hQ11, l11, y11, z11⟩, st11⟩ := X10.virtualBack hx (y := (⟨"com/example/disbursa/disbursa/rails/Outcome", "reason", "()Ljava/lang/String;"⟩ : MethodName)) (z := (⟨"com/example/disbursa/disbursa/rails/Outcome", "reason", "()Ljava/lang/String;"⟩ : MethodName)) ho1 (mvT hZ1 (hwi hw 58 rfl)) (mvT hZ1 (hwi hw 59 rfl)) (notFace_of_selects (args := #[]) (mvT hZ1 (hwi hw 61 rfl))) (mvT hZ1 (hwi hw 61 rfl)) (mvT hZ1 (hwi hw 60 rfl)) (by decide) (backOf (W := 0) (rm_reason_0 l Z a0 hw [] b4 r_1 T7.heap n0 Z9 g7_2) hZ1 (hwi hw 62 rfl) (hwi hw 39 rfl) (by decide) (by decide)) q11a q11c (g := (mkF m 93 #[.val (.int p1), .val (.int p2), .val (.int p3), .val (.int p4), .val (.int p5), .val (.int p6), .val (.int 1), .val (.int 0), .val .null, .val (.ref r_1), .val (.ref b4), .val (.int 0)] [(.ref b4)])) rfl (by rw [hml]; rfl) (Steps.refl _) (argsL := []) (rest := []) (lenOf pd_Ljava_lang_String_777 rfl) rfl (by show 2 * 0 + _ ≤ _; exact Nat.le_of_eq rfl) (hb hby at_93) (fun _ _ => ⟨rfl, e10, (by decide : 7 + 0 ≤ _), (by decide : 14 + 0 ≤ _)⟩)
  dsimp only [Pt.U, Pt.locs, Pt.cells, Pt.slots] at X11 l11 y11 z11 st11 hQ11
  subst l11 y11 z11
  obtain ⟨rfl, N11q, e11⟩ := hQ11
  have N11 := Fr.app N10 N11q
  obtain ⟨cq12, kq12, q12a, q12b, q12c⟩ := isOf hZ1 e11 g7_0
  obtain ⟨_, _, ⟨T12, L12, k12, n12⟩, -, X12, ⟨Lc12, hQ12, l12, y12, z12⟩, st12⟩ := X11.virtualBack hx (y := (⟨"com/example/disbursa/disbursa/rails/Outcome", "transferId", "()Ljava/lang/String;"⟩ : MethodName)) (z := (⟨"com/example/disbursa/disbursa/rails/Outcome", "transferId", "()Ljava/lang/String;"⟩ : MethodName)) ho1 (mvT hZ1 (hwi hw 63 rfl)) (mvT hZ1 (hwi hw 64 rfl)) (notFace_of_selects (args := #[]) (mvT hZ1 (hwi hw 66 rfl))) (mvT hZ1 (hwi hw 66 rfl)) (mvT hZ1 (hwi hw 65 rfl)) (by decide) (backOf (W := 0) (rm_transferId_1 l Z a0 hw [] b4 T7.heap n0 Z9 g7_1) hZ1 (hwi hw 67 rfl) (hwi hw 39 rfl) (by decide) (by decide)) q12a q12c (g := (mkF m 103 #[.val (.int p1), .val (.int p2), .val (.int p3), .val (.int p4), .val (.int p5), .val (.int p6), .val (.int 1), .val (.int 0), .val .null, .val (.ref r_1), .val (.ref b4), .val (.int 0)] [(.ref b4)])) rfl (by rw [hml]; rfl) (Steps.refl _) (argsL := []) (rest := []) (lenOf pd_Ljava_lang_String_777 rfl) rfl (by show 2 * 0 + _ ≤ _; exact Nat.le_of_eq rfl) (hb hby at_103) (fun _ _ => ⟨rfl, e11, (by decide : 7 + 0 ≤ _), (by decide : 14 + 0 ≤ _)⟩)
  dsimp only [Pt.U, Pt.locs, Pt.cells, Pt.slots] at X12 l12 y12 z12 st12 hQ12
  subst l12 y12 z12
  obtain ⟨rfl, N12q, e12⟩ := hQ12
  have N12 := Fr.app N11 N12q
  have CRe := CR8.trans (CHv.at X12 hZ1 hEL R8.1)
  obtain ⟨fs, hr, hrun, hended, hRE⟩ := X12.leaveW hS1 (by rw [e12]; exact hk9) (v := some (.int 1)) (fun h => by rw [Bd.returns] at h; cases h)
  refine ⟨_, _, pre0 _ ?_, hrun, hended, _, _, rfl, ?_, ?_, ⟨hRE.1, hRE.2.1, hRE.2.2.1, hRE.2.2.2.mono (by decide) (by decide)⟩⟩
  · show St p e below s₁ (mkF m 0 #[.val (.int p1), .val (.int p2), .val (.int p3), .val (.int p4), .val (.int p5), .val (.int p6), .unset, .unset, .unset, .unset, .unset, .unset] []) _
    refine XS.iloadN X0.here hx rfl (hb hby at_0) rfl ?_
    show St p e below s₁ (mkF m 1 #[.val (.int p1), .val (.int p2), .val (.int p3), .val (.int p4), .val (.int p5), .val (.int p6), .unset, .unset, .unset, .unset, .unset, .unset] [(.int p1)]) _
    refine XS.iconst X0.here hx rfl (hb hby at_1) ?_
    show St p e below s₁ (mkF m 2 #[.val (.int p1), .val (.int p2), .val (.int p3), .val (.int p4), .val (.int p5), .val (.int p6), .unset, .unset, .unset, .unset, .unset, .unset] [(.int 1), (.int p1)]) _
    refine XS.iand X0.here hx rfl (hb hby at_2) rfl ?_
    show St p e below s₁ (mkF m 3 #[.val (.int p1), .val (.int p2), .val (.int p3), .val (.int p4), .val (.int p5), .val (.int p6), .unset, .unset, .unset, .unset, .unset, .unset] [(.int (p1 &&& (1 : Int32)))]) _
    rw [hi]
    show St p e below s₁ (mkF m 3 #[.val (.int p1), .val (.int p2), .val (.int p3), .val (.int p4), .val (.int p5), .val (.int p6), .unset, .unset, .unset, .unset, .unset, .unset] [(.int 1)]) _
    refine XS.ifNo X0.here hx rfl (hb hby at_3) rfl ((if0 _ _).trans (feq (by decide : ¬ ((1 : Int32) = (0 : Int32)))).1) ?_
    show St p e below s₁ (mkF m 6 #[.val (.int p1), .val (.int p2), .val (.int p3), .val (.int p4), .val (.int p5), .val (.int p6), .unset, .unset, .unset, .unset, .unset, .unset] []) _
    refine XS.iconst X0.here hx rfl (hb hby at_6) ?_
    show St p e below s₁ (mkF m 7 #[.val (.int p1), .val (.int p2), .val (.int p3), .val (.int p4), .val (.int p5), .val (.int p6), .unset, .unset, .unset, .unset, .unset, .unset] [(.int 1)]) _
    refine XS.goto X0.here hx rfl (pc0 := 7) (pc' := 11) rfl (hb hby at_7) (by decide) (by decide) ?_
    show St p e below s₁ (mkF m 11 #[.val (.int p1), .val (.int p2), .val (.int p3), .val (.int p4), .val (.int p5), .val (.int p6), .unset, .unset, .unset, .unset, .unset, .unset] [(.int 1)]) _
    refine XS.istore X0.here hx rfl (hb hby at_11) rfl (l' := #[.val (.int p1), .val (.int p2), .val (.int p3), .val (.int p4), .val (.int p5), .val (.int p6), .val (.int 1), .unset, .unset, .unset, .unset, .unset]) rfl ?_
    show St p e below s₁ (mkF m 13 #[.val (.int p1), .val (.int p2), .val (.int p3), .val (.int p4), .val (.int p5), .val (.int p6), .val (.int 1), .unset, .unset, .unset, .unset, .unset] []) _
    refine XS.iloadN X0.here hx rfl (hb hby at_13) rfl ?_
    show St p e below s₁ (mkF m 14 #[.val (.int p1), .val (.int p2), .val (.int p3), .val (.int p4), .val (.int p5), .val (.int p6), .val (.int 1), .unset, .unset, .unset, .unset, .unset] [(.int p1)]) _
    refine XS.iconst X0.here hx rfl (hb hby at_14) ?_
    show St p e below s₁ (mkF m 15 #[.val (.int p1), .val (.int p2), .val (.int p3), .val (.int p4), .val (.int p5), .val (.int p6), .val (.int 1), .unset, .unset, .unset, .unset, .unset] [(.int 2), (.int p1)]) _
    refine XS.iand X0.here hx rfl (hb hby at_15) rfl ?_
    show St p e below s₁ (mkF m 16 #[.val (.int p1), .val (.int p2), .val (.int p3), .val (.int p4), .val (.int p5), .val (.int p6), .val (.int 1), .unset, .unset, .unset, .unset, .unset] [(.int (p1 &&& (2 : Int32)))]) _
    refine XS.ifYes X0.here hx rfl (pc0 := 16) (pc' := 23) rfl (hb hby at_16) rfl ((if0 _ _).trans (teq hr_).1) (by decide) (by decide) ?_
    show St p e below s₁ (mkF m 23 #[.val (.int p1), .val (.int p2), .val (.int p3), .val (.int p4), .val (.int p5), .val (.int p6), .val (.int 1), .unset, .unset, .unset, .unset, .unset] []) _
    refine XS.iconst X0.here hx rfl (hb hby at_23) ?_
    show St p e below s₁ (mkF m 24 #[.val (.int p1), .val (.int p2), .val (.int p3), .val (.int p4), .val (.int p5), .val (.int p6), .val (.int 1), .unset, .unset, .unset, .unset, .unset] [(.int 0)]) _
    refine XS.istore X0.here hx rfl (hb hby at_24) rfl (l' := #[.val (.int p1), .val (.int p2), .val (.int p3), .val (.int p4), .val (.int p5), .val (.int p6), .val (.int 1), .val (.int 0), .unset, .unset, .unset, .unset]) rfl ?_
    show St p e below s₁ (mkF m 26 #[.val (.int p1), .val (.int p2), .val (.int p3), .val (.int p4), .val (.int p5), .val (.int p6), .val (.int 1), .val (.int 0), .unset, .unset, .unset, .unset] []) _
    refine XS.iload X0.here hx rfl (hb hby at_26) rfl ?_
    show St p e below s₁ (mkF m 28 #[.val (.int p1), .val (.int p2), .val (.int p3), .val (.int p4), .val (.int p5), .val (.int p6), .val (.int 1), .val (.int 0), .unset, .unset, .unset, .unset] [(.int 1)]) _
    refine XS.ifNo X0.here hx rfl (hb hby at_28) rfl ((if0 _ _).trans (feq (by decide : ¬ ((1 : Int32) = (0 : Int32)))).1) ?_
    show St p e below s₁ (mkF m 31 #[.val (.int p1), .val (.int p2), .val (.int p3), .val (.int p4), .val (.int p5), .val (.int p6), .val (.int 1), .val (.int 0), .unset, .unset, .unset, .unset] []) _
    refine XS.aconstNull X0.here hx rfl (hb hby at_31) ?_
    show St p e below s₁ (mkF m 32 #[.val (.int p1), .val (.int p2), .val (.int p3), .val (.int p4), .val (.int p5), .val (.int p6), .val (.int 1), .val (.int 0), .unset, .unset, .unset, .unset] [.null]) _
    refine XS.goto X0.here hx rfl (pc0 := 32) (pc' := 43) rfl (hb hby at_32) (by decide) (by decide) ?_
    show St p e below s₁ (mkF m 43 #[.val (.int p1), .val (.int p2), .val (.int p3), .val (.int p4), .val (.int p5), .val (.int p6), .val (.int 1), .val (.int 0), .unset, .unset, .unset, .unset] [.null]) _
    refine XS.astore X0.here hx rfl (hb hby at_43) rfl rfl (l' := #[.val (.int p1), .val (.int p2), .val (.int p3), .val (.int p4), .val (.int p5), .val (.int p6), .val (.int 1), .val (.int 0), .val .null, .unset, .unset, .unset]) rfl ?_
    show St p e below s₁ (mkF m 45 #[.val (.int p1), .val (.int p2), .val (.int p3), .val (.int p4), .val (.int p5), .val (.int p6), .val (.int 1), .val (.int 0), .val .null, .unset, .unset, .unset] []) _
    refine XS.iload X0.here hx rfl (hb hby at_45) rfl ?_
    show St p e below s₁ (mkF m 47 #[.val (.int p1), .val (.int p2), .val (.int p3), .val (.int p4), .val (.int p5), .val (.int p6), .val (.int 1), .val (.int 0), .val .null, .unset, .unset, .unset] [(.int 0)]) _
    refine XS.ifYes X0.here hx rfl (pc0 := 47) (pc' := 54) rfl (hb hby at_47) rfl ((if0 _ _).trans (teq (by decide : (0 : Int32) = (0 : Int32))).1) (by decide) (by decide) ?_
    show St p e below s₁ (mkF m 54 #[.val (.int p1), .val (.int p2), .val (.int p3), .val (.int p4), .val (.int p5), .val (.int p6), .val (.int 1), .val (.int 0), .val .null, .unset, .unset, .unset] []) _
    refine XS.iload X0.here hx rfl (hb hby at_54) rfl ?_
    show St p e below s₁ (mkF m 56 #[.val (.int p1), .val (.int p2), .val (.int p3), .val (.int p4), .val (.int p5), .val (.int p6), .val (.int 1), .val (.int 0), .val .null, .unset, .unset, .unset] [(.int p6)]) _
    refine XS.iloadN X0.here hx rfl (hb hby at_56) rfl ?_
    show St p e below s₁ (mkF m 57 #[.val (.int p1), .val (.int p2), .val (.int p3), .val (.int p4), .val (.int p5), .val (.int p6), .val (.int 1), .val (.int 0), .val .null, .unset, .unset, .unset] [(.int p2), (.int p6)]) _
    refine XS.iloadN X0.here hx rfl (hb hby at_57) rfl ?_
    show St p e below s₁ (mkF m 58 #[.val (.int p1), .val (.int p2), .val (.int p3), .val (.int p4), .val (.int p5), .val (.int p6), .val (.int 1), .val (.int 0), .val .null, .unset, .unset, .unset] [(.int p3), (.int p2), (.int p6)]) _
    refine XS.iloadN X0.here hx rfl (hb hby at_58) rfl ?_
    show St p e below s₁ (mkF m 59 #[.val (.int p1), .val (.int p2), .val (.int p3), .val (.int p4), .val (.int p5), .val (.int p6), .val (.int 1), .val (.int 0), .val .null, .unset, .unset, .unset] [(.int p4), (.int p3), (.int p2), (.int p6)]) _
    refine st1.trans ?_
    show St p e below T1 (mkF m 62 #[.val (.int p1), .val (.int p2), .val (.int p3), .val (.int p4), .val (.int p5), .val (.int p6), .val (.int 1), .val (.int 0), .val .null, .unset, .unset, .unset] [(.ref r_1)]) _
    refine XS.astore X1.here hx rfl (hb hby at_62) rfl rfl (l' := #[.val (.int p1), .val (.int p2), .val (.int p3), .val (.int p4), .val (.int p5), .val (.int p6), .val (.int 1), .val (.int 0), .val .null, .val (.ref r_1), .unset, .unset]) rfl ?_
    show St p e below T1 (mkF m 64 #[.val (.int p1), .val (.int p2), .val (.int p3), .val (.int p4), .val (.int p5), .val (.int p6), .val (.int 1), .val (.int 0), .val .null, .val (.ref r_1), .unset, .unset] []) _
    refine st4 _ ?_
    show St p e below T4 (mkF m 67 #[.val (.int p1), .val (.int p2), .val (.int p3), .val (.int p4), .val (.int p5), .val (.int p6), .val (.int 1), .val (.int 0), .val .null, .val (.ref r_1), .unset, .unset] [(.ref b4)]) _
    refine XS.dup X4.here hx rfl (hb hby at_67) rfl rfl ?_
    show St p e below T4 (mkF m 68 #[.val (.int p1), .val (.int p2), .val (.int p3), .val (.int p4), .val (.int p5), .val (.int p6), .val (.int 1), .val (.int 0), .val .null, .val (.ref r_1), .unset, .unset] [(.ref b4), (.ref b4)]) _
    refine XS.aload X4.here hx rfl (hb hby at_68) rfl rfl ?_
    show St p e below T4 (mkF m 70 #[.val (.int p1), .val (.int p2), .val (.int p3), .val (.int p4), .val (.int p5), .val (.int p6), .val (.int 1), .val (.int 0), .val .null, .val (.ref r_1), .unset, .unset] [.null, (.ref b4), (.ref b4)]) _
    refine XS.aload X4.here hx rfl (hb hby at_70) rfl rfl ?_
    show St p e below T4 (mkF m 72 #[.val (.int p1), .val (.int p2), .val (.int p3), .val (.int p4), .val (.int p5), .val (.int p6), .val (.int 1), .val (.int 0), .val .null, .val (.ref r_1), .unset, .unset] [(.ref r_1), .null, (.ref b4), (.ref b4)]) _
    refine st7.trans ?_
    show St p e below T7 (mkF m 75 #[.val (.int p1), .val (.int p2), .val (.int p3), .val (.int p4), .val (.int p5), .val (.int p6), .val (.int 1), .val (.int 0), .val .null, .val (.ref r_1), .unset, .unset] [(.ref b4)]) _
    refine XS.astore X7.here hx rfl (hb hby at_75) rfl rfl (l' := #[.val (.int p1), .val (.int p2), .val (.int p3), .val (.int p4), .val (.int p5), .val (.int p6), .val (.int 1), .val (.int 0), .val .null, .val (.ref r_1), .val (.ref b4), .unset]) rfl ?_
    show St p e below T7 (mkF m 77 #[.val (.int p1), .val (.int p2), .val (.int p3), .val (.int p4), .val (.int p5), .val (.int p6), .val (.int 1), .val (.int 0), .val .null, .val (.ref r_1), .val (.ref b4), .unset] []) _
    refine XS.iload X7.here hx rfl (hb hby at_77) rfl ?_
    show St p e below T7 (mkF m 79 #[.val (.int p1), .val (.int p2), .val (.int p3), .val (.int p4), .val (.int p5), .val (.int p6), .val (.int 1), .val (.int 0), .val .null, .val (.ref r_1), .val (.ref b4), .unset] [(.int 0)]) _
    refine XS.istore X7.here hx rfl (hb hby at_79) rfl (l' := #[.val (.int p1), .val (.int p2), .val (.int p3), .val (.int p4), .val (.int p5), .val (.int p6), .val (.int 1), .val (.int 0), .val .null, .val (.ref r_1), .val (.ref b4), .val (.int 0)]) rfl ?_
    show St p e below T7 (mkF m 81 #[.val (.int p1), .val (.int p2), .val (.int p3), .val (.int p4), .val (.int p5), .val (.int p6), .val (.int 1), .val (.int 0), .val .null, .val (.ref r_1), .val (.ref b4), .val (.int 0)] []) _
    refine XS.aload X7.here hx rfl (hb hby at_81) rfl rfl ?_
    show St p e below T7 (mkF m 83 #[.val (.int p1), .val (.int p2), .val (.int p3), .val (.int p4), .val (.int p5), .val (.int p6), .val (.int 1), .val (.int 0), .val .null, .val (.ref r_1), .val (.ref b4), .val (.int 0)] [(.ref b4)]) _
    refine st10.trans ?_
    show St p e below T10 (mkF m 86 #[.val (.int p1), .val (.int p2), .val (.int p3), .val (.int p4), .val (.int p5), .val (.int p6), .val (.int 1), .val (.int 0), .val .null, .val (.ref r_1), .val (.ref b4), .val (.int 0)] [(.int 0)]) _
    refine XS.iload X10.here hx rfl (hb hby at_86) rfl ?_
    show St p e below T10 (mkF m 88 #[.val (.int p1), .val (.int p2), .val (.int p3), .val (.int p4), .val (.int p5), .val (.int p6), .val (.int 1), .val (.int 0), .val .null, .val (.ref r_1), .val (.ref b4), .val (.int 0)] [(.int 0), (.int 0)]) _
    refine XS.icmpNo X10.here hx rfl (hb hby at_88) rfl (teq (by decide : (0 : Int32) = (0 : Int32))).2 ?_
    show St p e below T10 (mkF m 91 #[.val (.int p1), .val (.int p2), .val (.int p3), .val (.int p4), .val (.int p5), .val (.int p6), .val (.int 1), .val (.int 0), .val .null, .val (.ref r_1), .val (.ref b4), .val (.int 0)] []) _
    refine XS.aload X10.here hx rfl (hb hby at_91) rfl rfl ?_
    show St p e below T10 (mkF m 93 #[.val (.int p1), .val (.int p2), .val (.int p3), .val (.int p4), .val (.int p5), .val (.int p6), .val (.int 1), .val (.int 0), .val .null, .val (.ref r_1), .val (.ref b4), .val (.int 0)] [(.ref b4)]) _
    refine st11.trans ?_
    show St p e below T11 (mkF m 96 #[.val (.int p1), .val (.int p2), .val (.int p3), .val (.int p4), .val (.int p5), .val (.int p6), .val (.int 1), .val (.int 0), .val .null, .val (.ref r_1), .val (.ref b4), .val (.int 0)] [(.ref r_1)]) _
    refine XS.aload X11.here hx rfl (hb hby at_96) rfl rfl ?_
    show St p e below T11 (mkF m 98 #[.val (.int p1), .val (.int p2), .val (.int p3), .val (.int p4), .val (.int p5), .val (.int p6), .val (.int 1), .val (.int 0), .val .null, .val (.ref r_1), .val (.ref b4), .val (.int 0)] [(.ref r_1), (.ref r_1)]) _
    refine Jvm.RoadKit.acmp (g := (mkF m 98 #[.val (.int p1), .val (.int p2), .val (.int p3), .val (.int p4), .val (.int p5), .val (.int p6), .val (.int 1), .val (.int 0), .val .null, .val (.ref r_1), .val (.ref b4), .val (.int 0)] [(.ref r_1), (.ref r_1)])) X11 hx rfl rfl rfl (pc0 := 98) (pc' := 101) (same := true) rfl (hb hby at_98) rfl (decide_eq_true rfl) (by decide) (by decide) ?_
    show St p e below T11 (mkF m 101 #[.val (.int p1), .val (.int p2), .val (.int p3), .val (.int p4), .val (.int p5), .val (.int p6), .val (.int 1), .val (.int 0), .val .null, .val (.ref r_1), .val (.ref b4), .val (.int 0)] []) _
    refine XS.aload X11.here hx rfl (hb hby at_101) rfl rfl ?_
    show St p e below T11 (mkF m 103 #[.val (.int p1), .val (.int p2), .val (.int p3), .val (.int p4), .val (.int p5), .val (.int p6), .val (.int 1), .val (.int 0), .val .null, .val (.ref r_1), .val (.ref b4), .val (.int 0)] [(.ref b4)]) _
    refine st12.trans ?_
    show St p e below T12 (mkF m 106 #[.val (.int p1), .val (.int p2), .val (.int p3), .val (.int p4), .val (.int p5), .val (.int p6), .val (.int 1), .val (.int 0), .val .null, .val (.ref r_1), .val (.ref b4), .val (.int 0)] [.null]) _
    refine XS.aload X12.here hx rfl (hb hby at_106) rfl rfl ?_
    show St p e below T12 (mkF m 108 #[.val (.int p1), .val (.int p2), .val (.int p3), .val (.int p4), .val (.int p5), .val (.int p6), .val (.int 1), .val (.int 0), .val .null, .val (.ref r_1), .val (.ref b4), .val (.int 0)] [.null, .null]) _
    refine Jvm.RoadKit.acmp (g := (mkF m 108 #[.val (.int p1), .val (.int p2), .val (.int p3), .val (.int p4), .val (.int p5), .val (.int p6), .val (.int 1), .val (.int 0), .val .null, .val (.ref r_1), .val (.ref b4), .val (.int 0)] [.null, .null])) X12 hx rfl rfl rfl (pc0 := 108) (pc' := 111) (same := true) rfl (hb hby at_108) rfl (decide_eq_true rfl) (by decide) (by decide) ?_
    show St p e below T12 (mkF m 111 #[.val (.int p1), .val (.int p2), .val (.int p3), .val (.int p4), .val (.int p5), .val (.int p6), .val (.int 1), .val (.int 0), .val .null, .val (.ref r_1), .val (.ref b4), .val (.int 0)] []) _
    refine XS.iconst X12.here hx rfl (hb hby at_111) ?_
    show St p e below T12 (mkF m 112 #[.val (.int p1), .val (.int p2), .val (.int p3), .val (.int p4), .val (.int p5), .val (.int p6), .val (.int 1), .val (.int 0), .val .null, .val (.ref r_1), .val (.ref b4), .val (.int 0)] [(.int 1)]) _
    refine XS.goto X12.here hx rfl (pc0 := 112) (pc' := 116) rfl (hb hby at_112) (by decide) (by decide) ?_
    show St p e below T12 (mkF m 116 #[.val (.int p1), .val (.int p2), .val (.int p3), .val (.int p4), .val (.int p5), .val (.int p6), .val (.int 1), .val (.int 0), .val .null, .val (.ref r_1), .val (.ref b4), .val (.int 0)] [(.int 1)]) _
    exact retN X12 hx (t := .boolean) Bd.returns (by simp) (hb hby at_116) hr
  · exact ⟨rfl, N12⟩
  · show CHr Z consts_1 s.vm s.heap T12.vm T12.heap
    rw [hh, e12]
    exact CRe
set_option maxRecDepth 65536 in
set_option maxHeartbeats 40000000 in
theorem rm_law_11 (l : Launch) (Z : State) (a0 : Array Value) (hw : ∀ d ∈ tables_1, d.before a0 Z = true) (hEL : EW Z a0 consts_1) (ws : List Jvm.Cond) (p1 : Int32) (p2 : Int32) (p3 : Int32) (p4 : Int32) (p5 : Int32) (p6 : Int32) (w_COMPACT_STRINGS : Int32) (h0 : Heap) (n0 : Nat) (Z0 : n0 ≤ h0.size) (hr_ : ¬ ((p1 &&& (2 : Int32)) = (0 : Int32))) (S_COMPACT_STRINGS : Sta Z Z.heap "java/lang/String" "COMPACT_STRINGS" "Z" (.int w_COMPACT_STRINGS)) (hcs : ¬ (w_COMPACT_STRINGS = (0 : Int32))) (O0 : Old Z n0 h0) (hi : (p1 &&& (1 : Int32)) = (1 : Int32)) :
    MetFree l x (head1 (Jvm.Cond.code x code maxLocals ret :: ws) room_1) (fun a U => a = #[(.int p1), (.int p2), (.int p3), (.int p4), (.int p5), (.int p6)] ∧ Z.Warmed39 U.vm ∧ U.heap = h0 ∧ CHv Z consts_1 U.vm h0) (fun _ _ _ _ _ => True) (fun _ U o U' => ∃ v L, o = .returned v ∧ Q_law n0 v L ∧ CHr Z consts_1 U.vm U.heap U'.vm U'.heap ∧ ReturnedEndW U o U' L room_1.cells room_1.slots) := by
  refine MetFree.of_bodySF (plainFor_of_name pn_0) hisR ?_
  intro p e s m args below meth c s₁ Bd hml0 hP hK
  obtain ⟨rfl, hZ, hh, H0c⟩ := hP
  have hx := Bd.exec
  have hby := Bd.bytes
  have hml : c.maxLocals = 12 := hml0
  have hown : s.vm.findClass "com/example/disbursa/disbursa/rails/OutcomeSettledPinLaw" = some m.cls := findClass_of_methodNamed Bd.named
  have hnm := (name_of_methodNamed Bd.named Bd.method).1
  have X0 : Stand p l e room_1 (s.setVm s.vm) m #[(.int p1), (.int p2), (.int p3), (.int p4), (.int p5), (.int p6)] below meth c s₁ [] 0 0 := Stand.of_body Bd
  have e0 : s₁.heap = h0 := by rw [← hh, Bd.state]; rfl
  have N0 := Fr.nil n0
  have pre0 : ∀ t, Steps p.tables e below (s₁.setTop (mkF m 0 #[.val (.int p1), .val (.int p2), .val (.int p3), .val (.int p4), .val (.int p5), .val (.int p6), .unset, .unset, .unset, .unset, .unset, .unset] [])) t → Steps p.tables e below (s₁.setTop (entryFrame m #[(.int p1), (.int p2), (.int p3), (.int p4), (.int p5), (.int p6)] maxLocals)) t := fun t k => castTop (ef_0_IIIIII m p1 p2 p3 p4 p5 p6) k
  have hS0 : s.Since s.vm 0 := (State.WarmedH.refl s).since 0
  have hk0 : 0 ≤ h0.size := Nat.zero_le _
  have C0c : CHr Z consts_1 s.vm h0 s.vm h0 := CHr.refl H0c
  obtain ⟨T1, h1, X1, e1, E1, A1, D1, -, st1⟩ := newO X0 hx hZ hown (hwi hw 37 rfl) (hwi hw 38 rfl) (hwi hw 39 rfl) e0 (g := (mkF m 64 #[.val (.int p1), .val (.int p2), .val (.int p3), .val (.int p4), .val (.int p5), .val (.int p6), .val (.int 1), .val (.int 1), .val .null, .val .null, .unset, .unset] [])) rfl (hb hby at_64) (by decide) (by decide)
  obtain ⟨b1, g1⟩ : ∃ z, z = h0.size := ⟨_, rfl⟩
  rw [← g1] at A1 D1 st1
  have bn_b1 : h0.size ≤ b1 := Nat.le_of_eq g1.symm
  have R2 := CHr.ext E1 H0c
  have CR2 := C0c.trans R2
  have sz3 : h0.size ≤ h1.size := E1.1
  have Z3 : n0 ≤ h1.size := Nat.le_trans Z0 sz3
  have hk3 := Nat.le_trans hk0 sz3
  have O3 := O0.ext E1
  have K3 : Keep h0 h1 [] := (Keep.refl h0 []).ext E1
  have F1_transferId : Fld Z h1 b1 "com/example/disbursa/disbursa/rails/Outcome" "transferId" "Ljava/lang/String;" .null := D1 (Or.inr (hwi hw 50 rfl)) (ty := (.object "java/lang/String")) (by decide)
  have F1_reason : Fld Z h1 b1 "com/example/disbursa/disbursa/rails/Outcome" "reason" "Ljava/lang/String;" .null := D1 (Or.inr (hwi hw 52 rfl)) (ty := (.object "java/lang/String")) (by decide)
  obtain ⟨_, _, ⟨T4, L4, k4, n4⟩, -, X4, ⟨Lc4, hQ4, l4, y4, z4⟩, st4⟩ := X1.specialBack hx (y := (⟨"com/example/disbursa/disbursa/rails/Outcome", "<init>", "(Ljava/lang/String;Ljava/lang/String;)V"⟩ : MethodName)) rfl hown (mvT hZ (hwi hw 40 rfl)) (mvT hZ (hwi hw 41 rfl)) (mvT hZ (hwi hw 42 rfl)) (by decide) (backOf (W := 1) (rm_oc_11 l Z a0 hw [] b1 .null .null h1 n0 Z3 A1 F1_transferId (Nat.le_trans Z0 bn_b1) O3 F1_reason) hZ (hwi hw 42 rfl) (hwi hw 39 rfl) (by decide) (by decide)) (g := (mkF m 72 #[.val (.int p1), .val (.int p2), .val (.int p3), .val (.int p4), .val (.int p5), .val (.int p6), .val (.int 1), .val (.int 1), .val .null, .val .null, .unset, .unset] [.null, .null, (.ref b1), (.ref b1)])) rfl (by rw [hml]; rfl) (Steps.refl _) (a := b1) (argsL := [.null, .null]) (rest := [(.ref b1)]) (lenOf pd_Ljava_lang_String_Ljava_lang_String__V_559 rfl) rfl (by show 2 * 0 + _ ≤ _; exact Nat.le_of_eq rfl) (hb hby at_72) (fun _ _ => ⟨rfl, e1, (by decide : 1 + 0 ≤ _), (by decide : 2 + 0 ≤ _)⟩)
  dsimp only [Pt.U, Pt.locs, Pt.cells, Pt.slots] at X4 l4 y4 z4 st4 hQ4
  subst l4 y4 z4
  obtain ⟨rfl, N4q, Kc4, g4_0, g4_1, g4_2⟩ := hQ4
  have N4 := Fr.app N0 N4q
  have R5 := CHr.keep Kc4 (sfS (Safe.exa hZ.alike A1 (by decide) (by decide)) sf0) R2.1
  have CR5 := CR2.trans R5
  have sz6 : h1.size ≤ T4.heap.size := Kc4.1
  have Z6 : n0 ≤ T4.heap.size := Nat.le_trans Z3 sz6
  have hk6 := Nat.le_trans hk3 sz6
  have O6 := O3.keep Kc4 (allS (Nat.le_trans Z0 bn_b1) all0)
  have K6 : Keep h0 T4.heap [] := K3.trans Kc4 (allS (Or.inr bn_b1) (all0))
  obtain ⟨cq7, kq7, q7a, q7b, q7c⟩ := isOf hZ rfl g4_0
  obtain ⟨_, _, ⟨T7, L7, k7, n7⟩, -, X7, ⟨Lc7, hQ7, l7, y7, z7⟩, st7⟩ := X4.virtualBack hx (y := (⟨"com/example/disbursa/disbursa/rails/Outcome", "settled", "()Z"⟩ : MethodName)) (z := (⟨"com/example/disbursa/disbursa/rails/Outcome", "settled", "()Z"⟩ : MethodName)) hown (mvT hZ (hwi hw 53 rfl)) (mvT hZ (hwi hw 54 rfl)) (notFace_of_selects (args := #[]) (mvT hZ (hwi hw 56 rfl))) (mvT hZ (hwi hw 56 rfl)) (mvT hZ (hwi hw 55 rfl)) (by decide) (backOf (W := 0) (rm_settled_1 l Z a0 hw [] b1 T4.heap n0 Z6 g4_2) hZ (hwi hw 57 rfl) (hwi hw 39 rfl) (by decide) (by decide)) q7a q7c (g := (mkF m 83 #[.val (.int p1), .val (.int p2), .val (.int p3), .val (.int p4), .val (.int p5), .val (.int p6), .val (.int 1), .val (.int 1), .val .null, .val .null, .val (.ref b1), .val (.int 1)] [(.ref b1)])) rfl (by rw [hml]; rfl) (Steps.refl _) (argsL := []) (rest := []) (lenOf pd_Z_171 rfl) rfl (by show 2 * 0 + _ ≤ _; exact Nat.le_of_eq rfl) (hb hby at_83) (fun _ _ => ⟨rfl, rfl, (by decide : 1 + 0 ≤ _), (by decide : 2 + 0 ≤ _)⟩)
  dsimp only [Pt.U, Pt.locs, Pt.cells, Pt.slots] at X7 l7 y7 z7 st7 hQ7
  subst l7 y7 z7
  obtain ⟨rfl, N7q, e7⟩ := hQ7
  have N7 := Fr.app N4 N7q
  obtain ⟨cq8, kq8, q8a, q8b, q8c⟩ := isOf hZ e7 g4_0
  obtain ⟨_, _, ⟨T8, L8, k8, n8⟩, -, X8, ⟨Lc8, hQ8, l8, y8, z8⟩, st8⟩ := X7.virtualBack hx (y := (⟨"com/example/disbursa/disbursa/rails/Outcome", "reason", "()Ljava/lang/String;"⟩ : MethodName)) (z := (⟨"com/example/disbursa/disbursa/rails/Outcome", "reason", "()Ljava/lang/String;"⟩ : MethodName)) hown (mvT hZ (hwi hw 58 rfl)) (mvT hZ (hwi hw 59 rfl)) (notFace_of_selects (args := #[]) (mvT hZ (hwi hw 61 rfl))) (mvT hZ (hwi hw 61 rfl)) (mvT hZ (hwi hw 60 rfl)) (by decide) (backOf (W := 0) (rm_reason_1 l Z a0 hw [] b1 T4.heap n0 Z6 g4_2) hZ (hwi hw 62 rfl) (hwi hw 39 rfl) (by decide) (by decide)) q8a q8c (g := (mkF m 93 #[.val (.int p1), .val (.int p2), .val (.int p3), .val (.int p4), .val (.int p5), .val (.int p6), .val (.int 1), .val (.int 1), .val .null, .val .null, .val (.ref b1), .val (.int 1)] [(.ref b1)])) rfl (by rw [hml]; rfl) (Steps.refl _) (argsL := []) (rest := []) (lenOf pd_Ljava_lang_String_777 rfl) rfl (by show 2 * 0 + _ ≤ _; exact Nat.le_of_eq rfl) (hb hby at_93) (fun _ _ => ⟨rfl, e7, (by decide : 1 + 0 ≤ _), (by decide : 2 + 0 ≤ _)⟩)
  dsimp only [Pt.U, Pt.locs, Pt.cells, Pt.slots] at X8 l8 y8 z8 st8 hQ8
  subst l8 y8 z8
  obtain ⟨rfl, N8q, e8⟩ := hQ8
  have N8 := Fr.app N7 N8q
  obtain ⟨cq9, kq9, q9a, q9b, q9c⟩ := isOf hZ e8 g4_0
  obtain ⟨_, _, ⟨T9, L9, k9, n9⟩, -, X9, ⟨Lc9, hQ9, l9, y9, z9⟩, st9⟩ := X8.virtualBack hx (y := (⟨"com/example/disbursa/disbursa/rails/Outcome", "transferId", "()Ljava/lang/String;"⟩ : MethodName)) (z := (⟨"com/example/disbursa/disbursa/rails/Outcome", "transferId", "()Ljava/lang/String;"⟩ : MethodName)) hown (mvT hZ (hwi hw 63 rfl)) (mvT hZ (hwi hw 64 rfl)) (notFace_of_selects (args := #[]) (mvT hZ (hwi hw 66 rfl))) (mvT hZ (hwi hw 66 rfl)) (mvT hZ (hwi hw 65 rfl)) (by decide) (backOf (W := 0) (rm_transferId_1 l Z a0 hw [] b1 T4.heap n0 Z6 g4_1) hZ (hwi hw 67 rfl) (hwi hw 39 rfl) (by decide) (by decide)) q9a q9c (g := (mkF m 103 #[.val (.int p1), .val (.int p2), .val (.int p3), .val (.int p4), .val (.int p5), .val (.int p6), .val (.int 1), .val (.int 1), .val .null, .val .null, .val (.ref b1), .val (.int 1)] [(.ref b1)])) rfl (by rw [hml]; rfl) (Steps.refl _) (argsL := []) (rest := []) (lenOf pd_Ljava_lang_String_777 rfl) rfl (by show 2 * 0 + _ ≤ _; exact Nat.le_of_eq rfl) (hb hby at_103) (fun _ _ => ⟨rfl, e8, (by decide : 1 + 0 ≤ _), (by decide : 2 + 0 ≤ _)⟩)
  dsimp only [Pt.U, Pt.locs, Pt.cells, Pt.slots] at X9 l9 y9 z9 st9 hQ9
  subst l9 y9 z9
  obtain ⟨rfl, N9q, e9⟩ := hQ9
  have N9 := Fr.app N8 N9q
  have CRe := CR5.trans (CHv.at X9 hZ hEL R5.1)
  obtain ⟨fs, hr, hrun, hended, hRE⟩ := X9.leaveW hS0 (by rw [e9]; exact hk6) (v := some (.int 1)) (fun h => by rw [Bd.returns] at h; cases h)
  refine ⟨_, _, pre0 _ ?_, hrun, hended, _, _, rfl, ?_, ?_, ⟨hRE.1, hRE.2.1, hRE.2.2.1, hRE.2.2.2.mono (by decide) (by decide)⟩⟩
  · show St p e below s₁ (mkF m 0 #[.val (.int p1), .val (.int p2), .val (.int p3), .val (.int p4), .val (.int p5), .val (.int p6), .unset, .unset, .unset, .unset, .unset, .unset] []) _
    refine XS.iloadN X0.here hx rfl (hb hby at_0) rfl ?_
    show St p e below s₁ (mkF m 1 #[.val (.int p1), .val (.int p2), .val (.int p3), .val (.int p4), .val (.int p5), .val (.int p6), .unset, .unset, .unset, .unset, .unset, .unset] [(.int p1)]) _
    refine XS.iconst X0.here hx rfl (hb hby at_1) ?_
    show St p e below s₁ (mkF m 2 #[.val (.int p1), .val (.int p2), .val (.int p3), .val (.int p4), .val (.int p5), .val (.int p6), .unset, .unset, .unset, .unset, .unset, .unset] [(.int 1), (.int p1)]) _
    refine XS.iand X0.here hx rfl (hb hby at_2) rfl ?_
    show St p e below s₁ (mkF m 3 #[.val (.int p1), .val (.int p2), .val (.int p3), .val (.int p4), .val (.int p5), .val (.int p6), .unset, .unset, .unset, .unset, .unset, .unset] [(.int (p1 &&& (1 : Int32)))]) _
    rw [hi]
    show St p e below s₁ (mkF m 3 #[.val (.int p1), .val (.int p2), .val (.int p3), .val (.int p4), .val (.int p5), .val (.int p6), .unset, .unset, .unset, .unset, .unset, .unset] [(.int 1)]) _
    refine XS.ifNo X0.here hx rfl (hb hby at_3) rfl ((if0 _ _).trans (feq (by decide : ¬ ((1 : Int32) = (0 : Int32)))).1) ?_
    show St p e below s₁ (mkF m 6 #[.val (.int p1), .val (.int p2), .val (.int p3), .val (.int p4), .val (.int p5), .val (.int p6), .unset, .unset, .unset, .unset, .unset, .unset] []) _
    refine XS.iconst X0.here hx rfl (hb hby at_6) ?_
    show St p e below s₁ (mkF m 7 #[.val (.int p1), .val (.int p2), .val (.int p3), .val (.int p4), .val (.int p5), .val (.int p6), .unset, .unset, .unset, .unset, .unset, .unset] [(.int 1)]) _
    refine XS.goto X0.here hx rfl (pc0 := 7) (pc' := 11) rfl (hb hby at_7) (by decide) (by decide) ?_
    show St p e below s₁ (mkF m 11 #[.val (.int p1), .val (.int p2), .val (.int p3), .val (.int p4), .val (.int p5), .val (.int p6), .unset, .unset, .unset, .unset, .unset, .unset] [(.int 1)]) _
    refine XS.istore X0.here hx rfl (hb hby at_11) rfl (l' := #[.val (.int p1), .val (.int p2), .val (.int p3), .val (.int p4), .val (.int p5), .val (.int p6), .val (.int 1), .unset, .unset, .unset, .unset, .unset]) rfl ?_
    show St p e below s₁ (mkF m 13 #[.val (.int p1), .val (.int p2), .val (.int p3), .val (.int p4), .val (.int p5), .val (.int p6), .val (.int 1), .unset, .unset, .unset, .unset, .unset] []) _
    refine XS.iloadN X0.here hx rfl (hb hby at_13) rfl ?_
    show St p e below s₁ (mkF m 14 #[.val (.int p1), .val (.int p2), .val (.int p3), .val (.int p4), .val (.int p5), .val (.int p6), .val (.int 1), .unset, .unset, .unset, .unset, .unset] [(.int p1)]) _
    refine XS.iconst X0.here hx rfl (hb hby at_14) ?_
    show St p e below s₁ (mkF m 15 #[.val (.int p1), .val (.int p2), .val (.int p3), .val (.int p4), .val (.int p5), .val (.int p6), .val (.int 1), .unset, .unset, .unset, .unset, .unset] [(.int 2), (.int p1)]) _
    refine XS.iand X0.here hx rfl (hb hby at_15) rfl ?_
    show St p e below s₁ (mkF m 16 #[.val (.int p1), .val (.int p2), .val (.int p3), .val (.int p4), .val (.int p5), .val (.int p6), .val (.int 1), .unset, .unset, .unset, .unset, .unset] [(.int (p1 &&& (2 : Int32)))]) _
    refine XS.ifNo X0.here hx rfl (hb hby at_16) rfl ((if0 _ _).trans (feq hr_).1) ?_
    show St p e below s₁ (mkF m 19 #[.val (.int p1), .val (.int p2), .val (.int p3), .val (.int p4), .val (.int p5), .val (.int p6), .val (.int 1), .unset, .unset, .unset, .unset, .unset] []) _
    refine XS.iconst X0.here hx rfl (hb hby at_19) ?_
    show St p e below s₁ (mkF m 20 #[.val (.int p1), .val (.int p2), .val (.int p3), .val (.int p4), .val (.int p5), .val (.int p6), .val (.int 1), .unset, .unset, .unset, .unset, .unset] [(.int 1)]) _
    refine XS.goto X0.here hx rfl (pc0 := 20) (pc' := 24) rfl (hb hby at_20) (by decide) (by decide) ?_
    show St p e below s₁ (mkF m 24 #[.val (.int p1), .val (.int p2), .val (.int p3), .val (.int p4), .val (.int p5), .val (.int p6), .val (.int 1), .unset, .unset, .unset, .unset, .unset] [(.int 1)]) _
    refine XS.istore X0.here hx rfl (hb hby at_24) rfl (l' := #[.val (.int p1), .val (.int p2), .val (.int p3), .val (.int p4), .val (.int p5), .val (.int p6), .val (.int 1), .val (.int 1), .unset, .unset, .unset, .unset]) rfl ?_
    show St p e below s₁ (mkF m 26 #[.val (.int p1), .val (.int p2), .val (.int p3), .val (.int p4), .val (.int p5), .val (.int p6), .val (.int 1), .val (.int 1), .unset, .unset, .unset, .unset] []) _
    refine XS.iload X0.here hx rfl (hb hby at_26) rfl ?_
    show St p e below s₁ (mkF m 28 #[.val (.int p1), .val (.int p2), .val (.int p3), .val (.int p4), .val (.int p5), .val (.int p6), .val (.int 1), .val (.int 1), .unset, .unset, .unset, .unset] [(.int 1)]) _
    refine XS.ifNo X0.here hx rfl (hb hby at_28) rfl ((if0 _ _).trans (feq (by decide : ¬ ((1 : Int32) = (0 : Int32)))).1) ?_
    show St p e below s₁ (mkF m 31 #[.val (.int p1), .val (.int p2), .val (.int p3), .val (.int p4), .val (.int p5), .val (.int p6), .val (.int 1), .val (.int 1), .unset, .unset, .unset, .unset] []) _
    refine XS.aconstNull X0.here hx rfl (hb hby at_31) ?_
    show St p e below s₁ (mkF m 32 #[.val (.int p1), .val (.int p2), .val (.int p3), .val (.int p4), .val (.int p5), .val (.int p6), .val (.int 1), .val (.int 1), .unset, .unset, .unset, .unset] [.null]) _
    refine XS.goto X0.here hx rfl (pc0 := 32) (pc' := 43) rfl (hb hby at_32) (by decide) (by decide) ?_
    show St p e below s₁ (mkF m 43 #[.val (.int p1), .val (.int p2), .val (.int p3), .val (.int p4), .val (.int p5), .val (.int p6), .val (.int 1), .val (.int 1), .unset, .unset, .unset, .unset] [.null]) _
    refine XS.astore X0.here hx rfl (hb hby at_43) rfl rfl (l' := #[.val (.int p1), .val (.int p2), .val (.int p3), .val (.int p4), .val (.int p5), .val (.int p6), .val (.int 1), .val (.int 1), .val .null, .unset, .unset, .unset]) rfl ?_
    show St p e below s₁ (mkF m 45 #[.val (.int p1), .val (.int p2), .val (.int p3), .val (.int p4), .val (.int p5), .val (.int p6), .val (.int 1), .val (.int 1), .val .null, .unset, .unset, .unset] []) _
    refine XS.iload X0.here hx rfl (hb hby at_45) rfl ?_
    show St p e below s₁ (mkF m 47 #[.val (.int p1), .val (.int p2), .val (.int p3), .val (.int p4), .val (.int p5), .val (.int p6), .val (.int 1), .val (.int 1), .val .null, .unset, .unset, .unset] [(.int 1)]) _
    refine XS.ifNo X0.here hx rfl (hb hby at_47) rfl ((if0 _ _).trans (feq (by decide : ¬ ((1 : Int32) = (0 : Int32)))).1) ?_
    show St p e below s₁ (mkF m 50 #[.val (.int p1), .val (.int p2), .val (.int p3), .val (.int p4), .val (.int p5), .val (.int p6), .val (.int 1), .val (.int 1), .val .null, .unset, .unset, .unset] []) _
    refine XS.aconstNull X0.here hx rfl (hb hby at_50) ?_
    show St p e below s₁ (mkF m 51 #[.val (.int p1), .val (.int p2), .val (.int p3), .val (.int p4), .val (.int p5), .val (.int p6), .val (.int 1), .val (.int 1), .val .null, .unset, .unset, .unset] [.null]) _
    refine XS.goto X0.here hx rfl (pc0 := 51) (pc' := 62) rfl (hb hby at_51) (by decide) (by decide) ?_
    show St p e below s₁ (mkF m 62 #[.val (.int p1), .val (.int p2), .val (.int p3), .val (.int p4), .val (.int p5), .val (.int p6), .val (.int 1), .val (.int 1), .val .null, .unset, .unset, .unset] [.null]) _
    refine XS.astore X0.here hx rfl (hb hby at_62) rfl rfl (l' := #[.val (.int p1), .val (.int p2), .val (.int p3), .val (.int p4), .val (.int p5), .val (.int p6), .val (.int 1), .val (.int 1), .val .null, .val .null, .unset, .unset]) rfl ?_
    show St p e below s₁ (mkF m 64 #[.val (.int p1), .val (.int p2), .val (.int p3), .val (.int p4), .val (.int p5), .val (.int p6), .val (.int 1), .val (.int 1), .val .null, .val .null, .unset, .unset] []) _
    refine st1 _ ?_
    show St p e below T1 (mkF m 67 #[.val (.int p1), .val (.int p2), .val (.int p3), .val (.int p4), .val (.int p5), .val (.int p6), .val (.int 1), .val (.int 1), .val .null, .val .null, .unset, .unset] [(.ref b1)]) _
    refine XS.dup X1.here hx rfl (hb hby at_67) rfl rfl ?_
    show St p e below T1 (mkF m 68 #[.val (.int p1), .val (.int p2), .val (.int p3), .val (.int p4), .val (.int p5), .val (.int p6), .val (.int 1), .val (.int 1), .val .null, .val .null, .unset, .unset] [(.ref b1), (.ref b1)]) _
    refine XS.aload X1.here hx rfl (hb hby at_68) rfl rfl ?_
    show St p e below T1 (mkF m 70 #[.val (.int p1), .val (.int p2), .val (.int p3), .val (.int p4), .val (.int p5), .val (.int p6), .val (.int 1), .val (.int 1), .val .null, .val .null, .unset, .unset] [.null, (.ref b1), (.ref b1)]) _
    refine XS.aload X1.here hx rfl (hb hby at_70) rfl rfl ?_
    show St p e below T1 (mkF m 72 #[.val (.int p1), .val (.int p2), .val (.int p3), .val (.int p4), .val (.int p5), .val (.int p6), .val (.int 1), .val (.int 1), .val .null, .val .null, .unset, .unset] [.null, .null, (.ref b1), (.ref b1)]) _
    refine st4.trans ?_
    show St p e below T4 (mkF m 75 #[.val (.int p1), .val (.int p2), .val (.int p3), .val (.int p4), .val (.int p5), .val (.int p6), .val (.int 1), .val (.int 1), .val .null, .val .null, .unset, .unset] [(.ref b1)]) _
    refine XS.astore X4.here hx rfl (hb hby at_75) rfl rfl (l' := #[.val (.int p1), .val (.int p2), .val (.int p3), .val (.int p4), .val (.int p5), .val (.int p6), .val (.int 1), .val (.int 1), .val .null, .val .null, .val (.ref b1), .unset]) rfl ?_
    show St p e below T4 (mkF m 77 #[.val (.int p1), .val (.int p2), .val (.int p3), .val (.int p4), .val (.int p5), .val (.int p6), .val (.int 1), .val (.int 1), .val .null, .val .null, .val (.ref b1), .unset] []) _
    refine XS.iload X4.here hx rfl (hb hby at_77) rfl ?_
    show St p e below T4 (mkF m 79 #[.val (.int p1), .val (.int p2), .val (.int p3), .val (.int p4), .val (.int p5), .val (.int p6), .val (.int 1), .val (.int 1), .val .null, .val .null, .val (.ref b1), .unset] [(.int 1)]) _
    refine XS.istore X4.here hx rfl (hb hby at_79) rfl (l' := #[.val (.int p1), .val (.int p2), .val (.int p3), .val (.int p4), .val (.int p5), .val (.int p6), .val (.int 1), .val (.int 1), .val .null, .val .null, .val (.ref b1), .val (.int 1)]) rfl ?_
    show St p e below T4 (mkF m 81 #[.val (.int p1), .val (.int p2), .val (.int p3), .val (.int p4), .val (.int p5), .val (.int p6), .val (.int 1), .val (.int 1), .val .null, .val .null, .val (.ref b1), .val (.int 1)] []) _
    refine XS.aload X4.here hx rfl (hb hby at_81) rfl rfl ?_
    show St p e below T4 (mkF m 83 #[.val (.int p1), .val (.int p2), .val (.int p3), .val (.int p4), .val (.int p5), .val (.int p6), .val (.int 1), .val (.int 1), .val .null, .val .null, .val (.ref b1), .val (.int 1)] [(.ref b1)]) _
    refine st7.trans ?_
    show St p e below T7 (mkF m 86 #[.val (.int p1), .val (.int p2), .val (.int p3), .val (.int p4), .val (.int p5), .val (.int p6), .val (.int 1), .val (.int 1), .val .null, .val .null, .val (.ref b1), .val (.int 1)] [(.int 1)]) _
    refine XS.iload X7.here hx rfl (hb hby at_86) rfl ?_
    show St p e below T7 (mkF m 88 #[.val (.int p1), .val (.int p2), .val (.int p3), .val (.int p4), .val (.int p5), .val (.int p6), .val (.int 1), .val (.int 1), .val .null, .val .null, .val (.ref b1), .val (.int 1)] [(.int 1), (.int 1)]) _
    refine XS.icmpNo X7.here hx rfl (hb hby at_88) rfl (teq (by decide : (1 : Int32) = (1 : Int32))).2 ?_
    show St p e below T7 (mkF m 91 #[.val (.int p1), .val (.int p2), .val (.int p3), .val (.int p4), .val (.int p5), .val (.int p6), .val (.int 1), .val (.int 1), .val .null, .val .null, .val (.ref b1), .val (.int 1)] []) _
    refine XS.aload X7.here hx rfl (hb hby at_91) rfl rfl ?_
    show St p e below T7 (mkF m 93 #[.val (.int p1), .val (.int p2), .val (.int p3), .val (.int p4), .val (.int p5), .val (.int p6), .val (.int 1), .val (.int 1), .val .null, .val .null, .val (.ref b1), .val (.int 1)] [(.ref b1)]) _
    refine st8.trans ?_
    show St p e below T8 (mkF m 96 #[.val (.int p1), .val (.int p2), .val (.int p3), .val (.int p4), .val (.int p5), .val (.int p6), .val (.int 1), .val (.int 1), .val .null, .val .null, .val (.ref b1), .val (.int 1)] [.null]) _
    refine XS.aload X8.here hx rfl (hb hby at_96) rfl rfl ?_
    show St p e below T8 (mkF m 98 #[.val (.int p1), .val (.int p2), .val (.int p3), .val (.int p4), .val (.int p5), .val (.int p6), .val (.int 1), .val (.int 1), .val .null, .val .null, .val (.ref b1), .val (.int 1)] [.null, .null]) _
    refine Jvm.RoadKit.acmp (g := (mkF m 98 #[.val (.int p1), .val (.int p2), .val (.int p3), .val (.int p4), .val (.int p5), .val (.int p6), .val (.int 1), .val (.int 1), .val .null, .val .null, .val (.ref b1), .val (.int 1)] [.null, .null])) X8 hx rfl rfl rfl (pc0 := 98) (pc' := 101) (same := true) rfl (hb hby at_98) rfl (decide_eq_true rfl) (by decide) (by decide) ?_
    show St p e below T8 (mkF m 101 #[.val (.int p1), .val (.int p2), .val (.int p3), .val (.int p4), .val (.int p5), .val (.int p6), .val (.int 1), .val (.int 1), .val .null, .val .null, .val (.ref b1), .val (.int 1)] []) _
    refine XS.aload X8.here hx rfl (hb hby at_101) rfl rfl ?_
    show St p e below T8 (mkF m 103 #[.val (.int p1), .val (.int p2), .val (.int p3), .val (.int p4), .val (.int p5), .val (.int p6), .val (.int 1), .val (.int 1), .val .null, .val .null, .val (.ref b1), .val (.int 1)] [(.ref b1)]) _
    refine st9.trans ?_
    show St p e below T9 (mkF m 106 #[.val (.int p1), .val (.int p2), .val (.int p3), .val (.int p4), .val (.int p5), .val (.int p6), .val (.int 1), .val (.int 1), .val .null, .val .null, .val (.ref b1), .val (.int 1)] [.null]) _
    refine XS.aload X9.here hx rfl (hb hby at_106) rfl rfl ?_
    show St p e below T9 (mkF m 108 #[.val (.int p1), .val (.int p2), .val (.int p3), .val (.int p4), .val (.int p5), .val (.int p6), .val (.int 1), .val (.int 1), .val .null, .val .null, .val (.ref b1), .val (.int 1)] [.null, .null]) _
    refine Jvm.RoadKit.acmp (g := (mkF m 108 #[.val (.int p1), .val (.int p2), .val (.int p3), .val (.int p4), .val (.int p5), .val (.int p6), .val (.int 1), .val (.int 1), .val .null, .val .null, .val (.ref b1), .val (.int 1)] [.null, .null])) X9 hx rfl rfl rfl (pc0 := 108) (pc' := 111) (same := true) rfl (hb hby at_108) rfl (decide_eq_true rfl) (by decide) (by decide) ?_
    show St p e below T9 (mkF m 111 #[.val (.int p1), .val (.int p2), .val (.int p3), .val (.int p4), .val (.int p5), .val (.int p6), .val (.int 1), .val (.int 1), .val .null, .val .null, .val (.ref b1), .val (.int 1)] []) _
    refine XS.iconst X9.here hx rfl (hb hby at_111) ?_
    show St p e below T9 (mkF m 112 #[.val (.int p1), .val (.int p2), .val (.int p3), .val (.int p4), .val (.int p5), .val (.int p6), .val (.int 1), .val (.int 1), .val .null, .val .null, .val (.ref b1), .val (.int 1)] [(.int 1)]) _
    refine XS.goto X9.here hx rfl (pc0 := 112) (pc' := 116) rfl (hb hby at_112) (by decide) (by decide) ?_
    show St p e below T9 (mkF m 116 #[.val (.int p1), .val (.int p2), .val (.int p3), .val (.int p4), .val (.int p5), .val (.int p6), .val (.int 1), .val (.int 1), .val .null, .val .null, .val (.ref b1), .val (.int 1)] [(.int 1)]) _
    exact retN X9 hx (t := .boolean) Bd.returns (by simp) (hb hby at_116) hr
  · exact ⟨rfl, N9⟩
  · show CHr Z consts_1 s.vm s.heap T9.vm T9.heap
    rw [hh, e9]
    exact CRe
theorem own_and1 (x : Int32) : (x &&& (1 : Int32)) = (0 : Int32) ∨ (x &&& (1 : Int32)) = (1 : Int32) := by
  have h := c_mask x (1 : Int32) 1 (by decide) (by decide)
  rw [show ((2 ^ 1 : Nat) : Int) = 2 from rfl] at h
  have q : ((x &&& (1 : Int32))).toInt = 0 ∨ ((x &&& (1 : Int32))).toInt = 1 := by omega
  rcases q with q | q
  · exact Or.inl (Int32.toInt_inj.mp (q.trans (by decide)))
  · exact Or.inr (Int32.toInt_inj.mp (q.trans (by decide)))
theorem own_fi {s : State} {args : Array Value} {t : Term} {C n d : String} {k : Int32} {a : Addr} (ev : t.eval args s none [] s = some (.ref a)) (h : (Jvm.Cond.eq (Term.field t C n d) (Term.int k)).value args s none s [] = some true) : Fld s s.heap a C n d (.int k) := by
  obtain ⟨x, y, h1, h2, h3, h4⟩ := cmp_v (Or.inl h)
  have e2 : y = .int k := (Option.some.inj (h2.symm.trans (Term.int_eval k)))
  subst e2
  obtain ⟨z, rfl⟩ := h4
  have e3 : z = k := gotT (Cond.eq_ints h1 h2) h
  subst e3
  exact Fld.start ((fld_at ev).symm.trans h1)
theorem own_fr {s : State} {args : Array Value} {t u : Term} {C n d : String} {a b : Addr} (ev : t.eval args s none [] s = some (.ref a)) (ev2 : u.eval args s none [] s = some (.ref b)) (h : (Jvm.Cond.eq (Term.field t C n d) u).value args s none s [] = some true) : Fld s s.heap a C n d (.ref b) := by
  obtain ⟨x, y, h1, h2, h3, h4⟩ := cmp_v (Or.inl h)
  obtain rfl : y = .ref b := Option.some.inj (h2.symm.trans ev2)
  have hx : x.isRef = true := h4.2
  have e3 : x = .ref b := gotT (eq_R h1 h2 hx rfl) h
  subst e3
  exact Fld.start ((fld_at ev).symm.trans h1)
set_option maxRecDepth 65536 in
set_option maxHeartbeats 40000000 in
theorem comes_1 {Post : Tables → Env → Array Value → State → Outcome → State → Prop} (hpost : ∀ tb e args s v u, (limb_1_1.after args s (.returned v) u = true ∧ limb_1_2.after args s (.returned v) u = true ∧ True) → ReturnedEndW s (.returned v) u (Jvm.fieldLocs frame_1_writes args s ++ Jvm.arrayLocs frame_1_arrays args s ++ Jvm.staticLocs frame_1_statics s) 24 1152 → Post tb e args s (.returned v) u) :
    ArmFor flags0 classFile x code maxLocals ret World_1 tables_1 room_1 Calls_1 rest_1 Pre_1 Post := by
  intro l hfl _ _ p e ha hc hk s m args below hf hA hF happ hP
  obtain ⟨hcalls, hrest, hpre⟩ := hP
  obtain ⟨-, -, -, hnamed, -, -, -, hat⟩ := (Spec.applies_iff hf).mp happ
  obtain ⟨hg, hn⟩ := and_e (Cond.before_iff.mp (show (Jvm.Cond.and given_1 narrow_1).before args s = true from hpre))
  obtain ⟨j1, j2⟩ := and_e hg
  obtain ⟨j3, j4⟩ := and_e j2
  obtain ⟨j5, j6⟩ := and_e j4
  obtain ⟨j7, j8⟩ := and_e j6
  obtain ⟨j9, j10⟩ := and_e j8
  obtain ⟨j11, j12⟩ := and_e j10
  obtain ⟨w0, w1, w2, w3, w4, w5, rfl⟩ : ∃ w0 w1 w2 w3 w4 w5 : Value, args = #[w0, w1, w2, w3, w4, w5] := by
    have hs : args.size = 6 := by simpa [Cond.value, given_1] using j1
    obtain ⟨L⟩ := args
    match L, hs with
    | [w0, w1, w2, w3, w4, w5], _ => exact ⟨w0, w1, w2, w3, w4, w5, rfl⟩
  have hw := fun d (hd : d ∈ tables_1) => atoms_spec (ws := Jvm.Cond.code x code maxLocals ret :: tables_1) hat d (List.mem_cons_of_mem _ hd)
  have hfit : Fit s := fun {y c} hc i hi => by
    obtain ⟨ha, rfl⟩ := Array.getElem?_eq_some_iff.mp hc
    have q := List.all_eq_true.mp ((Array.all_eq_true_iff_forall_mem.mp hF) _ (Array.getElem_mem ha)) i (List.mem_range.mpr hi)
    simpa [Array.getElem?_eq_getElem hi] using q
  obtain ⟨hsets, hown0⟩ := atoms_of _ (rest_1_c_eq ▸ (show rest_1_c.before _ s = true from hrest))
  have hr0 := Cond.before_iff.mp hown0
  obtain ⟨i0, ei0⟩ := is_v j3
  obtain rfl : w0 = (.int i0) := Option.some.inj ei0
  obtain ⟨i1, ei1⟩ := is_v j5
  obtain rfl : w1 = (.int i1) := Option.some.inj ei1
  obtain ⟨i2, ei2⟩ := is_v j7
  obtain rfl : w2 = (.int i2) := Option.some.inj ei2
  obtain ⟨i3, ei3⟩ := is_v j9
  obtain rfl : w3 = (.int i3) := Option.some.inj ei3
  obtain ⟨i4, ei4⟩ := is_v j11
  obtain rfl : w4 = (.int i4) := Option.some.inj ei4
  obtain ⟨i5, ei5⟩ := is_v j12
  obtain rfl : w5 = (.int i5) := Option.some.inj ei5
  have hEL : EW s _ consts_1 := (EW.cons (hwi hw 18 rfl) (by decide) EW.nil)
  have hheld : ∀ p ∈ consts_1, Jvm.Lit.constHeld s p.1 p.2 := hcalls.1
  have H0c : CHv s consts_1 s.vm s.heap := CHv.start hEL hheld (hsets _ (List.mem_of_getElem? (i := 2) rfl)) (hwi hw 19 rfl) (hwi hw 5 rfl)
  have n5 := not_v (Cond.before_iff.mp (hsets _ (List.mem_of_getElem? (i := 2) rfl)))
  obtain ⟨w_COMPACT_STRINGS, ecs⟩ := is_v (Cond.before_iff.mp (hsets _ (List.mem_of_getElem? (i := 1) rfl)))
  have S_COMPACT_STRINGS := Sta.start ecs (Or.inl (hsets _ (List.mem_of_getElem? (i := 0) rfl)))
  have hcs : ¬ (w_COMPACT_STRINGS = (0 : Int32)) := gotF (Cond.eq_ints ecs (Term.int_eval (0))) n5
  have key : MetFree l x (head1 (Jvm.Cond.code x code maxLocals ret :: tables_1) room_1) (fun a U => a = #[(.int i0), (.int i1), (.int i2), (.int i3), (.int i4), (.int i5)] ∧ s.Warmed39 U.vm ∧ U.heap = s.heap ∧ CHv s consts_1 U.vm s.heap) (fun _ _ _ _ _ => True) (fun _ U o U' => ∃ v L, o = .returned v ∧ Q_law s.heap.size v L ∧ CHr s consts_1 U.vm U.heap U'.vm U'.heap ∧ ReturnedEndW U o U' L room_1.cells room_1.slots) := by
    rcases own_and1 i0 with hi | hi <;> by_cases hr_ : (i0 &&& (2 : Int32)) = (0 : Int32)
    · exact rm_law_00 l s _ hw hEL tables_1 i0 i1 i2 i3 i4 i5 w_COMPACT_STRINGS s.heap s.heap.size (Nat.le_refl _) hr_ S_COMPACT_STRINGS hcs (Old.start s) hi
    · exact rm_law_01 l s _ hw hEL tables_1 i0 i1 i2 i3 i4 i5 w_COMPACT_STRINGS s.heap s.heap.size (Nat.le_refl _) hr_ S_COMPACT_STRINGS hcs (Old.start s) hi
    · exact rm_law_10 l s _ hw hEL tables_1 i0 i1 i2 i3 i4 i5 w_COMPACT_STRINGS s.heap s.heap.size (Nat.le_refl _) hr_ S_COMPACT_STRINGS hcs (Old.start s) hi
    · exact rm_law_11 l s _ hw hEL tables_1 i0 i1 i2 i3 i4 i5 w_COMPACT_STRINGS s.heap s.heap.size (Nat.le_refl _) hr_ S_COMPACT_STRINGS hcs (Old.start s) hi
  obtain ⟨n, o, h1, h2, h3, _, L, rfl, ⟨rfl, N⟩, -, hq⟩ := key p e ha hc hk s m _ below hf ((Spec.applies_iff_loose hf).mp happ).1 ⟨rfl, State.Warmed39.refl s, rfl, H0c⟩ trivial
  refine ⟨n, _, h1, h2, h3, hpost _ _ _ _ _ _ ⟨Cond.after_iff.mpr rfl, Cond.after_iff.mpr (eq_i res_at (Term.int_eval (1)) rfl), trivial⟩ ⟨hq.1, hq.2.1, hq.2.2.1, (hq.2.2.2.sift fun y hy => Or.inr (N y hy)).mono (by decide) (by decide)⟩⟩
theorem main_1_1 : Claimed_1_1 := comes_1 fun _ _ _ _ _ _ h hF => ⟨h.1, hF⟩
theorem main_1_2 : Claimed_1_2 := comes_1 fun _ _ _ _ _ _ h hF => ⟨h.2.1, hF⟩
end Jvm.Pilot.@@N@@
namespace Jvm.Pilot.@@N@@
open Jvm Jvm.ClassFile Sem Op Lib Jvm.Free Jvm.Stand Jvm.Pilot.@@N@@.Jvm.D
/-! MADE BY PROGRAM (witnessworld.py) out of the Statement's table words and the real class files: 21 classes; the members and pool entries that the words name. The judged class is class 1, her method 2. -/
namespace start1
open Jvm.ClassFile
def u (s : String) : CpInfo := .utf8 (stringToUtf16 s)
/-- a pool by its gaps: so many unusable entries, then the entry; so many at the end -/
def gap : Nat → List CpInfo → List CpInfo
  | 0, r => r
  | n + 1, r => .unusable :: gap n r
def poolList (es : List (Nat × CpInfo)) (last : Nat) : List CpInfo := es.foldr (fun e r => gap e.1 (e.2 :: r)) (gap last [])
def pool (es : List (Nat × CpInfo)) (last : Nat) : Array CpInfo := ⟨poolList es last⟩
def fileOf (pool : Array CpInfo) (this : Nat) (attrs : Array Attribute := #[]) (ms : Array MethodInfo := #[]) (fl : Nat := 33) (sup : Nat := 0) (ifs : Array Nat := #[]) (fds : Array FieldInfo := #[]) : ClassFile where
  minorVersion := 0
  majorVersion := 65
  constantPool := pool
  accessFlags := fl
  thisClass := this
  superClass := sup
  interfaces := ifs
  fields := fds
  methods := ms
  attributes := attrs
def plain (name : String) (sup : Option ClassId) : Class where
  name := name
  kind := .ordinary
  loader := none
  accessFlags := 33
  super := sup
  interfaces := #[]
  cf := none
  fields := #[]
  methods := #[]
  instanceTypes := #[]
  staticTypes := #[]
  resolved := #[]
  callSites := []
  init := .initialized
  statics := none
  mirror := none

def pool0 : Array CpInfo := pool [(5, u "<init>"), (0, u "()V"), (1, .class_ 10), (1, u "java/lang/Object")] 113

def k0c0 : Code := { maxStack := 0, maxLocals := 1, code := object_method_1_code, exceptionTable := #[], attributes := #[] }
def k0m0 : Method := { name := "<init>", desc := "()V", sig := { parameters := [], returnType := none }, accessFlags := 1, code := some k0c0 }
/-- java/lang/Object -/
def k0 : Class := { plain "java/lang/Object" none with
  accessFlags := 33
  interfaces := #[]
  cf := some (fileOf pool0 8 #[] #[{ accessFlags := 1, nameIndex := 5, descriptorIndex := 6, attributes := #[] }] 33 0 #[] #[])
  fields := #[]
  methods := #[k0m0]
  instanceTypes := #[]
  staticTypes := #[]
  resolved := Array.replicate 124 none
  statics := none }

def pool1 : Array CpInfo := pool [(2, .class_ 4), (1, u "java/lang/Object"), (0, u "<init>"), (0, u "()V"), (0, .class_ 8), (0, u "java/lang/String"), (0, .methodref 7 10), (0, .nameAndType 5 11), (0, u "([C)V"), (0, .methodref 13 14), (0, .class_ 15), (0, .nameAndType 16 17), (0, u "com/example/disbursa/disbursa/rails/OutcomeSettledPinLaw"), (0, u "str"), (0, u "(IIII)Ljava/lang/String;"), (0, .class_ 19), (0, u "com/example/disbursa/disbursa/rails/Outcome"), (0, .methodref 18 21), (0, .nameAndType 5 22), (0, u "(Ljava/lang/String;Ljava/lang/String;)V"), (0, .methodref 18 24), (0, .nameAndType 25 26), (0, u "settled"), (0, u "()Z"), (0, .methodref 18 28), (0, .nameAndType 29 30), (0, u "reason"), (0, u "()Ljava/lang/String;"), (0, .methodref 18 32), (0, .nameAndType 33 30), (0, u "transferId"), (3, u "law"), (0, u "(IIIIII)Z")] 2

def k1m0 : Method := { name := "<init>", desc := "()V", sig := { parameters := [], returnType := none }, accessFlags := 1, code := none }
def k1c1 : Code := { maxStack := 6, maxLocals := 8, code := method_2_code, exceptionTable := #[], attributes := #[] }
def k1m1 : Method := { name := "str", desc := "(IIII)Ljava/lang/String;", sig := { parameters := [.int, .int, .int, .int], returnType := some (.object "java/lang/String") }, accessFlags := 10, code := some k1c1 }
def k1c2 : Code := { maxStack := 4, maxLocals := 12, code := code, exceptionTable := #[], attributes := #[] }
def k1m2 : Method := { name := "law", desc := "(IIIIII)Z", sig := { parameters := [.int, .int, .int, .int, .int, .int], returnType := some .boolean }, accessFlags := 9, code := some k1c2 }
/-- com/example/disbursa/disbursa/rails/OutcomeSettledPinLaw -/
def k1 : Class := { plain "com/example/disbursa/disbursa/rails/OutcomeSettledPinLaw" (some 0) with
  accessFlags := 49
  interfaces := #[]
  cf := some (fileOf pool1 13 #[] #[{ accessFlags := 1, nameIndex := 5, descriptorIndex := 6, attributes := #[] }, { accessFlags := 10, nameIndex := 16, descriptorIndex := 17, attributes := #[] }, { accessFlags := 9, nameIndex := 37, descriptorIndex := 38, attributes := #[] }] 49 2 #[] #[])
  fields := #[]
  methods := #[k1m0, k1m1, k1m2]
  instanceTypes := #[]
  staticTypes := #[]
  resolved := Array.replicate 41 none
  statics := none }

def pool2 : Array CpInfo := pool [(1, .class_ 2), (0, u "java/io/Serializable"), (0, .class_ 4), (0, u "java/lang/Object")] 2

/-- java/io/Serializable -/
def k2 : Class := { plain "java/io/Serializable" (some 0) with
  accessFlags := 1537
  interfaces := #[]
  cf := some (fileOf pool2 1 #[] #[] 1537 3 #[] #[])
  fields := #[]
  methods := #[]
  instanceTypes := #[]
  staticTypes := #[]
  resolved := Array.replicate 7 none
  statics := none }

def pool3 : Array CpInfo := pool [(1, .class_ 2), (0, u "java/lang/Comparable"), (0, .class_ 4), (0, u "java/lang/Object")] 7

/-- java/lang/Comparable -/
def k3 : Class := { plain "java/lang/Comparable" (some 0) with
  accessFlags := 1537
  interfaces := #[]
  cf := some (fileOf pool3 1 #[] #[] 1537 3 #[] #[])
  fields := #[]
  methods := #[]
  instanceTypes := #[]
  staticTypes := #[]
  resolved := Array.replicate 12 none
  statics := none }

def pool4 : Array CpInfo := pool [(2, .class_ 4), (1, u "java/lang/CharSequence"), (42, .class_ 48), (0, u "java/lang/CharSequence$1CodePointIterator"), (10, .class_ 60), (0, u "java/lang/CharSequence$1CharIterator"), (5, .class_ 67), (0, u "java/lang/Object")] 63

/-- java/lang/CharSequence -/
def k4 : Class := { plain "java/lang/CharSequence" (some 0) with
  accessFlags := 1537
  interfaces := #[]
  cf := some (fileOf pool4 2 #[.nestMembers #[47, 59]] #[] 1537 66 #[] #[])
  fields := #[]
  methods := #[]
  instanceTypes := #[]
  staticTypes := #[]
  resolved := Array.replicate 131 none
  statics := none }

def pool5 : Array CpInfo := pool [(1, .class_ 2), (0, u "java/lang/constant/Constable"), (0, .class_ 4), (0, u "java/lang/Object")] 6

/-- java/lang/constant/Constable -/
def k5 : Class := { plain "java/lang/constant/Constable" (some 0) with
  accessFlags := 1537
  interfaces := #[]
  cf := some (fileOf pool5 1 #[] #[] 1537 3 #[] #[])
  fields := #[]
  methods := #[]
  instanceTypes := #[]
  staticTypes := #[]
  resolved := Array.replicate 11 none
  statics := none }

def pool6 : Array CpInfo := pool [(1, .class_ 2), (0, u "java/lang/constant/ConstantDesc"), (0, .class_ 4), (0, u "java/lang/Object")] 32

/-- java/lang/constant/ConstantDesc -/
def k6 : Class := { plain "java/lang/constant/ConstantDesc" (some 0) with
  accessFlags := 1537
  interfaces := #[]
  cf := some (fileOf pool6 1 #[] #[] 1537 3 #[] #[])
  fields := #[]
  methods := #[]
  instanceTypes := #[]
  staticTypes := #[]
  resolved := Array.replicate 37 none
  statics := none }

def pool7 : Array CpInfo := pool [(1, .methodref 2 3), (0, .class_ 4), (0, .nameAndType 5 6), (0, u "java/lang/Object"), (0, u "<init>"), (0, u "()V"), (0, .string 8), (0, u ""), (0, .fieldref 10 11), (0, .class_ 12), (0, .nameAndType 13 14), (0, u "java/lang/String"), (0, u "value"), (0, u "[B"), (0, .fieldref 10 16), (0, .nameAndType 17 18), (0, u "coder"), (0, u "B"), (2, u "hash"), (0, u "I"), (2, u "hashIsZero"), (0, u "Z"), (0, .methodref 10 28), (0, .nameAndType 5 29), (0, u "([CIILjava/lang/Void;)V"), (8, .fieldref 10 39), (0, .nameAndType 40 26), (0, u "COMPACT_STRINGS"), (1, .class_ 44), (1, u "java/lang/StringUTF16"), (0, u "compress"), (1, .methodref 42 48), (0, .nameAndType 49 50), (0, u "coderFromArrayLen"), (0, u "([BI)B"), (126, .methodref 42 178), (0, .nameAndType 45 179), (0, u "([CII)[B"), (395, .class_ 576), (0, u "java/lang/CharSequence"), (22, u "CASE_INSENSITIVE_ORDER"), (0, u "Ljava/util/Comparator;"), (409, u "([C)V"), (90, u "serialPersistentFields"), (0, u "[Ljava/io/ObjectStreamField;"), (0, .class_ 1104), (0, u "java/lang/String$CaseInsensitiveComparator"), (1, .class_ 1107), (0, u "java/io/Serializable"), (0, .class_ 1109), (0, u "java/lang/Comparable"), (0, .class_ 1111), (0, u "java/lang/constant/Constable"), (0, .class_ 1113), (0, u "java/lang/constant/ConstantDesc"), (2, u "serialVersionUID"), (0, u "J"), (3, u "REPL"), (0, u "C"), (2, u "LATIN1"), (1, u "UTF16")] 323

def k7m0 : Method := { name := "<init>", desc := "()V", sig := { parameters := [], returnType := none }, accessFlags := 1, code := none }
def k7c1 : Code := { maxStack := 5, maxLocals := 2, code := jdk_42_method_3_code, exceptionTable := #[], attributes := #[] }
def k7m1 : Method := { name := "<init>", desc := "([C)V", sig := { parameters := [(.array .char)], returnType := none }, accessFlags := 1, code := some k7c1 }
def k7c2 : Code := { maxStack := 4, maxLocals := 6, code := jdk_42_method_149_code, exceptionTable := #[], attributes := #[] }
def k7m2 : Method := { name := "<init>", desc := "([CIILjava/lang/Void;)V", sig := { parameters := [(.array .char), .int, .int, (.object "java/lang/Void")], returnType := none }, accessFlags := 2, code := some k7c2 }
/-- java/lang/String -/
def k7 : Class := { plain "java/lang/String" (some 0) with
  accessFlags := 49
  interfaces := #[2, 3, 4, 5, 6]
  cf := some (fileOf pool7 10 #[.nestMembers #[1103]] #[{ accessFlags := 1, nameIndex := 5, descriptorIndex := 6, attributes := #[] }, { accessFlags := 1, nameIndex := 5, descriptorIndex := 1010, attributes := #[] }, { accessFlags := 2, nameIndex := 5, descriptorIndex := 29, attributes := #[] }] 49 2 #[1106, 1108, 575, 1110, 1112] #[{ accessFlags := 18, nameIndex := 13, descriptorIndex := 14, attributes := #[] }, { accessFlags := 18, nameIndex := 17, descriptorIndex := 18, attributes := #[] }, { accessFlags := 2, nameIndex := 21, descriptorIndex := 22, attributes := #[] }, { accessFlags := 2, nameIndex := 25, descriptorIndex := 26, attributes := #[] }, { accessFlags := 26, nameIndex := 1116, descriptorIndex := 1117, attributes := #[] }, { accessFlags := 24, nameIndex := 40, descriptorIndex := 26, attributes := #[] }, { accessFlags := 26, nameIndex := 1101, descriptorIndex := 1102, attributes := #[] }, { accessFlags := 26, nameIndex := 1121, descriptorIndex := 1122, attributes := #[] }, { accessFlags := 25, nameIndex := 599, descriptorIndex := 600, attributes := #[] }, { accessFlags := 24, nameIndex := 1125, descriptorIndex := 18, attributes := #[] }, { accessFlags := 24, nameIndex := 1127, descriptorIndex := 18, attributes := #[] }])
  fields := #[{ name := "value", type := (.array .byte), accessFlags := 18, slot := 0, constantValue := 0 }, { name := "coder", type := .byte, accessFlags := 18, slot := 1, constantValue := 0 }, { name := "hash", type := .int, accessFlags := 2, slot := 2, constantValue := 0 }, { name := "hashIsZero", type := .boolean, accessFlags := 2, slot := 3, constantValue := 0 }, { name := "serialVersionUID", type := .long, accessFlags := 26, slot := 0, constantValue := 0 }, { name := "COMPACT_STRINGS", type := .boolean, accessFlags := 24, slot := 1, constantValue := 0 }, { name := "serialPersistentFields", type := (.array (.object "java/io/ObjectStreamField")), accessFlags := 26, slot := 2, constantValue := 0 }, { name := "REPL", type := .char, accessFlags := 26, slot := 3, constantValue := 0 }, { name := "CASE_INSENSITIVE_ORDER", type := (.object "java/util/Comparator"), accessFlags := 25, slot := 4, constantValue := 0 }, { name := "LATIN1", type := .byte, accessFlags := 24, slot := 5, constantValue := 0 }, { name := "UTF16", type := .byte, accessFlags := 24, slot := 6, constantValue := 0 }]
  methods := #[k7m0, k7m1, k7m2]
  instanceTypes := #[(.array .byte), .byte, .int, .boolean]
  staticTypes := #[.long, .boolean, (.array (.object "java/io/ObjectStreamField")), .char, (.object "java/util/Comparator"), .byte, .byte]
  resolved := Array.replicate 1451 none
  statics := some 0 }

def pool8 : Array CpInfo := pool [(6, .class_ 8), (1, u "java/lang/Object"), (0, u "<init>"), (0, u "()V"), (1, .class_ 14), (1, u "java/lang/StringUTF16"), (31, u "$assertionsDisabled"), (0, u "Z"), (13, u "HI_BYTE_SHIFT"), (0, u "I"), (2, u "LO_BYTE_SHIFT"), (49, .methodref 12 116), (0, .nameAndType 117 118), (0, u "compress"), (0, u "([CI[BII)I"), (3, u "([CII)[B"), (138, u "coderFromArrayLen"), (0, u "([BI)B"), (106, .class_ 371), (1, u "java/lang/StringUTF16$LinesSpliterator"), (58, u "MAX_LENGTH"), (196, .class_ 628), (0, u "java/lang/StringUTF16$CodePointsSpliterator"), (0, .class_ 630), (0, u "java/lang/StringUTF16$CharsSpliterator")] 4

def k8m0 : Method := { name := "<init>", desc := "()V", sig := { parameters := [], returnType := none }, accessFlags := 0, code := none }
def k8c1 : Code := { maxStack := 2, maxLocals := 2, code := jdk_52_method_15_code, exceptionTable := #[], attributes := #[] }
def k8m1 : Method := { name := "coderFromArrayLen", desc := "([BI)B", sig := { parameters := [(.array .byte), .int], returnType := some .byte }, accessFlags := 8, code := some k8c1 }
def k8c2 : Code := { maxStack := 5, maxLocals := 6, code := jdk_52_method_16_code, exceptionTable := #[], attributes := #[] }
def k8m2 : Method := { name := "compress", desc := "([CII)[B", sig := { parameters := [(.array .char), .int, .int], returnType := some (.array .byte) }, accessFlags := 9, code := some k8c2 }
def k8c3 : Code := { maxStack := 3, maxLocals := 7, code := jdk_52_method_21_code, exceptionTable := #[], attributes := #[] }
def k8m3 : Method := { name := "compress", desc := "([CI[BII)I", sig := { parameters := [(.array .char), .int, (.array .byte), .int, .int], returnType := some .int }, accessFlags := 9, code := some k8c3 }
/-- java/lang/StringUTF16 -/
def k8 : Class := { plain "java/lang/StringUTF16" (some 0) with
  accessFlags := 48
  interfaces := #[]
  cf := some (fileOf pool8 12 #[.nestMembers #[627, 629, 369]] #[{ accessFlags := 0, nameIndex := 9, descriptorIndex := 10, attributes := #[] }, { accessFlags := 8, nameIndex := 261, descriptorIndex := 262, attributes := #[] }, { accessFlags := 9, nameIndex := 117, descriptorIndex := 122, attributes := #[] }, { accessFlags := 9, nameIndex := 117, descriptorIndex := 118, attributes := #[] }] 48 6 #[] #[{ accessFlags := 26, nameIndex := 61, descriptorIndex := 62, attributes := #[] }, { accessFlags := 26, nameIndex := 65, descriptorIndex := 62, attributes := #[] }, { accessFlags := 24, nameIndex := 430, descriptorIndex := 62, attributes := #[] }, { accessFlags := 4120, nameIndex := 46, descriptorIndex := 47, attributes := #[] }])
  fields := #[{ name := "HI_BYTE_SHIFT", type := .int, accessFlags := 26, slot := 0, constantValue := 0 }, { name := "LO_BYTE_SHIFT", type := .int, accessFlags := 26, slot := 1, constantValue := 0 }, { name := "MAX_LENGTH", type := .int, accessFlags := 24, slot := 2, constantValue := 0 }, { name := "$assertionsDisabled", type := .boolean, accessFlags := 4120, slot := 3, constantValue := 0 }]
  methods := #[k8m0, k8m1, k8m2, k8m3]
  instanceTypes := #[]
  staticTypes := #[.int, .int, .int, .boolean]
  resolved := Array.replicate 635 none
  statics := none }

def pool9 : Array CpInfo := pool [(1, .methodref 2 3), (0, .class_ 4), (0, .nameAndType 5 6), (0, u "java/lang/Object"), (0, u "<init>"), (0, u "()V"), (0, .class_ 8), (0, u "java/lang/Record")] 13

def k9c0 : Code := { maxStack := 1, maxLocals := 1, code := jdk_30_method_1_code, exceptionTable := #[], attributes := #[] }
def k9m0 : Method := { name := "<init>", desc := "()V", sig := { parameters := [], returnType := none }, accessFlags := 4, code := some k9c0 }
/-- java/lang/Record -/
def k9 : Class := { plain "java/lang/Record" (some 0) with
  accessFlags := 1057
  interfaces := #[]
  cf := some (fileOf pool9 7 #[] #[{ accessFlags := 4, nameIndex := 5, descriptorIndex := 6, attributes := #[] }] 1057 2 #[] #[])
  fields := #[]
  methods := #[k9m0]
  instanceTypes := #[]
  staticTypes := #[]
  resolved := Array.replicate 22 none
  statics := none }

def pool10 : Array CpInfo := pool [(1, .methodref 2 3), (0, .class_ 4), (0, .nameAndType 5 6), (0, u "java/lang/Record"), (0, u "<init>"), (0, u "()V"), (0, .fieldref 8 9), (0, .class_ 10), (0, .nameAndType 11 12), (0, u "com/example/disbursa/disbursa/rails/Outcome"), (0, u "transferId"), (0, u "Ljava/lang/String;"), (0, .fieldref 8 14), (0, .nameAndType 15 12), (0, u "reason"), (12, u "(Ljava/lang/String;Ljava/lang/String;)V"), (3, u "settled"), (0, u "()Z"), (1, u "()Ljava/lang/String;")] 23

def k10c0 : Code := { maxStack := 2, maxLocals := 3, code := prog_116_method_1_code, exceptionTable := #[], attributes := #[] }
def k10m0 : Method := { name := "<init>", desc := "(Ljava/lang/String;Ljava/lang/String;)V", sig := { parameters := [(.object "java/lang/String"), (.object "java/lang/String")], returnType := none }, accessFlags := 1, code := some k10c0 }
def k10c1 : Code := { maxStack := 1, maxLocals := 1, code := prog_116_method_2_code, exceptionTable := #[], attributes := #[] }
def k10m1 : Method := { name := "settled", desc := "()Z", sig := { parameters := [], returnType := some .boolean }, accessFlags := 1, code := some k10c1 }
def k10c2 : Code := { maxStack := 1, maxLocals := 1, code := prog_116_method_6_code, exceptionTable := #[], attributes := #[] }
def k10m2 : Method := { name := "transferId", desc := "()Ljava/lang/String;", sig := { parameters := [], returnType := some (.object "java/lang/String") }, accessFlags := 1, code := some k10c2 }
def k10c3 : Code := { maxStack := 1, maxLocals := 1, code := prog_116_method_7_code, exceptionTable := #[], attributes := #[] }
def k10m3 : Method := { name := "reason", desc := "()Ljava/lang/String;", sig := { parameters := [], returnType := some (.object "java/lang/String") }, accessFlags := 1, code := some k10c3 }
/-- com/example/disbursa/disbursa/rails/Outcome -/
def k10 : Class := { plain "com/example/disbursa/disbursa/rails/Outcome" (some 9) with
  accessFlags := 49
  interfaces := #[]
  cf := some (fileOf pool10 8 #[] #[{ accessFlags := 1, nameIndex := 5, descriptorIndex := 28, attributes := #[] }, { accessFlags := 1, nameIndex := 32, descriptorIndex := 33, attributes := #[] }, { accessFlags := 1, nameIndex := 11, descriptorIndex := 35, attributes := #[] }, { accessFlags := 1, nameIndex := 15, descriptorIndex := 35, attributes := #[] }] 49 2 #[] #[{ accessFlags := 18, nameIndex := 11, descriptorIndex := 12, attributes := #[] }, { accessFlags := 18, nameIndex := 15, descriptorIndex := 12, attributes := #[] }])
  fields := #[{ name := "transferId", type := (.object "java/lang/String"), accessFlags := 18, slot := 0, constantValue := 0 }, { name := "reason", type := (.object "java/lang/String"), accessFlags := 18, slot := 1, constantValue := 0 }]
  methods := #[k10m0, k10m1, k10m2, k10m3]
  instanceTypes := #[(.object "java/lang/String"), (.object "java/lang/String")]
  staticTypes := #[]
  resolved := Array.replicate 59 none
  statics := none }

def pool11 : Array CpInfo := pool [(4, .class_ 6), (1, u "java/lang/Object"), (0, u "<init>"), (0, u "()V"), (5, .class_ 16), (1, u "java/lang/StringLatin1"), (104, u "$assertionsDisabled"), (0, u "Z"), (98, .class_ 223), (1, u "java/lang/StringLatin1$LinesSpliterator"), (166, .class_ 391), (0, u "java/lang/StringLatin1$CharsSpliterator")] 3

def k11m0 : Method := { name := "<init>", desc := "()V", sig := { parameters := [], returnType := none }, accessFlags := 0, code := none }
/-- java/lang/StringLatin1 -/
def k11 : Class := { plain "java/lang/StringLatin1" (some 0) with
  accessFlags := 48
  interfaces := #[]
  cf := some (fileOf pool11 14 #[.nestMembers #[390, 221]] #[{ accessFlags := 0, nameIndex := 7, descriptorIndex := 8, attributes := #[] }] 48 4 #[] #[{ accessFlags := 4120, nameIndex := 121, descriptorIndex := 122, attributes := #[] }])
  fields := #[{ name := "$assertionsDisabled", type := .boolean, accessFlags := 4120, slot := 0, constantValue := 0 }]
  methods := #[k11m0]
  instanceTypes := #[]
  staticTypes := #[.boolean]
  resolved := Array.replicate 395 none
  statics := none }

def pool12 : Array CpInfo := pool [(2, .class_ 4), (1, u "java/lang/Object"), (0, u "<init>"), (0, u "()V"), (17, .class_ 26), (1, u "jdk/internal/util/Preconditions"), (28, .class_ 56), (0, u "jdk/internal/util/Preconditions$4"), (57, .class_ 115), (0, u "jdk/internal/util/Preconditions$1"), (7, u "SIOOBE_FORMATTER"), (0, u "Ljava/util/function/BiFunction;"), (0, .class_ 126), (0, u "jdk/internal/util/Preconditions$2"), (3, u "AIOOBE_FORMATTER"), (0, .class_ 132), (0, u "jdk/internal/util/Preconditions$3"), (3, u "IOOBE_FORMATTER")] 57

def k12m0 : Method := { name := "<init>", desc := "()V", sig := { parameters := [], returnType := none }, accessFlags := 1, code := none }
/-- jdk/internal/util/Preconditions -/
def k12 : Class := { plain "jdk/internal/util/Preconditions" (some 0) with
  accessFlags := 33
  interfaces := #[]
  cf := some (fileOf pool12 24 #[.nestMembers #[55, 131, 125, 114]] #[{ accessFlags := 1, nameIndex := 5, descriptorIndex := 6, attributes := #[] }] 33 2 #[] #[{ accessFlags := 25, nameIndex := 123, descriptorIndex := 124, attributes := #[] }, { accessFlags := 25, nameIndex := 130, descriptorIndex := 124, attributes := #[] }, { accessFlags := 25, nameIndex := 136, descriptorIndex := 124, attributes := #[] }])
  fields := #[{ name := "SIOOBE_FORMATTER", type := (.object "java/util/function/BiFunction"), accessFlags := 25, slot := 0, constantValue := 0 }, { name := "AIOOBE_FORMATTER", type := (.object "java/util/function/BiFunction"), accessFlags := 25, slot := 1, constantValue := 0 }, { name := "IOOBE_FORMATTER", type := (.object "java/util/function/BiFunction"), accessFlags := 25, slot := 2, constantValue := 0 }]
  methods := #[k12m0]
  instanceTypes := #[]
  staticTypes := #[(.object "java/util/function/BiFunction"), (.object "java/util/function/BiFunction"), (.object "java/util/function/BiFunction")]
  resolved := Array.replicate 194 none
  statics := some 1 }

def pool13 : Array CpInfo := pool [(9, u "<init>"), (6, .class_ 18), (1, u "java/lang/Object"), (0, u "()V"), (1, .class_ 23), (1, u "jdk/internal/util/ArraysSupport"), (0, u "LOG2_ARRAY_LONG_INDEX_SCALE"), (0, u "I"), (2, u "U"), (0, u "Ljdk/internal/misc/Unsafe;"), (8, u "BIG_ENDIAN"), (0, u "Z"), (8, u "LOG2_BYTE_BIT_SIZE"), (4, u "LOG2_ARRAY_INT_INDEX_SCALE"), (54, u "JLA"), (0, u "Ljdk/internal/access/JavaLangAccess;"), (11, u "LOG2_ARRAY_BOOLEAN_INDEX_SCALE"), (9, u "LOG2_ARRAY_BYTE_INDEX_SCALE"), (5, u "LOG2_ARRAY_CHAR_INDEX_SCALE"), (5, u "LOG2_ARRAY_SHORT_INDEX_SCALE"), (18, u "LOG2_ARRAY_FLOAT_INDEX_SCALE"), (24, u "LOG2_ARRAY_DOUBLE_INDEX_SCALE"), (89, u "T_BOOLEAN"), (2, u "T_CHAR"), (1, u "T_FLOAT"), (1, u "T_DOUBLE"), (1, u "T_BYTE"), (1, u "T_SHORT"), (1, u "T_INT"), (1, u "T_LONG"), (1, u "SOFT_MAX_ARRAY_LENGTH")] 83

def k13m0 : Method := { name := "<init>", desc := "()V", sig := { parameters := [], returnType := none }, accessFlags := 2, code := none }
/-- jdk/internal/util/ArraysSupport -/
def k13 : Class := { plain "jdk/internal/util/ArraysSupport" (some 0) with
  accessFlags := 33
  interfaces := #[]
  cf := some (fileOf pool13 21 #[] #[{ accessFlags := 2, nameIndex := 9, descriptorIndex := 19, attributes := #[] }] 33 16 #[] #[{ accessFlags := 24, nameIndex := 28, descriptorIndex := 29, attributes := #[] }, { accessFlags := 26, nameIndex := 38, descriptorIndex := 39, attributes := #[] }, { accessFlags := 25, nameIndex := 121, descriptorIndex := 25, attributes := #[] }, { accessFlags := 25, nameIndex := 131, descriptorIndex := 25, attributes := #[] }, { accessFlags := 25, nameIndex := 137, descriptorIndex := 25, attributes := #[] }, { accessFlags := 25, nameIndex := 143, descriptorIndex := 25, attributes := #[] }, { accessFlags := 25, nameIndex := 53, descriptorIndex := 25, attributes := #[] }, { accessFlags := 25, nameIndex := 24, descriptorIndex := 25, attributes := #[] }, { accessFlags := 25, nameIndex := 162, descriptorIndex := 25, attributes := #[] }, { accessFlags := 25, nameIndex := 187, descriptorIndex := 25, attributes := #[] }, { accessFlags := 26, nameIndex := 48, descriptorIndex := 25, attributes := #[] }, { accessFlags := 25, nameIndex := 277, descriptorIndex := 25, attributes := #[] }, { accessFlags := 25, nameIndex := 280, descriptorIndex := 25, attributes := #[] }, { accessFlags := 25, nameIndex := 282, descriptorIndex := 25, attributes := #[] }, { accessFlags := 25, nameIndex := 284, descriptorIndex := 25, attributes := #[] }, { accessFlags := 25, nameIndex := 286, descriptorIndex := 25, attributes := #[] }, { accessFlags := 25, nameIndex := 288, descriptorIndex := 25, attributes := #[] }, { accessFlags := 25, nameIndex := 290, descriptorIndex := 25, attributes := #[] }, { accessFlags := 25, nameIndex := 292, descriptorIndex := 25, attributes := #[] }, { accessFlags := 26, nameIndex := 108, descriptorIndex := 109, attributes := #[] }, { accessFlags := 25, nameIndex := 294, descriptorIndex := 25, attributes := #[] }])
  fields := #[{ name := "U", type := (.object "jdk/internal/misc/Unsafe"), accessFlags := 24, slot := 0, constantValue := 0 }, { name := "BIG_ENDIAN", type := .boolean, accessFlags := 26, slot := 1, constantValue := 0 }, { name := "LOG2_ARRAY_BOOLEAN_INDEX_SCALE", type := .int, accessFlags := 25, slot := 2, constantValue := 0 }, { name := "LOG2_ARRAY_BYTE_INDEX_SCALE", type := .int, accessFlags := 25, slot := 3, constantValue := 0 }, { name := "LOG2_ARRAY_CHAR_INDEX_SCALE", type := .int, accessFlags := 25, slot := 4, constantValue := 0 }, { name := "LOG2_ARRAY_SHORT_INDEX_SCALE", type := .int, accessFlags := 25, slot := 5, constantValue := 0 }, { name := "LOG2_ARRAY_INT_INDEX_SCALE", type := .int, accessFlags := 25, slot := 6, constantValue := 0 }, { name := "LOG2_ARRAY_LONG_INDEX_SCALE", type := .int, accessFlags := 25, slot := 7, constantValue := 0 }, { name := "LOG2_ARRAY_FLOAT_INDEX_SCALE", type := .int, accessFlags := 25, slot := 8, constantValue := 0 }, { name := "LOG2_ARRAY_DOUBLE_INDEX_SCALE", type := .int, accessFlags := 25, slot := 9, constantValue := 0 }, { name := "LOG2_BYTE_BIT_SIZE", type := .int, accessFlags := 26, slot := 10, constantValue := 0 }, { name := "T_BOOLEAN", type := .int, accessFlags := 25, slot := 11, constantValue := 0 }, { name := "T_CHAR", type := .int, accessFlags := 25, slot := 12, constantValue := 0 }, { name := "T_FLOAT", type := .int, accessFlags := 25, slot := 13, constantValue := 0 }, { name := "T_DOUBLE", type := .int, accessFlags := 25, slot := 14, constantValue := 0 }, { name := "T_BYTE", type := .int, accessFlags := 25, slot := 15, constantValue := 0 }, { name := "T_SHORT", type := .int, accessFlags := 25, slot := 16, constantValue := 0 }, { name := "T_INT", type := .int, accessFlags := 25, slot := 17, constantValue := 0 }, { name := "T_LONG", type := .int, accessFlags := 25, slot := 18, constantValue := 0 }, { name := "JLA", type := (.object "jdk/internal/access/JavaLangAccess"), accessFlags := 26, slot := 19, constantValue := 0 }, { name := "SOFT_MAX_ARRAY_LENGTH", type := .int, accessFlags := 25, slot := 20, constantValue := 0 }]
  methods := #[k13m0]
  instanceTypes := #[]
  staticTypes := #[(.object "jdk/internal/misc/Unsafe"), .boolean, .int, .int, .int, .int, .int, .int, .int, .int, .int, .int, .int, .int, .int, .int, .int, .int, .int, (.object "jdk/internal/access/JavaLangAccess"), .int]
  resolved := Array.replicate 378 none
  statics := none }

def pool14 : Array CpInfo := pool [(1, u "java/lang/Cloneable"), (0, .class_ 1), (0, u "java/lang/Object"), (0, .class_ 3)] 3

/-- java/lang/Cloneable -/
def k14 : Class := { plain "java/lang/Cloneable" (some 0) with
  accessFlags := 1537
  interfaces := #[]
  cf := some (fileOf pool14 2 #[] #[] 1537 4 #[] #[])
  fields := #[]
  methods := #[]
  instanceTypes := #[]
  staticTypes := #[]
  resolved := Array.replicate 8 none
  statics := none }

/-- the primitive byte -/
def k15 : Class := { plain "byte" none with kind := .primitive 'B', accessFlags := 0x411 }
/-- [B -/
def k16 : Class := { plain "[B" (some 0) with kind := .array 15 .byte, interfaces := #[14, 2], accessFlags := 1041 }

/-- the primitive char -/
def k17 : Class := { plain "char" none with kind := .primitive 'C', accessFlags := 0x411 }
/-- [C -/
def k18 : Class := { plain "[C" (some 0) with kind := .array 17 .char, interfaces := #[14, 2], accessFlags := 1041 }

/-- the primitive int -/
def k19 : Class := { plain "int" none with kind := .primitive 'I', accessFlags := 0x411 }
/-- [I -/
def k20 : Class := { plain "[I" (some 0) with kind := .array 19 .int, interfaces := #[14, 2], accessFlags := 1041 }

def heap : Heap := #[{ cls := 7, slots := #[.long 0, .int 1, .null, .int 0, .null, .int 0, .int 0], vm := .statics 7 },
  { cls := 12, slots := #[.null, .null, .null], vm := .statics 12 }]
def classes : Array Class := #[k0, k1, k2, k3, k4, k5, k6, k7, k8, k9, k10, k11, k12, k13, k14, k15, k16, k17, k18, k19, k20]
def interned : List (Array UInt16 × Addr) := []
def slotsUsed : Nat := 10
def theMethod : MethodId := ⟨1, 2⟩
def args0 : Array Value := #[.int 5, .int 5, .int 5, .int 5, .int 5, .int 5]
def aboutOver (below : List Frame) : State where
  vm := { classes := classes, interned := interned.toArray }
  heap := heap
  slotsUsed := slotsUsed
  threads := #[{ frames := .invoking theMethod args0 :: below }]
def below0 : List Frame := [.native { method := ⟨0, 0⟩, args := #[] }]
def about1 : State := aboutOver below0
def p0 : Program := .bare "" "" ""
def e0 : Env := launch0.env 0 0 0
theorem w_frames : about1.frames = Frame.invoking theMethod args0 :: below0 := rfl
set_option maxRecDepth 65536 in
theorem w_args : argsFit about1.vm theMethod args0 = true := by decide +kernel
set_option maxRecDepth 65536 in
theorem w_heap : heapFits about1 = true := by decide +kernel
set_option maxRecDepth 65536 in
theorem w_runnable : about1.curStatus? = some .runnable := by decide +kernel
set_option maxRecDepth 65536 in
theorem w_alone : about1.alone = true := by decide +kernel
set_option maxRecDepth 65536 in
theorem w_named : about1.methodNamed? x = some theMethod := by decide +kernel
set_option maxRecDepth 65536 in
theorem w_hears : about1.hears theMethod below0 = true := by decide +kernel
set_option maxRecDepth 65536 in
theorem w_ripe : about1.ripe theMethod args0 below0 = true := by decide +kernel
theorem w_running : about1.status = .running := rfl
set_option maxRecDepth 65536 in
theorem w_room : about1.hasRoom e0.platform room_1 = true :=
  launch0.hasRoom_least _ room_1 (by decide +kernel) (by decide +kernel) (by decide +kernel) (by decide +kernel) (by decide +kernel) (by decide +kernel)
theorem allAtoms_all (ts : List Jvm.Cond) (a : Array Jvm.Value) (st : Jvm.State) : (allAtoms ts).before a st = ts.all (fun c => c.before a st) := by
  induction ts with
  | nil => rfl
  | cons c t ih =>
    show (Jvm.Cond.and c (allAtoms t)).before a st = _
    rw [Jvm.Cond.before_and, ih, List.all_cons]
def words1 : List Jvm.Cond := Jvm.Cond.code x code maxLocals ret :: tables_1
/-- a 'code' word, met by the world's own term for the bytes: nothing is compared byte by byte -/
theorem code_word {y : MethodName} {bytes : ByteArray} {mx : Nat} {rt : Option FieldType} {a : Array Value} {s : State} {m : MethodId} {meth : Method} {c : Code} (h1 : s.methodNamed? y = some m) (h2 : s.vm.method? m = some meth) (h3 : meth.code = some c) (h4 : c.code = bytes)
    (h5 : (c.maxLocals == mx && c.exceptionTable.isEmpty && decide (c.maxStack ≤ mostOperands) && decide (meth.sig.returnType = rt) && !meth.locks && decide (parseMethodDescriptor y.desc = some meth.sig)) = true) : (Jvm.Cond.code y bytes mx rt).before a s = true := by
  simp only [Bool.and_eq_true, beq_iff_eq, Bool.not_eq_true', decide_eq_true_eq] at h5
  obtain ⟨⟨⟨⟨⟨g1, g2⟩, g3⟩, g4⟩, g5⟩, g6⟩ := h5
  simp [Cond.before, Cond.holds, Cond.value, h1, h2, h3, h4, g1, g2, g3, g4, g5, g6]
def isCode : Jvm.Cond → Bool
  | .code _ _ _ _ => true
  | _ => false
theorem all_split {L : List Jvm.Cond} {P : Jvm.Cond → Bool} (h1 : L.all (fun c => isCode c || P c) = true) (h2 : ∀ c ∈ L.filter isCode, P c = true) : L.all P = true := by
  refine List.all_eq_true.mpr fun c hc => ?_
  have h := List.all_eq_true.mp h1 c hc
  rcases Bool.eq_false_or_eq_true (isCode c) with hi | hi
  · exact h2 c (List.mem_filter.mpr ⟨hc, hi⟩)
  · simpa [hi] using h
set_option maxRecDepth 65536 in
theorem w_c0 : (Jvm.Cond.code x code maxLocals ret).before args0 about1 = true := code_word (m := ⟨1, 2⟩) (meth := k1m2) (c := k1c2) (by decide +kernel) rfl rfl rfl (by decide +kernel)
set_option maxRecDepth 65536 in
theorem w_c1 : (Jvm.Cond.code ({ cls := "com/example/disbursa/disbursa/rails/OutcomeSettledPinLaw", name := "str", desc := "(IIII)Ljava/lang/String;" } : Jvm.MethodName) method_2_code (8 : Nat) (Option.some (Jvm.ClassFile.FieldType.object "java/lang/String"))).before args0 about1 = true := code_word (m := ⟨1, 1⟩) (meth := k1m1) (c := k1c1) (by decide +kernel) rfl rfl rfl (by decide +kernel)
set_option maxRecDepth 65536 in
theorem w_c2 : (Jvm.Cond.code ({ cls := "java/lang/String", name := "<init>", desc := "([C)V" } : Jvm.MethodName) jdk_42_method_3_code (2 : Nat) (Option.none : Option Jvm.ClassFile.FieldType)).before args0 about1 = true := code_word (m := ⟨7, 1⟩) (meth := k7m1) (c := k7c1) (by decide +kernel) rfl rfl rfl (by decide +kernel)
set_option maxRecDepth 65536 in
theorem w_c3 : (Jvm.Cond.code ({ cls := "java/lang/String", name := "<init>", desc := "([CIILjava/lang/Void;)V" } : Jvm.MethodName) jdk_42_method_149_code (6 : Nat) (Option.none : Option Jvm.ClassFile.FieldType)).before args0 about1 = true := code_word (m := ⟨7, 2⟩) (meth := k7m2) (c := k7c2) (by decide +kernel) rfl rfl rfl (by decide +kernel)
set_option maxRecDepth 65536 in
theorem w_c4 : (Jvm.Cond.code ({ cls := "java/lang/Object", name := "<init>", desc := "()V" } : Jvm.MethodName) object_method_1_code (1 : Nat) (Option.none : Option Jvm.ClassFile.FieldType)).before args0 about1 = true := code_word (m := ⟨0, 0⟩) (meth := k0m0) (c := k0c0) (by decide +kernel) rfl rfl rfl (by decide +kernel)
set_option maxRecDepth 65536 in
theorem w_c5 : (Jvm.Cond.code ({ cls := "java/lang/StringUTF16", name := "compress", desc := "([CII)[B" } : Jvm.MethodName) jdk_52_method_16_code (6 : Nat) (Option.some (Jvm.ClassFile.FieldType.array Jvm.ClassFile.FieldType.byte))).before args0 about1 = true := code_word (m := ⟨8, 2⟩) (meth := k8m2) (c := k8c2) (by decide +kernel) rfl rfl rfl (by decide +kernel)
set_option maxRecDepth 65536 in
theorem w_c6 : (Jvm.Cond.code ({ cls := "java/lang/StringUTF16", name := "compress", desc := "([CI[BII)I" } : Jvm.MethodName) jdk_52_method_21_code (7 : Nat) (Option.some Jvm.ClassFile.FieldType.int)).before args0 about1 = true := code_word (m := ⟨8, 3⟩) (meth := k8m3) (c := k8c3) (by decide +kernel) rfl rfl rfl (by decide +kernel)
set_option maxRecDepth 65536 in
theorem w_c7 : (Jvm.Cond.code ({ cls := "java/lang/StringUTF16", name := "coderFromArrayLen", desc := "([BI)B" } : Jvm.MethodName) jdk_52_method_15_code (2 : Nat) (Option.some Jvm.ClassFile.FieldType.byte)).before args0 about1 = true := code_word (m := ⟨8, 1⟩) (meth := k8m1) (c := k8c1) (by decide +kernel) rfl rfl rfl (by decide +kernel)
set_option maxRecDepth 65536 in
theorem w_c8 : (Jvm.Cond.code ({ cls := "com/example/disbursa/disbursa/rails/Outcome", name := "<init>", desc := "(Ljava/lang/String;Ljava/lang/String;)V" } : Jvm.MethodName) prog_116_method_1_code (3 : Nat) (Option.none : Option Jvm.ClassFile.FieldType)).before args0 about1 = true := code_word (m := ⟨10, 0⟩) (meth := k10m0) (c := k10c0) (by decide +kernel) rfl rfl rfl (by decide +kernel)
set_option maxRecDepth 65536 in
theorem w_c9 : (Jvm.Cond.code ({ cls := "java/lang/Record", name := "<init>", desc := "()V" } : Jvm.MethodName) jdk_30_method_1_code (1 : Nat) (Option.none : Option Jvm.ClassFile.FieldType)).before args0 about1 = true := code_word (m := ⟨9, 0⟩) (meth := k9m0) (c := k9c0) (by decide +kernel) rfl rfl rfl (by decide +kernel)
set_option maxRecDepth 65536 in
theorem w_c10 : (Jvm.Cond.code ({ cls := "com/example/disbursa/disbursa/rails/Outcome", name := "settled", desc := "()Z" } : Jvm.MethodName) prog_116_method_2_code (1 : Nat) (Option.some Jvm.ClassFile.FieldType.boolean)).before args0 about1 = true := code_word (m := ⟨10, 1⟩) (meth := k10m1) (c := k10c1) (by decide +kernel) rfl rfl rfl (by decide +kernel)
set_option maxRecDepth 65536 in
theorem w_c11 : (Jvm.Cond.code ({ cls := "com/example/disbursa/disbursa/rails/Outcome", name := "reason", desc := "()Ljava/lang/String;" } : Jvm.MethodName) prog_116_method_7_code (1 : Nat) (Option.some (Jvm.ClassFile.FieldType.object "java/lang/String"))).before args0 about1 = true := code_word (m := ⟨10, 3⟩) (meth := k10m3) (c := k10c3) (by decide +kernel) rfl rfl rfl (by decide +kernel)
set_option maxRecDepth 65536 in
theorem w_c12 : (Jvm.Cond.code ({ cls := "com/example/disbursa/disbursa/rails/Outcome", name := "transferId", desc := "()Ljava/lang/String;" } : Jvm.MethodName) prog_116_method_6_code (1 : Nat) (Option.some (Jvm.ClassFile.FieldType.object "java/lang/String"))).before args0 about1 = true := code_word (m := ⟨10, 2⟩) (meth := k10m2) (c := k10c2) (by decide +kernel) rfl rfl rfl (by decide +kernel)
def codes1 : List Jvm.Cond := [Jvm.Cond.code x code maxLocals ret, Jvm.Cond.code ({ cls := "com/example/disbursa/disbursa/rails/OutcomeSettledPinLaw", name := "str", desc := "(IIII)Ljava/lang/String;" } : Jvm.MethodName) method_2_code (8 : Nat) (Option.some (Jvm.ClassFile.FieldType.object "java/lang/String")), Jvm.Cond.code ({ cls := "java/lang/String", name := "<init>", desc := "([C)V" } : Jvm.MethodName) jdk_42_method_3_code (2 : Nat) (Option.none : Option Jvm.ClassFile.FieldType), Jvm.Cond.code ({ cls := "java/lang/String", name := "<init>", desc := "([CIILjava/lang/Void;)V" } : Jvm.MethodName) jdk_42_method_149_code (6 : Nat) (Option.none : Option Jvm.ClassFile.FieldType), Jvm.Cond.code ({ cls := "java/lang/Object", name := "<init>", desc := "()V" } : Jvm.MethodName) object_method_1_code (1 : Nat) (Option.none : Option Jvm.ClassFile.FieldType), Jvm.Cond.code ({ cls := "java/lang/StringUTF16", name := "compress", desc := "([CII)[B" } : Jvm.MethodName) jdk_52_method_16_code (6 : Nat) (Option.some (Jvm.ClassFile.FieldType.array Jvm.ClassFile.FieldType.byte)), Jvm.Cond.code ({ cls := "java/lang/StringUTF16", name := "compress", desc := "([CI[BII)I" } : Jvm.MethodName) jdk_52_method_21_code (7 : Nat) (Option.some Jvm.ClassFile.FieldType.int), Jvm.Cond.code ({ cls := "java/lang/StringUTF16", name := "coderFromArrayLen", desc := "([BI)B" } : Jvm.MethodName) jdk_52_method_15_code (2 : Nat) (Option.some Jvm.ClassFile.FieldType.byte), Jvm.Cond.code ({ cls := "com/example/disbursa/disbursa/rails/Outcome", name := "<init>", desc := "(Ljava/lang/String;Ljava/lang/String;)V" } : Jvm.MethodName) prog_116_method_1_code (3 : Nat) (Option.none : Option Jvm.ClassFile.FieldType), Jvm.Cond.code ({ cls := "java/lang/Record", name := "<init>", desc := "()V" } : Jvm.MethodName) jdk_30_method_1_code (1 : Nat) (Option.none : Option Jvm.ClassFile.FieldType), Jvm.Cond.code ({ cls := "com/example/disbursa/disbursa/rails/Outcome", name := "settled", desc := "()Z" } : Jvm.MethodName) prog_116_method_2_code (1 : Nat) (Option.some Jvm.ClassFile.FieldType.boolean), Jvm.Cond.code ({ cls := "com/example/disbursa/disbursa/rails/Outcome", name := "reason", desc := "()Ljava/lang/String;" } : Jvm.MethodName) prog_116_method_7_code (1 : Nat) (Option.some (Jvm.ClassFile.FieldType.object "java/lang/String")), Jvm.Cond.code ({ cls := "com/example/disbursa/disbursa/rails/Outcome", name := "transferId", desc := "()Ljava/lang/String;" } : Jvm.MethodName) prog_116_method_6_code (1 : Nat) (Option.some (Jvm.ClassFile.FieldType.object "java/lang/String"))]
set_option maxRecDepth 65536 in
theorem codes_eq : words1.filter isCode = codes1 := rfl
theorem w_codes : ∀ c ∈ words1.filter isCode, c.before args0 about1 = true := by
  rw [codes_eq]
  intro c hc
  simp only [codes1, List.mem_cons, List.not_mem_nil, or_false] at hc
  rcases hc with rfl | rfl | rfl | rfl | rfl | rfl | rfl | rfl | rfl | rfl | rfl | rfl | rfl
  · exact w_c0
  · exact w_c1
  · exact w_c2
  · exact w_c3
  · exact w_c4
  · exact w_c5
  · exact w_c6
  · exact w_c7
  · exact w_c8
  · exact w_c9
  · exact w_c10
  · exact w_c11
  · exact w_c12
set_option maxRecDepth 65536 in
theorem w_t1 : (words1.take 24).all (fun c => isCode c || c.before args0 about1) = true := by decide +kernel
set_option maxRecDepth 65536 in
theorem w_t2 : ((words1.drop 24).take 24).all (fun c => isCode c || c.before args0 about1) = true := by decide +kernel
set_option maxRecDepth 65536 in
theorem w_t3 : ((words1.drop 24).drop 24).all (fun c => isCode c || c.before args0 about1) = true := by decide +kernel
theorem w_tables : (allAtoms (Jvm.Cond.code x code maxLocals ret :: tables_1)).before args0 about1 = true := by
  rw [allAtoms_all]
  show words1.all (fun c => c.before args0 about1) = true
  refine all_split ?_ w_codes
  rw [← List.take_append_drop 24 words1, List.all_append, w_t1, ← List.take_append_drop 24 (words1.drop 24), List.all_append, w_t2, w_t3]
  rfl
set_option maxRecDepth 65536 in
theorem w_rest : rest_1_c.before args0 about1 = true := by decide +kernel
set_option maxRecDepth 65536 in
theorem w_case : (Jvm.Cond.and given_1 narrow_1).before args0 about1 = true := by decide +kernel
set_option maxRecDepth 65536 in
theorem w_consts : constsHeld consts_1 about1 := Jvm.Lit.constsHeldB_iff.mp (by decide +kernel)
theorem w_applies : (headSpec (Jvm.Cond.code x code maxLocals ret :: tables_1) room_1).applies x e0.platform about1 = true :=
  (Spec.applies_iff w_frames).mpr ⟨w_running, w_runnable, w_alone, w_named, w_hears, w_ripe, w_room, w_tables⟩
theorem atStart : AtStart classFile x code maxLocals ret World_1 tables_1 room_1 Calls_1 rest_1 Pre_1 launch0 p0 e0 about1 theMethod args0 below0 :=
  ⟨lists_1, trivial, launch0.admits_env _ _ _, launch0.least_env, fairChoices_fair.cas, fairChoices_fair.clock, w_frames, w_args, w_heap, w_applies, ⟨w_consts, trivial⟩, w_rest, w_case⟩
end start1
theorem witness_1 : WitnessClaimed_1 := ⟨start1.p0, start1.e0, start1.about1, start1.theMethod, start1.args0, start1.below0, start1.atStart⟩
end Jvm.Pilot.@@N@@
