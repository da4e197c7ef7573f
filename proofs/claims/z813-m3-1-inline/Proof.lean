import JvmDerived
import JvmDerived.Pilot.@@N@@Statement
import JvmDerived.Pilot.@@N@@Code
set_option linter.unusedVariables false
set_option linter.unusedSimpArgs false
namespace Jvm.RoadKit
open Sem ClassFile Op Lib Jvm.Stand Jvm.Free Jvm.LawKit
section New
variable {p : Program} {l : Launch} {e : Env} {R : Room} {s : State} {m : MethodId} {args : Array Value} {below : List Frame} {meth : Method} {c : Code} {T : State} {locs : List Loc} {cells slots : Nat}
theorem retI (X : Stand p l e R s m args below meth c T locs cells slots) (hx : p.tables.exec = Jvm.exec) {pc : Nat} {Ls : Array Slot} {z : Int32} {rest : List Value} (hret : meth.sig.returnType = some .int) (hd : decode c.code pc = .ok (.ireturn, 1)) {fs : List Frame}
    (hl : ∀ (f : JFrame) (acts : List Action), f.method = m → f.locked = none → f.entered = [] → (doReturn e (T.setTop f) acts (some (.int z))).1 = T.setFrames fs) : Steps p.tables e below (T.setTop (mkF m pc Ls (.int z :: rest))) (T.setFrames fs) := by
  have hm' : T.vm.method? m = some meth := X.method'
  have hn : narrow .int (.int z) = .int z := rfl
  show Steps p.tables e below (T.setTop { method := m, pc := pc, locals := Ls, stack := _ :: rest, locked := none }) _
  jvm_step X.here [X.here.top, hx, hd, hm', hret, hn]
  first | (intro acts; rw [hl _ acts rfl rfl rfl]) | rw [hl _ _ rfl rfl rfl]
  exact Steps.refl _
end New
end Jvm.RoadKit
namespace Jvm.Pilot.@@N@@
open Jvm Jvm.ClassFile Sem Op Lib Jvm.Free Jvm.Stand Jvm.LawKit Jvm.RoadKit Bundle Jvm.Pilot.@@N@@.Jvm.D
abbrev St (p : Program) (e : Env) (below : List Frame) (T : State) (g : JFrame) (t : State) : Prop := Steps p.tables e below (T.setTop g) t
theorem hwi {Z : State} {a0 : Array Value} (hw : ∀ d ∈ tables_1, d.before a0 Z = true) (i : Nat) {d : Jvm.Cond} (h : tables_1[i]? = some d) : d.before a0 Z = true := hw d (List.mem_of_getElem? h)
theorem ltN {a b : Nat} (h : a < b) : a < b := h
theorem neN {a b : Nat} (h : ¬ (a = b)) : ¬ (a = b) := h
theorem own_wS {Z : State} {a0 : Array Value} (hw : ∀ d ∈ tables_1, d.before a0 Z = true) : ∀ a ∈ Bundle.stringAtoms, a.before a0 Z = true := fun d hd => hw d ((by decide +kernel : ∀ d ∈ Bundle.stringAtoms, d ∈ tables_1) d hd)
theorem own_safe_null {Z : State} {EL : List (String × Nat)} {vm : Vm} {h : Heap} {x : Addr} (hal : Z.vm.Alike vm) (F : Fld Z h x "java/lang/String" "value" "[B" .null) (E : Exa Z h x "java/lang/String") : Safe Z EL vm h x := fun B => by
  obtain ⟨p, hp, u, a, hb, q, hqa, ⟨cS, ⟨⟨s1, s2, s3, ⟨cv, kv, iv, s4, s4'⟩, ⟨cc, kc, ic, s5, s5'⟩, s6, s7, s8, s9, s10, s11, s12, s13, s14, s15, s16⟩, hfS, hcS⟩, ⟨kS, k1, k2, k3⟩, hB, hbyt⟩, hy⟩ := B
  obtain ⟨cell, cf, k, i, f, h1, h2, h3, h4, h5, h6, h7⟩ := F
  rcases hy with rfl | rfl
  · obtain ⟨kv', z4⟩ := ff_back (U := Wst Z vm h) hal s4
    cases h2.symm.trans z4
    have s1' : h[q.sa]? = some q.sC := s1
    cases h1.symm.trans s1'
    cases h7.symm.trans s8
  · obtain ⟨c2, k2', e1, e2, e3, e4, -⟩ := E
    have s10' : h[q.sd]? = some q.SA := s10
    cases e1.symm.trans s10'
    have hB' : Z.vm.findClass "[B" = some q.SA.cls := by rw [← hal.findClass]; exact hB
    exact ids_ne e2 hB' (by decide) rfl
theorem own_byte (x : Int32) : ∃ k : Fin 256, x &&& (255 : Int32) = Int32.ofNat k.val := by
  have h : (x &&& (255 : Int32)).toBitVec.toNat < 256 := by
    simp only [Int32.toBitVec_and, BitVec.toNat_and]
    exact Nat.lt_succ_of_le Nat.and_le_right
  refine ⟨⟨_, h⟩, ?_⟩
  apply Int32.toBitVec_inj.mp
  show _ = BitVec.ofNat 32 _
  rw [BitVec.ofNat_toNat]; simp
theorem own_char (x : Int32) : (((x &&& (255 : Int32)).toUInt32.toUInt16.toUInt32.toInt32).toUInt32.toUInt16.toUInt32.toInt32) = ((x &&& (255 : Int32)).toUInt32.toUInt16.toUInt32.toInt32) ∧ ¬ (((x &&& (255 : Int32)).toUInt32.toUInt16.toUInt32.toInt32) < (0 : Int32)) ∧ ¬ ((255 : Int32) < ((x &&& (255 : Int32)).toUInt32.toUInt16.toUInt32.toInt32)) := by
  obtain ⟨k, hk⟩ := own_byte x
  rw [hk]
  exact (by decide +kernel : ∀ k : Fin 256, (((Int32.ofNat k.val).toUInt32.toUInt16.toUInt32.toInt32).toUInt32.toUInt16.toUInt32.toInt32) = ((Int32.ofNat k.val).toUInt32.toUInt16.toUInt32.toInt32) ∧ ¬ (((Int32.ofNat k.val).toUInt32.toUInt16.toUInt32.toInt32) < (0 : Int32)) ∧ ¬ ((255 : Int32) < ((Int32.ofNat k.val).toUInt32.toUInt16.toUInt32.toInt32))) k
theorem own_back (x : Int32) : ((((((x &&& (255 : Int32)).toUInt32.toUInt16.toUInt32.toInt32)).toInt8.toInt32) &&& (255 : Int32)).toUInt32.toUInt16.toUInt32.toInt32) = ((x &&& (255 : Int32)).toUInt32.toUInt16.toUInt32.toInt32) := by
  obtain ⟨k, hk⟩ := own_byte x
  rw [hk]
  exact (by decide +kernel : ∀ k : Fin 256, ((((((Int32.ofNat k.val).toUInt32.toUInt16.toUInt32.toInt32)).toInt8.toInt32) &&& (255 : Int32)).toUInt32.toUInt16.toUInt32.toInt32) = ((Int32.ofNat k.val).toUInt32.toUInt16.toUInt32.toInt32)) k
theorem own_and3 (x : Int32) : (x &&& (3 : Int32)) = (0 : Int32) ∨ (x &&& (3 : Int32)) = (1 : Int32) ∨ (x &&& (3 : Int32)) = (2 : Int32) ∨ (x &&& (3 : Int32)) = (3 : Int32) := by
  have h := c_mask x (3 : Int32) 2 (by decide) (by decide)
  rw [show ((2 ^ 2 : Nat) : Int) = 4 from rfl] at h
  have q : ((x &&& (3 : Int32))).toInt = 0 ∨ ((x &&& (3 : Int32))).toInt = 1 ∨ ((x &&& (3 : Int32))).toInt = 2 ∨ ((x &&& (3 : Int32))).toInt = 3 := by omega
  rcases q with q | q | q | q
  · exact Or.inl (Int32.toInt_inj.mp (q.trans (by decide)))
  · exact Or.inr (Or.inl (Int32.toInt_inj.mp (q.trans (by decide))))
  · exact Or.inr (Or.inr (Or.inl (Int32.toInt_inj.mp (q.trans (by decide)))))
  · exact Or.inr (Or.inr (Or.inr (Int32.toInt_inj.mp (q.trans (by decide)))))
theorem own_text_0 : (∀ c ∈ ("" : String).toList, c.toNat < 256) ∧ ("" : String).toList.map (fun c => Value.int (Jvm.Lit.byteI c.toNat.toUInt16)) = [] := by decide +kernel
theorem d2_0 : decode jdk_42_method_149_code 0 = .ok (.aload_n 0, 1) := by decide +kernel
theorem d2_1 : decode jdk_42_method_149_code 1 = .ok (.invokespecial 1, 3) := by decide +kernel
theorem d2_4 : decode jdk_42_method_149_code 4 = .ok (.iload_n 3, 1) := by decide +kernel
theorem d2_5 : decode jdk_42_method_149_code 5 = .ok (.ifCond .ne 22, 3) := by decide +kernel
theorem d2_8 : decode jdk_42_method_149_code 8 = .ok (.aload_n 0, 1) := by decide +kernel
theorem d2_9 : decode jdk_42_method_149_code 9 = .ok (.ldc 7, 2) := by decide +kernel
theorem d2_11 : decode jdk_42_method_149_code 11 = .ok (.getfield 9, 3) := by decide +kernel
theorem d2_14 : decode jdk_42_method_149_code 14 = .ok (.putfield 9, 3) := by decide +kernel
theorem d2_17 : decode jdk_42_method_149_code 17 = .ok (.aload_n 0, 1) := by decide +kernel
theorem d2_18 : decode jdk_42_method_149_code 18 = .ok (.ldc 7, 2) := by decide +kernel
theorem d2_20 : decode jdk_42_method_149_code 20 = .ok (.getfield 15, 3) := by decide +kernel
theorem d2_23 : decode jdk_42_method_149_code 23 = .ok (.putfield 15, 3) := by decide +kernel
theorem d2_26 : decode jdk_42_method_149_code 26 = .ok (.return_, 1) := by decide +kernel
theorem pn_2 : plainName "java/lang/String" = true := by first | (simp [plainName, overriddenIn]; done) | decide +kernel
theorem ef_2_RRIIn (m : MethodId) (x0 : Addr) (x1 : Addr) (x2 : Int32) (x3 : Int32) : entryFrame m #[(.ref x0), (.ref x1), (.int x2), (.int x3), .null] 6 = mkF m 0 #[.val (.ref x0), .val (.ref x1), .val (.int x2), .val (.int x3), .val .null, .unset] [] := by first | (simp [entryFrame, mkF, argsToLocals, Value.category]; done) | rfl
def Q_new4_0 (Z : State) (a1 : Addr) (a2 : Addr) (h0 : Heap) (n0 : Nat) (v : Option Value) (h : Heap) (L : List Loc) : Prop := ∃ (t : Addr) (kt : ClassId), v = none ∧ Fr n0 L ∧ Keep h0 h [a1] ∧ Exa Z h a1 "java/lang/String" ∧ Fld Z h a1 "java/lang/String" "coder" "B" (.int 0) ∧ Fld Z h a1 "java/lang/String" "value" "[B" (.ref t) ∧ Arv Z h t kt .byte (0 : Int32) [] (.int 0)
set_option maxRecDepth 65536 in
set_option maxHeartbeats 40000000 in
theorem rm_new4_0 (l : Launch) (Z : State) (a0 : Array Value) (hw : ∀ d ∈ tables_1, d.before a0 Z = true) (hEL : EW Z a0 consts_1) (ws : List Jvm.Cond) (a1 : Addr) (a2 : Addr) (h0 : Heap) (n0 : Nat) (Z0 : n0 ≤ h0.size) (E_a1 : Exa Z h0 a1 "java/lang/String") (F_a1_value : Fld Z h0 a1 "java/lang/String" "value" "[B" .null) (F_a1_coder : Fld Z h0 a1 "java/lang/String" "coder" "B" (.int 0)) (O0 : Old Z n0 h0) (g_a1 : n0 ≤ a1) :
    MetFree l (⟨"java/lang/String", "<init>", "([CIILjava/lang/Void;)V"⟩ : MethodName) (head1 (Jvm.Cond.code (⟨"java/lang/String", "<init>", "([CIILjava/lang/Void;)V"⟩ : MethodName) jdk_42_method_149_code 6 none :: ws) ({ frames := 1, cells := 4, slots := 8, locals := 12 } : Room)) (fun a U => a = #[(.ref a1), (.ref a2), (.int 0), (.int 0), .null] ∧ Z.Warmed39 U.vm ∧ U.heap = h0 ∧ CHv Z consts_1 U.vm h0) (fun _ _ _ _ _ => True) (fun _ U o U' => ∃ v L, o = .returned v ∧ Q_new4_0 Z a1 a2 h0 n0 v U'.heap L ∧ CHr Z consts_1 U.vm U.heap U'.vm U'.heap ∧ ReturnedEndW U o U' L ({ frames := 1, cells := 4, slots := 8, locals := 12 } : Room).cells ({ frames := 1, cells := 4, slots := 8, locals := 12 } : Room).slots) := by
  refine MetFree.of_bodySF (plainFor_of_name pn_2) hisR ?_
  intro p e s m args below meth c s₁ Bd hml0 hP hK
  obtain ⟨rfl, hZ, hh, H0c⟩ := hP
  have hx := Bd.exec
  have hby := Bd.bytes
  have hml : c.maxLocals = 6 := hml0
  have hown : s.vm.findClass "java/lang/String" = some m.cls := findClass_of_methodNamed Bd.named
  have hnm := (name_of_methodNamed Bd.named Bd.method).1
  have X0 : Stand p l e ({ frames := 1, cells := 4, slots := 8, locals := 12 } : Room) (s.setVm s.vm) m #[(.ref a1), (.ref a2), (.int 0), (.int 0), .null] below meth c s₁ [] 0 0 := Stand.of_body Bd
  have e0 : s₁.heap = h0 := by rw [← hh, Bd.state]; rfl
  have N0 := Fr.nil n0
  have pre0 : ∀ t, Steps p.tables e below (s₁.setTop (mkF m 0 #[.val (.ref a1), .val (.ref a2), .val (.int 0), .val (.int 0), .val .null, .unset] [])) t → Steps p.tables e below (s₁.setTop (entryFrame m #[(.ref a1), (.ref a2), (.int 0), (.int 0), .null] 6)) t := fun t k => castTop (ef_2_RRIIn m a1 a2 (0 : Int32) (0 : Int32)) k
  have hS0 : s.Since s.vm 0 := (State.WarmedH.refl s).since 0
  have hk0 : 0 ≤ h0.size := Nat.zero_le _
  have C0c : CHr Z consts_1 s.vm h0 s.vm h0 := CHr.refl H0c
  obtain ⟨T1, X1, e1, st1⟩ := initO X0 hx hZ hown (hwi hw 11 rfl) (hwi hw 12 rfl) (hwi hw 13 rfl) e0 (g := (mkF m 1 #[.val (.ref a1), .val (.ref a2), .val (.int 0), .val (.int 0), .val .null, .unset] [(.ref a1)])) rfl (by rw [hml]; rfl) rfl (hb hby d2_1) (by decide) (W := 0) (by show 2 * 0 + _ ≤ _; exact Nat.le_of_eq rfl) (by decide)
  have sf3 := own_safe_null (EL := consts_1) hZ.alike F_a1_value E_a1
  obtain ⟨lit2, T2, h2, j2, ltb2, k2, X2, e2, E2, hS2, hk2, hZ2, ho2, Ex2, Fc2, Fv2, Av2, la2, lb2, C2, -, Sn2, st2⟩ := ldcCH X1 hx hZ hown (hwi hw 14 rfl) (own_wS hw) e1 hS0 hk0 hEL (by decide) H0c (vs := []) (z := (0 : Int32)) (own_text_0) (by decide) (by rfl) (g := (mkF m 9 #[.val (.ref a1), .val (.ref a2), .val (.int 0), .val (.int 0), .val .null, .unset] [(.ref a1)])) rfl (hb hby d2_9) (n := 0) (by decide) (by decide) (by decide) (by decide)
  have sf_a1_4 := CHr.safe C2 (show a1 < h0.size from ltN (by have := ltN E_a1.lt; omega)) sf3
  have R4 := C2
  have CR4 := C0c.trans R4
  have sz5 : h0.size ≤ h2.size := E2.1
  have Z5 : n0 ≤ h2.size := Nat.le_trans Z0 sz5
  have O5 := O0.ext E2
  have K5 : Keep h0 h2 [a1] := (Keep.refl h0 [a1]).ext E2
  have nq_a1_2 := Sn2 _ sf_a1_4
  obtain ⟨T6, X6, e6, st6⟩ := getF X2 hx hZ2 ho2 (host := "") (Or.inl (hwi hw 20 rfl)) Via.refl e2 Fv2 (g := (mkF m 11 #[.val (.ref a1), .val (.ref a2), .val (.int 0), .val (.int 0), .val .null, .unset] [(.ref lit2), (.ref a1)])) rfl rfl (hb hby d2_11)
  have fc7 := (E_a1.ext E2)
  have fc8 := (F_a1_value.ext E2)
  obtain ⟨T9, h9, X9, e9, W9, st9⟩ := putF X6 hx hZ2 ho2 (host := "") (Or.inl (hwi hw 20 rfl)) Via.refl e6 fc8 fc7 (Or.inr ⟨(hwi hw 16 rfl), rfl, hnm⟩) (hwi hw 2 rfl) (ty := (.array .byte)) (by decide) rfl rfl (g := (mkF m 14 #[.val (.ref a1), .val (.ref a2), .val (.int 0), .val (.int 0), .val .null, .unset] [(.ref ltb2), (.ref a1)])) rfl rfl (hb hby d2_14)
  have N9 := Fr.snoc X9 N0 g_a1
  have Fw9 := fc8.same W9
  have R10 := CHr.wr W9 sf_a1_4 R4.1
  have sf_a1_10 := Safe.wr W9 sf_a1_4 R4.1 sf_a1_4
  have CR10 := CR4.trans R10
  have sz11 : h2.size ≤ h9.size := Nat.le_of_eq W9.size.symm
  have Z11 : n0 ≤ h9.size := Nat.le_trans Z5 sz11
  have hk11 := Nat.le_trans hk2 sz11
  have O11 := O5.wr W9 g_a1
  have K11 : Keep h0 h9 [a1] := K5.wr W9 (Or.inl (List.mem_of_getElem? (i := 0) rfl))
  obtain ⟨lit12, T12, h12, j12, ltb12, k12, X12, e12, E12, hS12, hk12, hZ12, ho12, Ex12, Fc12, Fv12, Av12, la12, lb12, C12, -, Sn12, st12⟩ := ldcCH X9 hx hZ2 ho2 (hwi hw 14 rfl) (own_wS hw) e9 hS2 hk11 hEL (by decide) R10.1 (vs := []) (z := (0 : Int32)) (own_text_0) (by decide) (by rfl) (g := (mkF m 18 #[.val (.ref a1), .val (.ref a2), .val (.int 0), .val (.int 0), .val .null, .unset] [(.ref a1)])) rfl (hb hby d2_18) (n := 0) (by decide) (by decide) (by decide) (by decide)
  have sf_a1_13 := CHr.safe C12 (show a1 < h9.size from ltN (by have := ltN E_a1.lt; omega)) sf_a1_10
  have R13 := C12
  have CR13 := CR10.trans R13
  have sz14 : h9.size ≤ h12.size := E12.1
  have Z14 : n0 ≤ h12.size := Nat.le_trans Z11 sz14
  have O14 := O11.ext E12
  have K14 : Keep h0 h12 [a1] := K11.ext E12
  have nq_a1_12 := Sn12 _ sf_a1_13
  obtain ⟨T15, X15, e15, st15⟩ := getF X12 hx hZ12 ho12 (host := "") (Or.inl (hwi hw 21 rfl)) Via.refl e12 Fc12 (g := (mkF m 20 #[.val (.ref a1), .val (.ref a2), .val (.int 0), .val (.int 0), .val .null, .unset] [(.ref lit12), (.ref a1)])) rfl rfl (hb hby d2_20)
  have fc16 := ((fc7.wr W9).ext E12)
  have fc17 := (((F_a1_coder.ext E2).other W9 (Or.inr (slot_ne (Or.inr (hwi hw 17 rfl)) (Or.inr (hwi hw 16 rfl)) (by decide) (t := .byte) (t' := (.array .byte)) (by decide) (by decide)))).ext E12)
  obtain ⟨T18, h18, X18, e18, W18, st18⟩ := putFN X15 hx hZ12 ho12 (hwi hw 21 rfl) Via.refl e15 fc17 fc16 (Or.inr ⟨(hwi hw 17 rfl), rfl, hnm⟩) (hwi hw 2 rfl) (ty := .byte) (v' := (.int 0)) (by decide) rfl (by decide) (g := (mkF m 23 #[.val (.ref a1), .val (.ref a2), .val (.int 0), .val (.int 0), .val .null, .unset] [(.int 0), (.ref a1)])) rfl rfl (hb hby d2_23)
  have N18 := Fr.snoc X18 N9 g_a1
  have Fw18 := fc17.same W18
  have R19 := CHr.wr W18 sf_a1_13 R13.1
  have sf_a1_19 := Safe.wr W18 sf_a1_13 R13.1 sf_a1_13
  have CR19 := CR13.trans R19
  have sz20 : h12.size ≤ h18.size := Nat.le_of_eq W18.size.symm
  have Z20 : n0 ≤ h18.size := Nat.le_trans Z14 sz20
  have hk20 := Nat.le_trans hk12 sz20
  have O20 := O14.wr W18 g_a1
  have K20 : Keep h0 h18 [a1] := K14.wr W18 (Or.inl (List.mem_of_getElem? (i := 0) rfl))
  have fc21 := (fc16.wr W18)
  have fc22 := ((Fw9.ext E12).other W18 (Or.inr (slot_ne (Or.inr (hwi hw 16 rfl)) (Or.inr (hwi hw 17 rfl)) (by decide) (t := (.array .byte)) (t' := .byte) (by decide) (by decide))))
  have fc23 := (((Av2.other W9 (fun q => nq_a1_2.2 q.symm)).ext E12).other W18 (fun q => nq_a1_2.2 q.symm))
  have CRe := CR19.trans (CHv.at X18 hZ12 hEL R19.1)
  obtain ⟨fs, hr, hrun, hended, hRE⟩ := X18.leaveW hS12 (by rw [e18]; exact hk20) (v := none) (fun _ => rfl)
  refine ⟨_, _, pre0 _ ?_, hrun, hended, _, _, rfl, ?_, ?_, ⟨hRE.1, hRE.2.1, hRE.2.2.1, hRE.2.2.2.mono (by decide) (by decide)⟩⟩
  · show St p e below s₁ (mkF m 0 #[.val (.ref a1), .val (.ref a2), .val (.int 0), .val (.int 0), .val .null, .unset] []) _
    refine XS.aloadN X0.here hx rfl (hb hby d2_0) rfl rfl ?_
    refine st1 _ ?_
    refine XS.iloadN X1.here hx rfl (hb hby d2_4) rfl ?_
    refine XS.ifNo X1.here hx rfl (hb hby d2_5) rfl ((if0 _ _).trans (teq (by decide : (0 : Int32) = (0 : Int32))).2) ?_
    show St p e below T1 (mkF m 8 #[.val (.ref a1), .val (.ref a2), .val (.int 0), .val (.int 0), .val .null, .unset] []) _
    refine XS.aloadN X1.here hx rfl (hb hby d2_8) rfl rfl ?_
    refine st2 _ ?_
    refine st6 _ ?_
    refine st9 _ ?_
    show St p e below T9 (mkF m 17 #[.val (.ref a1), .val (.ref a2), .val (.int 0), .val (.int 0), .val .null, .unset] []) _
    refine XS.aloadN X9.here hx rfl (hb hby d2_17) rfl rfl ?_
    refine st12 _ ?_
    refine st15 _ ?_
    refine st18 _ ?_
    show St p e below T18 (mkF m 26 #[.val (.ref a1), .val (.ref a2), .val (.int 0), .val (.int 0), .val .null, .unset] []) _
    exact X18.returnOut hx Bd.returns (hb hby d2_26) hr
  · show Q_new4_0 Z a1 a2 h0 n0 _ T18.heap _
    rw [e18]
    exact ⟨ltb2, k2, rfl, N18, K20, fc21, Fw18, fc22, fc23⟩
  · show CHr Z consts_1 s.vm s.heap T18.vm T18.heap
    rw [hh, e18]
    exact CRe
theorem pd_CIILjava_lang_Void__V_938 : parseMethodDescriptor "([CIILjava/lang/Void;)V" = some ⟨[(.array .char), .int, .int, (.object "java/lang/Void")], none⟩ := by decide +kernel
theorem d1_0 : decode jdk_42_method_3_code 0 = .ok (.aload_n 0, 1) := by decide +kernel
theorem d1_1 : decode jdk_42_method_3_code 1 = .ok (.aload_n 1, 1) := by decide +kernel
theorem d1_2 : decode jdk_42_method_3_code 2 = .ok (.iconst 0, 1) := by decide +kernel
theorem d1_3 : decode jdk_42_method_3_code 3 = .ok (.aload_n 1, 1) := by decide +kernel
theorem d1_4 : decode jdk_42_method_3_code 4 = .ok (.arraylength, 1) := by decide +kernel
theorem d1_5 : decode jdk_42_method_3_code 5 = .ok (.aconst_null, 1) := by decide +kernel
theorem d1_6 : decode jdk_42_method_3_code 6 = .ok (.invokespecial 27, 3) := by decide +kernel
theorem d1_9 : decode jdk_42_method_3_code 9 = .ok (.return_, 1) := by decide +kernel
theorem pn_1 : plainName "java/lang/String" = true := by first | (simp [plainName, overriddenIn]; done) | decide +kernel
theorem ef_1_RR (m : MethodId) (x0 : Addr) (x1 : Addr) : entryFrame m #[(.ref x0), (.ref x1)] 2 = mkF m 0 #[.val (.ref x0), .val (.ref x1)] [] := by first | (simp [entryFrame, mkF, argsToLocals, Value.category]; done) | rfl
def Q_new1_0 (Z : State) (a1 : Addr) (a2 : Addr) (k_a2 : ClassId) (h0 : Heap) (n0 : Nat) (v : Option Value) (h : Heap) (L : List Loc) : Prop := ∃ (t : Addr) (kt : ClassId), v = none ∧ Fr n0 L ∧ Keep h0 h [a1] ∧ Exa Z h a1 "java/lang/String" ∧ Fld Z h a1 "java/lang/String" "coder" "B" (.int 0) ∧ Fld Z h a1 "java/lang/String" "value" "[B" (.ref t) ∧ Arv Z h t kt .byte (0 : Int32) [] (.int 0)
set_option maxRecDepth 65536 in
set_option maxHeartbeats 40000000 in
theorem rm_new1_0 (l : Launch) (Z : State) (a0 : Array Value) (hw : ∀ d ∈ tables_1, d.before a0 Z = true) (hEL : EW Z a0 consts_1) (ws : List Jvm.Cond) (a1 : Addr) (a2 : Addr) (k_a2 : ClassId) (h0 : Heap) (n0 : Nat) (Z0 : n0 ≤ h0.size) (E_a1 : Exa Z h0 a1 "java/lang/String") (F_a1_value : Fld Z h0 a1 "java/lang/String" "value" "[B" .null) (F_a1_coder : Fld Z h0 a1 "java/lang/String" "coder" "B" (.int 0)) (V_a2 : Arv Z h0 a2 k_a2 .char (0 : Int32) [] (.int 0)) (O0 : Old Z n0 h0) (g_a1 : n0 ≤ a1) :
    MetFree l (⟨"java/lang/String", "<init>", "([C)V"⟩ : MethodName) (head1 (Jvm.Cond.code (⟨"java/lang/String", "<init>", "([C)V"⟩ : MethodName) jdk_42_method_3_code 2 none :: ws) ({ frames := 2, cells := 4, slots := 8, locals := 29 } : Room)) (fun a U => a = #[(.ref a1), (.ref a2)] ∧ Z.Warmed39 U.vm ∧ U.heap = h0 ∧ CHv Z consts_1 U.vm h0) (fun _ _ _ _ _ => True) (fun _ U o U' => ∃ v L, o = .returned v ∧ Q_new1_0 Z a1 a2 k_a2 h0 n0 v U'.heap L ∧ CHr Z consts_1 U.vm U.heap U'.vm U'.heap ∧ ReturnedEndW U o U' L ({ frames := 2, cells := 4, slots := 8, locals := 29 } : Room).cells ({ frames := 2, cells := 4, slots := 8, locals := 29 } : Room).slots) := by
  refine MetFree.of_bodySF (plainFor_of_name pn_1) hisR ?_
  intro p e s m args below meth c s₁ Bd hml0 hP hK
  obtain ⟨rfl, hZ, hh, H0c⟩ := hP
  have hx := Bd.exec
  have hby := Bd.bytes
  have hml : c.maxLocals = 2 := hml0
  have hown : s.vm.findClass "java/lang/String" = some m.cls := findClass_of_methodNamed Bd.named
  have hnm := (name_of_methodNamed Bd.named Bd.method).1
  have X0 : Stand p l e ({ frames := 2, cells := 4, slots := 8, locals := 29 } : Room) (s.setVm s.vm) m #[(.ref a1), (.ref a2)] below meth c s₁ [] 0 0 := Stand.of_body Bd
  have e0 : s₁.heap = h0 := by rw [← hh, Bd.state]; rfl
  have N0 := Fr.nil n0
  have pre0 : ∀ t, Steps p.tables e below (s₁.setTop (mkF m 0 #[.val (.ref a1), .val (.ref a2)] [])) t → Steps p.tables e below (s₁.setTop (entryFrame m #[(.ref a1), (.ref a2)] 2)) t := fun t k => castTop (ef_1_RR m a1 a2) k
  have hS0 : s.Since s.vm 0 := (State.WarmedH.refl s).since 0
  have hk0 : 0 ≤ h0.size := Nat.zero_le _
  have C0c : CHr Z consts_1 s.vm h0 s.vm h0 := CHr.refl H0c
  obtain ⟨cl1, Ar1, -, S1, M1, -, -⟩ := id V_a2
  obtain ⟨_, _, ⟨T2, L2, k2, n2⟩, -, X2, hS2, gr2, ⟨Lc2, hQ2, l2, y2, z2, C2⟩, st2⟩ := X0.specialBackS hx (y := (⟨"java/lang/String", "<init>", "([CIILjava/lang/Void;)V"⟩ : MethodName)) rfl hown (mvT hZ (hwi hw 7 rfl)) (mvT hZ (hwi hw 8 rfl)) (mvT hZ (hwi hw 10 rfl)) (by decide) (backOfSH (s := s) (vm0 := s.vm) (EL := consts_1) (W := 0) (rm_new4_0 l Z a0 hw hEL [] a1 a2 h0 n0 Z0 E_a1 F_a1_value F_a1_coder O0 g_a1) hZ (hwi hw 10 rfl) (hwi hw 3 rfl) (by decide) (by decide) hEL H0c) (g := (mkF m 6 #[.val (.ref a1), .val (.ref a2)] [.null, (.int 0), (.int 0), (.ref a2), (.ref a1)])) rfl (by rw [hml]; rfl) (Steps.refl _) (a := a1) (argsL := [(.ref a2), (.int 0), (.int 0), .null]) (rest := []) (lenOf pd_CIILjava_lang_Void__V_938 rfl) rfl (by show 2 * 0 + _ ≤ _; exact Nat.le_of_eq rfl) (hb hby d1_6) (fun _ _ => ⟨rfl, e0, (by decide : 0 + 4 ≤ _), (by decide : 0 + 8 ≤ _)⟩)
  dsimp only [Pt.U, Pt.locs, Pt.cells, Pt.slots] at X2 l2 y2 z2 st2 hQ2 hS2 gr2 C2
  subst l2 y2 z2
  obtain ⟨X2, hS2, hZ2, ho2⟩ := rebS hS0 (by rw [e0]; exact hk0) X2 hS2 gr2 hZ hown
  obtain ⟨t_2, kt_2, rfl, N2q, Kc2, g2_0, g2_1, g2_2, g2_3⟩ := hQ2
  have N2 := Fr.app N0 N2q
  have R3 := C2
  have CR3 := C0c.trans R3
  have sz4 : h0.size ≤ T2.heap.size := Kc2.1
  have Z4 : n0 ≤ T2.heap.size := Nat.le_trans Z0 sz4
  have O4 := O0.keep Kc2 (allS g_a1 all0)
  have K4 : Keep h0 T2.heap [a1] := (Keep.refl h0 [a1]).trans Kc2 (allS (Or.inl (List.mem_of_getElem? (i := 0) rfl)) (all0))
  have CRe := CR3.trans (CHv.at X2 hZ2 hEL R3.1)
  obtain ⟨fs, hr, hrun, hended, hRE⟩ := X2.leaveW hS2 (Nat.le_refl T2.heap.size) (v := none) (fun _ => rfl)
  refine ⟨_, _, pre0 _ ?_, hrun, hended, _, _, rfl, ?_, ?_, ⟨hRE.1, hRE.2.1, hRE.2.2.1, hRE.2.2.2.mono (by decide) (by decide)⟩⟩
  · show St p e below s₁ (mkF m 0 #[.val (.ref a1), .val (.ref a2)] []) _
    refine XS.aloadN X0.here hx rfl (hb hby d1_0) rfl rfl ?_
    refine XS.aloadN X0.here hx rfl (hb hby d1_1) rfl rfl ?_
    refine XS.iconst X0.here hx rfl (hb hby d1_2) ?_
    refine XS.aloadN X0.here hx rfl (hb hby d1_3) rfl rfl ?_
    show St p e below s₁ (mkF m 4 #[.val (.ref a1), .val (.ref a2)] [(.ref a2), (.int 0), (.ref a2), (.ref a1)]) _
    refine X0.arraylength hx (by rw [e0]; exact Ar1.1) (State.isArrayOf_alike hZ.alike Ar1.2.1) (g := (mkF m 4 #[.val (.ref a1), .val (.ref a2)] [(.ref a2), (.int 0), (.ref a2), (.ref a1)])) rfl rfl (hb hby d1_4) _ ?_
    rw [len_of S1 M1]
    show St p e below s₁ (mkF m 5 #[.val (.ref a1), .val (.ref a2)] [(.int 0), (.int 0), (.ref a2), (.ref a1)]) _
    refine XS.aconstNull X0.here hx rfl (hb hby d1_5) ?_
    refine st2.trans ?_
    show St p e below T2 (mkF m 9 #[.val (.ref a1), .val (.ref a2)] []) _
    exact X2.returnOut hx Bd.returns (hb hby d1_9) hr
  · show Q_new1_0 Z a1 a2 k_a2 h0 n0 _ T2.heap _
    exact ⟨t_2, kt_2, rfl, N2, K4, g2_0, g2_1, g2_2, g2_3⟩
  · show CHr Z consts_1 s.vm s.heap T2.vm T2.heap
    rw [hh]
    exact CRe
theorem own_bb (x : Int32) : (x.toInt8.toInt32).toInt8.toInt32 = x.toInt8.toInt32 := by simp
theorem d38_0 : decode jdk_52_method_21_code 0 = .ok (.iconst 0, 1) := by decide +kernel
theorem d38_1 : decode jdk_52_method_21_code 1 = .ok (.istore 5, 2) := by decide +kernel
theorem d38_3 : decode jdk_52_method_21_code 3 = .ok (.iload 5, 2) := by decide +kernel
theorem d38_5 : decode jdk_52_method_21_code 5 = .ok (.iload 4, 2) := by decide +kernel
theorem d38_7 : decode jdk_52_method_21_code 7 = .ok (.if_icmp .ge 37, 3) := by decide +kernel
theorem d38_10 : decode jdk_52_method_21_code 10 = .ok (.aload_n 0, 1) := by decide +kernel
theorem d38_11 : decode jdk_52_method_21_code 11 = .ok (.iload_n 1, 1) := by decide +kernel
theorem d38_12 : decode jdk_52_method_21_code 12 = .ok (.caload, 1) := by decide +kernel
theorem d38_13 : decode jdk_52_method_21_code 13 = .ok (.istore 6, 2) := by decide +kernel
theorem d38_15 : decode jdk_52_method_21_code 15 = .ok (.iload 6, 2) := by decide +kernel
theorem d38_17 : decode jdk_52_method_21_code 17 = .ok (.sipush 255, 3) := by decide +kernel
theorem d38_20 : decode jdk_52_method_21_code 20 = .ok (.if_icmp .le 6, 3) := by decide +kernel
theorem d38_26 : decode jdk_52_method_21_code 26 = .ok (.aload_n 2, 1) := by decide +kernel
theorem d38_27 : decode jdk_52_method_21_code 27 = .ok (.iload_n 3, 1) := by decide +kernel
theorem d38_28 : decode jdk_52_method_21_code 28 = .ok (.iload 6, 2) := by decide +kernel
theorem d38_30 : decode jdk_52_method_21_code 30 = .ok (.i2b, 1) := by decide +kernel
theorem d38_31 : decode jdk_52_method_21_code 31 = .ok (.bastore, 1) := by decide +kernel
theorem d38_32 : decode jdk_52_method_21_code 32 = .ok (.iinc 1 1, 3) := by decide +kernel
theorem d38_35 : decode jdk_52_method_21_code 35 = .ok (.iinc 3 1, 3) := by decide +kernel
theorem d38_38 : decode jdk_52_method_21_code 38 = .ok (.iinc 5 1, 3) := by decide +kernel
theorem d38_41 : decode jdk_52_method_21_code 41 = .ok (.goto (-38), 3) := by decide +kernel
theorem d38_44 : decode jdk_52_method_21_code 44 = .ok (.iload 4, 2) := by decide +kernel
theorem d38_46 : decode jdk_52_method_21_code 46 = .ok (.ireturn, 1) := by decide +kernel
theorem pn_38 : plainName "java/lang/StringUTF16" = true := by first | (simp [plainName, overriddenIn]; done) | decide +kernel
theorem ef_38_RIRII (m : MethodId) (x0 : Addr) (x1 : Int32) (x2 : Addr) (x3 : Int32) (x4 : Int32) : entryFrame m #[(.ref x0), (.int x1), (.ref x2), (.int x3), (.int x4)] 7 = mkF m 0 #[.val (.ref x0), .val (.int x1), .val (.ref x2), .val (.int x3), .val (.int x4), .unset, .unset] [] := by first | (simp [entryFrame, mkF, argsToLocals, Value.category]; done) | rfl
def Q_cmp5_1 (Z : State) (a1 : Addr) (a3 : Addr) (k_a1 : ClassId) (c0 : Int32) (k_a3 : ClassId) (h0 : Heap) (n0 : Nat) (v : Option Value) (h : Heap) (L : List Loc) : Prop := v = some (.int 1) ∧ Fr n0 L ∧ Keep h0 h [a3] ∧ Arv Z h a3 k_a3 .byte (1 : Int32) [(.int (c0.toInt8.toInt32))] (.int 0)
set_option maxRecDepth 65536 in
set_option maxHeartbeats 40000000 in
theorem rm_cmp5_1 (l : Launch) (Z : State) (a0 : Array Value) (hw : ∀ d ∈ tables_1, d.before a0 Z = true) (ws : List Jvm.Cond) (a1 : Addr) (a3 : Addr) (k_a1 : ClassId) (c0 : Int32) (k_a3 : ClassId) (h0 : Heap) (n0 : Nat) (Z0 : n0 ≤ h0.size) (V_a1 : Arv Z h0 a1 k_a1 .char (1 : Int32) [(.int c0)] (.int 0)) (V_a3 : Arv Z h0 a3 k_a3 .byte (1 : Int32) [(.int 0)] (.int 0)) (hne : ¬ (a1 = a3)) (hb_c0 : ¬ ((255 : Int32) < c0)) (g_a3 : n0 ≤ a3) (O0 : Old Z n0 h0) :
    MetFree l (⟨"java/lang/StringUTF16", "compress", "([CI[BII)I"⟩ : MethodName) (head1 (Jvm.Cond.code (⟨"java/lang/StringUTF16", "compress", "([CI[BII)I"⟩ : MethodName) jdk_52_method_21_code 7 (some .int) :: ws) ({ frames := 0, cells := 0, slots := 0, locals := 0 } : Room)) (fun a U => a = #[(.ref a1), (.int 0), (.ref a3), (.int 0), (.int 1)] ∧ Z.Warmed39 U.vm ∧ U.heap = h0) (fun _ _ _ _ _ => True) (fun _ U o U' => ∃ v L, o = .returned v ∧ Q_cmp5_1 Z a1 a3 k_a1 c0 k_a3 h0 n0 v U'.heap L ∧ FrameEnd U o U' L ({ frames := 0, cells := 0, slots := 0, locals := 0 } : Room).cells ({ frames := 0, cells := 0, slots := 0, locals := 0 } : Room).slots) := by
  refine MetFree.of_bodySF (plainFor_of_name pn_38) hisR ?_
  intro p e s m args below meth c s₁ Bd hml0 hP hK
  obtain ⟨rfl, hZ, hh⟩ := hP
  have hx := Bd.exec
  have hby := Bd.bytes
  have hml : c.maxLocals = 7 := hml0
  have hown : s.vm.findClass "java/lang/StringUTF16" = some m.cls := findClass_of_methodNamed Bd.named
  have hnm := (name_of_methodNamed Bd.named Bd.method).1
  have X0 : Stand p l e ({ frames := 0, cells := 0, slots := 0, locals := 0 } : Room) s m #[(.ref a1), (.int 0), (.ref a3), (.int 0), (.int 1)] below meth c s₁ [] 0 0 := Stand.of_body Bd
  have e0 : s₁.heap = h0 := by rw [← hh, Bd.state]; rfl
  have N0 := Fr.nil n0
  have pre0 : ∀ t, Steps p.tables e below (s₁.setTop (mkF m 0 #[.val (.ref a1), .val (.int 0), .val (.ref a3), .val (.int 0), .val (.int 1), .unset, .unset] [])) t → Steps p.tables e below (s₁.setTop (entryFrame m #[(.ref a1), (.int 0), (.ref a3), (.int 0), (.int 1)] 7)) t := fun t k => castTop (ef_38_RIRII m a1 (0 : Int32) a3 (0 : Int32) (1 : Int32)) k
  obtain ⟨cl1, Ar1, q1, S1, M1, H1, G1⟩ := id V_a1
  have hin1 : ¬ ((0 : Int32) < 0 ∨ cl1.slots.size ≤ ((0 : Int32)).toNatClampNeg) := inb_of S1 ⟨by decide, by decide⟩
  have hat1 : cl1.slots[((0 : Int32)).toNatClampNeg]? = some (.int c0) := H1.at hin1 rfl
  obtain ⟨cl2, Ar2, q2, S2, M2, H2, G2⟩ := id V_a3
  have hin2 : ¬ ((0 : Int32) < 0 ∨ cl2.slots.size ≤ ((0 : Int32)).toNatClampNeg) := inb_of S2 ⟨by decide, by decide⟩
  obtain ⟨T3, h3, X3, e3, W3, st3⟩ := stB X0 hx hZ e0 Ar2 (j := (0 : Int32)) hin2 (g := (mkF m 31 #[.val (.ref a1), .val (.int 0), .val (.ref a3), .val (.int 0), .val (.int 1), .val (.int 0), .val (.int c0)] [(.int (c0.toInt8.toInt32)), (.int 0), (.ref a3)])) rfl rfl (hb hby d38_31)
  have N3 := Fr.snoc X3 N0 g_a3
  have V3 : Arv Z h3 a3 k_a3 .byte (1 : Int32) [(.int ((c0.toInt8.toInt32).toInt8.toInt32))] (.int 0) := Arv.set Ar2 q2 S2 M2 H2 G2 (fits_nar_byte _) W3 0 rfl (Nat.le_of_ble_eq_true rfl)
  rw [own_bb] at V3
  have sz4 : h0.size ≤ h3.size := Nat.le_of_eq W3.size.symm
  have Z4 : n0 ≤ h3.size := Nat.le_trans Z0 sz4
  have O4 := O0.wr W3 g_a3
  have K4 : Keep h0 h3 [a3] := (Keep.refl h0 [a3]).wr W3 (Or.inl (List.mem_of_getElem? (i := 0) rfl))
  obtain ⟨fs, hr, hrun, hended, hW, hsame⟩ := X3.leave (v := some (.int 1)) (fun h => by rw [Bd.returns] at h; cases h)
  refine ⟨_, _, pre0 _ ?_, hrun, hended, _, _, rfl, ?_, ⟨_, rfl⟩, hW, hsame.mono (by decide) (by decide)⟩
  · show St p e below s₁ (mkF m 0 #[.val (.ref a1), .val (.int 0), .val (.ref a3), .val (.int 0), .val (.int 1), .unset, .unset] []) _
    refine XS.iconst X0.here hx rfl (hb hby d38_0) ?_
    refine XS.istore X0.here hx rfl (hb hby d38_1) rfl (l' := #[.val (.ref a1), .val (.int 0), .val (.ref a3), .val (.int 0), .val (.int 1), .val (.int 0), .unset]) rfl ?_
    refine XS.iload X0.here hx rfl (hb hby d38_3) rfl ?_
    refine XS.iload X0.here hx rfl (hb hby d38_5) rfl ?_
    show St p e below s₁ (mkF m 7 #[.val (.ref a1), .val (.int 0), .val (.ref a3), .val (.int 0), .val (.int 1), .val (.int 0), .unset] [(.int 1), (.int 0)]) _
    refine XS.icmpNo X0.here hx rfl (hb hby d38_7) rfl (tlt (by decide : (0 : Int32) < (1 : Int32))).2.1 ?_
    refine XS.aloadN X0.here hx rfl (hb hby d38_10) rfl rfl ?_
    refine XS.iloadN X0.here hx rfl (hb hby d38_11) rfl ?_
    refine X0.caload hx (j := (0 : Int32)) (v := (.int c0)) (by rw [e0]; exact Ar1.1) (State.isArrayOf_alike hZ.alike Ar1.2.1) Ar1.2.2 hin1 hat1 (g := (mkF m 12 #[.val (.ref a1), .val (.int 0), .val (.ref a3), .val (.int 0), .val (.int 1), .val (.int 0), .unset] [(.int 0), (.ref a1)])) rfl rfl (hb hby d38_12) _ ?_
    show St p e below s₁ (mkF m 13 #[.val (.ref a1), .val (.int 0), .val (.ref a3), .val (.int 0), .val (.int 1), .val (.int 0), .unset] [(.int c0)]) _
    refine XS.istore X0.here hx rfl (hb hby d38_13) rfl (l' := #[.val (.ref a1), .val (.int 0), .val (.ref a3), .val (.int 0), .val (.int 1), .val (.int 0), .val (.int c0)]) rfl ?_
    refine XS.iload X0.here hx rfl (hb hby d38_15) rfl ?_
    refine XS.sipush X0.here hx rfl (hb hby d38_17) ?_
    refine XS.icmpYes X0.here hx rfl (pc0 := 20) (pc' := 26) rfl (hb hby d38_20) rfl (flt hb_c0).2.2.2 (by decide) (by decide) ?_
    show St p e below s₁ (mkF m 26 #[.val (.ref a1), .val (.int 0), .val (.ref a3), .val (.int 0), .val (.int 1), .val (.int 0), .val (.int c0)] []) _
    refine XS.aloadN X0.here hx rfl (hb hby d38_26) rfl rfl ?_
    refine XS.iloadN X0.here hx rfl (hb hby d38_27) rfl ?_
    refine XS.iload X0.here hx rfl (hb hby d38_28) rfl ?_
    refine XS.i2b X0.here hx rfl (hb hby d38_30) rfl ?_
    show St p e below s₁ (mkF m 31 #[.val (.ref a1), .val (.int 0), .val (.ref a3), .val (.int 0), .val (.int 1), .val (.int 0), .val (.int c0)] [(.int (c0.toInt8.toInt32)), (.int 0), (.ref a3)]) _
    refine st3 _ ?_
    refine XS.iinc X3.here hx rfl (hb hby d38_32) rfl (l' := #[.val (.ref a1), .val (.int ((0 : Int32) + (1 : Int32))), .val (.ref a3), .val (.int 0), .val (.int 1), .val (.int 0), .val (.int c0)]) rfl ?_
    show St p e below T3 (mkF m 35 #[.val (.ref a1), .val (.int ((0 : Int32) + (1 : Int32))), .val (.ref a3), .val (.int 0), .val (.int 1), .val (.int 0), .val (.int c0)] []) _
    rw [(by decide : ((0 : Int32) + (1 : Int32)) = (1 : Int32))]
    show St p e below T3 (mkF m 35 #[.val (.ref a1), .val (.int 1), .val (.ref a3), .val (.int 0), .val (.int 1), .val (.int 0), .val (.int c0)] []) _
    refine XS.iinc X3.here hx rfl (hb hby d38_35) rfl (l' := #[.val (.ref a1), .val (.int 1), .val (.ref a3), .val (.int ((0 : Int32) + (1 : Int32))), .val (.int 1), .val (.int 0), .val (.int c0)]) rfl ?_
    show St p e below T3 (mkF m 38 #[.val (.ref a1), .val (.int 1), .val (.ref a3), .val (.int ((0 : Int32) + (1 : Int32))), .val (.int 1), .val (.int 0), .val (.int c0)] []) _
    rw [(by decide : ((0 : Int32) + (1 : Int32)) = (1 : Int32))]
    show St p e below T3 (mkF m 38 #[.val (.ref a1), .val (.int 1), .val (.ref a3), .val (.int 1), .val (.int 1), .val (.int 0), .val (.int c0)] []) _
    refine XS.iinc X3.here hx rfl (hb hby d38_38) rfl (l' := #[.val (.ref a1), .val (.int 1), .val (.ref a3), .val (.int 1), .val (.int 1), .val (.int ((0 : Int32) + (1 : Int32))), .val (.int c0)]) rfl ?_
    show St p e below T3 (mkF m 41 #[.val (.ref a1), .val (.int 1), .val (.ref a3), .val (.int 1), .val (.int 1), .val (.int ((0 : Int32) + (1 : Int32))), .val (.int c0)] []) _
    rw [(by decide : ((0 : Int32) + (1 : Int32)) = (1 : Int32))]
    show St p e below T3 (mkF m 41 #[.val (.ref a1), .val (.int 1), .val (.ref a3), .val (.int 1), .val (.int 1), .val (.int 1), .val (.int c0)] []) _
    refine XS.goto X3.here hx rfl (pc0 := 41) (pc' := 3) rfl (hb hby d38_41) (by decide) (by decide) ?_
    refine XS.iload X3.here hx rfl (hb hby d38_3) rfl ?_
    refine XS.iload X3.here hx rfl (hb hby d38_5) rfl ?_
    refine XS.icmpYes X3.here hx rfl (pc0 := 7) (pc' := 44) rfl (hb hby d38_7) rfl (flt (by decide : ¬ ((1 : Int32) < (1 : Int32)))).2.1 (by decide) (by decide) ?_
    show St p e below T3 (mkF m 44 #[.val (.ref a1), .val (.int 1), .val (.ref a3), .val (.int 1), .val (.int 1), .val (.int 1), .val (.int c0)] []) _
    refine XS.iload X3.here hx rfl (hb hby d38_44) rfl ?_
    show St p e below T3 (mkF m 46 #[.val (.ref a1), .val (.int 1), .val (.ref a3), .val (.int 1), .val (.int 1), .val (.int 1), .val (.int c0)] [(.int 1)]) _
    exact retI X3 hx Bd.returns (hb hby d38_46) hr
  · show Q_cmp5_1 Z a1 a3 k_a1 c0 k_a3 h0 n0 _ T3.heap _
    rw [e3]
    exact ⟨rfl, N3, K4, V3⟩
theorem pd_CI_BII_I_688 : parseMethodDescriptor "([CI[BII)I" = some ⟨[(.array .char), .int, (.array .byte), .int, .int], some .int⟩ := by decide +kernel
theorem d37_0 : decode jdk_52_method_16_code 0 = .ok (.iload_n 2, 1) := by decide +kernel
theorem d37_1 : decode jdk_52_method_16_code 1 = .ok (.newarray .byte, 2) := by decide +kernel
theorem d37_3 : decode jdk_52_method_16_code 3 = .ok (.astore_n 3, 1) := by decide +kernel
theorem d37_4 : decode jdk_52_method_16_code 4 = .ok (.aload_n 0, 1) := by decide +kernel
theorem d37_5 : decode jdk_52_method_16_code 5 = .ok (.iload_n 1, 1) := by decide +kernel
theorem d37_6 : decode jdk_52_method_16_code 6 = .ok (.aload_n 3, 1) := by decide +kernel
theorem d37_7 : decode jdk_52_method_16_code 7 = .ok (.iconst 0, 1) := by decide +kernel
theorem d37_8 : decode jdk_52_method_16_code 8 = .ok (.iload_n 2, 1) := by decide +kernel
theorem d37_9 : decode jdk_52_method_16_code 9 = .ok (.invokestatic 115, 3) := by decide +kernel
theorem d37_12 : decode jdk_52_method_16_code 12 = .ok (.istore 4, 2) := by decide +kernel
theorem d37_14 : decode jdk_52_method_16_code 14 = .ok (.iload 4, 2) := by decide +kernel
theorem d37_16 : decode jdk_52_method_16_code 16 = .ok (.iload_n 2, 1) := by decide +kernel
theorem d37_17 : decode jdk_52_method_16_code 17 = .ok (.if_icmp .eq 40, 3) := by decide +kernel
theorem d37_57 : decode jdk_52_method_16_code 57 = .ok (.aload_n 3, 1) := by decide +kernel
theorem d37_58 : decode jdk_52_method_16_code 58 = .ok (.areturn, 1) := by decide +kernel
theorem pn_37 : plainName "java/lang/StringUTF16" = true := by first | (simp [plainName, overriddenIn]; done) | decide +kernel
theorem ef_37_RII (m : MethodId) (x0 : Addr) (x1 : Int32) (x2 : Int32) : entryFrame m #[(.ref x0), (.int x1), (.int x2)] 6 = mkF m 0 #[.val (.ref x0), .val (.int x1), .val (.int x2), .unset, .unset, .unset] [] := by first | (simp [entryFrame, mkF, argsToLocals, Value.category]; done) | rfl
def Q_cmp3_1 (Z : State) (a1 : Addr) (k_a1 : ClassId) (c0 : Int32) (h0 : Heap) (n0 : Nat) (v : Option Value) (h : Heap) (L : List Loc) : Prop := ∃ (t : Addr) (kt : ClassId), v = some (.ref t) ∧ Fr n0 L ∧ Keep h0 h [] ∧ h0.size ≤ t ∧ Arv Z h t kt .byte (1 : Int32) [(.int (c0.toInt8.toInt32))] (.int 0)
set_option maxRecDepth 65536 in
set_option maxHeartbeats 40000000 in
theorem rm_cmp3_1 (l : Launch) (Z : State) (a0 : Array Value) (hw : ∀ d ∈ tables_1, d.before a0 Z = true) (ws : List Jvm.Cond) (a1 : Addr) (k_a1 : ClassId) (c0 : Int32) (h0 : Heap) (n0 : Nat) (Z0 : n0 ≤ h0.size) (V_a1 : Arv Z h0 a1 k_a1 .char (1 : Int32) [(.int c0)] (.int 0)) (hb_c0 : ¬ ((255 : Int32) < c0)) (O0 : Old Z n0 h0) :
    MetFree l (⟨"java/lang/StringUTF16", "compress", "([CII)[B"⟩ : MethodName) (head1 (Jvm.Cond.code (⟨"java/lang/StringUTF16", "compress", "([CII)[B"⟩ : MethodName) jdk_52_method_16_code 6 (some (.array .byte)) :: ws) ({ frames := 1, cells := 1, slots := 1, locals := 18 } : Room)) (fun a U => a = #[(.ref a1), (.int 0), (.int 1)] ∧ Z.Warmed39 U.vm ∧ U.heap = h0) (fun _ _ _ _ _ => True) (fun _ U o U' => ∃ v L, o = .returned v ∧ Q_cmp3_1 Z a1 k_a1 c0 h0 n0 v U'.heap L ∧ FrameEnd U o U' L ({ frames := 1, cells := 1, slots := 1, locals := 18 } : Room).cells ({ frames := 1, cells := 1, slots := 1, locals := 18 } : Room).slots) := by
  refine MetFree.of_bodySF (plainFor_of_name pn_37) hisR ?_
  intro p e s m args below meth c s₁ Bd hml0 hP hK
  obtain ⟨rfl, hZ, hh⟩ := hP
  have hx := Bd.exec
  have hby := Bd.bytes
  have hml : c.maxLocals = 6 := hml0
  have hown : s.vm.findClass "java/lang/StringUTF16" = some m.cls := findClass_of_methodNamed Bd.named
  have hnm := (name_of_methodNamed Bd.named Bd.method).1
  have X0 : Stand p l e ({ frames := 1, cells := 1, slots := 1, locals := 18 } : Room) s m #[(.ref a1), (.int 0), (.int 1)] below meth c s₁ [] 0 0 := Stand.of_body Bd
  have e0 : s₁.heap = h0 := by rw [← hh, Bd.state]; rfl
  have N0 := Fr.nil n0
  have pre0 : ∀ t, Steps p.tables e below (s₁.setTop (mkF m 0 #[.val (.ref a1), .val (.int 0), .val (.int 1), .unset, .unset, .unset] [])) t → Steps p.tables e below (s₁.setTop (entryFrame m #[(.ref a1), (.int 0), (.int 1)] 6)) t := fun t k => castTop (ef_37_RII m a1 (0 : Int32) (1 : Int32)) k
  obtain ⟨T1, h1, k1, X1, e1, E1, A1, st1⟩ := newP X0 hx hZ (hwi hw 15 rfl) e0 (g := (mkF m 1 #[.val (.ref a1), .val (.int 0), .val (.int 1), .unset, .unset, .unset] [(.int 1)])) rfl (hb hby d37_1) rfl (by decide) (cap := 1) (by decide) (by decide) (by decide) (by decide)
  obtain ⟨b1, g1⟩ : ∃ z, z = h0.size := ⟨_, rfl⟩
  rw [← g1] at A1 st1
  have bn_b1 : h0.size ≤ b1 := Nat.le_of_eq g1.symm
  have sz2 : h0.size ≤ h1.size := E1.1
  have Z2 : n0 ≤ h1.size := Nat.le_trans Z0 sz2
  have O2 := O0.ext E1
  have K2 : Keep h0 h1 [] := (Keep.refl h0 []).ext E1
  have V1 : Arv Z h1 b1 k1 .byte (1 : Int32) [(.int 0)] (.int 0) := (Arv.new A1 (by decide)).pad (pad_rep [] (.int 0) 1)
  have fc4 := (V_a1.ext E1)
  obtain ⟨_, _, ⟨T3, L3, k3, n3⟩, -, X3, ⟨Lc3, hQ3, l3, y3, z3⟩, st3⟩ := Jvm.LawKit.callS X1 hx (y := (⟨"java/lang/StringUTF16", "compress", "([CI[BII)I"⟩ : MethodName)) hown (mvT hZ (hwi hw 200 rfl)) (mvT hZ (hwi hw 201 rfl)) (mvT hZ (hwi hw 198 rfl)) (mvT hZ (hwi hw 202 rfl)) (by decide) (backOf (W := 0) (rm_cmp5_1 l Z a0 hw [] a1 b1 k_a1 c0 k1 h1 n0 Z2 fc4 V1 (neN (by have := ltN V_a1.lt; have := ltN V1.lt; omega)) hb_c0 (Nat.le_trans Z0 bn_b1) O2) hZ (hwi hw 202 rfl) (hwi hw 198 rfl) (by decide) (by decide)) (g := (mkF m 9 #[.val (.ref a1), .val (.int 0), .val (.int 1), .val (.ref b1), .unset, .unset] [(.int 1), (.int 0), (.ref b1), (.int 0), (.ref a1)])) rfl (by rw [hml]; rfl) (argsL := [(.ref a1), (.int 0), (.ref b1), (.int 0), (.int 1)]) (rest := []) (lenOf pd_CI_BII_I_688 rfl) rfl (by show 2 * 0 + _ ≤ _; exact Nat.le_of_eq rfl) (hb hby d37_9) (fun _ _ => ⟨rfl, e1, (by decide : 1 + 0 ≤ _), (by decide : 1 + 0 ≤ _)⟩)
  dsimp only [Pt.U, Pt.locs, Pt.cells, Pt.slots] at X3 l3 y3 z3 st3 hQ3
  subst l3 y3 z3
  obtain ⟨rfl, N3q, Kc3, g3_0⟩ := hQ3
  have N3 := Fr.app N0 N3q
  have sz5 : h1.size ≤ T3.heap.size := Kc3.1
  have Z5 : n0 ≤ T3.heap.size := Nat.le_trans Z2 sz5
  have O5 := O2.keep Kc3 (allS (Nat.le_trans Z0 bn_b1) all0)
  have K5 : Keep h0 T3.heap [] := K2.trans Kc3 (allS (Or.inr bn_b1) (all0))
  obtain ⟨fs, hr, hrun, hended, hW, hsame⟩ := X3.leave (v := some (.ref b1)) (fun h => by rw [Bd.returns] at h; cases h)
  refine ⟨_, _, pre0 _ ?_, hrun, hended, _, _, rfl, ?_, ⟨_, rfl⟩, hW, hsame.mono (by decide) (by decide)⟩
  · show St p e below s₁ (mkF m 0 #[.val (.ref a1), .val (.int 0), .val (.int 1), .unset, .unset, .unset] []) _
    refine XS.iloadN X0.here hx rfl (hb hby d37_0) rfl ?_
    refine st1 _ ?_
    refine XS.astoreN X1.here hx rfl (hb hby d37_3) rfl rfl (l' := #[.val (.ref a1), .val (.int 0), .val (.int 1), .val (.ref b1), .unset, .unset]) rfl ?_
    refine XS.aloadN X1.here hx rfl (hb hby d37_4) rfl rfl ?_
    show St p e below T1 (mkF m 5 #[.val (.ref a1), .val (.int 0), .val (.int 1), .val (.ref b1), .unset, .unset] [(.ref a1)]) _
    refine XS.iloadN X1.here hx rfl (hb hby d37_5) rfl ?_
    refine XS.aloadN X1.here hx rfl (hb hby d37_6) rfl rfl ?_
    refine XS.iconst X1.here hx rfl (hb hby d37_7) ?_
    refine XS.iloadN X1.here hx rfl (hb hby d37_8) rfl ?_
    show St p e below T1 (mkF m 9 #[.val (.ref a1), .val (.int 0), .val (.int 1), .val (.ref b1), .unset, .unset] [(.int 1), (.int 0), (.ref b1), (.int 0), (.ref a1)]) _
    refine st3 _ ?_
    refine XS.istore X3.here hx rfl (hb hby d37_12) rfl (l' := #[.val (.ref a1), .val (.int 0), .val (.int 1), .val (.ref b1), .val (.int 1), .unset]) rfl ?_
    refine XS.iload X3.here hx rfl (hb hby d37_14) rfl ?_
    refine XS.iloadN X3.here hx rfl (hb hby d37_16) rfl ?_
    show St p e below T3 (mkF m 17 #[.val (.ref a1), .val (.int 0), .val (.int 1), .val (.ref b1), .val (.int 1), .unset] [(.int 1), (.int 1)]) _
    refine XS.icmpYes X3.here hx rfl (pc0 := 17) (pc' := 57) rfl (hb hby d37_17) rfl (teq (by decide : (1 : Int32) = (1 : Int32))).1 (by decide) (by decide) ?_
    refine XS.aloadN X3.here hx rfl (hb hby d37_57) rfl rfl ?_
    show St p e below T3 (mkF m 58 #[.val (.ref a1), .val (.int 0), .val (.int 1), .val (.ref b1), .val (.int 1), .unset] [(.ref b1)]) _
    jvm_step X3.here [X3.here.top, hx, (hb hby d37_58), X3.method', Bd.returns, Value.isRef, FieldType.isReference]
    first | (intro acts; rw [hr _ acts rfl rfl rfl]) | rw [hr _ _ rfl rfl rfl]
    exact Steps.refl _
  · show Q_cmp3_1 Z a1 k_a1 c0 h0 n0 _ T3.heap _
    exact ⟨b1, k1, rfl, N3, K5, bn_b1, g3_0⟩
theorem d39_0 : decode jdk_52_method_15_code 0 = .ok (.iload_n 1, 1) := by decide +kernel
theorem d39_1 : decode jdk_52_method_15_code 1 = .ok (.aload_n 0, 1) := by decide +kernel
theorem d39_2 : decode jdk_52_method_15_code 2 = .ok (.arraylength, 1) := by decide +kernel
theorem d39_3 : decode jdk_52_method_15_code 3 = .ok (.isub, 1) := by decide +kernel
theorem d39_4 : decode jdk_52_method_15_code 4 = .ok (.bipush 31, 2) := by decide +kernel
theorem d39_6 : decode jdk_52_method_15_code 6 = .ok (.iushr, 1) := by decide +kernel
theorem d39_7 : decode jdk_52_method_15_code 7 = .ok (.i2b, 1) := by decide +kernel
theorem d39_8 : decode jdk_52_method_15_code 8 = .ok (.ireturn, 1) := by decide +kernel
theorem pn_39 : plainName "java/lang/StringUTF16" = true := by first | (simp [plainName, overriddenIn]; done) | decide +kernel
theorem ef_39_RI (m : MethodId) (x0 : Addr) (x1 : Int32) : entryFrame m #[(.ref x0), (.int x1)] 2 = mkF m 0 #[.val (.ref x0), .val (.int x1)] [] := by first | (simp [entryFrame, mkF, argsToLocals, Value.category]; done) | rfl
def Q_cod_1 (Z : State) (a1 : Addr) (k_a1 : ClassId) (by0 : Int32) (h0 : Heap) (n0 : Nat) (v : Option Value) (h : Heap) (L : List Loc) : Prop := v = some (.int 0) ∧ Fr n0 L ∧ h = h0
set_option maxRecDepth 65536 in
set_option maxHeartbeats 40000000 in
theorem rm_cod_1 (l : Launch) (Z : State) (a0 : Array Value) (hw : ∀ d ∈ tables_1, d.before a0 Z = true) (ws : List Jvm.Cond) (a1 : Addr) (k_a1 : ClassId) (by0 : Int32) (h0 : Heap) (n0 : Nat) (Z0 : n0 ≤ h0.size) (V_a1 : Arv Z h0 a1 k_a1 .byte (1 : Int32) [(.int by0)] (.int 0)) :
    MetFree l (⟨"java/lang/StringUTF16", "coderFromArrayLen", "([BI)B"⟩ : MethodName) (head1 (Jvm.Cond.code (⟨"java/lang/StringUTF16", "coderFromArrayLen", "([BI)B"⟩ : MethodName) jdk_52_method_15_code 2 (some .byte) :: ws) ({ frames := 0, cells := 0, slots := 0, locals := 0 } : Room)) (fun a U => a = #[(.ref a1), (.int 1)] ∧ Z.Warmed39 U.vm ∧ U.heap = h0) (fun _ _ _ _ _ => True) (fun _ U o U' => ∃ v L, o = .returned v ∧ Q_cod_1 Z a1 k_a1 by0 h0 n0 v U'.heap L ∧ FrameEnd U o U' L ({ frames := 0, cells := 0, slots := 0, locals := 0 } : Room).cells ({ frames := 0, cells := 0, slots := 0, locals := 0 } : Room).slots) := by
  refine MetFree.of_bodySF (plainFor_of_name pn_39) hisR ?_
  intro p e s m args below meth c s₁ Bd hml0 hP hK
  obtain ⟨rfl, hZ, hh⟩ := hP
  have hx := Bd.exec
  have hby := Bd.bytes
  have hml : c.maxLocals = 2 := hml0
  have hown : s.vm.findClass "java/lang/StringUTF16" = some m.cls := findClass_of_methodNamed Bd.named
  have hnm := (name_of_methodNamed Bd.named Bd.method).1
  have X0 : Stand p l e ({ frames := 0, cells := 0, slots := 0, locals := 0 } : Room) s m #[(.ref a1), (.int 1)] below meth c s₁ [] 0 0 := Stand.of_body Bd
  have e0 : s₁.heap = h0 := by rw [← hh, Bd.state]; rfl
  have N0 := Fr.nil n0
  have pre0 : ∀ t, Steps p.tables e below (s₁.setTop (mkF m 0 #[.val (.ref a1), .val (.int 1)] [])) t → Steps p.tables e below (s₁.setTop (entryFrame m #[(.ref a1), (.int 1)] 2)) t := fun t k => castTop (ef_39_RI m a1 (1 : Int32)) k
  obtain ⟨cl1, Ar1, -, S1, M1, -, -⟩ := id V_a1
  obtain ⟨fs, hr, hrun, hended, hW, hsame⟩ := X0.leave (v := some (.int 0)) (fun h => by rw [Bd.returns] at h; cases h)
  refine ⟨_, _, pre0 _ ?_, hrun, hended, _, _, rfl, ?_, ⟨_, rfl⟩, hW, hsame.mono (by decide) (by decide)⟩
  · show St p e below s₁ (mkF m 0 #[.val (.ref a1), .val (.int 1)] []) _
    refine XS.iloadN X0.here hx rfl (hb hby d39_0) rfl ?_
    refine XS.aloadN X0.here hx rfl (hb hby d39_1) rfl rfl ?_
    refine X0.arraylength hx (by rw [e0]; exact Ar1.1) (State.isArrayOf_alike hZ.alike Ar1.2.1) (g := (mkF m 2 #[.val (.ref a1), .val (.int 1)] [(.ref a1), (.int 1)])) rfl rfl (hb hby d39_2) _ ?_
    rw [len_of S1 M1]
    show St p e below s₁ (mkF m 3 #[.val (.ref a1), .val (.int 1)] [(.int 1), (.int 1)]) _
    refine XS.isub X0.here hx rfl (hb hby d39_3) rfl ?_
    show St p e below s₁ (mkF m 4 #[.val (.ref a1), .val (.int 1)] [(.int ((1 : Int32) - (1 : Int32)))]) _
    rw [(by decide : ((1 : Int32) - (1 : Int32)) = (0 : Int32))]
    show St p e below s₁ (mkF m 4 #[.val (.ref a1), .val (.int 1)] [(.int 0)]) _
    refine XS.bipush X0.here hx rfl (hb hby d39_4) ?_
    refine XS.iushr X0.here hx rfl (hb hby d39_6) rfl ?_
    show St p e below s₁ (mkF m 7 #[.val (.ref a1), .val (.int 1)] [(.int (((0 : Int32).toUInt32 >>> ((31 : Int32) &&& 31).toUInt32).toInt32))]) _
    rw [(by decide : (((0 : Int32).toUInt32 >>> ((31 : Int32) &&& 31).toUInt32).toInt32) = (0 : Int32))]
    show St p e below s₁ (mkF m 7 #[.val (.ref a1), .val (.int 1)] [(.int 0)]) _
    refine XS.i2b X0.here hx rfl (hb hby d39_7) rfl ?_
    show St p e below s₁ (mkF m 8 #[.val (.ref a1), .val (.int 1)] [(.int ((0 : Int32).toInt8.toInt32))]) _
    rw [(by decide : ((0 : Int32).toInt8.toInt32) = (0 : Int32))]
    show St p e below s₁ (mkF m 8 #[.val (.ref a1), .val (.int 1)] [(.int 0)]) _
    exact retN X0 hx (t := .byte) Bd.returns (by simp) (hb hby d39_8) hr
  · show Q_cod_1 Z a1 k_a1 by0 h0 n0 _ s₁.heap _
    rw [e0]
    exact ⟨rfl, N0, rfl⟩
theorem pd_CII__B_542 : parseMethodDescriptor "([CII)[B" = some ⟨[(.array .char), .int, .int], some (.array .byte)⟩ := by decide +kernel
theorem pd_BI_B_377 : parseMethodDescriptor "([BI)B" = some ⟨[(.array .byte), .int], some .byte⟩ := by decide +kernel
theorem d2_27 : decode jdk_42_method_149_code 27 = .ok (.getstatic 38, 3) := by decide +kernel
theorem d2_30 : decode jdk_42_method_149_code 30 = .ok (.ifCond .eq 28, 3) := by decide +kernel
theorem d2_33 : decode jdk_42_method_149_code 33 = .ok (.aload_n 1, 1) := by decide +kernel
theorem d2_34 : decode jdk_42_method_149_code 34 = .ok (.iload_n 2, 1) := by decide +kernel
theorem d2_35 : decode jdk_42_method_149_code 35 = .ok (.iload_n 3, 1) := by decide +kernel
theorem d2_36 : decode jdk_42_method_149_code 36 = .ok (.invokestatic 177, 3) := by decide +kernel
theorem d2_39 : decode jdk_42_method_149_code 39 = .ok (.astore 5, 2) := by decide +kernel
theorem d2_41 : decode jdk_42_method_149_code 41 = .ok (.aload_n 0, 1) := by decide +kernel
theorem d2_42 : decode jdk_42_method_149_code 42 = .ok (.aload 5, 2) := by decide +kernel
theorem d2_44 : decode jdk_42_method_149_code 44 = .ok (.iload_n 3, 1) := by decide +kernel
theorem d2_45 : decode jdk_42_method_149_code 45 = .ok (.invokestatic 47, 3) := by decide +kernel
theorem d2_48 : decode jdk_42_method_149_code 48 = .ok (.putfield 15, 3) := by decide +kernel
theorem d2_51 : decode jdk_42_method_149_code 51 = .ok (.aload_n 0, 1) := by decide +kernel
theorem d2_52 : decode jdk_42_method_149_code 52 = .ok (.aload 5, 2) := by decide +kernel
theorem d2_54 : decode jdk_42_method_149_code 54 = .ok (.putfield 9, 3) := by decide +kernel
theorem d2_57 : decode jdk_42_method_149_code 57 = .ok (.return_, 1) := by decide +kernel
def Q_new4_1 (Z : State) (a1 : Addr) (a2 : Addr) (w_COMPACT_STRINGS : Int32) (k_a2 : ClassId) (c0 : Int32) (u_a1_coder : Value) (u_a1_value : Value) (h0 : Heap) (n0 : Nat) (v : Option Value) (h : Heap) (L : List Loc) : Prop := ∃ (t : Addr) (kt : ClassId), v = none ∧ Fr n0 L ∧ Keep h0 h [a1] ∧ Exa Z h a1 "java/lang/String" ∧ Fld Z h a1 "java/lang/String" "coder" "B" (.int 0) ∧ Fld Z h a1 "java/lang/String" "value" "[B" (.ref t) ∧ h0.size ≤ t ∧ Arv Z h t kt .byte (1 : Int32) [(.int (c0.toInt8.toInt32))] (.int 0)
set_option maxRecDepth 65536 in
set_option maxHeartbeats 40000000 in
theorem rm_new4_1 (l : Launch) (Z : State) (a0 : Array Value) (hw : ∀ d ∈ tables_1, d.before a0 Z = true) (ws : List Jvm.Cond) (a1 : Addr) (a2 : Addr) (w_COMPACT_STRINGS : Int32) (k_a2 : ClassId) (c0 : Int32) (u_a1_coder : Value) (u_a1_value : Value) (h0 : Heap) (n0 : Nat) (Z0 : n0 ≤ h0.size) (S_COMPACT_STRINGS : Sta Z Z.heap "java/lang/String" "COMPACT_STRINGS" "Z" (.int w_COMPACT_STRINGS)) (hcs : ¬ (w_COMPACT_STRINGS = (0 : Int32))) (V_a2 : Arv Z h0 a2 k_a2 .char (1 : Int32) [(.int c0)] (.int 0)) (hb_c0 : ¬ ((255 : Int32) < c0)) (O0 : Old Z n0 h0) (E_a1 : Exa Z h0 a1 "java/lang/String") (F_a1_coder : Fld Z h0 a1 "java/lang/String" "coder" "B" u_a1_coder) (g_a1 : n0 ≤ a1) (F_a1_value : Fld Z h0 a1 "java/lang/String" "value" "[B" u_a1_value) :
    MetFree l (⟨"java/lang/String", "<init>", "([CIILjava/lang/Void;)V"⟩ : MethodName) (head1 (Jvm.Cond.code (⟨"java/lang/String", "<init>", "([CIILjava/lang/Void;)V"⟩ : MethodName) jdk_42_method_149_code 6 none :: ws) ({ frames := 2, cells := 1, slots := 1, locals := 35 } : Room)) (fun a U => a = #[(.ref a1), (.ref a2), (.int 0), (.int 1), .null] ∧ Z.Warmed39 U.vm ∧ U.heap = h0) (fun _ _ _ _ _ => True) (fun _ U o U' => ∃ v L, o = .returned v ∧ Q_new4_1 Z a1 a2 w_COMPACT_STRINGS k_a2 c0 u_a1_coder u_a1_value h0 n0 v U'.heap L ∧ FrameEnd U o U' L ({ frames := 2, cells := 1, slots := 1, locals := 35 } : Room).cells ({ frames := 2, cells := 1, slots := 1, locals := 35 } : Room).slots) := by
  refine MetFree.of_bodySF (plainFor_of_name pn_2) hisR ?_
  intro p e s m args below meth c s₁ Bd hml0 hP hK
  obtain ⟨rfl, hZ, hh⟩ := hP
  have hx := Bd.exec
  have hby := Bd.bytes
  have hml : c.maxLocals = 6 := hml0
  have hown : s.vm.findClass "java/lang/String" = some m.cls := findClass_of_methodNamed Bd.named
  have hnm := (name_of_methodNamed Bd.named Bd.method).1
  have X0 : Stand p l e ({ frames := 2, cells := 1, slots := 1, locals := 35 } : Room) s m #[(.ref a1), (.ref a2), (.int 0), (.int 1), .null] below meth c s₁ [] 0 0 := Stand.of_body Bd
  have e0 : s₁.heap = h0 := by rw [← hh, Bd.state]; rfl
  have N0 := Fr.nil n0
  have pre0 : ∀ t, Steps p.tables e below (s₁.setTop (mkF m 0 #[.val (.ref a1), .val (.ref a2), .val (.int 0), .val (.int 1), .val .null, .unset] [])) t → Steps p.tables e below (s₁.setTop (entryFrame m #[(.ref a1), (.ref a2), (.int 0), (.int 1), .null] 6)) t := fun t k => castTop (ef_2_RRIIn m a1 a2 (0 : Int32) (1 : Int32)) k
  obtain ⟨T1, X1, e1, st1⟩ := initO X0 hx hZ hown (hwi hw 11 rfl) (hwi hw 12 rfl) (hwi hw 13 rfl) e0 (g := (mkF m 1 #[.val (.ref a1), .val (.ref a2), .val (.int 0), .val (.int 1), .val .null, .unset] [(.ref a1)])) rfl (by rw [hml]; rfl) rfl (hb hby d2_1) (by decide) (W := 0) (by show 2 * 0 + _ ≤ _; exact Nat.le_of_eq rfl) (by decide)
  obtain ⟨T2, X2, e2, st2⟩ := getS2 X1 hx hZ hown (host := "") (Or.inl (hwi hw 99 rfl)) Via.refl e1 (S_COMPACT_STRINGS.ext O0.2) (g := (mkF m 27 #[.val (.ref a1), .val (.ref a2), .val (.int 0), .val (.int 1), .val .null, .unset] [])) rfl (hb hby d2_27)
  obtain ⟨_, _, ⟨T3, L3, k3, n3⟩, -, X3, ⟨Lc3, hQ3, l3, y3, z3⟩, st3⟩ := Jvm.LawKit.callS X2 hx (y := (⟨"java/lang/StringUTF16", "compress", "([CII)[B"⟩ : MethodName)) hown (mvT hZ (hwi hw 196 rfl)) (mvT hZ (hwi hw 197 rfl)) (mvT hZ (hwi hw 198 rfl)) (mvT hZ (hwi hw 199 rfl)) (by decide) (backOf (W := 0) (rm_cmp3_1 l Z a0 hw [] a2 k_a2 c0 h0 n0 Z0 V_a2 hb_c0 O0) hZ (hwi hw 199 rfl) (hwi hw 198 rfl) (by decide) (by decide)) (g := (mkF m 36 #[.val (.ref a1), .val (.ref a2), .val (.int 0), .val (.int 1), .val .null, .unset] [(.int 1), (.int 0), (.ref a2)])) rfl (by rw [hml]; rfl) (argsL := [(.ref a2), (.int 0), (.int 1)]) (rest := []) (lenOf pd_CII__B_542 rfl) rfl (by show 2 * 0 + _ ≤ _; exact Nat.le_of_eq rfl) (hb hby d2_36) (fun _ _ => ⟨rfl, e2, (by decide : 0 + 1 ≤ _), (by decide : 0 + 1 ≤ _)⟩)
  dsimp only [Pt.U, Pt.locs, Pt.cells, Pt.slots] at X3 l3 y3 z3 st3 hQ3
  subst l3 y3 z3
  obtain ⟨t_3, kt_3, rfl, N3q, Kc3, g3_0, g3_1⟩ := hQ3
  have N3 := Fr.app N0 N3q
  have sz4 : h0.size ≤ T3.heap.size := Kc3.1
  have Z4 : n0 ≤ T3.heap.size := Nat.le_trans Z0 sz4
  have O4 := O0.keep Kc3 all0
  have K4 : Keep h0 T3.heap [a1] := (Keep.refl h0 [a1]).trans Kc3 (all0)
  have bn_t_3 : h0.size ≤ t_3 := g3_0
  obtain ⟨_, _, ⟨T5, L5, k5, n5⟩, -, X5, ⟨Lc5, hQ5, l5, y5, z5⟩, st5⟩ := Jvm.LawKit.callS X3 hx (y := (⟨"java/lang/StringUTF16", "coderFromArrayLen", "([BI)B"⟩ : MethodName)) hown (mvT hZ (hwi hw 203 rfl)) (mvT hZ (hwi hw 204 rfl)) (mvT hZ (hwi hw 198 rfl)) (mvT hZ (hwi hw 205 rfl)) (by decide) (backOf (W := 1) (rm_cod_1 l Z a0 hw [] t_3 kt_3 (c0.toInt8.toInt32) T3.heap n0 Z4 g3_1) hZ (hwi hw 205 rfl) (hwi hw 198 rfl) (by decide) (by decide)) (g := (mkF m 45 #[.val (.ref a1), .val (.ref a2), .val (.int 0), .val (.int 1), .val .null, .val (.ref t_3)] [(.int 1), (.ref t_3), (.ref a1)])) rfl (by rw [hml]; rfl) (argsL := [(.ref t_3), (.int 1)]) (rest := [(.ref a1)]) (lenOf pd_BI_B_377 rfl) rfl (by show 2 * 0 + _ ≤ _; exact Nat.le_of_eq rfl) (hb hby d2_45) (fun _ _ => ⟨rfl, rfl, (by decide : 1 + 0 ≤ _), (by decide : 1 + 0 ≤ _)⟩)
  dsimp only [Pt.U, Pt.locs, Pt.cells, Pt.slots] at X5 l5 y5 z5 st5 hQ5
  subst l5 y5 z5
  obtain ⟨rfl, N5q, e5⟩ := hQ5
  have N5 := Fr.app N3 N5q
  have fc6 := (E_a1.keep Kc3)
  have fc7 := (F_a1_coder.keep Kc3 nin0)
  obtain ⟨T8, h8, X8, e8, W8, st8⟩ := putFN X5 hx hZ hown (hwi hw 21 rfl) Via.refl e5 fc7 fc6 (Or.inr ⟨(hwi hw 17 rfl), rfl, hnm⟩) (hwi hw 2 rfl) (ty := .byte) (v' := (.int 0)) (by decide) rfl (by decide) (g := (mkF m 48 #[.val (.ref a1), .val (.ref a2), .val (.int 0), .val (.int 1), .val .null, .val (.ref t_3)] [(.int 0), (.ref a1)])) rfl rfl (hb hby d2_48)
  have N8 := Fr.snoc X8 N5 g_a1
  have Fw8 := fc7.same W8
  have sz9 : T3.heap.size ≤ h8.size := Nat.le_of_eq W8.size.symm
  have Z9 : n0 ≤ h8.size := Nat.le_trans Z4 sz9
  have O9 := O4.wr W8 g_a1
  have K9 : Keep h0 h8 [a1] := K4.wr W8 (Or.inl (List.mem_of_getElem? (i := 0) rfl))
  have fc10 := (fc6.wr W8)
  have fc11 := ((F_a1_value.keep Kc3 nin0).other W8 (Or.inr (slot_ne (Or.inr (hwi hw 16 rfl)) (Or.inr (hwi hw 17 rfl)) (by decide) (t := (.array .byte)) (t' := .byte) (by decide) (by decide))))
  obtain ⟨T12, h12, X12, e12, W12, st12⟩ := putF X8 hx hZ hown (host := "") (Or.inl (hwi hw 20 rfl)) Via.refl e8 fc11 fc10 (Or.inr ⟨(hwi hw 16 rfl), rfl, hnm⟩) (hwi hw 2 rfl) (ty := (.array .byte)) (by decide) rfl rfl (g := (mkF m 54 #[.val (.ref a1), .val (.ref a2), .val (.int 0), .val (.int 1), .val .null, .val (.ref t_3)] [(.ref t_3), (.ref a1)])) rfl rfl (hb hby d2_54)
  have N12 := Fr.snoc X12 N8 g_a1
  have Fw12 := fc11.same W12
  have sz13 : h8.size ≤ h12.size := Nat.le_of_eq W12.size.symm
  have Z13 : n0 ≤ h12.size := Nat.le_trans Z9 sz13
  have O13 := O9.wr W12 g_a1
  have K13 : Keep h0 h12 [a1] := K9.wr W12 (Or.inl (List.mem_of_getElem? (i := 0) rfl))
  have fc14 := (fc10.wr W12)
  have fc15 := (Fw8.other W12 (Or.inr (slot_ne (Or.inr (hwi hw 17 rfl)) (Or.inr (hwi hw 16 rfl)) (by decide) (t := .byte) (t' := (.array .byte)) (by decide) (by decide))))
  have fc16 := ((g3_1.other W8 (neN (by have := ltN E_a1.lt; have := ltN g3_1.lt; omega))).other W12 (neN (by have := ltN E_a1.lt; have := ltN g3_1.lt; omega)))
  obtain ⟨fs, hr, hrun, hended, hW, hsame⟩ := X12.leave (v := none) (fun _ => rfl)
  refine ⟨_, _, pre0 _ ?_, hrun, hended, _, _, rfl, ?_, ⟨_, rfl⟩, hW, hsame.mono (by decide) (by decide)⟩
  · show St p e below s₁ (mkF m 0 #[.val (.ref a1), .val (.ref a2), .val (.int 0), .val (.int 1), .val .null, .unset] []) _
    refine XS.aloadN X0.here hx rfl (hb hby d2_0) rfl rfl ?_
    refine st1 _ ?_
    refine XS.iloadN X1.here hx rfl (hb hby d2_4) rfl ?_
    refine XS.ifYes X1.here hx rfl (pc0 := 5) (pc' := 27) rfl (hb hby d2_5) rfl ((if0 _ _).trans (feq (by decide : ¬ ((1 : Int32) = (0 : Int32)))).2) (by decide) (by decide) ?_
    show St p e below T1 (mkF m 27 #[.val (.ref a1), .val (.ref a2), .val (.int 0), .val (.int 1), .val .null, .unset] []) _
    refine st2 _ ?_
    refine XS.ifNo X2.here hx rfl (hb hby d2_30) rfl ((if0 _ _).trans (feq hcs).1) ?_
    refine XS.aloadN X2.here hx rfl (hb hby d2_33) rfl rfl ?_
    refine XS.iloadN X2.here hx rfl (hb hby d2_34) rfl ?_
    show St p e below T2 (mkF m 35 #[.val (.ref a1), .val (.ref a2), .val (.int 0), .val (.int 1), .val .null, .unset] [(.int 0), (.ref a2)]) _
    refine XS.iloadN X2.here hx rfl (hb hby d2_35) rfl ?_
    refine st3 _ ?_
    refine XS.astore X3.here hx rfl (hb hby d2_39) rfl rfl (l' := #[.val (.ref a1), .val (.ref a2), .val (.int 0), .val (.int 1), .val .null, .val (.ref t_3)]) rfl ?_
    refine XS.aloadN X3.here hx rfl (hb hby d2_41) rfl rfl ?_
    show St p e below T3 (mkF m 42 #[.val (.ref a1), .val (.ref a2), .val (.int 0), .val (.int 1), .val .null, .val (.ref t_3)] [(.ref a1)]) _
    refine XS.aload X3.here hx rfl (hb hby d2_42) rfl rfl ?_
    refine XS.iloadN X3.here hx rfl (hb hby d2_44) rfl ?_
    refine st5 _ ?_
    refine st8 _ ?_
    show St p e below T8 (mkF m 51 #[.val (.ref a1), .val (.ref a2), .val (.int 0), .val (.int 1), .val .null, .val (.ref t_3)] []) _
    refine XS.aloadN X8.here hx rfl (hb hby d2_51) rfl rfl ?_
    refine XS.aload X8.here hx rfl (hb hby d2_52) rfl rfl ?_
    refine st12 _ ?_
    show St p e below T12 (mkF m 57 #[.val (.ref a1), .val (.ref a2), .val (.int 0), .val (.int 1), .val .null, .val (.ref t_3)] []) _
    exact X12.returnOut hx Bd.returns (hb hby d2_57) hr
  · show Q_new4_1 Z a1 a2 w_COMPACT_STRINGS k_a2 c0 u_a1_coder u_a1_value h0 n0 _ T12.heap _
    rw [e12]
    exact ⟨t_3, kt_3, rfl, N12, K13, fc14, fc15, Fw12, bn_t_3, fc16⟩
def Q_new1_1 (Z : State) (a1 : Addr) (a2 : Addr) (w_COMPACT_STRINGS : Int32) (k_a2 : ClassId) (c0 : Int32) (u_a1_coder : Value) (u_a1_value : Value) (h0 : Heap) (n0 : Nat) (v : Option Value) (h : Heap) (L : List Loc) : Prop := ∃ (t : Addr) (kt : ClassId), v = none ∧ Fr n0 L ∧ Keep h0 h [a1] ∧ Exa Z h a1 "java/lang/String" ∧ Fld Z h a1 "java/lang/String" "coder" "B" (.int 0) ∧ Fld Z h a1 "java/lang/String" "value" "[B" (.ref t) ∧ h0.size ≤ t ∧ Arv Z h t kt .byte (1 : Int32) [(.int (c0.toInt8.toInt32))] (.int 0)
set_option maxRecDepth 65536 in
set_option maxHeartbeats 40000000 in
theorem rm_new1_1 (l : Launch) (Z : State) (a0 : Array Value) (hw : ∀ d ∈ tables_1, d.before a0 Z = true) (ws : List Jvm.Cond) (a1 : Addr) (a2 : Addr) (w_COMPACT_STRINGS : Int32) (k_a2 : ClassId) (c0 : Int32) (u_a1_coder : Value) (u_a1_value : Value) (h0 : Heap) (n0 : Nat) (Z0 : n0 ≤ h0.size) (S_COMPACT_STRINGS : Sta Z Z.heap "java/lang/String" "COMPACT_STRINGS" "Z" (.int w_COMPACT_STRINGS)) (hcs : ¬ (w_COMPACT_STRINGS = (0 : Int32))) (V_a2 : Arv Z h0 a2 k_a2 .char (1 : Int32) [(.int c0)] (.int 0)) (hb_c0 : ¬ ((255 : Int32) < c0)) (O0 : Old Z n0 h0) (E_a1 : Exa Z h0 a1 "java/lang/String") (F_a1_coder : Fld Z h0 a1 "java/lang/String" "coder" "B" u_a1_coder) (g_a1 : n0 ≤ a1) (F_a1_value : Fld Z h0 a1 "java/lang/String" "value" "[B" u_a1_value) :
    MetFree l (⟨"java/lang/String", "<init>", "([C)V"⟩ : MethodName) (head1 (Jvm.Cond.code (⟨"java/lang/String", "<init>", "([C)V"⟩ : MethodName) jdk_42_method_3_code 2 none :: ws) ({ frames := 3, cells := 1, slots := 1, locals := 52 } : Room)) (fun a U => a = #[(.ref a1), (.ref a2)] ∧ Z.Warmed39 U.vm ∧ U.heap = h0) (fun _ _ _ _ _ => True) (fun _ U o U' => ∃ v L, o = .returned v ∧ Q_new1_1 Z a1 a2 w_COMPACT_STRINGS k_a2 c0 u_a1_coder u_a1_value h0 n0 v U'.heap L ∧ FrameEnd U o U' L ({ frames := 3, cells := 1, slots := 1, locals := 52 } : Room).cells ({ frames := 3, cells := 1, slots := 1, locals := 52 } : Room).slots) := by
  refine MetFree.of_bodySF (plainFor_of_name pn_1) hisR ?_
  intro p e s m args below meth c s₁ Bd hml0 hP hK
  obtain ⟨rfl, hZ, hh⟩ := hP
  have hx := Bd.exec
  have hby := Bd.bytes
  have hml : c.maxLocals = 2 := hml0
  have hown : s.vm.findClass "java/lang/String" = some m.cls := findClass_of_methodNamed Bd.named
  have hnm := (name_of_methodNamed Bd.named Bd.method).1
  have X0 : Stand p l e ({ frames := 3, cells := 1, slots := 1, locals := 52 } : Room) s m #[(.ref a1), (.ref a2)] below meth c s₁ [] 0 0 := Stand.of_body Bd
  have e0 : s₁.heap = h0 := by rw [← hh, Bd.state]; rfl
  have N0 := Fr.nil n0
  have pre0 : ∀ t, Steps p.tables e below (s₁.setTop (mkF m 0 #[.val (.ref a1), .val (.ref a2)] [])) t → Steps p.tables e below (s₁.setTop (entryFrame m #[(.ref a1), (.ref a2)] 2)) t := fun t k => castTop (ef_1_RR m a1 a2) k
  obtain ⟨cl1, Ar1, -, S1, M1, -, -⟩ := id V_a2
  obtain ⟨_, _, ⟨T2, L2, k2, n2⟩, -, X2, ⟨Lc2, hQ2, l2, y2, z2⟩, st2⟩ := X0.specialBack hx (y := (⟨"java/lang/String", "<init>", "([CIILjava/lang/Void;)V"⟩ : MethodName)) rfl hown (mvT hZ (hwi hw 7 rfl)) (mvT hZ (hwi hw 8 rfl)) (mvT hZ (hwi hw 10 rfl)) (by decide) (backOf (W := 0) (rm_new4_1 l Z a0 hw [] a1 a2 w_COMPACT_STRINGS k_a2 c0 u_a1_coder u_a1_value h0 n0 Z0 S_COMPACT_STRINGS hcs V_a2 hb_c0 O0 E_a1 F_a1_coder g_a1 F_a1_value) hZ (hwi hw 10 rfl) (hwi hw 3 rfl) (by decide) (by decide)) (g := (mkF m 6 #[.val (.ref a1), .val (.ref a2)] [.null, (.int 1), (.int 0), (.ref a2), (.ref a1)])) rfl (by rw [hml]; rfl) (Steps.refl _) (a := a1) (argsL := [(.ref a2), (.int 0), (.int 1), .null]) (rest := []) (lenOf pd_CIILjava_lang_Void__V_938 rfl) rfl (by show 2 * 0 + _ ≤ _; exact Nat.le_of_eq rfl) (hb hby d1_6) (fun _ _ => ⟨rfl, e0, (by decide : 0 + 1 ≤ _), (by decide : 0 + 1 ≤ _)⟩)
  dsimp only [Pt.U, Pt.locs, Pt.cells, Pt.slots] at X2 l2 y2 z2 st2 hQ2
  subst l2 y2 z2
  obtain ⟨t_2, kt_2, rfl, N2q, Kc2, g2_0, g2_1, g2_2, g2_3, g2_4⟩ := hQ2
  have N2 := Fr.app N0 N2q
  have sz3 : h0.size ≤ T2.heap.size := Kc2.1
  have Z3 : n0 ≤ T2.heap.size := Nat.le_trans Z0 sz3
  have O3 := O0.keep Kc2 (allS g_a1 all0)
  have K3 : Keep h0 T2.heap [a1] := (Keep.refl h0 [a1]).trans Kc2 (allS (Or.inl (List.mem_of_getElem? (i := 0) rfl)) (all0))
  have bn_t_2 : h0.size ≤ t_2 := g2_3
  obtain ⟨fs, hr, hrun, hended, hW, hsame⟩ := X2.leave (v := none) (fun _ => rfl)
  refine ⟨_, _, pre0 _ ?_, hrun, hended, _, _, rfl, ?_, ⟨_, rfl⟩, hW, hsame.mono (by decide) (by decide)⟩
  · show St p e below s₁ (mkF m 0 #[.val (.ref a1), .val (.ref a2)] []) _
    refine XS.aloadN X0.here hx rfl (hb hby d1_0) rfl rfl ?_
    refine XS.aloadN X0.here hx rfl (hb hby d1_1) rfl rfl ?_
    refine XS.iconst X0.here hx rfl (hb hby d1_2) ?_
    refine XS.aloadN X0.here hx rfl (hb hby d1_3) rfl rfl ?_
    show St p e below s₁ (mkF m 4 #[.val (.ref a1), .val (.ref a2)] [(.ref a2), (.int 0), (.ref a2), (.ref a1)]) _
    refine X0.arraylength hx (by rw [e0]; exact Ar1.1) (State.isArrayOf_alike hZ.alike Ar1.2.1) (g := (mkF m 4 #[.val (.ref a1), .val (.ref a2)] [(.ref a2), (.int 0), (.ref a2), (.ref a1)])) rfl rfl (hb hby d1_4) _ ?_
    rw [len_of S1 M1]
    show St p e below s₁ (mkF m 5 #[.val (.ref a1), .val (.ref a2)] [(.int 1), (.int 0), (.ref a2), (.ref a1)]) _
    refine XS.aconstNull X0.here hx rfl (hb hby d1_5) ?_
    refine st2.trans ?_
    show St p e below T2 (mkF m 9 #[.val (.ref a1), .val (.ref a2)] []) _
    exact X2.returnOut hx Bd.returns (hb hby d1_9) hr
  · show Q_new1_1 Z a1 a2 w_COMPACT_STRINGS k_a2 c0 u_a1_coder u_a1_value h0 n0 _ T2.heap _
    exact ⟨t_2, kt_2, rfl, N2, K3, g2_0, g2_1, g2_2, bn_t_2, g2_4⟩
def Q_cmp5_2 (Z : State) (a1 : Addr) (a3 : Addr) (k_a1 : ClassId) (c0 : Int32) (c1 : Int32) (k_a3 : ClassId) (h0 : Heap) (n0 : Nat) (v : Option Value) (h : Heap) (L : List Loc) : Prop := v = some (.int 2) ∧ Fr n0 L ∧ Keep h0 h [a3] ∧ Arv Z h a3 k_a3 .byte (2 : Int32) [(.int (c0.toInt8.toInt32)), (.int (c1.toInt8.toInt32))] (.int 0)
set_option maxRecDepth 65536 in
set_option maxHeartbeats 40000000 in
theorem rm_cmp5_2 (l : Launch) (Z : State) (a0 : Array Value) (hw : ∀ d ∈ tables_1, d.before a0 Z = true) (ws : List Jvm.Cond) (a1 : Addr) (a3 : Addr) (k_a1 : ClassId) (c0 : Int32) (c1 : Int32) (k_a3 : ClassId) (h0 : Heap) (n0 : Nat) (Z0 : n0 ≤ h0.size) (V_a1 : Arv Z h0 a1 k_a1 .char (2 : Int32) [(.int c0), (.int c1)] (.int 0)) (V_a3 : Arv Z h0 a3 k_a3 .byte (2 : Int32) [(.int 0), (.int 0)] (.int 0)) (hne : ¬ (a1 = a3)) (hb_c0 : ¬ ((255 : Int32) < c0)) (hb_c1 : ¬ ((255 : Int32) < c1)) (g_a3 : n0 ≤ a3) (O0 : Old Z n0 h0) :
    MetFree l (⟨"java/lang/StringUTF16", "compress", "([CI[BII)I"⟩ : MethodName) (head1 (Jvm.Cond.code (⟨"java/lang/StringUTF16", "compress", "([CI[BII)I"⟩ : MethodName) jdk_52_method_21_code 7 (some .int) :: ws) ({ frames := 0, cells := 0, slots := 0, locals := 0 } : Room)) (fun a U => a = #[(.ref a1), (.int 0), (.ref a3), (.int 0), (.int 2)] ∧ Z.Warmed39 U.vm ∧ U.heap = h0) (fun _ _ _ _ _ => True) (fun _ U o U' => ∃ v L, o = .returned v ∧ Q_cmp5_2 Z a1 a3 k_a1 c0 c1 k_a3 h0 n0 v U'.heap L ∧ FrameEnd U o U' L ({ frames := 0, cells := 0, slots := 0, locals := 0 } : Room).cells ({ frames := 0, cells := 0, slots := 0, locals := 0 } : Room).slots) := by
  refine MetFree.of_bodySF (plainFor_of_name pn_38) hisR ?_
  intro p e s m args below meth c s₁ Bd hml0 hP hK
  obtain ⟨rfl, hZ, hh⟩ := hP
  have hx := Bd.exec
  have hby := Bd.bytes
  have hml : c.maxLocals = 7 := hml0
  have hown : s.vm.findClass "java/lang/StringUTF16" = some m.cls := findClass_of_methodNamed Bd.named
  have hnm := (name_of_methodNamed Bd.named Bd.method).1
  have X0 : Stand p l e ({ frames := 0, cells := 0, slots := 0, locals := 0 } : Room) s m #[(.ref a1), (.int 0), (.ref a3), (.int 0), (.int 2)] below meth c s₁ [] 0 0 := Stand.of_body Bd
  have e0 : s₁.heap = h0 := by rw [← hh, Bd.state]; rfl
  have N0 := Fr.nil n0
  have pre0 : ∀ t, Steps p.tables e below (s₁.setTop (mkF m 0 #[.val (.ref a1), .val (.int 0), .val (.ref a3), .val (.int 0), .val (.int 2), .unset, .unset] [])) t → Steps p.tables e below (s₁.setTop (entryFrame m #[(.ref a1), (.int 0), (.ref a3), (.int 0), (.int 2)] 7)) t := fun t k => castTop (ef_38_RIRII m a1 (0 : Int32) a3 (0 : Int32) (2 : Int32)) k
  obtain ⟨cl1, Ar1, q1, S1, M1, H1, G1⟩ := id V_a1
  have hin1 : ¬ ((0 : Int32) < 0 ∨ cl1.slots.size ≤ ((0 : Int32)).toNatClampNeg) := inb_of S1 ⟨by decide, by decide⟩
  have hat1 : cl1.slots[((0 : Int32)).toNatClampNeg]? = some (.int c0) := H1.at hin1 rfl
  obtain ⟨cl2, Ar2, q2, S2, M2, H2, G2⟩ := id V_a3
  have hin2 : ¬ ((0 : Int32) < 0 ∨ cl2.slots.size ≤ ((0 : Int32)).toNatClampNeg) := inb_of S2 ⟨by decide, by decide⟩
  obtain ⟨T3, h3, X3, e3, W3, st3⟩ := stB X0 hx hZ e0 Ar2 (j := (0 : Int32)) hin2 (g := (mkF m 31 #[.val (.ref a1), .val (.int 0), .val (.ref a3), .val (.int 0), .val (.int 2), .val (.int 0), .val (.int c0)] [(.int (c0.toInt8.toInt32)), (.int 0), (.ref a3)])) rfl rfl (hb hby d38_31)
  have N3 := Fr.snoc X3 N0 g_a3
  have V3 : Arv Z h3 a3 k_a3 .byte (2 : Int32) [(.int ((c0.toInt8.toInt32).toInt8.toInt32)), (.int 0)] (.int 0) := Arv.set Ar2 q2 S2 M2 H2 G2 (fits_nar_byte _) W3 0 rfl (Nat.le_of_ble_eq_true rfl)
  rw [own_bb] at V3
  have sz4 : h0.size ≤ h3.size := Nat.le_of_eq W3.size.symm
  have Z4 : n0 ≤ h3.size := Nat.le_trans Z0 sz4
  have O4 := O0.wr W3 g_a3
  have K4 : Keep h0 h3 [a3] := (Keep.refl h0 [a3]).wr W3 (Or.inl (List.mem_of_getElem? (i := 0) rfl))
  have fc5 := (V_a1.other W3 (fun q => hne q))
  obtain ⟨cl6, Ar6, q6, S6, M6, H6, G6⟩ := id fc5
  have hin6 : ¬ ((1 : Int32) < 0 ∨ cl6.slots.size ≤ ((1 : Int32)).toNatClampNeg) := inb_of S6 ⟨by decide, by decide⟩
  have hat6 : cl6.slots[((1 : Int32)).toNatClampNeg]? = some (.int c1) := H6.at hin6 rfl
  obtain ⟨cl7, Ar7, q7, S7, M7, H7, G7⟩ := id V3
  have hin7 : ¬ ((1 : Int32) < 0 ∨ cl7.slots.size ≤ ((1 : Int32)).toNatClampNeg) := inb_of S7 ⟨by decide, by decide⟩
  obtain ⟨T8, h8, X8, e8, W8, st8⟩ := stB X3 hx hZ e3 Ar7 (j := (1 : Int32)) hin7 (g := (mkF m 31 #[.val (.ref a1), .val (.int 1), .val (.ref a3), .val (.int 1), .val (.int 2), .val (.int 1), .val (.int c1)] [(.int (c1.toInt8.toInt32)), (.int 1), (.ref a3)])) rfl rfl (hb hby d38_31)
  have N8 := Fr.snoc X8 N3 g_a3
  have V8 : Arv Z h8 a3 k_a3 .byte (2 : Int32) [(.int (c0.toInt8.toInt32)), (.int ((c1.toInt8.toInt32).toInt8.toInt32))] (.int 0) := Arv.set Ar7 q7 S7 M7 H7 G7 (fits_nar_byte _) W8 1 rfl (Nat.le_of_ble_eq_true rfl)
  rw [own_bb] at V8
  have sz9 : h3.size ≤ h8.size := Nat.le_of_eq W8.size.symm
  have Z9 : n0 ≤ h8.size := Nat.le_trans Z4 sz9
  have O9 := O4.wr W8 g_a3
  have K9 : Keep h0 h8 [a3] := K4.wr W8 (Or.inl (List.mem_of_getElem? (i := 0) rfl))
  obtain ⟨fs, hr, hrun, hended, hW, hsame⟩ := X8.leave (v := some (.int 2)) (fun h => by rw [Bd.returns] at h; cases h)
  refine ⟨_, _, pre0 _ ?_, hrun, hended, _, _, rfl, ?_, ⟨_, rfl⟩, hW, hsame.mono (by decide) (by decide)⟩
  · show St p e below s₁ (mkF m 0 #[.val (.ref a1), .val (.int 0), .val (.ref a3), .val (.int 0), .val (.int 2), .unset, .unset] []) _
    refine XS.iconst X0.here hx rfl (hb hby d38_0) ?_
    refine XS.istore X0.here hx rfl (hb hby d38_1) rfl (l' := #[.val (.ref a1), .val (.int 0), .val (.ref a3), .val (.int 0), .val (.int 2), .val (.int 0), .unset]) rfl ?_
    refine XS.iload X0.here hx rfl (hb hby d38_3) rfl ?_
    refine XS.iload X0.here hx rfl (hb hby d38_5) rfl ?_
    show St p e below s₁ (mkF m 7 #[.val (.ref a1), .val (.int 0), .val (.ref a3), .val (.int 0), .val (.int 2), .val (.int 0), .unset] [(.int 2), (.int 0)]) _
    refine XS.icmpNo X0.here hx rfl (hb hby d38_7) rfl (tlt (by decide : (0 : Int32) < (2 : Int32))).2.1 ?_
    refine XS.aloadN X0.here hx rfl (hb hby d38_10) rfl rfl ?_
    refine XS.iloadN X0.here hx rfl (hb hby d38_11) rfl ?_
    refine X0.caload hx (j := (0 : Int32)) (v := (.int c0)) (by rw [e0]; exact Ar1.1) (State.isArrayOf_alike hZ.alike Ar1.2.1) Ar1.2.2 hin1 hat1 (g := (mkF m 12 #[.val (.ref a1), .val (.int 0), .val (.ref a3), .val (.int 0), .val (.int 2), .val (.int 0), .unset] [(.int 0), (.ref a1)])) rfl rfl (hb hby d38_12) _ ?_
    show St p e below s₁ (mkF m 13 #[.val (.ref a1), .val (.int 0), .val (.ref a3), .val (.int 0), .val (.int 2), .val (.int 0), .unset] [(.int c0)]) _
    refine XS.istore X0.here hx rfl (hb hby d38_13) rfl (l' := #[.val (.ref a1), .val (.int 0), .val (.ref a3), .val (.int 0), .val (.int 2), .val (.int 0), .val (.int c0)]) rfl ?_
    refine XS.iload X0.here hx rfl (hb hby d38_15) rfl ?_
    refine XS.sipush X0.here hx rfl (hb hby d38_17) ?_
    refine XS.icmpYes X0.here hx rfl (pc0 := 20) (pc' := 26) rfl (hb hby d38_20) rfl (flt hb_c0).2.2.2 (by decide) (by decide) ?_
    show St p e below s₁ (mkF m 26 #[.val (.ref a1), .val (.int 0), .val (.ref a3), .val (.int 0), .val (.int 2), .val (.int 0), .val (.int c0)] []) _
    refine XS.aloadN X0.here hx rfl (hb hby d38_26) rfl rfl ?_
    refine XS.iloadN X0.here hx rfl (hb hby d38_27) rfl ?_
    refine XS.iload X0.here hx rfl (hb hby d38_28) rfl ?_
    refine XS.i2b X0.here hx rfl (hb hby d38_30) rfl ?_
    show St p e below s₁ (mkF m 31 #[.val (.ref a1), .val (.int 0), .val (.ref a3), .val (.int 0), .val (.int 2), .val (.int 0), .val (.int c0)] [(.int (c0.toInt8.toInt32)), (.int 0), (.ref a3)]) _
    refine st3 _ ?_
    refine XS.iinc X3.here hx rfl (hb hby d38_32) rfl (l' := #[.val (.ref a1), .val (.int ((0 : Int32) + (1 : Int32))), .val (.ref a3), .val (.int 0), .val (.int 2), .val (.int 0), .val (.int c0)]) rfl ?_
    show St p e below T3 (mkF m 35 #[.val (.ref a1), .val (.int ((0 : Int32) + (1 : Int32))), .val (.ref a3), .val (.int 0), .val (.int 2), .val (.int 0), .val (.int c0)] []) _
    rw [(by decide : ((0 : Int32) + (1 : Int32)) = (1 : Int32))]
    show St p e below T3 (mkF m 35 #[.val (.ref a1), .val (.int 1), .val (.ref a3), .val (.int 0), .val (.int 2), .val (.int 0), .val (.int c0)] []) _
    refine XS.iinc X3.here hx rfl (hb hby d38_35) rfl (l' := #[.val (.ref a1), .val (.int 1), .val (.ref a3), .val (.int ((0 : Int32) + (1 : Int32))), .val (.int 2), .val (.int 0), .val (.int c0)]) rfl ?_
    show St p e below T3 (mkF m 38 #[.val (.ref a1), .val (.int 1), .val (.ref a3), .val (.int ((0 : Int32) + (1 : Int32))), .val (.int 2), .val (.int 0), .val (.int c0)] []) _
    rw [(by decide : ((0 : Int32) + (1 : Int32)) = (1 : Int32))]
    show St p e below T3 (mkF m 38 #[.val (.ref a1), .val (.int 1), .val (.ref a3), .val (.int 1), .val (.int 2), .val (.int 0), .val (.int c0)] []) _
    refine XS.iinc X3.here hx rfl (hb hby d38_38) rfl (l' := #[.val (.ref a1), .val (.int 1), .val (.ref a3), .val (.int 1), .val (.int 2), .val (.int ((0 : Int32) + (1 : Int32))), .val (.int c0)]) rfl ?_
    show St p e below T3 (mkF m 41 #[.val (.ref a1), .val (.int 1), .val (.ref a3), .val (.int 1), .val (.int 2), .val (.int ((0 : Int32) + (1 : Int32))), .val (.int c0)] []) _
    rw [(by decide : ((0 : Int32) + (1 : Int32)) = (1 : Int32))]
    show St p e below T3 (mkF m 41 #[.val (.ref a1), .val (.int 1), .val (.ref a3), .val (.int 1), .val (.int 2), .val (.int 1), .val (.int c0)] []) _
    refine XS.goto X3.here hx rfl (pc0 := 41) (pc' := 3) rfl (hb hby d38_41) (by decide) (by decide) ?_
    refine XS.iload X3.here hx rfl (hb hby d38_3) rfl ?_
    refine XS.iload X3.here hx rfl (hb hby d38_5) rfl ?_
    refine XS.icmpNo X3.here hx rfl (hb hby d38_7) rfl (tlt (by decide : (1 : Int32) < (2 : Int32))).2.1 ?_
    show St p e below T3 (mkF m 10 #[.val (.ref a1), .val (.int 1), .val (.ref a3), .val (.int 1), .val (.int 2), .val (.int 1), .val (.int c0)] []) _
    refine XS.aloadN X3.here hx rfl (hb hby d38_10) rfl rfl ?_
    refine XS.iloadN X3.here hx rfl (hb hby d38_11) rfl ?_
    refine X3.caload hx (j := (1 : Int32)) (v := (.int c1)) (by rw [e3]; exact Ar6.1) (State.isArrayOf_alike hZ.alike Ar6.2.1) Ar6.2.2 hin6 hat6 (g := (mkF m 12 #[.val (.ref a1), .val (.int 1), .val (.ref a3), .val (.int 1), .val (.int 2), .val (.int 1), .val (.int c0)] [(.int 1), (.ref a1)])) rfl rfl (hb hby d38_12) _ ?_
    refine XS.istore X3.here hx rfl (hb hby d38_13) rfl (l' := #[.val (.ref a1), .val (.int 1), .val (.ref a3), .val (.int 1), .val (.int 2), .val (.int 1), .val (.int c1)]) rfl ?_
    show St p e below T3 (mkF m 15 #[.val (.ref a1), .val (.int 1), .val (.ref a3), .val (.int 1), .val (.int 2), .val (.int 1), .val (.int c1)] []) _
    refine XS.iload X3.here hx rfl (hb hby d38_15) rfl ?_
    refine XS.sipush X3.here hx rfl (hb hby d38_17) ?_
    refine XS.icmpYes X3.here hx rfl (pc0 := 20) (pc' := 26) rfl (hb hby d38_20) rfl (flt hb_c1).2.2.2 (by decide) (by decide) ?_
    refine XS.aloadN X3.here hx rfl (hb hby d38_26) rfl rfl ?_
    show St p e below T3 (mkF m 27 #[.val (.ref a1), .val (.int 1), .val (.ref a3), .val (.int 1), .val (.int 2), .val (.int 1), .val (.int c1)] [(.ref a3)]) _
    refine XS.iloadN X3.here hx rfl (hb hby d38_27) rfl ?_
    refine XS.iload X3.here hx rfl (hb hby d38_28) rfl ?_
    refine XS.i2b X3.here hx rfl (hb hby d38_30) rfl ?_
    refine st8 _ ?_
    show St p e below T8 (mkF m 32 #[.val (.ref a1), .val (.int 1), .val (.ref a3), .val (.int 1), .val (.int 2), .val (.int 1), .val (.int c1)] []) _
    refine XS.iinc X8.here hx rfl (hb hby d38_32) rfl (l' := #[.val (.ref a1), .val (.int ((1 : Int32) + (1 : Int32))), .val (.ref a3), .val (.int 1), .val (.int 2), .val (.int 1), .val (.int c1)]) rfl ?_
    show St p e below T8 (mkF m 35 #[.val (.ref a1), .val (.int ((1 : Int32) + (1 : Int32))), .val (.ref a3), .val (.int 1), .val (.int 2), .val (.int 1), .val (.int c1)] []) _
    rw [(by decide : ((1 : Int32) + (1 : Int32)) = (2 : Int32))]
    show St p e below T8 (mkF m 35 #[.val (.ref a1), .val (.int 2), .val (.ref a3), .val (.int 1), .val (.int 2), .val (.int 1), .val (.int c1)] []) _
    refine XS.iinc X8.here hx rfl (hb hby d38_35) rfl (l' := #[.val (.ref a1), .val (.int 2), .val (.ref a3), .val (.int ((1 : Int32) + (1 : Int32))), .val (.int 2), .val (.int 1), .val (.int c1)]) rfl ?_
    show St p e below T8 (mkF m 38 #[.val (.ref a1), .val (.int 2), .val (.ref a3), .val (.int ((1 : Int32) + (1 : Int32))), .val (.int 2), .val (.int 1), .val (.int c1)] []) _
    rw [(by decide : ((1 : Int32) + (1 : Int32)) = (2 : Int32))]
    show St p e below T8 (mkF m 38 #[.val (.ref a1), .val (.int 2), .val (.ref a3), .val (.int 2), .val (.int 2), .val (.int 1), .val (.int c1)] []) _
    refine XS.iinc X8.here hx rfl (hb hby d38_38) rfl (l' := #[.val (.ref a1), .val (.int 2), .val (.ref a3), .val (.int 2), .val (.int 2), .val (.int ((1 : Int32) + (1 : Int32))), .val (.int c1)]) rfl ?_
    show St p e below T8 (mkF m 41 #[.val (.ref a1), .val (.int 2), .val (.ref a3), .val (.int 2), .val (.int 2), .val (.int ((1 : Int32) + (1 : Int32))), .val (.int c1)] []) _
    rw [(by decide : ((1 : Int32) + (1 : Int32)) = (2 : Int32))]
    show St p e below T8 (mkF m 41 #[.val (.ref a1), .val (.int 2), .val (.ref a3), .val (.int 2), .val (.int 2), .val (.int 2), .val (.int c1)] []) _
    refine XS.goto X8.here hx rfl (pc0 := 41) (pc' := 3) rfl (hb hby d38_41) (by decide) (by decide) ?_
    refine XS.iload X8.here hx rfl (hb hby d38_3) rfl ?_
    refine XS.iload X8.here hx rfl (hb hby d38_5) rfl ?_
    refine XS.icmpYes X8.here hx rfl (pc0 := 7) (pc' := 44) rfl (hb hby d38_7) rfl (flt (by decide : ¬ ((2 : Int32) < (2 : Int32)))).2.1 (by decide) (by decide) ?_
    show St p e below T8 (mkF m 44 #[.val (.ref a1), .val (.int 2), .val (.ref a3), .val (.int 2), .val (.int 2), .val (.int 2), .val (.int c1)] []) _
    refine XS.iload X8.here hx rfl (hb hby d38_44) rfl ?_
    show St p e below T8 (mkF m 46 #[.val (.ref a1), .val (.int 2), .val (.ref a3), .val (.int 2), .val (.int 2), .val (.int 2), .val (.int c1)] [(.int 2)]) _
    exact retI X8 hx Bd.returns (hb hby d38_46) hr
  · show Q_cmp5_2 Z a1 a3 k_a1 c0 c1 k_a3 h0 n0 _ T8.heap _
    rw [e8]
    exact ⟨rfl, N8, K9, V8⟩
def Q_cmp3_2 (Z : State) (a1 : Addr) (k_a1 : ClassId) (c0 : Int32) (c1 : Int32) (h0 : Heap) (n0 : Nat) (v : Option Value) (h : Heap) (L : List Loc) : Prop := ∃ (t : Addr) (kt : ClassId), v = some (.ref t) ∧ Fr n0 L ∧ Keep h0 h [] ∧ h0.size ≤ t ∧ Arv Z h t kt .byte (2 : Int32) [(.int (c0.toInt8.toInt32)), (.int (c1.toInt8.toInt32))] (.int 0)
set_option maxRecDepth 65536 in
set_option maxHeartbeats 40000000 in
theorem rm_cmp3_2 (l : Launch) (Z : State) (a0 : Array Value) (hw : ∀ d ∈ tables_1, d.before a0 Z = true) (ws : List Jvm.Cond) (a1 : Addr) (k_a1 : ClassId) (c0 : Int32) (c1 : Int32) (h0 : Heap) (n0 : Nat) (Z0 : n0 ≤ h0.size) (V_a1 : Arv Z h0 a1 k_a1 .char (2 : Int32) [(.int c0), (.int c1)] (.int 0)) (hb_c0 : ¬ ((255 : Int32) < c0)) (hb_c1 : ¬ ((255 : Int32) < c1)) (O0 : Old Z n0 h0) :
    MetFree l (⟨"java/lang/StringUTF16", "compress", "([CII)[B"⟩ : MethodName) (head1 (Jvm.Cond.code (⟨"java/lang/StringUTF16", "compress", "([CII)[B"⟩ : MethodName) jdk_52_method_16_code 6 (some (.array .byte)) :: ws) ({ frames := 1, cells := 1, slots := 2, locals := 18 } : Room)) (fun a U => a = #[(.ref a1), (.int 0), (.int 2)] ∧ Z.Warmed39 U.vm ∧ U.heap = h0) (fun _ _ _ _ _ => True) (fun _ U o U' => ∃ v L, o = .returned v ∧ Q_cmp3_2 Z a1 k_a1 c0 c1 h0 n0 v U'.heap L ∧ FrameEnd U o U' L ({ frames := 1, cells := 1, slots := 2, locals := 18 } : Room).cells ({ frames := 1, cells := 1, slots := 2, locals := 18 } : Room).slots) := by
  refine MetFree.of_bodySF (plainFor_of_name pn_37) hisR ?_
  intro p e s m args below meth c s₁ Bd hml0 hP hK
  obtain ⟨rfl, hZ, hh⟩ := hP
  have hx := Bd.exec
  have hby := Bd.bytes
  have hml : c.maxLocals = 6 := hml0
  have hown : s.vm.findClass "java/lang/StringUTF16" = some m.cls := findClass_of_methodNamed Bd.named
  have hnm := (name_of_methodNamed Bd.named Bd.method).1
  have X0 : Stand p l e ({ frames := 1, cells := 1, slots := 2, locals := 18 } : Room) s m #[(.ref a1), (.int 0), (.int 2)] below meth c s₁ [] 0 0 := Stand.of_body Bd
  have e0 : s₁.heap = h0 := by rw [← hh, Bd.state]; rfl
  have N0 := Fr.nil n0
  have pre0 : ∀ t, Steps p.tables e below (s₁.setTop (mkF m 0 #[.val (.ref a1), .val (.int 0), .val (.int 2), .unset, .unset, .unset] [])) t → Steps p.tables e below (s₁.setTop (entryFrame m #[(.ref a1), (.int 0), (.int 2)] 6)) t := fun t k => castTop (ef_37_RII m a1 (0 : Int32) (2 : Int32)) k
  obtain ⟨T1, h1, k1, X1, e1, E1, A1, st1⟩ := newP X0 hx hZ (hwi hw 15 rfl) e0 (g := (mkF m 1 #[.val (.ref a1), .val (.int 0), .val (.int 2), .unset, .unset, .unset] [(.int 2)])) rfl (hb hby d37_1) rfl (by decide) (cap := 2) (by decide) (by decide) (by decide) (by decide)
  obtain ⟨b1, g1⟩ : ∃ z, z = h0.size := ⟨_, rfl⟩
  rw [← g1] at A1 st1
  have bn_b1 : h0.size ≤ b1 := Nat.le_of_eq g1.symm
  have sz2 : h0.size ≤ h1.size := E1.1
  have Z2 : n0 ≤ h1.size := Nat.le_trans Z0 sz2
  have O2 := O0.ext E1
  have K2 : Keep h0 h1 [] := (Keep.refl h0 []).ext E1
  have V1 : Arv Z h1 b1 k1 .byte (2 : Int32) [(.int 0), (.int 0)] (.int 0) := (Arv.new A1 (by decide)).pad (pad_rep [] (.int 0) 2)
  have fc4 := (V_a1.ext E1)
  obtain ⟨_, _, ⟨T3, L3, k3, n3⟩, -, X3, ⟨Lc3, hQ3, l3, y3, z3⟩, st3⟩ := Jvm.LawKit.callS X1 hx (y := (⟨"java/lang/StringUTF16", "compress", "([CI[BII)I"⟩ : MethodName)) hown (mvT hZ (hwi hw 200 rfl)) (mvT hZ (hwi hw 201 rfl)) (mvT hZ (hwi hw 198 rfl)) (mvT hZ (hwi hw 202 rfl)) (by decide) (backOf (W := 0) (rm_cmp5_2 l Z a0 hw [] a1 b1 k_a1 c0 c1 k1 h1 n0 Z2 fc4 V1 (neN (by have := ltN V_a1.lt; have := ltN V1.lt; omega)) hb_c0 hb_c1 (Nat.le_trans Z0 bn_b1) O2) hZ (hwi hw 202 rfl) (hwi hw 198 rfl) (by decide) (by decide)) (g := (mkF m 9 #[.val (.ref a1), .val (.int 0), .val (.int 2), .val (.ref b1), .unset, .unset] [(.int 2), (.int 0), (.ref b1), (.int 0), (.ref a1)])) rfl (by rw [hml]; rfl) (argsL := [(.ref a1), (.int 0), (.ref b1), (.int 0), (.int 2)]) (rest := []) (lenOf pd_CI_BII_I_688 rfl) rfl (by show 2 * 0 + _ ≤ _; exact Nat.le_of_eq rfl) (hb hby d37_9) (fun _ _ => ⟨rfl, e1, (by decide : 1 + 0 ≤ _), (by decide : 2 + 0 ≤ _)⟩)
  dsimp only [Pt.U, Pt.locs, Pt.cells, Pt.slots] at X3 l3 y3 z3 st3 hQ3
  subst l3 y3 z3
  obtain ⟨rfl, N3q, Kc3, g3_0⟩ := hQ3
  have N3 := Fr.app N0 N3q
  have sz5 : h1.size ≤ T3.heap.size := Kc3.1
  have Z5 : n0 ≤ T3.heap.size := Nat.le_trans Z2 sz5
  have O5 := O2.keep Kc3 (allS (Nat.le_trans Z0 bn_b1) all0)
  have K5 : Keep h0 T3.heap [] := K2.trans Kc3 (allS (Or.inr bn_b1) (all0))
  obtain ⟨fs, hr, hrun, hended, hW, hsame⟩ := X3.leave (v := some (.ref b1)) (fun h => by rw [Bd.returns] at h; cases h)
  refine ⟨_, _, pre0 _ ?_, hrun, hended, _, _, rfl, ?_, ⟨_, rfl⟩, hW, hsame.mono (by decide) (by decide)⟩
  · show St p e below s₁ (mkF m 0 #[.val (.ref a1), .val (.int 0), .val (.int 2), .unset, .unset, .unset] []) _
    refine XS.iloadN X0.here hx rfl (hb hby d37_0) rfl ?_
    refine st1 _ ?_
    refine XS.astoreN X1.here hx rfl (hb hby d37_3) rfl rfl (l' := #[.val (.ref a1), .val (.int 0), .val (.int 2), .val (.ref b1), .unset, .unset]) rfl ?_
    refine XS.aloadN X1.here hx rfl (hb hby d37_4) rfl rfl ?_
    show St p e below T1 (mkF m 5 #[.val (.ref a1), .val (.int 0), .val (.int 2), .val (.ref b1), .unset, .unset] [(.ref a1)]) _
    refine XS.iloadN X1.here hx rfl (hb hby d37_5) rfl ?_
    refine XS.aloadN X1.here hx rfl (hb hby d37_6) rfl rfl ?_
    refine XS.iconst X1.here hx rfl (hb hby d37_7) ?_
    refine XS.iloadN X1.here hx rfl (hb hby d37_8) rfl ?_
    show St p e below T1 (mkF m 9 #[.val (.ref a1), .val (.int 0), .val (.int 2), .val (.ref b1), .unset, .unset] [(.int 2), (.int 0), (.ref b1), (.int 0), (.ref a1)]) _
    refine st3 _ ?_
    refine XS.istore X3.here hx rfl (hb hby d37_12) rfl (l' := #[.val (.ref a1), .val (.int 0), .val (.int 2), .val (.ref b1), .val (.int 2), .unset]) rfl ?_
    refine XS.iload X3.here hx rfl (hb hby d37_14) rfl ?_
    refine XS.iloadN X3.here hx rfl (hb hby d37_16) rfl ?_
    show St p e below T3 (mkF m 17 #[.val (.ref a1), .val (.int 0), .val (.int 2), .val (.ref b1), .val (.int 2), .unset] [(.int 2), (.int 2)]) _
    refine XS.icmpYes X3.here hx rfl (pc0 := 17) (pc' := 57) rfl (hb hby d37_17) rfl (teq (by decide : (2 : Int32) = (2 : Int32))).1 (by decide) (by decide) ?_
    refine XS.aloadN X3.here hx rfl (hb hby d37_57) rfl rfl ?_
    show St p e below T3 (mkF m 58 #[.val (.ref a1), .val (.int 0), .val (.int 2), .val (.ref b1), .val (.int 2), .unset] [(.ref b1)]) _
    jvm_step X3.here [X3.here.top, hx, (hb hby d37_58), X3.method', Bd.returns, Value.isRef, FieldType.isReference]
    first | (intro acts; rw [hr _ acts rfl rfl rfl]) | rw [hr _ _ rfl rfl rfl]
    exact Steps.refl _
  · show Q_cmp3_2 Z a1 k_a1 c0 c1 h0 n0 _ T3.heap _
    exact ⟨b1, k1, rfl, N3, K5, bn_b1, g3_0⟩
def Q_cod_2 (Z : State) (a1 : Addr) (k_a1 : ClassId) (by0 : Int32) (by1 : Int32) (h0 : Heap) (n0 : Nat) (v : Option Value) (h : Heap) (L : List Loc) : Prop := v = some (.int 0) ∧ Fr n0 L ∧ h = h0
set_option maxRecDepth 65536 in
set_option maxHeartbeats 40000000 in
theorem rm_cod_2 (l : Launch) (Z : State) (a0 : Array Value) (hw : ∀ d ∈ tables_1, d.before a0 Z = true) (ws : List Jvm.Cond) (a1 : Addr) (k_a1 : ClassId) (by0 : Int32) (by1 : Int32) (h0 : Heap) (n0 : Nat) (Z0 : n0 ≤ h0.size) (V_a1 : Arv Z h0 a1 k_a1 .byte (2 : Int32) [(.int by0), (.int by1)] (.int 0)) :
    MetFree l (⟨"java/lang/StringUTF16", "coderFromArrayLen", "([BI)B"⟩ : MethodName) (head1 (Jvm.Cond.code (⟨"java/lang/StringUTF16", "coderFromArrayLen", "([BI)B"⟩ : MethodName) jdk_52_method_15_code 2 (some .byte) :: ws) ({ frames := 0, cells := 0, slots := 0, locals := 0 } : Room)) (fun a U => a = #[(.ref a1), (.int 2)] ∧ Z.Warmed39 U.vm ∧ U.heap = h0) (fun _ _ _ _ _ => True) (fun _ U o U' => ∃ v L, o = .returned v ∧ Q_cod_2 Z a1 k_a1 by0 by1 h0 n0 v U'.heap L ∧ FrameEnd U o U' L ({ frames := 0, cells := 0, slots := 0, locals := 0 } : Room).cells ({ frames := 0, cells := 0, slots := 0, locals := 0 } : Room).slots) := by
  refine MetFree.of_bodySF (plainFor_of_name pn_39) hisR ?_
  intro p e s m args below meth c s₁ Bd hml0 hP hK
  obtain ⟨rfl, hZ, hh⟩ := hP
  have hx := Bd.exec
  have hby := Bd.bytes
  have hml : c.maxLocals = 2 := hml0
  have hown : s.vm.findClass "java/lang/StringUTF16" = some m.cls := findClass_of_methodNamed Bd.named
  have hnm := (name_of_methodNamed Bd.named Bd.method).1
  have X0 : Stand p l e ({ frames := 0, cells := 0, slots := 0, locals := 0 } : Room) s m #[(.ref a1), (.int 2)] below meth c s₁ [] 0 0 := Stand.of_body Bd
  have e0 : s₁.heap = h0 := by rw [← hh, Bd.state]; rfl
  have N0 := Fr.nil n0
  have pre0 : ∀ t, Steps p.tables e below (s₁.setTop (mkF m 0 #[.val (.ref a1), .val (.int 2)] [])) t → Steps p.tables e below (s₁.setTop (entryFrame m #[(.ref a1), (.int 2)] 2)) t := fun t k => castTop (ef_39_RI m a1 (2 : Int32)) k
  obtain ⟨cl1, Ar1, -, S1, M1, -, -⟩ := id V_a1
  obtain ⟨fs, hr, hrun, hended, hW, hsame⟩ := X0.leave (v := some (.int 0)) (fun h => by rw [Bd.returns] at h; cases h)
  refine ⟨_, _, pre0 _ ?_, hrun, hended, _, _, rfl, ?_, ⟨_, rfl⟩, hW, hsame.mono (by decide) (by decide)⟩
  · show St p e below s₁ (mkF m 0 #[.val (.ref a1), .val (.int 2)] []) _
    refine XS.iloadN X0.here hx rfl (hb hby d39_0) rfl ?_
    refine XS.aloadN X0.here hx rfl (hb hby d39_1) rfl rfl ?_
    refine X0.arraylength hx (by rw [e0]; exact Ar1.1) (State.isArrayOf_alike hZ.alike Ar1.2.1) (g := (mkF m 2 #[.val (.ref a1), .val (.int 2)] [(.ref a1), (.int 2)])) rfl rfl (hb hby d39_2) _ ?_
    rw [len_of S1 M1]
    show St p e below s₁ (mkF m 3 #[.val (.ref a1), .val (.int 2)] [(.int 2), (.int 2)]) _
    refine XS.isub X0.here hx rfl (hb hby d39_3) rfl ?_
    show St p e below s₁ (mkF m 4 #[.val (.ref a1), .val (.int 2)] [(.int ((2 : Int32) - (2 : Int32)))]) _
    rw [(by decide : ((2 : Int32) - (2 : Int32)) = (0 : Int32))]
    show St p e below s₁ (mkF m 4 #[.val (.ref a1), .val (.int 2)] [(.int 0)]) _
    refine XS.bipush X0.here hx rfl (hb hby d39_4) ?_
    refine XS.iushr X0.here hx rfl (hb hby d39_6) rfl ?_
    show St p e below s₁ (mkF m 7 #[.val (.ref a1), .val (.int 2)] [(.int (((0 : Int32).toUInt32 >>> ((31 : Int32) &&& 31).toUInt32).toInt32))]) _
    rw [(by decide : (((0 : Int32).toUInt32 >>> ((31 : Int32) &&& 31).toUInt32).toInt32) = (0 : Int32))]
    show St p e below s₁ (mkF m 7 #[.val (.ref a1), .val (.int 2)] [(.int 0)]) _
    refine XS.i2b X0.here hx rfl (hb hby d39_7) rfl ?_
    show St p e below s₁ (mkF m 8 #[.val (.ref a1), .val (.int 2)] [(.int ((0 : Int32).toInt8.toInt32))]) _
    rw [(by decide : ((0 : Int32).toInt8.toInt32) = (0 : Int32))]
    show St p e below s₁ (mkF m 8 #[.val (.ref a1), .val (.int 2)] [(.int 0)]) _
    exact retN X0 hx (t := .byte) Bd.returns (by simp) (hb hby d39_8) hr
  · show Q_cod_2 Z a1 k_a1 by0 by1 h0 n0 _ s₁.heap _
    rw [e0]
    exact ⟨rfl, N0, rfl⟩
def Q_new4_2 (Z : State) (a1 : Addr) (a2 : Addr) (w_COMPACT_STRINGS : Int32) (k_a2 : ClassId) (c0 : Int32) (c1 : Int32) (u_a1_coder : Value) (u_a1_value : Value) (h0 : Heap) (n0 : Nat) (v : Option Value) (h : Heap) (L : List Loc) : Prop := ∃ (t : Addr) (kt : ClassId), v = none ∧ Fr n0 L ∧ Keep h0 h [a1] ∧ Exa Z h a1 "java/lang/String" ∧ Fld Z h a1 "java/lang/String" "coder" "B" (.int 0) ∧ Fld Z h a1 "java/lang/String" "value" "[B" (.ref t) ∧ h0.size ≤ t ∧ Arv Z h t kt .byte (2 : Int32) [(.int (c0.toInt8.toInt32)), (.int (c1.toInt8.toInt32))] (.int 0)
set_option maxRecDepth 65536 in
set_option maxHeartbeats 40000000 in
theorem rm_new4_2 (l : Launch) (Z : State) (a0 : Array Value) (hw : ∀ d ∈ tables_1, d.before a0 Z = true) (ws : List Jvm.Cond) (a1 : Addr) (a2 : Addr) (w_COMPACT_STRINGS : Int32) (k_a2 : ClassId) (c0 : Int32) (c1 : Int32) (u_a1_coder : Value) (u_a1_value : Value) (h0 : Heap) (n0 : Nat) (Z0 : n0 ≤ h0.size) (S_COMPACT_STRINGS : Sta Z Z.heap "java/lang/String" "COMPACT_STRINGS" "Z" (.int w_COMPACT_STRINGS)) (hcs : ¬ (w_COMPACT_STRINGS = (0 : Int32))) (V_a2 : Arv Z h0 a2 k_a2 .char (2 : Int32) [(.int c0), (.int c1)] (.int 0)) (hb_c0 : ¬ ((255 : Int32) < c0)) (hb_c1 : ¬ ((255 : Int32) < c1)) (O0 : Old Z n0 h0) (E_a1 : Exa Z h0 a1 "java/lang/String") (F_a1_coder : Fld Z h0 a1 "java/lang/String" "coder" "B" u_a1_coder) (g_a1 : n0 ≤ a1) (F_a1_value : Fld Z h0 a1 "java/lang/String" "value" "[B" u_a1_value) :
    MetFree l (⟨"java/lang/String", "<init>", "([CIILjava/lang/Void;)V"⟩ : MethodName) (head1 (Jvm.Cond.code (⟨"java/lang/String", "<init>", "([CIILjava/lang/Void;)V"⟩ : MethodName) jdk_42_method_149_code 6 none :: ws) ({ frames := 2, cells := 1, slots := 2, locals := 35 } : Room)) (fun a U => a = #[(.ref a1), (.ref a2), (.int 0), (.int 2), .null] ∧ Z.Warmed39 U.vm ∧ U.heap = h0) (fun _ _ _ _ _ => True) (fun _ U o U' => ∃ v L, o = .returned v ∧ Q_new4_2 Z a1 a2 w_COMPACT_STRINGS k_a2 c0 c1 u_a1_coder u_a1_value h0 n0 v U'.heap L ∧ FrameEnd U o U' L ({ frames := 2, cells := 1, slots := 2, locals := 35 } : Room).cells ({ frames := 2, cells := 1, slots := 2, locals := 35 } : Room).slots) := by
  refine MetFree.of_bodySF (plainFor_of_name pn_2) hisR ?_
  intro p e s m args below meth c s₁ Bd hml0 hP hK
  obtain ⟨rfl, hZ, hh⟩ := hP
  have hx := Bd.exec
  have hby := Bd.bytes
  have hml : c.maxLocals = 6 := hml0
  have hown : s.vm.findClass "java/lang/String" = some m.cls := findClass_of_methodNamed Bd.named
  have hnm := (name_of_methodNamed Bd.named Bd.method).1
  have X0 : Stand p l e ({ frames := 2, cells := 1, slots := 2, locals := 35 } : Room) s m #[(.ref a1), (.ref a2), (.int 0), (.int 2), .null] below meth c s₁ [] 0 0 := Stand.of_body Bd
  have e0 : s₁.heap = h0 := by rw [← hh, Bd.state]; rfl
  have N0 := Fr.nil n0
  have pre0 : ∀ t, Steps p.tables e below (s₁.setTop (mkF m 0 #[.val (.ref a1), .val (.ref a2), .val (.int 0), .val (.int 2), .val .null, .unset] [])) t → Steps p.tables e below (s₁.setTop (entryFrame m #[(.ref a1), (.ref a2), (.int 0), (.int 2), .null] 6)) t := fun t k => castTop (ef_2_RRIIn m a1 a2 (0 : Int32) (2 : Int32)) k
  obtain ⟨T1, X1, e1, st1⟩ := initO X0 hx hZ hown (hwi hw 11 rfl) (hwi hw 12 rfl) (hwi hw 13 rfl) e0 (g := (mkF m 1 #[.val (.ref a1), .val (.ref a2), .val (.int 0), .val (.int 2), .val .null, .unset] [(.ref a1)])) rfl (by rw [hml]; rfl) rfl (hb hby d2_1) (by decide) (W := 0) (by show 2 * 0 + _ ≤ _; exact Nat.le_of_eq rfl) (by decide)
  obtain ⟨T2, X2, e2, st2⟩ := getS2 X1 hx hZ hown (host := "") (Or.inl (hwi hw 99 rfl)) Via.refl e1 (S_COMPACT_STRINGS.ext O0.2) (g := (mkF m 27 #[.val (.ref a1), .val (.ref a2), .val (.int 0), .val (.int 2), .val .null, .unset] [])) rfl (hb hby d2_27)
  obtain ⟨_, _, ⟨T3, L3, k3, n3⟩, -, X3, ⟨Lc3, hQ3, l3, y3, z3⟩, st3⟩ := Jvm.LawKit.callS X2 hx (y := (⟨"java/lang/StringUTF16", "compress", "([CII)[B"⟩ : MethodName)) hown (mvT hZ (hwi hw 196 rfl)) (mvT hZ (hwi hw 197 rfl)) (mvT hZ (hwi hw 198 rfl)) (mvT hZ (hwi hw 199 rfl)) (by decide) (backOf (W := 0) (rm_cmp3_2 l Z a0 hw [] a2 k_a2 c0 c1 h0 n0 Z0 V_a2 hb_c0 hb_c1 O0) hZ (hwi hw 199 rfl) (hwi hw 198 rfl) (by decide) (by decide)) (g := (mkF m 36 #[.val (.ref a1), .val (.ref a2), .val (.int 0), .val (.int 2), .val .null, .unset] [(.int 2), (.int 0), (.ref a2)])) rfl (by rw [hml]; rfl) (argsL := [(.ref a2), (.int 0), (.int 2)]) (rest := []) (lenOf pd_CII__B_542 rfl) rfl (by show 2 * 0 + _ ≤ _; exact Nat.le_of_eq rfl) (hb hby d2_36) (fun _ _ => ⟨rfl, e2, (by decide : 0 + 1 ≤ _), (by decide : 0 + 2 ≤ _)⟩)
  dsimp only [Pt.U, Pt.locs, Pt.cells, Pt.slots] at X3 l3 y3 z3 st3 hQ3
  subst l3 y3 z3
  obtain ⟨t_3, kt_3, rfl, N3q, Kc3, g3_0, g3_1⟩ := hQ3
  have N3 := Fr.app N0 N3q
  have sz4 : h0.size ≤ T3.heap.size := Kc3.1
  have Z4 : n0 ≤ T3.heap.size := Nat.le_trans Z0 sz4
  have O4 := O0.keep Kc3 all0
  have K4 : Keep h0 T3.heap [a1] := (Keep.refl h0 [a1]).trans Kc3 (all0)
  have bn_t_3 : h0.size ≤ t_3 := g3_0
  obtain ⟨_, _, ⟨T5, L5, k5, n5⟩, -, X5, ⟨Lc5, hQ5, l5, y5, z5⟩, st5⟩ := Jvm.LawKit.callS X3 hx (y := (⟨"java/lang/StringUTF16", "coderFromArrayLen", "([BI)B"⟩ : MethodName)) hown (mvT hZ (hwi hw 203 rfl)) (mvT hZ (hwi hw 204 rfl)) (mvT hZ (hwi hw 198 rfl)) (mvT hZ (hwi hw 205 rfl)) (by decide) (backOf (W := 1) (rm_cod_2 l Z a0 hw [] t_3 kt_3 (c0.toInt8.toInt32) (c1.toInt8.toInt32) T3.heap n0 Z4 g3_1) hZ (hwi hw 205 rfl) (hwi hw 198 rfl) (by decide) (by decide)) (g := (mkF m 45 #[.val (.ref a1), .val (.ref a2), .val (.int 0), .val (.int 2), .val .null, .val (.ref t_3)] [(.int 2), (.ref t_3), (.ref a1)])) rfl (by rw [hml]; rfl) (argsL := [(.ref t_3), (.int 2)]) (rest := [(.ref a1)]) (lenOf pd_BI_B_377 rfl) rfl (by show 2 * 0 + _ ≤ _; exact Nat.le_of_eq rfl) (hb hby d2_45) (fun _ _ => ⟨rfl, rfl, (by decide : 1 + 0 ≤ _), (by decide : 2 + 0 ≤ _)⟩)
  dsimp only [Pt.U, Pt.locs, Pt.cells, Pt.slots] at X5 l5 y5 z5 st5 hQ5
  subst l5 y5 z5
  obtain ⟨rfl, N5q, e5⟩ := hQ5
  have N5 := Fr.app N3 N5q
  have fc6 := (E_a1.keep Kc3)
  have fc7 := (F_a1_coder.keep Kc3 nin0)
  obtain ⟨T8, h8, X8, e8, W8, st8⟩ := putFN X5 hx hZ hown (hwi hw 21 rfl) Via.refl e5 fc7 fc6 (Or.inr ⟨(hwi hw 17 rfl), rfl, hnm⟩) (hwi hw 2 rfl) (ty := .byte) (v' := (.int 0)) (by decide) rfl (by decide) (g := (mkF m 48 #[.val (.ref a1), .val (.ref a2), .val (.int 0), .val (.int 2), .val .null, .val (.ref t_3)] [(.int 0), (.ref a1)])) rfl rfl (hb hby d2_48)
  have N8 := Fr.snoc X8 N5 g_a1
  have Fw8 := fc7.same W8
  have sz9 : T3.heap.size ≤ h8.size := Nat.le_of_eq W8.size.symm
  have Z9 : n0 ≤ h8.size := Nat.le_trans Z4 sz9
  have O9 := O4.wr W8 g_a1
  have K9 : Keep h0 h8 [a1] := K4.wr W8 (Or.inl (List.mem_of_getElem? (i := 0) rfl))
  have fc10 := (fc6.wr W8)
  have fc11 := ((F_a1_value.keep Kc3 nin0).other W8 (Or.inr (slot_ne (Or.inr (hwi hw 16 rfl)) (Or.inr (hwi hw 17 rfl)) (by decide) (t := (.array .byte)) (t' := .byte) (by decide) (by decide))))
  obtain ⟨T12, h12, X12, e12, W12, st12⟩ := putF X8 hx hZ hown (host := "") (Or.inl (hwi hw 20 rfl)) Via.refl e8 fc11 fc10 (Or.inr ⟨(hwi hw 16 rfl), rfl, hnm⟩) (hwi hw 2 rfl) (ty := (.array .byte)) (by decide) rfl rfl (g := (mkF m 54 #[.val (.ref a1), .val (.ref a2), .val (.int 0), .val (.int 2), .val .null, .val (.ref t_3)] [(.ref t_3), (.ref a1)])) rfl rfl (hb hby d2_54)
  have N12 := Fr.snoc X12 N8 g_a1
  have Fw12 := fc11.same W12
  have sz13 : h8.size ≤ h12.size := Nat.le_of_eq W12.size.symm
  have Z13 : n0 ≤ h12.size := Nat.le_trans Z9 sz13
  have O13 := O9.wr W12 g_a1
  have K13 : Keep h0 h12 [a1] := K9.wr W12 (Or.inl (List.mem_of_getElem? (i := 0) rfl))
  have fc14 := (fc10.wr W12)
  have fc15 := (Fw8.other W12 (Or.inr (slot_ne (Or.inr (hwi hw 17 rfl)) (Or.inr (hwi hw 16 rfl)) (by decide) (t := .byte) (t' := (.array .byte)) (by decide) (by decide))))
  have fc16 := ((g3_1.other W8 (neN (by have := ltN E_a1.lt; have := ltN g3_1.lt; omega))).other W12 (neN (by have := ltN E_a1.lt; have := ltN g3_1.lt; omega)))
  obtain ⟨fs, hr, hrun, hended, hW, hsame⟩ := X12.leave (v := none) (fun _ => rfl)
  refine ⟨_, _, pre0 _ ?_, hrun, hended, _, _, rfl, ?_, ⟨_, rfl⟩, hW, hsame.mono (by decide) (by decide)⟩
  · show St p e below s₁ (mkF m 0 #[.val (.ref a1), .val (.ref a2), .val (.int 0), .val (.int 2), .val .null, .unset] []) _
    refine XS.aloadN X0.here hx rfl (hb hby d2_0) rfl rfl ?_
    refine st1 _ ?_
    refine XS.iloadN X1.here hx rfl (hb hby d2_4) rfl ?_
    refine XS.ifYes X1.here hx rfl (pc0 := 5) (pc' := 27) rfl (hb hby d2_5) rfl ((if0 _ _).trans (feq (by decide : ¬ ((2 : Int32) = (0 : Int32)))).2) (by decide) (by decide) ?_
    show St p e below T1 (mkF m 27 #[.val (.ref a1), .val (.ref a2), .val (.int 0), .val (.int 2), .val .null, .unset] []) _
    refine st2 _ ?_
    refine XS.ifNo X2.here hx rfl (hb hby d2_30) rfl ((if0 _ _).trans (feq hcs).1) ?_
    refine XS.aloadN X2.here hx rfl (hb hby d2_33) rfl rfl ?_
    refine XS.iloadN X2.here hx rfl (hb hby d2_34) rfl ?_
    show St p e below T2 (mkF m 35 #[.val (.ref a1), .val (.ref a2), .val (.int 0), .val (.int 2), .val .null, .unset] [(.int 0), (.ref a2)]) _
    refine XS.iloadN X2.here hx rfl (hb hby d2_35) rfl ?_
    refine st3 _ ?_
    refine XS.astore X3.here hx rfl (hb hby d2_39) rfl rfl (l' := #[.val (.ref a1), .val (.ref a2), .val (.int 0), .val (.int 2), .val .null, .val (.ref t_3)]) rfl ?_
    refine XS.aloadN X3.here hx rfl (hb hby d2_41) rfl rfl ?_
    show St p e below T3 (mkF m 42 #[.val (.ref a1), .val (.ref a2), .val (.int 0), .val (.int 2), .val .null, .val (.ref t_3)] [(.ref a1)]) _
    refine XS.aload X3.here hx rfl (hb hby d2_42) rfl rfl ?_
    refine XS.iloadN X3.here hx rfl (hb hby d2_44) rfl ?_
    refine st5 _ ?_
    refine st8 _ ?_
    show St p e below T8 (mkF m 51 #[.val (.ref a1), .val (.ref a2), .val (.int 0), .val (.int 2), .val .null, .val (.ref t_3)] []) _
    refine XS.aloadN X8.here hx rfl (hb hby d2_51) rfl rfl ?_
    refine XS.aload X8.here hx rfl (hb hby d2_52) rfl rfl ?_
    refine st12 _ ?_
    show St p e below T12 (mkF m 57 #[.val (.ref a1), .val (.ref a2), .val (.int 0), .val (.int 2), .val .null, .val (.ref t_3)] []) _
    exact X12.returnOut hx Bd.returns (hb hby d2_57) hr
  · show Q_new4_2 Z a1 a2 w_COMPACT_STRINGS k_a2 c0 c1 u_a1_coder u_a1_value h0 n0 _ T12.heap _
    rw [e12]
    exact ⟨t_3, kt_3, rfl, N12, K13, fc14, fc15, Fw12, bn_t_3, fc16⟩
def Q_new1_2 (Z : State) (a1 : Addr) (a2 : Addr) (w_COMPACT_STRINGS : Int32) (k_a2 : ClassId) (c0 : Int32) (c1 : Int32) (u_a1_coder : Value) (u_a1_value : Value) (h0 : Heap) (n0 : Nat) (v : Option Value) (h : Heap) (L : List Loc) : Prop := ∃ (t : Addr) (kt : ClassId), v = none ∧ Fr n0 L ∧ Keep h0 h [a1] ∧ Exa Z h a1 "java/lang/String" ∧ Fld Z h a1 "java/lang/String" "coder" "B" (.int 0) ∧ Fld Z h a1 "java/lang/String" "value" "[B" (.ref t) ∧ h0.size ≤ t ∧ Arv Z h t kt .byte (2 : Int32) [(.int (c0.toInt8.toInt32)), (.int (c1.toInt8.toInt32))] (.int 0)
set_option maxRecDepth 65536 in
set_option maxHeartbeats 40000000 in
theorem rm_new1_2 (l : Launch) (Z : State) (a0 : Array Value) (hw : ∀ d ∈ tables_1, d.before a0 Z = true) (ws : List Jvm.Cond) (a1 : Addr) (a2 : Addr) (w_COMPACT_STRINGS : Int32) (k_a2 : ClassId) (c0 : Int32) (c1 : Int32) (u_a1_coder : Value) (u_a1_value : Value) (h0 : Heap) (n0 : Nat) (Z0 : n0 ≤ h0.size) (S_COMPACT_STRINGS : Sta Z Z.heap "java/lang/String" "COMPACT_STRINGS" "Z" (.int w_COMPACT_STRINGS)) (hcs : ¬ (w_COMPACT_STRINGS = (0 : Int32))) (V_a2 : Arv Z h0 a2 k_a2 .char (2 : Int32) [(.int c0), (.int c1)] (.int 0)) (hb_c0 : ¬ ((255 : Int32) < c0)) (hb_c1 : ¬ ((255 : Int32) < c1)) (O0 : Old Z n0 h0) (E_a1 : Exa Z h0 a1 "java/lang/String") (F_a1_coder : Fld Z h0 a1 "java/lang/String" "coder" "B" u_a1_coder) (g_a1 : n0 ≤ a1) (F_a1_value : Fld Z h0 a1 "java/lang/String" "value" "[B" u_a1_value) :
    MetFree l (⟨"java/lang/String", "<init>", "([C)V"⟩ : MethodName) (head1 (Jvm.Cond.code (⟨"java/lang/String", "<init>", "([C)V"⟩ : MethodName) jdk_42_method_3_code 2 none :: ws) ({ frames := 3, cells := 1, slots := 2, locals := 52 } : Room)) (fun a U => a = #[(.ref a1), (.ref a2)] ∧ Z.Warmed39 U.vm ∧ U.heap = h0) (fun _ _ _ _ _ => True) (fun _ U o U' => ∃ v L, o = .returned v ∧ Q_new1_2 Z a1 a2 w_COMPACT_STRINGS k_a2 c0 c1 u_a1_coder u_a1_value h0 n0 v U'.heap L ∧ FrameEnd U o U' L ({ frames := 3, cells := 1, slots := 2, locals := 52 } : Room).cells ({ frames := 3, cells := 1, slots := 2, locals := 52 } : Room).slots) := by
  refine MetFree.of_bodySF (plainFor_of_name pn_1) hisR ?_
  intro p e s m args below meth c s₁ Bd hml0 hP hK
  obtain ⟨rfl, hZ, hh⟩ := hP
  have hx := Bd.exec
  have hby := Bd.bytes
  have hml : c.maxLocals = 2 := hml0
  have hown : s.vm.findClass "java/lang/String" = some m.cls := findClass_of_methodNamed Bd.named
  have hnm := (name_of_methodNamed Bd.named Bd.method).1
  have X0 : Stand p l e ({ frames := 3, cells := 1, slots := 2, locals := 52 } : Room) s m #[(.ref a1), (.ref a2)] below meth c s₁ [] 0 0 := Stand.of_body Bd
  have e0 : s₁.heap = h0 := by rw [← hh, Bd.state]; rfl
  have N0 := Fr.nil n0
  have pre0 : ∀ t, Steps p.tables e below (s₁.setTop (mkF m 0 #[.val (.ref a1), .val (.ref a2)] [])) t → Steps p.tables e below (s₁.setTop (entryFrame m #[(.ref a1), (.ref a2)] 2)) t := fun t k => castTop (ef_1_RR m a1 a2) k
  obtain ⟨cl1, Ar1, -, S1, M1, -, -⟩ := id V_a2
  obtain ⟨_, _, ⟨T2, L2, k2, n2⟩, -, X2, ⟨Lc2, hQ2, l2, y2, z2⟩, st2⟩ := X0.specialBack hx (y := (⟨"java/lang/String", "<init>", "([CIILjava/lang/Void;)V"⟩ : MethodName)) rfl hown (mvT hZ (hwi hw 7 rfl)) (mvT hZ (hwi hw 8 rfl)) (mvT hZ (hwi hw 10 rfl)) (by decide) (backOf (W := 0) (rm_new4_2 l Z a0 hw [] a1 a2 w_COMPACT_STRINGS k_a2 c0 c1 u_a1_coder u_a1_value h0 n0 Z0 S_COMPACT_STRINGS hcs V_a2 hb_c0 hb_c1 O0 E_a1 F_a1_coder g_a1 F_a1_value) hZ (hwi hw 10 rfl) (hwi hw 3 rfl) (by decide) (by decide)) (g := (mkF m 6 #[.val (.ref a1), .val (.ref a2)] [.null, (.int 2), (.int 0), (.ref a2), (.ref a1)])) rfl (by rw [hml]; rfl) (Steps.refl _) (a := a1) (argsL := [(.ref a2), (.int 0), (.int 2), .null]) (rest := []) (lenOf pd_CIILjava_lang_Void__V_938 rfl) rfl (by show 2 * 0 + _ ≤ _; exact Nat.le_of_eq rfl) (hb hby d1_6) (fun _ _ => ⟨rfl, e0, (by decide : 0 + 1 ≤ _), (by decide : 0 + 2 ≤ _)⟩)
  dsimp only [Pt.U, Pt.locs, Pt.cells, Pt.slots] at X2 l2 y2 z2 st2 hQ2
  subst l2 y2 z2
  obtain ⟨t_2, kt_2, rfl, N2q, Kc2, g2_0, g2_1, g2_2, g2_3, g2_4⟩ := hQ2
  have N2 := Fr.app N0 N2q
  have sz3 : h0.size ≤ T2.heap.size := Kc2.1
  have Z3 : n0 ≤ T2.heap.size := Nat.le_trans Z0 sz3
  have O3 := O0.keep Kc2 (allS g_a1 all0)
  have K3 : Keep h0 T2.heap [a1] := (Keep.refl h0 [a1]).trans Kc2 (allS (Or.inl (List.mem_of_getElem? (i := 0) rfl)) (all0))
  have bn_t_2 : h0.size ≤ t_2 := g2_3
  obtain ⟨fs, hr, hrun, hended, hW, hsame⟩ := X2.leave (v := none) (fun _ => rfl)
  refine ⟨_, _, pre0 _ ?_, hrun, hended, _, _, rfl, ?_, ⟨_, rfl⟩, hW, hsame.mono (by decide) (by decide)⟩
  · show St p e below s₁ (mkF m 0 #[.val (.ref a1), .val (.ref a2)] []) _
    refine XS.aloadN X0.here hx rfl (hb hby d1_0) rfl rfl ?_
    refine XS.aloadN X0.here hx rfl (hb hby d1_1) rfl rfl ?_
    refine XS.iconst X0.here hx rfl (hb hby d1_2) ?_
    refine XS.aloadN X0.here hx rfl (hb hby d1_3) rfl rfl ?_
    show St p e below s₁ (mkF m 4 #[.val (.ref a1), .val (.ref a2)] [(.ref a2), (.int 0), (.ref a2), (.ref a1)]) _
    refine X0.arraylength hx (by rw [e0]; exact Ar1.1) (State.isArrayOf_alike hZ.alike Ar1.2.1) (g := (mkF m 4 #[.val (.ref a1), .val (.ref a2)] [(.ref a2), (.int 0), (.ref a2), (.ref a1)])) rfl rfl (hb hby d1_4) _ ?_
    rw [len_of S1 M1]
    show St p e below s₁ (mkF m 5 #[.val (.ref a1), .val (.ref a2)] [(.int 2), (.int 0), (.ref a2), (.ref a1)]) _
    refine XS.aconstNull X0.here hx rfl (hb hby d1_5) ?_
    refine st2.trans ?_
    show St p e below T2 (mkF m 9 #[.val (.ref a1), .val (.ref a2)] []) _
    exact X2.returnOut hx Bd.returns (hb hby d1_9) hr
  · show Q_new1_2 Z a1 a2 w_COMPACT_STRINGS k_a2 c0 c1 u_a1_coder u_a1_value h0 n0 _ T2.heap _
    exact ⟨t_2, kt_2, rfl, N2, K3, g2_0, g2_1, g2_2, bn_t_2, g2_4⟩
def Q_cmp5_3 (Z : State) (a1 : Addr) (a3 : Addr) (k_a1 : ClassId) (c0 : Int32) (c1 : Int32) (c2 : Int32) (k_a3 : ClassId) (h0 : Heap) (n0 : Nat) (v : Option Value) (h : Heap) (L : List Loc) : Prop := v = some (.int 3) ∧ Fr n0 L ∧ Keep h0 h [a3] ∧ Arv Z h a3 k_a3 .byte (3 : Int32) [(.int (c0.toInt8.toInt32)), (.int (c1.toInt8.toInt32)), (.int (c2.toInt8.toInt32))] (.int 0)
set_option maxRecDepth 65536 in
set_option maxHeartbeats 40000000 in
theorem rm_cmp5_3 (l : Launch) (Z : State) (a0 : Array Value) (hw : ∀ d ∈ tables_1, d.before a0 Z = true) (ws : List Jvm.Cond) (a1 : Addr) (a3 : Addr) (k_a1 : ClassId) (c0 : Int32) (c1 : Int32) (c2 : Int32) (k_a3 : ClassId) (h0 : Heap) (n0 : Nat) (Z0 : n0 ≤ h0.size) (V_a1 : Arv Z h0 a1 k_a1 .char (3 : Int32) [(.int c0), (.int c1), (.int c2)] (.int 0)) (V_a3 : Arv Z h0 a3 k_a3 .byte (3 : Int32) [(.int 0), (.int 0), (.int 0)] (.int 0)) (hne : ¬ (a1 = a3)) (hb_c0 : ¬ ((255 : Int32) < c0)) (hb_c1 : ¬ ((255 : Int32) < c1)) (hb_c2 : ¬ ((255 : Int32) < c2)) (g_a3 : n0 ≤ a3) (O0 : Old Z n0 h0) :
    MetFree l (⟨"java/lang/StringUTF16", "compress", "([CI[BII)I"⟩ : MethodName) (head1 (Jvm.Cond.code (⟨"java/lang/StringUTF16", "compress", "([CI[BII)I"⟩ : MethodName) jdk_52_method_21_code 7 (some .int) :: ws) ({ frames := 0, cells := 0, slots := 0, locals := 0 } : Room)) (fun a U => a = #[(.ref a1), (.int 0), (.ref a3), (.int 0), (.int 3)] ∧ Z.Warmed39 U.vm ∧ U.heap = h0) (fun _ _ _ _ _ => True) (fun _ U o U' => ∃ v L, o = .returned v ∧ Q_cmp5_3 Z a1 a3 k_a1 c0 c1 c2 k_a3 h0 n0 v U'.heap L ∧ FrameEnd U o U' L ({ frames := 0, cells := 0, slots := 0, locals := 0 } : Room).cells ({ frames := 0, cells := 0, slots := 0, locals := 0 } : Room).slots) := by
  refine MetFree.of_bodySF (plainFor_of_name pn_38) hisR ?_
  intro p e s m args below meth c s₁ Bd hml0 hP hK
  obtain ⟨rfl, hZ, hh⟩ := hP
  have hx := Bd.exec
  have hby := Bd.bytes
  have hml : c.maxLocals = 7 := hml0
  have hown : s.vm.findClass "java/lang/StringUTF16" = some m.cls := findClass_of_methodNamed Bd.named
  have hnm := (name_of_methodNamed Bd.named Bd.method).1
  have X0 : Stand p l e ({ frames := 0, cells := 0, slots := 0, locals := 0 } : Room) s m #[(.ref a1), (.int 0), (.ref a3), (.int 0), (.int 3)] below meth c s₁ [] 0 0 := Stand.of_body Bd
  have e0 : s₁.heap = h0 := by rw [← hh, Bd.state]; rfl
  have N0 := Fr.nil n0
  have pre0 : ∀ t, Steps p.tables e below (s₁.setTop (mkF m 0 #[.val (.ref a1), .val (.int 0), .val (.ref a3), .val (.int 0), .val (.int 3), .unset, .unset] [])) t → Steps p.tables e below (s₁.setTop (entryFrame m #[(.ref a1), (.int 0), (.ref a3), (.int 0), (.int 3)] 7)) t := fun t k => castTop (ef_38_RIRII m a1 (0 : Int32) a3 (0 : Int32) (3 : Int32)) k
  obtain ⟨cl1, Ar1, q1, S1, M1, H1, G1⟩ := id V_a1
  have hin1 : ¬ ((0 : Int32) < 0 ∨ cl1.slots.size ≤ ((0 : Int32)).toNatClampNeg) := inb_of S1 ⟨by decide, by decide⟩
  have hat1 : cl1.slots[((0 : Int32)).toNatClampNeg]? = some (.int c0) := H1.at hin1 rfl
  obtain ⟨cl2, Ar2, q2, S2, M2, H2, G2⟩ := id V_a3
  have hin2 : ¬ ((0 : Int32) < 0 ∨ cl2.slots.size ≤ ((0 : Int32)).toNatClampNeg) := inb_of S2 ⟨by decide, by decide⟩
  obtain ⟨T3, h3, X3, e3, W3, st3⟩ := stB X0 hx hZ e0 Ar2 (j := (0 : Int32)) hin2 (g := (mkF m 31 #[.val (.ref a1), .val (.int 0), .val (.ref a3), .val (.int 0), .val (.int 3), .val (.int 0), .val (.int c0)] [(.int (c0.toInt8.toInt32)), (.int 0), (.ref a3)])) rfl rfl (hb hby d38_31)
  have N3 := Fr.snoc X3 N0 g_a3
  have V3 : Arv Z h3 a3 k_a3 .byte (3 : Int32) [(.int ((c0.toInt8.toInt32).toInt8.toInt32)), (.int 0), (.int 0)] (.int 0) := Arv.set Ar2 q2 S2 M2 H2 G2 (fits_nar_byte _) W3 0 rfl (Nat.le_of_ble_eq_true rfl)
  rw [own_bb] at V3
  have sz4 : h0.size ≤ h3.size := Nat.le_of_eq W3.size.symm
  have Z4 : n0 ≤ h3.size := Nat.le_trans Z0 sz4
  have O4 := O0.wr W3 g_a3
  have K4 : Keep h0 h3 [a3] := (Keep.refl h0 [a3]).wr W3 (Or.inl (List.mem_of_getElem? (i := 0) rfl))
  have fc5 := (V_a1.other W3 (fun q => hne q))
  obtain ⟨cl6, Ar6, q6, S6, M6, H6, G6⟩ := id fc5
  have hin6 : ¬ ((1 : Int32) < 0 ∨ cl6.slots.size ≤ ((1 : Int32)).toNatClampNeg) := inb_of S6 ⟨by decide, by decide⟩
  have hat6 : cl6.slots[((1 : Int32)).toNatClampNeg]? = some (.int c1) := H6.at hin6 rfl
  obtain ⟨cl7, Ar7, q7, S7, M7, H7, G7⟩ := id V3
  have hin7 : ¬ ((1 : Int32) < 0 ∨ cl7.slots.size ≤ ((1 : Int32)).toNatClampNeg) := inb_of S7 ⟨by decide, by decide⟩
  obtain ⟨T8, h8, X8, e8, W8, st8⟩ := stB X3 hx hZ e3 Ar7 (j := (1 : Int32)) hin7 (g := (mkF m 31 #[.val (.ref a1), .val (.int 1), .val (.ref a3), .val (.int 1), .val (.int 3), .val (.int 1), .val (.int c1)] [(.int (c1.toInt8.toInt32)), (.int 1), (.ref a3)])) rfl rfl (hb hby d38_31)
  have N8 := Fr.snoc X8 N3 g_a3
  have V8 : Arv Z h8 a3 k_a3 .byte (3 : Int32) [(.int (c0.toInt8.toInt32)), (.int ((c1.toInt8.toInt32).toInt8.toInt32)), (.int 0)] (.int 0) := Arv.set Ar7 q7 S7 M7 H7 G7 (fits_nar_byte _) W8 1 rfl (Nat.le_of_ble_eq_true rfl)
  rw [own_bb] at V8
  have sz9 : h3.size ≤ h8.size := Nat.le_of_eq W8.size.symm
  have Z9 : n0 ≤ h8.size := Nat.le_trans Z4 sz9
  have O9 := O4.wr W8 g_a3
  have K9 : Keep h0 h8 [a3] := K4.wr W8 (Or.inl (List.mem_of_getElem? (i := 0) rfl))
  have fc10 := (fc5.other W8 (fun q => hne q))
  obtain ⟨cl11, Ar11, q11, S11, M11, H11, G11⟩ := id fc10
  have hin11 : ¬ ((2 : Int32) < 0 ∨ cl11.slots.size ≤ ((2 : Int32)).toNatClampNeg) := inb_of S11 ⟨by decide, by decide⟩
  have hat11 : cl11.slots[((2 : Int32)).toNatClampNeg]? = some (.int c2) := H11.at hin11 rfl
  obtain ⟨cl12, Ar12, q12, S12, M12, H12, G12⟩ := id V8
  have hin12 : ¬ ((2 : Int32) < 0 ∨ cl12.slots.size ≤ ((2 : Int32)).toNatClampNeg) := inb_of S12 ⟨by decide, by decide⟩
  obtain ⟨T13, h13, X13, e13, W13, st13⟩ := stB X8 hx hZ e8 Ar12 (j := (2 : Int32)) hin12 (g := (mkF m 31 #[.val (.ref a1), .val (.int 2), .val (.ref a3), .val (.int 2), .val (.int 3), .val (.int 2), .val (.int c2)] [(.int (c2.toInt8.toInt32)), (.int 2), (.ref a3)])) rfl rfl (hb hby d38_31)
  have N13 := Fr.snoc X13 N8 g_a3
  have V13 : Arv Z h13 a3 k_a3 .byte (3 : Int32) [(.int (c0.toInt8.toInt32)), (.int (c1.toInt8.toInt32)), (.int ((c2.toInt8.toInt32).toInt8.toInt32))] (.int 0) := Arv.set Ar12 q12 S12 M12 H12 G12 (fits_nar_byte _) W13 2 rfl (Nat.le_of_ble_eq_true rfl)
  rw [own_bb] at V13
  have sz14 : h8.size ≤ h13.size := Nat.le_of_eq W13.size.symm
  have Z14 : n0 ≤ h13.size := Nat.le_trans Z9 sz14
  have O14 := O9.wr W13 g_a3
  have K14 : Keep h0 h13 [a3] := K9.wr W13 (Or.inl (List.mem_of_getElem? (i := 0) rfl))
  obtain ⟨fs, hr, hrun, hended, hW, hsame⟩ := X13.leave (v := some (.int 3)) (fun h => by rw [Bd.returns] at h; cases h)
  refine ⟨_, _, pre0 _ ?_, hrun, hended, _, _, rfl, ?_, ⟨_, rfl⟩, hW, hsame.mono (by decide) (by decide)⟩
  · show St p e below s₁ (mkF m 0 #[.val (.ref a1), .val (.int 0), .val (.ref a3), .val (.int 0), .val (.int 3), .unset, .unset] []) _
    refine XS.iconst X0.here hx rfl (hb hby d38_0) ?_
    refine XS.istore X0.here hx rfl (hb hby d38_1) rfl (l' := #[.val (.ref a1), .val (.int 0), .val (.ref a3), .val (.int 0), .val (.int 3), .val (.int 0), .unset]) rfl ?_
    refine XS.iload X0.here hx rfl (hb hby d38_3) rfl ?_
    refine XS.iload X0.here hx rfl (hb hby d38_5) rfl ?_
    show St p e below s₁ (mkF m 7 #[.val (.ref a1), .val (.int 0), .val (.ref a3), .val (.int 0), .val (.int 3), .val (.int 0), .unset] [(.int 3), (.int 0)]) _
    refine XS.icmpNo X0.here hx rfl (hb hby d38_7) rfl (tlt (by decide : (0 : Int32) < (3 : Int32))).2.1 ?_
    refine XS.aloadN X0.here hx rfl (hb hby d38_10) rfl rfl ?_
    refine XS.iloadN X0.here hx rfl (hb hby d38_11) rfl ?_
    refine X0.caload hx (j := (0 : Int32)) (v := (.int c0)) (by rw [e0]; exact Ar1.1) (State.isArrayOf_alike hZ.alike Ar1.2.1) Ar1.2.2 hin1 hat1 (g := (mkF m 12 #[.val (.ref a1), .val (.int 0), .val (.ref a3), .val (.int 0), .val (.int 3), .val (.int 0), .unset] [(.int 0), (.ref a1)])) rfl rfl (hb hby d38_12) _ ?_
    show St p e below s₁ (mkF m 13 #[.val (.ref a1), .val (.int 0), .val (.ref a3), .val (.int 0), .val (.int 3), .val (.int 0), .unset] [(.int c0)]) _
    refine XS.istore X0.here hx rfl (hb hby d38_13) rfl (l' := #[.val (.ref a1), .val (.int 0), .val (.ref a3), .val (.int 0), .val (.int 3), .val (.int 0), .val (.int c0)]) rfl ?_
    refine XS.iload X0.here hx rfl (hb hby d38_15) rfl ?_
    refine XS.sipush X0.here hx rfl (hb hby d38_17) ?_
    refine XS.icmpYes X0.here hx rfl (pc0 := 20) (pc' := 26) rfl (hb hby d38_20) rfl (flt hb_c0).2.2.2 (by decide) (by decide) ?_
    show St p e below s₁ (mkF m 26 #[.val (.ref a1), .val (.int 0), .val (.ref a3), .val (.int 0), .val (.int 3), .val (.int 0), .val (.int c0)] []) _
    refine XS.aloadN X0.here hx rfl (hb hby d38_26) rfl rfl ?_
    refine XS.iloadN X0.here hx rfl (hb hby d38_27) rfl ?_
    refine XS.iload X0.here hx rfl (hb hby d38_28) rfl ?_
    refine XS.i2b X0.here hx rfl (hb hby d38_30) rfl ?_
    show St p e below s₁ (mkF m 31 #[.val (.ref a1), .val (.int 0), .val (.ref a3), .val (.int 0), .val (.int 3), .val (.int 0), .val (.int c0)] [(.int (c0.toInt8.toInt32)), (.int 0), (.ref a3)]) _
    refine st3 _ ?_
    refine XS.iinc X3.here hx rfl (hb hby d38_32) rfl (l' := #[.val (.ref a1), .val (.int ((0 : Int32) + (1 : Int32))), .val (.ref a3), .val (.int 0), .val (.int 3), .val (.int 0), .val (.int c0)]) rfl ?_
    show St p e below T3 (mkF m 35 #[.val (.ref a1), .val (.int ((0 : Int32) + (1 : Int32))), .val (.ref a3), .val (.int 0), .val (.int 3), .val (.int 0), .val (.int c0)] []) _
    rw [(by decide : ((0 : Int32) + (1 : Int32)) = (1 : Int32))]
    show St p e below T3 (mkF m 35 #[.val (.ref a1), .val (.int 1), .val (.ref a3), .val (.int 0), .val (.int 3), .val (.int 0), .val (.int c0)] []) _
    refine XS.iinc X3.here hx rfl (hb hby d38_35) rfl (l' := #[.val (.ref a1), .val (.int 1), .val (.ref a3), .val (.int ((0 : Int32) + (1 : Int32))), .val (.int 3), .val (.int 0), .val (.int c0)]) rfl ?_
    show St p e below T3 (mkF m 38 #[.val (.ref a1), .val (.int 1), .val (.ref a3), .val (.int ((0 : Int32) + (1 : Int32))), .val (.int 3), .val (.int 0), .val (.int c0)] []) _
    rw [(by decide : ((0 : Int32) + (1 : Int32)) = (1 : Int32))]
    show St p e below T3 (mkF m 38 #[.val (.ref a1), .val (.int 1), .val (.ref a3), .val (.int 1), .val (.int 3), .val (.int 0), .val (.int c0)] []) _
    refine XS.iinc X3.here hx rfl (hb hby d38_38) rfl (l' := #[.val (.ref a1), .val (.int 1), .val (.ref a3), .val (.int 1), .val (.int 3), .val (.int ((0 : Int32) + (1 : Int32))), .val (.int c0)]) rfl ?_
    show St p e below T3 (mkF m 41 #[.val (.ref a1), .val (.int 1), .val (.ref a3), .val (.int 1), .val (.int 3), .val (.int ((0 : Int32) + (1 : Int32))), .val (.int c0)] []) _
    rw [(by decide : ((0 : Int32) + (1 : Int32)) = (1 : Int32))]
    show St p e below T3 (mkF m 41 #[.val (.ref a1), .val (.int 1), .val (.ref a3), .val (.int 1), .val (.int 3), .val (.int 1), .val (.int c0)] []) _
    refine XS.goto X3.here hx rfl (pc0 := 41) (pc' := 3) rfl (hb hby d38_41) (by decide) (by decide) ?_
    refine XS.iload X3.here hx rfl (hb hby d38_3) rfl ?_
    refine XS.iload X3.here hx rfl (hb hby d38_5) rfl ?_
    refine XS.icmpNo X3.here hx rfl (hb hby d38_7) rfl (tlt (by decide : (1 : Int32) < (3 : Int32))).2.1 ?_
    show St p e below T3 (mkF m 10 #[.val (.ref a1), .val (.int 1), .val (.ref a3), .val (.int 1), .val (.int 3), .val (.int 1), .val (.int c0)] []) _
    refine XS.aloadN X3.here hx rfl (hb hby d38_10) rfl rfl ?_
    refine XS.iloadN X3.here hx rfl (hb hby d38_11) rfl ?_
    refine X3.caload hx (j := (1 : Int32)) (v := (.int c1)) (by rw [e3]; exact Ar6.1) (State.isArrayOf_alike hZ.alike Ar6.2.1) Ar6.2.2 hin6 hat6 (g := (mkF m 12 #[.val (.ref a1), .val (.int 1), .val (.ref a3), .val (.int 1), .val (.int 3), .val (.int 1), .val (.int c0)] [(.int 1), (.ref a1)])) rfl rfl (hb hby d38_12) _ ?_
    refine XS.istore X3.here hx rfl (hb hby d38_13) rfl (l' := #[.val (.ref a1), .val (.int 1), .val (.ref a3), .val (.int 1), .val (.int 3), .val (.int 1), .val (.int c1)]) rfl ?_
    show St p e below T3 (mkF m 15 #[.val (.ref a1), .val (.int 1), .val (.ref a3), .val (.int 1), .val (.int 3), .val (.int 1), .val (.int c1)] []) _
    refine XS.iload X3.here hx rfl (hb hby d38_15) rfl ?_
    refine XS.sipush X3.here hx rfl (hb hby d38_17) ?_
    refine XS.icmpYes X3.here hx rfl (pc0 := 20) (pc' := 26) rfl (hb hby d38_20) rfl (flt hb_c1).2.2.2 (by decide) (by decide) ?_
    refine XS.aloadN X3.here hx rfl (hb hby d38_26) rfl rfl ?_
    show St p e below T3 (mkF m 27 #[.val (.ref a1), .val (.int 1), .val (.ref a3), .val (.int 1), .val (.int 3), .val (.int 1), .val (.int c1)] [(.ref a3)]) _
    refine XS.iloadN X3.here hx rfl (hb hby d38_27) rfl ?_
    refine XS.iload X3.here hx rfl (hb hby d38_28) rfl ?_
    refine XS.i2b X3.here hx rfl (hb hby d38_30) rfl ?_
    refine st8 _ ?_
    show St p e below T8 (mkF m 32 #[.val (.ref a1), .val (.int 1), .val (.ref a3), .val (.int 1), .val (.int 3), .val (.int 1), .val (.int c1)] []) _
    refine XS.iinc X8.here hx rfl (hb hby d38_32) rfl (l' := #[.val (.ref a1), .val (.int ((1 : Int32) + (1 : Int32))), .val (.ref a3), .val (.int 1), .val (.int 3), .val (.int 1), .val (.int c1)]) rfl ?_
    show St p e below T8 (mkF m 35 #[.val (.ref a1), .val (.int ((1 : Int32) + (1 : Int32))), .val (.ref a3), .val (.int 1), .val (.int 3), .val (.int 1), .val (.int c1)] []) _
    rw [(by decide : ((1 : Int32) + (1 : Int32)) = (2 : Int32))]
    show St p e below T8 (mkF m 35 #[.val (.ref a1), .val (.int 2), .val (.ref a3), .val (.int 1), .val (.int 3), .val (.int 1), .val (.int c1)] []) _
    refine XS.iinc X8.here hx rfl (hb hby d38_35) rfl (l' := #[.val (.ref a1), .val (.int 2), .val (.ref a3), .val (.int ((1 : Int32) + (1 : Int32))), .val (.int 3), .val (.int 1), .val (.int c1)]) rfl ?_
    show St p e below T8 (mkF m 38 #[.val (.ref a1), .val (.int 2), .val (.ref a3), .val (.int ((1 : Int32) + (1 : Int32))), .val (.int 3), .val (.int 1), .val (.int c1)] []) _
    rw [(by decide : ((1 : Int32) + (1 : Int32)) = (2 : Int32))]
    show St p e below T8 (mkF m 38 #[.val (.ref a1), .val (.int 2), .val (.ref a3), .val (.int 2), .val (.int 3), .val (.int 1), .val (.int c1)] []) _
    refine XS.iinc X8.here hx rfl (hb hby d38_38) rfl (l' := #[.val (.ref a1), .val (.int 2), .val (.ref a3), .val (.int 2), .val (.int 3), .val (.int ((1 : Int32) + (1 : Int32))), .val (.int c1)]) rfl ?_
    show St p e below T8 (mkF m 41 #[.val (.ref a1), .val (.int 2), .val (.ref a3), .val (.int 2), .val (.int 3), .val (.int ((1 : Int32) + (1 : Int32))), .val (.int c1)] []) _
    rw [(by decide : ((1 : Int32) + (1 : Int32)) = (2 : Int32))]
    show St p e below T8 (mkF m 41 #[.val (.ref a1), .val (.int 2), .val (.ref a3), .val (.int 2), .val (.int 3), .val (.int 2), .val (.int c1)] []) _
    refine XS.goto X8.here hx rfl (pc0 := 41) (pc' := 3) rfl (hb hby d38_41) (by decide) (by decide) ?_
    refine XS.iload X8.here hx rfl (hb hby d38_3) rfl ?_
    refine XS.iload X8.here hx rfl (hb hby d38_5) rfl ?_
    refine XS.icmpNo X8.here hx rfl (hb hby d38_7) rfl (tlt (by decide : (2 : Int32) < (3 : Int32))).2.1 ?_
    show St p e below T8 (mkF m 10 #[.val (.ref a1), .val (.int 2), .val (.ref a3), .val (.int 2), .val (.int 3), .val (.int 2), .val (.int c1)] []) _
    refine XS.aloadN X8.here hx rfl (hb hby d38_10) rfl rfl ?_
    refine XS.iloadN X8.here hx rfl (hb hby d38_11) rfl ?_
    refine X8.caload hx (j := (2 : Int32)) (v := (.int c2)) (by rw [e8]; exact Ar11.1) (State.isArrayOf_alike hZ.alike Ar11.2.1) Ar11.2.2 hin11 hat11 (g := (mkF m 12 #[.val (.ref a1), .val (.int 2), .val (.ref a3), .val (.int 2), .val (.int 3), .val (.int 2), .val (.int c1)] [(.int 2), (.ref a1)])) rfl rfl (hb hby d38_12) _ ?_
    refine XS.istore X8.here hx rfl (hb hby d38_13) rfl (l' := #[.val (.ref a1), .val (.int 2), .val (.ref a3), .val (.int 2), .val (.int 3), .val (.int 2), .val (.int c2)]) rfl ?_
    show St p e below T8 (mkF m 15 #[.val (.ref a1), .val (.int 2), .val (.ref a3), .val (.int 2), .val (.int 3), .val (.int 2), .val (.int c2)] []) _
    refine XS.iload X8.here hx rfl (hb hby d38_15) rfl ?_
    refine XS.sipush X8.here hx rfl (hb hby d38_17) ?_
    refine XS.icmpYes X8.here hx rfl (pc0 := 20) (pc' := 26) rfl (hb hby d38_20) rfl (flt hb_c2).2.2.2 (by decide) (by decide) ?_
    refine XS.aloadN X8.here hx rfl (hb hby d38_26) rfl rfl ?_
    show St p e below T8 (mkF m 27 #[.val (.ref a1), .val (.int 2), .val (.ref a3), .val (.int 2), .val (.int 3), .val (.int 2), .val (.int c2)] [(.ref a3)]) _
    refine XS.iloadN X8.here hx rfl (hb hby d38_27) rfl ?_
    refine XS.iload X8.here hx rfl (hb hby d38_28) rfl ?_
    refine XS.i2b X8.here hx rfl (hb hby d38_30) rfl ?_
    refine st13 _ ?_
    show St p e below T13 (mkF m 32 #[.val (.ref a1), .val (.int 2), .val (.ref a3), .val (.int 2), .val (.int 3), .val (.int 2), .val (.int c2)] []) _
    refine XS.iinc X13.here hx rfl (hb hby d38_32) rfl (l' := #[.val (.ref a1), .val (.int ((2 : Int32) + (1 : Int32))), .val (.ref a3), .val (.int 2), .val (.int 3), .val (.int 2), .val (.int c2)]) rfl ?_
    show St p e below T13 (mkF m 35 #[.val (.ref a1), .val (.int ((2 : Int32) + (1 : Int32))), .val (.ref a3), .val (.int 2), .val (.int 3), .val (.int 2), .val (.int c2)] []) _
    rw [(by decide : ((2 : Int32) + (1 : Int32)) = (3 : Int32))]
    show St p e below T13 (mkF m 35 #[.val (.ref a1), .val (.int 3), .val (.ref a3), .val (.int 2), .val (.int 3), .val (.int 2), .val (.int c2)] []) _
    refine XS.iinc X13.here hx rfl (hb hby d38_35) rfl (l' := #[.val (.ref a1), .val (.int 3), .val (.ref a3), .val (.int ((2 : Int32) + (1 : Int32))), .val (.int 3), .val (.int 2), .val (.int c2)]) rfl ?_
    show St p e below T13 (mkF m 38 #[.val (.ref a1), .val (.int 3), .val (.ref a3), .val (.int ((2 : Int32) + (1 : Int32))), .val (.int 3), .val (.int 2), .val (.int c2)] []) _
    rw [(by decide : ((2 : Int32) + (1 : Int32)) = (3 : Int32))]
    show St p e below T13 (mkF m 38 #[.val (.ref a1), .val (.int 3), .val (.ref a3), .val (.int 3), .val (.int 3), .val (.int 2), .val (.int c2)] []) _
    refine XS.iinc X13.here hx rfl (hb hby d38_38) rfl (l' := #[.val (.ref a1), .val (.int 3), .val (.ref a3), .val (.int 3), .val (.int 3), .val (.int ((2 : Int32) + (1 : Int32))), .val (.int c2)]) rfl ?_
    show St p e below T13 (mkF m 41 #[.val (.ref a1), .val (.int 3), .val (.ref a3), .val (.int 3), .val (.int 3), .val (.int ((2 : Int32) + (1 : Int32))), .val (.int c2)] []) _
    rw [(by decide : ((2 : Int32) + (1 : Int32)) = (3 : Int32))]
    show St p e below T13 (mkF m 41 #[.val (.ref a1), .val (.int 3), .val (.ref a3), .val (.int 3), .val (.int 3), .val (.int 3), .val (.int c2)] []) _
    refine XS.goto X13.here hx rfl (pc0 := 41) (pc' := 3) rfl (hb hby d38_41) (by decide) (by decide) ?_
    refine XS.iload X13.here hx rfl (hb hby d38_3) rfl ?_
    refine XS.iload X13.here hx rfl (hb hby d38_5) rfl ?_
    refine XS.icmpYes X13.here hx rfl (pc0 := 7) (pc' := 44) rfl (hb hby d38_7) rfl (flt (by decide : ¬ ((3 : Int32) < (3 : Int32)))).2.1 (by decide) (by decide) ?_
    show St p e below T13 (mkF m 44 #[.val (.ref a1), .val (.int 3), .val (.ref a3), .val (.int 3), .val (.int 3), .val (.int 3), .val (.int c2)] []) _
    refine XS.iload X13.here hx rfl (hb hby d38_44) rfl ?_
    show St p e below T13 (mkF m 46 #[.val (.ref a1), .val (.int 3), .val (.ref a3), .val (.int 3), .val (.int 3), .val (.int 3), .val (.int c2)] [(.int 3)]) _
    exact retI X13 hx Bd.returns (hb hby d38_46) hr
  · show Q_cmp5_3 Z a1 a3 k_a1 c0 c1 c2 k_a3 h0 n0 _ T13.heap _
    rw [e13]
    exact ⟨rfl, N13, K14, V13⟩
def Q_cmp3_3 (Z : State) (a1 : Addr) (k_a1 : ClassId) (c0 : Int32) (c1 : Int32) (c2 : Int32) (h0 : Heap) (n0 : Nat) (v : Option Value) (h : Heap) (L : List Loc) : Prop := ∃ (t : Addr) (kt : ClassId), v = some (.ref t) ∧ Fr n0 L ∧ Keep h0 h [] ∧ h0.size ≤ t ∧ Arv Z h t kt .byte (3 : Int32) [(.int (c0.toInt8.toInt32)), (.int (c1.toInt8.toInt32)), (.int (c2.toInt8.toInt32))] (.int 0)
set_option maxRecDepth 65536 in
set_option maxHeartbeats 40000000 in
theorem rm_cmp3_3 (l : Launch) (Z : State) (a0 : Array Value) (hw : ∀ d ∈ tables_1, d.before a0 Z = true) (ws : List Jvm.Cond) (a1 : Addr) (k_a1 : ClassId) (c0 : Int32) (c1 : Int32) (c2 : Int32) (h0 : Heap) (n0 : Nat) (Z0 : n0 ≤ h0.size) (V_a1 : Arv Z h0 a1 k_a1 .char (3 : Int32) [(.int c0), (.int c1), (.int c2)] (.int 0)) (hb_c0 : ¬ ((255 : Int32) < c0)) (hb_c1 : ¬ ((255 : Int32) < c1)) (hb_c2 : ¬ ((255 : Int32) < c2)) (O0 : Old Z n0 h0) :
    MetFree l (⟨"java/lang/StringUTF16", "compress", "([CII)[B"⟩ : MethodName) (head1 (Jvm.Cond.code (⟨"java/lang/StringUTF16", "compress", "([CII)[B"⟩ : MethodName) jdk_52_method_16_code 6 (some (.array .byte)) :: ws) ({ frames := 1, cells := 1, slots := 3, locals := 18 } : Room)) (fun a U => a = #[(.ref a1), (.int 0), (.int 3)] ∧ Z.Warmed39 U.vm ∧ U.heap = h0) (fun _ _ _ _ _ => True) (fun _ U o U' => ∃ v L, o = .returned v ∧ Q_cmp3_3 Z a1 k_a1 c0 c1 c2 h0 n0 v U'.heap L ∧ FrameEnd U o U' L ({ frames := 1, cells := 1, slots := 3, locals := 18 } : Room).cells ({ frames := 1, cells := 1, slots := 3, locals := 18 } : Room).slots) := by
  refine MetFree.of_bodySF (plainFor_of_name pn_37) hisR ?_
  intro p e s m args below meth c s₁ Bd hml0 hP hK
  obtain ⟨rfl, hZ, hh⟩ := hP
  have hx := Bd.exec
  have hby := Bd.bytes
  have hml : c.maxLocals = 6 := hml0
  have hown : s.vm.findClass "java/lang/StringUTF16" = some m.cls := findClass_of_methodNamed Bd.named
  have hnm := (name_of_methodNamed Bd.named Bd.method).1
  have X0 : Stand p l e ({ frames := 1, cells := 1, slots := 3, locals := 18 } : Room) s m #[(.ref a1), (.int 0), (.int 3)] below meth c s₁ [] 0 0 := Stand.of_body Bd
  have e0 : s₁.heap = h0 := by rw [← hh, Bd.state]; rfl
  have N0 := Fr.nil n0
  have pre0 : ∀ t, Steps p.tables e below (s₁.setTop (mkF m 0 #[.val (.ref a1), .val (.int 0), .val (.int 3), .unset, .unset, .unset] [])) t → Steps p.tables e below (s₁.setTop (entryFrame m #[(.ref a1), (.int 0), (.int 3)] 6)) t := fun t k => castTop (ef_37_RII m a1 (0 : Int32) (3 : Int32)) k
  obtain ⟨T1, h1, k1, X1, e1, E1, A1, st1⟩ := newP X0 hx hZ (hwi hw 15 rfl) e0 (g := (mkF m 1 #[.val (.ref a1), .val (.int 0), .val (.int 3), .unset, .unset, .unset] [(.int 3)])) rfl (hb hby d37_1) rfl (by decide) (cap := 3) (by decide) (by decide) (by decide) (by decide)
  obtain ⟨b1, g1⟩ : ∃ z, z = h0.size := ⟨_, rfl⟩
  rw [← g1] at A1 st1
  have bn_b1 : h0.size ≤ b1 := Nat.le_of_eq g1.symm
  have sz2 : h0.size ≤ h1.size := E1.1
  have Z2 : n0 ≤ h1.size := Nat.le_trans Z0 sz2
  have O2 := O0.ext E1
  have K2 : Keep h0 h1 [] := (Keep.refl h0 []).ext E1
  have V1 : Arv Z h1 b1 k1 .byte (3 : Int32) [(.int 0), (.int 0), (.int 0)] (.int 0) := (Arv.new A1 (by decide)).pad (pad_rep [] (.int 0) 3)
  have fc4 := (V_a1.ext E1)
  obtain ⟨_, _, ⟨T3, L3, k3, n3⟩, -, X3, ⟨Lc3, hQ3, l3, y3, z3⟩, st3⟩ := Jvm.LawKit.callS X1 hx (y := (⟨"java/lang/StringUTF16", "compress", "([CI[BII)I"⟩ : MethodName)) hown (mvT hZ (hwi hw 200 rfl)) (mvT hZ (hwi hw 201 rfl)) (mvT hZ (hwi hw 198 rfl)) (mvT hZ (hwi hw 202 rfl)) (by decide) (backOf (W := 0) (rm_cmp5_3 l Z a0 hw [] a1 b1 k_a1 c0 c1 c2 k1 h1 n0 Z2 fc4 V1 (neN (by have := ltN V_a1.lt; have := ltN V1.lt; omega)) hb_c0 hb_c1 hb_c2 (Nat.le_trans Z0 bn_b1) O2) hZ (hwi hw 202 rfl) (hwi hw 198 rfl) (by decide) (by decide)) (g := (mkF m 9 #[.val (.ref a1), .val (.int 0), .val (.int 3), .val (.ref b1), .unset, .unset] [(.int 3), (.int 0), (.ref b1), (.int 0), (.ref a1)])) rfl (by rw [hml]; rfl) (argsL := [(.ref a1), (.int 0), (.ref b1), (.int 0), (.int 3)]) (rest := []) (lenOf pd_CI_BII_I_688 rfl) rfl (by show 2 * 0 + _ ≤ _; exact Nat.le_of_eq rfl) (hb hby d37_9) (fun _ _ => ⟨rfl, e1, (by decide : 1 + 0 ≤ _), (by decide : 3 + 0 ≤ _)⟩)
  dsimp only [Pt.U, Pt.locs, Pt.cells, Pt.slots] at X3 l3 y3 z3 st3 hQ3
  subst l3 y3 z3
  obtain ⟨rfl, N3q, Kc3, g3_0⟩ := hQ3
  have N3 := Fr.app N0 N3q
  have sz5 : h1.size ≤ T3.heap.size := Kc3.1
  have Z5 : n0 ≤ T3.heap.size := Nat.le_trans Z2 sz5
  have O5 := O2.keep Kc3 (allS (Nat.le_trans Z0 bn_b1) all0)
  have K5 : Keep h0 T3.heap [] := K2.trans Kc3 (allS (Or.inr bn_b1) (all0))
  obtain ⟨fs, hr, hrun, hended, hW, hsame⟩ := X3.leave (v := some (.ref b1)) (fun h => by rw [Bd.returns] at h; cases h)
  refine ⟨_, _, pre0 _ ?_, hrun, hended, _, _, rfl, ?_, ⟨_, rfl⟩, hW, hsame.mono (by decide) (by decide)⟩
  · show St p e below s₁ (mkF m 0 #[.val (.ref a1), .val (.int 0), .val (.int 3), .unset, .unset, .unset] []) _
    refine XS.iloadN X0.here hx rfl (hb hby d37_0) rfl ?_
    refine st1 _ ?_
    refine XS.astoreN X1.here hx rfl (hb hby d37_3) rfl rfl (l' := #[.val (.ref a1), .val (.int 0), .val (.int 3), .val (.ref b1), .unset, .unset]) rfl ?_
    refine XS.aloadN X1.here hx rfl (hb hby d37_4) rfl rfl ?_
    show St p e below T1 (mkF m 5 #[.val (.ref a1), .val (.int 0), .val (.int 3), .val (.ref b1), .unset, .unset] [(.ref a1)]) _
    refine XS.iloadN X1.here hx rfl (hb hby d37_5) rfl ?_
    refine XS.aloadN X1.here hx rfl (hb hby d37_6) rfl rfl ?_
    refine XS.iconst X1.here hx rfl (hb hby d37_7) ?_
    refine XS.iloadN X1.here hx rfl (hb hby d37_8) rfl ?_
    show St p e below T1 (mkF m 9 #[.val (.ref a1), .val (.int 0), .val (.int 3), .val (.ref b1), .unset, .unset] [(.int 3), (.int 0), (.ref b1), (.int 0), (.ref a1)]) _
    refine st3 _ ?_
    refine XS.istore X3.here hx rfl (hb hby d37_12) rfl (l' := #[.val (.ref a1), .val (.int 0), .val (.int 3), .val (.ref b1), .val (.int 3), .unset]) rfl ?_
    refine XS.iload X3.here hx rfl (hb hby d37_14) rfl ?_
    refine XS.iloadN X3.here hx rfl (hb hby d37_16) rfl ?_
    show St p e below T3 (mkF m 17 #[.val (.ref a1), .val (.int 0), .val (.int 3), .val (.ref b1), .val (.int 3), .unset] [(.int 3), (.int 3)]) _
    refine XS.icmpYes X3.here hx rfl (pc0 := 17) (pc' := 57) rfl (hb hby d37_17) rfl (teq (by decide : (3 : Int32) = (3 : Int32))).1 (by decide) (by decide) ?_
    refine XS.aloadN X3.here hx rfl (hb hby d37_57) rfl rfl ?_
    show St p e below T3 (mkF m 58 #[.val (.ref a1), .val (.int 0), .val (.int 3), .val (.ref b1), .val (.int 3), .unset] [(.ref b1)]) _
    jvm_step X3.here [X3.here.top, hx, (hb hby d37_58), X3.method', Bd.returns, Value.isRef, FieldType.isReference]
    first | (intro acts; rw [hr _ acts rfl rfl rfl]) | rw [hr _ _ rfl rfl rfl]
    exact Steps.refl _
  · show Q_cmp3_3 Z a1 k_a1 c0 c1 c2 h0 n0 _ T3.heap _
    exact ⟨b1, k1, rfl, N3, K5, bn_b1, g3_0⟩
def Q_cod_3 (Z : State) (a1 : Addr) (k_a1 : ClassId) (by0 : Int32) (by1 : Int32) (by2 : Int32) (h0 : Heap) (n0 : Nat) (v : Option Value) (h : Heap) (L : List Loc) : Prop := v = some (.int 0) ∧ Fr n0 L ∧ h = h0
set_option maxRecDepth 65536 in
set_option maxHeartbeats 40000000 in
theorem rm_cod_3 (l : Launch) (Z : State) (a0 : Array Value) (hw : ∀ d ∈ tables_1, d.before a0 Z = true) (ws : List Jvm.Cond) (a1 : Addr) (k_a1 : ClassId) (by0 : Int32) (by1 : Int32) (by2 : Int32) (h0 : Heap) (n0 : Nat) (Z0 : n0 ≤ h0.size) (V_a1 : Arv Z h0 a1 k_a1 .byte (3 : Int32) [(.int by0), (.int by1), (.int by2)] (.int 0)) :
    MetFree l (⟨"java/lang/StringUTF16", "coderFromArrayLen", "([BI)B"⟩ : MethodName) (head1 (Jvm.Cond.code (⟨"java/lang/StringUTF16", "coderFromArrayLen", "([BI)B"⟩ : MethodName) jdk_52_method_15_code 2 (some .byte) :: ws) ({ frames := 0, cells := 0, slots := 0, locals := 0 } : Room)) (fun a U => a = #[(.ref a1), (.int 3)] ∧ Z.Warmed39 U.vm ∧ U.heap = h0) (fun _ _ _ _ _ => True) (fun _ U o U' => ∃ v L, o = .returned v ∧ Q_cod_3 Z a1 k_a1 by0 by1 by2 h0 n0 v U'.heap L ∧ FrameEnd U o U' L ({ frames := 0, cells := 0, slots := 0, locals := 0 } : Room).cells ({ frames := 0, cells := 0, slots := 0, locals := 0 } : Room).slots) := by
  refine MetFree.of_bodySF (plainFor_of_name pn_39) hisR ?_
  intro p e s m args below meth c s₁ Bd hml0 hP hK
  obtain ⟨rfl, hZ, hh⟩ := hP
  have hx := Bd.exec
  have hby := Bd.bytes
  have hml : c.maxLocals = 2 := hml0
  have hown : s.vm.findClass "java/lang/StringUTF16" = some m.cls := findClass_of_methodNamed Bd.named
  have hnm := (name_of_methodNamed Bd.named Bd.method).1
  have X0 : Stand p l e ({ frames := 0, cells := 0, slots := 0, locals := 0 } : Room) s m #[(.ref a1), (.int 3)] below meth c s₁ [] 0 0 := Stand.of_body Bd
  have e0 : s₁.heap = h0 := by rw [← hh, Bd.state]; rfl
  have N0 := Fr.nil n0
  have pre0 : ∀ t, Steps p.tables e below (s₁.setTop (mkF m 0 #[.val (.ref a1), .val (.int 3)] [])) t → Steps p.tables e below (s₁.setTop (entryFrame m #[(.ref a1), (.int 3)] 2)) t := fun t k => castTop (ef_39_RI m a1 (3 : Int32)) k
  obtain ⟨cl1, Ar1, -, S1, M1, -, -⟩ := id V_a1
  obtain ⟨fs, hr, hrun, hended, hW, hsame⟩ := X0.leave (v := some (.int 0)) (fun h => by rw [Bd.returns] at h; cases h)
  refine ⟨_, _, pre0 _ ?_, hrun, hended, _, _, rfl, ?_, ⟨_, rfl⟩, hW, hsame.mono (by decide) (by decide)⟩
  · show St p e below s₁ (mkF m 0 #[.val (.ref a1), .val (.int 3)] []) _
    refine XS.iloadN X0.here hx rfl (hb hby d39_0) rfl ?_
    refine XS.aloadN X0.here hx rfl (hb hby d39_1) rfl rfl ?_
    refine X0.arraylength hx (by rw [e0]; exact Ar1.1) (State.isArrayOf_alike hZ.alike Ar1.2.1) (g := (mkF m 2 #[.val (.ref a1), .val (.int 3)] [(.ref a1), (.int 3)])) rfl rfl (hb hby d39_2) _ ?_
    rw [len_of S1 M1]
    show St p e below s₁ (mkF m 3 #[.val (.ref a1), .val (.int 3)] [(.int 3), (.int 3)]) _
    refine XS.isub X0.here hx rfl (hb hby d39_3) rfl ?_
    show St p e below s₁ (mkF m 4 #[.val (.ref a1), .val (.int 3)] [(.int ((3 : Int32) - (3 : Int32)))]) _
    rw [(by decide : ((3 : Int32) - (3 : Int32)) = (0 : Int32))]
    show St p e below s₁ (mkF m 4 #[.val (.ref a1), .val (.int 3)] [(.int 0)]) _
    refine XS.bipush X0.here hx rfl (hb hby d39_4) ?_
    refine XS.iushr X0.here hx rfl (hb hby d39_6) rfl ?_
    show St p e below s₁ (mkF m 7 #[.val (.ref a1), .val (.int 3)] [(.int (((0 : Int32).toUInt32 >>> ((31 : Int32) &&& 31).toUInt32).toInt32))]) _
    rw [(by decide : (((0 : Int32).toUInt32 >>> ((31 : Int32) &&& 31).toUInt32).toInt32) = (0 : Int32))]
    show St p e below s₁ (mkF m 7 #[.val (.ref a1), .val (.int 3)] [(.int 0)]) _
    refine XS.i2b X0.here hx rfl (hb hby d39_7) rfl ?_
    show St p e below s₁ (mkF m 8 #[.val (.ref a1), .val (.int 3)] [(.int ((0 : Int32).toInt8.toInt32))]) _
    rw [(by decide : ((0 : Int32).toInt8.toInt32) = (0 : Int32))]
    show St p e below s₁ (mkF m 8 #[.val (.ref a1), .val (.int 3)] [(.int 0)]) _
    exact retN X0 hx (t := .byte) Bd.returns (by simp) (hb hby d39_8) hr
  · show Q_cod_3 Z a1 k_a1 by0 by1 by2 h0 n0 _ s₁.heap _
    rw [e0]
    exact ⟨rfl, N0, rfl⟩
def Q_new4_3 (Z : State) (a1 : Addr) (a2 : Addr) (w_COMPACT_STRINGS : Int32) (k_a2 : ClassId) (c0 : Int32) (c1 : Int32) (c2 : Int32) (u_a1_coder : Value) (u_a1_value : Value) (h0 : Heap) (n0 : Nat) (v : Option Value) (h : Heap) (L : List Loc) : Prop := ∃ (t : Addr) (kt : ClassId), v = none ∧ Fr n0 L ∧ Keep h0 h [a1] ∧ Exa Z h a1 "java/lang/String" ∧ Fld Z h a1 "java/lang/String" "coder" "B" (.int 0) ∧ Fld Z h a1 "java/lang/String" "value" "[B" (.ref t) ∧ h0.size ≤ t ∧ Arv Z h t kt .byte (3 : Int32) [(.int (c0.toInt8.toInt32)), (.int (c1.toInt8.toInt32)), (.int (c2.toInt8.toInt32))] (.int 0)
set_option maxRecDepth 65536 in
set_option maxHeartbeats 40000000 in
theorem rm_new4_3 (l : Launch) (Z : State) (a0 : Array Value) (hw : ∀ d ∈ tables_1, d.before a0 Z = true) (ws : List Jvm.Cond) (a1 : Addr) (a2 : Addr) (w_COMPACT_STRINGS : Int32) (k_a2 : ClassId) (c0 : Int32) (c1 : Int32) (c2 : Int32) (u_a1_coder : Value) (u_a1_value : Value) (h0 : Heap) (n0 : Nat) (Z0 : n0 ≤ h0.size) (S_COMPACT_STRINGS : Sta Z Z.heap "java/lang/String" "COMPACT_STRINGS" "Z" (.int w_COMPACT_STRINGS)) (hcs : ¬ (w_COMPACT_STRINGS = (0 : Int32))) (V_a2 : Arv Z h0 a2 k_a2 .char (3 : Int32) [(.int c0), (.int c1), (.int c2)] (.int 0)) (hb_c0 : ¬ ((255 : Int32) < c0)) (hb_c1 : ¬ ((255 : Int32) < c1)) (hb_c2 : ¬ ((255 : Int32) < c2)) (O0 : Old Z n0 h0) (E_a1 : Exa Z h0 a1 "java/lang/String") (F_a1_coder : Fld Z h0 a1 "java/lang/String" "coder" "B" u_a1_coder) (g_a1 : n0 ≤ a1) (F_a1_value : Fld Z h0 a1 "java/lang/String" "value" "[B" u_a1_value) :
    MetFree l (⟨"java/lang/String", "<init>", "([CIILjava/lang/Void;)V"⟩ : MethodName) (head1 (Jvm.Cond.code (⟨"java/lang/String", "<init>", "([CIILjava/lang/Void;)V"⟩ : MethodName) jdk_42_method_149_code 6 none :: ws) ({ frames := 2, cells := 1, slots := 3, locals := 35 } : Room)) (fun a U => a = #[(.ref a1), (.ref a2), (.int 0), (.int 3), .null] ∧ Z.Warmed39 U.vm ∧ U.heap = h0) (fun _ _ _ _ _ => True) (fun _ U o U' => ∃ v L, o = .returned v ∧ Q_new4_3 Z a1 a2 w_COMPACT_STRINGS k_a2 c0 c1 c2 u_a1_coder u_a1_value h0 n0 v U'.heap L ∧ FrameEnd U o U' L ({ frames := 2, cells := 1, slots := 3, locals := 35 } : Room).cells ({ frames := 2, cells := 1, slots := 3, locals := 35 } : Room).slots) := by
  refine MetFree.of_bodySF (plainFor_of_name pn_2) hisR ?_
  intro p e s m args below meth c s₁ Bd hml0 hP hK
  obtain ⟨rfl, hZ, hh⟩ := hP
  have hx := Bd.exec
  have hby := Bd.bytes
  have hml : c.maxLocals = 6 := hml0
  have hown : s.vm.findClass "java/lang/String" = some m.cls := findClass_of_methodNamed Bd.named
  have hnm := (name_of_methodNamed Bd.named Bd.method).1
  have X0 : Stand p l e ({ frames := 2, cells := 1, slots := 3, locals := 35 } : Room) s m #[(.ref a1), (.ref a2), (.int 0), (.int 3), .null] below meth c s₁ [] 0 0 := Stand.of_body Bd
  have e0 : s₁.heap = h0 := by rw [← hh, Bd.state]; rfl
  have N0 := Fr.nil n0
  have pre0 : ∀ t, Steps p.tables e below (s₁.setTop (mkF m 0 #[.val (.ref a1), .val (.ref a2), .val (.int 0), .val (.int 3), .val .null, .unset] [])) t → Steps p.tables e below (s₁.setTop (entryFrame m #[(.ref a1), (.ref a2), (.int 0), (.int 3), .null] 6)) t := fun t k => castTop (ef_2_RRIIn m a1 a2 (0 : Int32) (3 : Int32)) k
  obtain ⟨T1, X1, e1, st1⟩ := initO X0 hx hZ hown (hwi hw 11 rfl) (hwi hw 12 rfl) (hwi hw 13 rfl) e0 (g := (mkF m 1 #[.val (.ref a1), .val (.ref a2), .val (.int 0), .val (.int 3), .val .null, .unset] [(.ref a1)])) rfl (by rw [hml]; rfl) rfl (hb hby d2_1) (by decide) (W := 0) (by show 2 * 0 + _ ≤ _; exact Nat.le_of_eq rfl) (by decide)
  obtain ⟨T2, X2, e2, st2⟩ := getS2 X1 hx hZ hown (host := "") (Or.inl (hwi hw 99 rfl)) Via.refl e1 (S_COMPACT_STRINGS.ext O0.2) (g := (mkF m 27 #[.val (.ref a1), .val (.ref a2), .val (.int 0), .val (.int 3), .val .null, .unset] [])) rfl (hb hby d2_27)
  obtain ⟨_, _, ⟨T3, L3, k3, n3⟩, -, X3, ⟨Lc3, hQ3, l3, y3, z3⟩, st3⟩ := Jvm.LawKit.callS X2 hx (y := (⟨"java/lang/StringUTF16", "compress", "([CII)[B"⟩ : MethodName)) hown (mvT hZ (hwi hw 196 rfl)) (mvT hZ (hwi hw 197 rfl)) (mvT hZ (hwi hw 198 rfl)) (mvT hZ (hwi hw 199 rfl)) (by decide) (backOf (W := 0) (rm_cmp3_3 l Z a0 hw [] a2 k_a2 c0 c1 c2 h0 n0 Z0 V_a2 hb_c0 hb_c1 hb_c2 O0) hZ (hwi hw 199 rfl) (hwi hw 198 rfl) (by decide) (by decide)) (g := (mkF m 36 #[.val (.ref a1), .val (.ref a2), .val (.int 0), .val (.int 3), .val .null, .unset] [(.int 3), (.int 0), (.ref a2)])) rfl (by rw [hml]; rfl) (argsL := [(.ref a2), (.int 0), (.int 3)]) (rest := []) (lenOf pd_CII__B_542 rfl) rfl (by show 2 * 0 + _ ≤ _; exact Nat.le_of_eq rfl) (hb hby d2_36) (fun _ _ => ⟨rfl, e2, (by decide : 0 + 1 ≤ _), (by decide : 0 + 3 ≤ _)⟩)
  dsimp only [Pt.U, Pt.locs, Pt.cells, Pt.slots] at X3 l3 y3 z3 st3 hQ3
  subst l3 y3 z3
  obtain ⟨t_3, kt_3, rfl, N3q, Kc3, g3_0, g3_1⟩ := hQ3
  have N3 := Fr.app N0 N3q
  have sz4 : h0.size ≤ T3.heap.size := Kc3.1
  have Z4 : n0 ≤ T3.heap.size := Nat.le_trans Z0 sz4
  have O4 := O0.keep Kc3 all0
  have K4 : Keep h0 T3.heap [a1] := (Keep.refl h0 [a1]).trans Kc3 (all0)
  have bn_t_3 : h0.size ≤ t_3 := g3_0
  obtain ⟨_, _, ⟨T5, L5, k5, n5⟩, -, X5, ⟨Lc5, hQ5, l5, y5, z5⟩, st5⟩ := Jvm.LawKit.callS X3 hx (y := (⟨"java/lang/StringUTF16", "coderFromArrayLen", "([BI)B"⟩ : MethodName)) hown (mvT hZ (hwi hw 203 rfl)) (mvT hZ (hwi hw 204 rfl)) (mvT hZ (hwi hw 198 rfl)) (mvT hZ (hwi hw 205 rfl)) (by decide) (backOf (W := 1) (rm_cod_3 l Z a0 hw [] t_3 kt_3 (c0.toInt8.toInt32) (c1.toInt8.toInt32) (c2.toInt8.toInt32) T3.heap n0 Z4 g3_1) hZ (hwi hw 205 rfl) (hwi hw 198 rfl) (by decide) (by decide)) (g := (mkF m 45 #[.val (.ref a1), .val (.ref a2), .val (.int 0), .val (.int 3), .val .null, .val (.ref t_3)] [(.int 3), (.ref t_3), (.ref a1)])) rfl (by rw [hml]; rfl) (argsL := [(.ref t_3), (.int 3)]) (rest := [(.ref a1)]) (lenOf pd_BI_B_377 rfl) rfl (by show 2 * 0 + _ ≤ _; exact Nat.le_of_eq rfl) (hb hby d2_45) (fun _ _ => ⟨rfl, rfl, (by decide : 1 + 0 ≤ _), (by decide : 3 + 0 ≤ _)⟩)
  dsimp only [Pt.U, Pt.locs, Pt.cells, Pt.slots] at X5 l5 y5 z5 st5 hQ5
  subst l5 y5 z5
  obtain ⟨rfl, N5q, e5⟩ := hQ5
  have N5 := Fr.app N3 N5q
  have fc6 := (E_a1.keep Kc3)
  have fc7 := (F_a1_coder.keep Kc3 nin0)
  obtain ⟨T8, h8, X8, e8, W8, st8⟩ := putFN X5 hx hZ hown (hwi hw 21 rfl) Via.refl e5 fc7 fc6 (Or.inr ⟨(hwi hw 17 rfl), rfl, hnm⟩) (hwi hw 2 rfl) (ty := .byte) (v' := (.int 0)) (by decide) rfl (by decide) (g := (mkF m 48 #[.val (.ref a1), .val (.ref a2), .val (.int 0), .val (.int 3), .val .null, .val (.ref t_3)] [(.int 0), (.ref a1)])) rfl rfl (hb hby d2_48)
  have N8 := Fr.snoc X8 N5 g_a1
  have Fw8 := fc7.same W8
  have sz9 : T3.heap.size ≤ h8.size := Nat.le_of_eq W8.size.symm
  have Z9 : n0 ≤ h8.size := Nat.le_trans Z4 sz9
  have O9 := O4.wr W8 g_a1
  have K9 : Keep h0 h8 [a1] := K4.wr W8 (Or.inl (List.mem_of_getElem? (i := 0) rfl))
  have fc10 := (fc6.wr W8)
  have fc11 := ((F_a1_value.keep Kc3 nin0).other W8 (Or.inr (slot_ne (Or.inr (hwi hw 16 rfl)) (Or.inr (hwi hw 17 rfl)) (by decide) (t := (.array .byte)) (t' := .byte) (by decide) (by decide))))
  obtain ⟨T12, h12, X12, e12, W12, st12⟩ := putF X8 hx hZ hown (host := "") (Or.inl (hwi hw 20 rfl)) Via.refl e8 fc11 fc10 (Or.inr ⟨(hwi hw 16 rfl), rfl, hnm⟩) (hwi hw 2 rfl) (ty := (.array .byte)) (by decide) rfl rfl (g := (mkF m 54 #[.val (.ref a1), .val (.ref a2), .val (.int 0), .val (.int 3), .val .null, .val (.ref t_3)] [(.ref t_3), (.ref a1)])) rfl rfl (hb hby d2_54)
  have N12 := Fr.snoc X12 N8 g_a1
  have Fw12 := fc11.same W12
  have sz13 : h8.size ≤ h12.size := Nat.le_of_eq W12.size.symm
  have Z13 : n0 ≤ h12.size := Nat.le_trans Z9 sz13
  have O13 := O9.wr W12 g_a1
  have K13 : Keep h0 h12 [a1] := K9.wr W12 (Or.inl (List.mem_of_getElem? (i := 0) rfl))
  have fc14 := (fc10.wr W12)
  have fc15 := (Fw8.other W12 (Or.inr (slot_ne (Or.inr (hwi hw 17 rfl)) (Or.inr (hwi hw 16 rfl)) (by decide) (t := .byte) (t' := (.array .byte)) (by decide) (by decide))))
  have fc16 := ((g3_1.other W8 (neN (by have := ltN E_a1.lt; have := ltN g3_1.lt; omega))).other W12 (neN (by have := ltN E_a1.lt; have := ltN g3_1.lt; omega)))
  obtain ⟨fs, hr, hrun, hended, hW, hsame⟩ := X12.leave (v := none) (fun _ => rfl)
  refine ⟨_, _, pre0 _ ?_, hrun, hended, _, _, rfl, ?_, ⟨_, rfl⟩, hW, hsame.mono (by decide) (by decide)⟩
  · show St p e below s₁ (mkF m 0 #[.val (.ref a1), .val (.ref a2), .val (.int 0), .val (.int 3), .val .null, .unset] []) _
    refine XS.aloadN X0.here hx rfl (hb hby d2_0) rfl rfl ?_
    refine st1 _ ?_
    refine XS.iloadN X1.here hx rfl (hb hby d2_4) rfl ?_
    refine XS.ifYes X1.here hx rfl (pc0 := 5) (pc' := 27) rfl (hb hby d2_5) rfl ((if0 _ _).trans (feq (by decide : ¬ ((3 : Int32) = (0 : Int32)))).2) (by decide) (by decide) ?_
    show St p e below T1 (mkF m 27 #[.val (.ref a1), .val (.ref a2), .val (.int 0), .val (.int 3), .val .null, .unset] []) _
    refine st2 _ ?_
    refine XS.ifNo X2.here hx rfl (hb hby d2_30) rfl ((if0 _ _).trans (feq hcs).1) ?_
    refine XS.aloadN X2.here hx rfl (hb hby d2_33) rfl rfl ?_
    refine XS.iloadN X2.here hx rfl (hb hby d2_34) rfl ?_
    show St p e below T2 (mkF m 35 #[.val (.ref a1), .val (.ref a2), .val (.int 0), .val (.int 3), .val .null, .unset] [(.int 0), (.ref a2)]) _
    refine XS.iloadN X2.here hx rfl (hb hby d2_35) rfl ?_
    refine st3 _ ?_
    refine XS.astore X3.here hx rfl (hb hby d2_39) rfl rfl (l' := #[.val (.ref a1), .val (.ref a2), .val (.int 0), .val (.int 3), .val .null, .val (.ref t_3)]) rfl ?_
    refine XS.aloadN X3.here hx rfl (hb hby d2_41) rfl rfl ?_
    show St p e below T3 (mkF m 42 #[.val (.ref a1), .val (.ref a2), .val (.int 0), .val (.int 3), .val .null, .val (.ref t_3)] [(.ref a1)]) _
    refine XS.aload X3.here hx rfl (hb hby d2_42) rfl rfl ?_
    refine XS.iloadN X3.here hx rfl (hb hby d2_44) rfl ?_
    refine st5 _ ?_
    refine st8 _ ?_
    show St p e below T8 (mkF m 51 #[.val (.ref a1), .val (.ref a2), .val (.int 0), .val (.int 3), .val .null, .val (.ref t_3)] []) _
    refine XS.aloadN X8.here hx rfl (hb hby d2_51) rfl rfl ?_
    refine XS.aload X8.here hx rfl (hb hby d2_52) rfl rfl ?_
    refine st12 _ ?_
    show St p e below T12 (mkF m 57 #[.val (.ref a1), .val (.ref a2), .val (.int 0), .val (.int 3), .val .null, .val (.ref t_3)] []) _
    exact X12.returnOut hx Bd.returns (hb hby d2_57) hr
  · show Q_new4_3 Z a1 a2 w_COMPACT_STRINGS k_a2 c0 c1 c2 u_a1_coder u_a1_value h0 n0 _ T12.heap _
    rw [e12]
    exact ⟨t_3, kt_3, rfl, N12, K13, fc14, fc15, Fw12, bn_t_3, fc16⟩
def Q_new1_3 (Z : State) (a1 : Addr) (a2 : Addr) (w_COMPACT_STRINGS : Int32) (k_a2 : ClassId) (c0 : Int32) (c1 : Int32) (c2 : Int32) (u_a1_coder : Value) (u_a1_value : Value) (h0 : Heap) (n0 : Nat) (v : Option Value) (h : Heap) (L : List Loc) : Prop := ∃ (t : Addr) (kt : ClassId), v = none ∧ Fr n0 L ∧ Keep h0 h [a1] ∧ Exa Z h a1 "java/lang/String" ∧ Fld Z h a1 "java/lang/String" "coder" "B" (.int 0) ∧ Fld Z h a1 "java/lang/String" "value" "[B" (.ref t) ∧ h0.size ≤ t ∧ Arv Z h t kt .byte (3 : Int32) [(.int (c0.toInt8.toInt32)), (.int (c1.toInt8.toInt32)), (.int (c2.toInt8.toInt32))] (.int 0)
set_option maxRecDepth 65536 in
set_option maxHeartbeats 40000000 in
theorem rm_new1_3 (l : Launch) (Z : State) (a0 : Array Value) (hw : ∀ d ∈ tables_1, d.before a0 Z = true) (ws : List Jvm.Cond) (a1 : Addr) (a2 : Addr) (w_COMPACT_STRINGS : Int32) (k_a2 : ClassId) (c0 : Int32) (c1 : Int32) (c2 : Int32) (u_a1_coder : Value) (u_a1_value : Value) (h0 : Heap) (n0 : Nat) (Z0 : n0 ≤ h0.size) (S_COMPACT_STRINGS : Sta Z Z.heap "java/lang/String" "COMPACT_STRINGS" "Z" (.int w_COMPACT_STRINGS)) (hcs : ¬ (w_COMPACT_STRINGS = (0 : Int32))) (V_a2 : Arv Z h0 a2 k_a2 .char (3 : Int32) [(.int c0), (.int c1), (.int c2)] (.int 0)) (hb_c0 : ¬ ((255 : Int32) < c0)) (hb_c1 : ¬ ((255 : Int32) < c1)) (hb_c2 : ¬ ((255 : Int32) < c2)) (O0 : Old Z n0 h0) (E_a1 : Exa Z h0 a1 "java/lang/String") (F_a1_coder : Fld Z h0 a1 "java/lang/String" "coder" "B" u_a1_coder) (g_a1 : n0 ≤ a1) (F_a1_value : Fld Z h0 a1 "java/lang/String" "value" "[B" u_a1_value) :
    MetFree l (⟨"java/lang/String", "<init>", "([C)V"⟩ : MethodName) (head1 (Jvm.Cond.code (⟨"java/lang/String", "<init>", "([C)V"⟩ : MethodName) jdk_42_method_3_code 2 none :: ws) ({ frames := 3, cells := 1, slots := 3, locals := 52 } : Room)) (fun a U => a = #[(.ref a1), (.ref a2)] ∧ Z.Warmed39 U.vm ∧ U.heap = h0) (fun _ _ _ _ _ => True) (fun _ U o U' => ∃ v L, o = .returned v ∧ Q_new1_3 Z a1 a2 w_COMPACT_STRINGS k_a2 c0 c1 c2 u_a1_coder u_a1_value h0 n0 v U'.heap L ∧ FrameEnd U o U' L ({ frames := 3, cells := 1, slots := 3, locals := 52 } : Room).cells ({ frames := 3, cells := 1, slots := 3, locals := 52 } : Room).slots) := by
  refine MetFree.of_bodySF (plainFor_of_name pn_1) hisR ?_
  intro p e s m args below meth c s₁ Bd hml0 hP hK
  obtain ⟨rfl, hZ, hh⟩ := hP
  have hx := Bd.exec
  have hby := Bd.bytes
  have hml : c.maxLocals = 2 := hml0
  have hown : s.vm.findClass "java/lang/String" = some m.cls := findClass_of_methodNamed Bd.named
  have hnm := (name_of_methodNamed Bd.named Bd.method).1
  have X0 : Stand p l e ({ frames := 3, cells := 1, slots := 3, locals := 52 } : Room) s m #[(.ref a1), (.ref a2)] below meth c s₁ [] 0 0 := Stand.of_body Bd
  have e0 : s₁.heap = h0 := by rw [← hh, Bd.state]; rfl
  have N0 := Fr.nil n0
  have pre0 : ∀ t, Steps p.tables e below (s₁.setTop (mkF m 0 #[.val (.ref a1), .val (.ref a2)] [])) t → Steps p.tables e below (s₁.setTop (entryFrame m #[(.ref a1), (.ref a2)] 2)) t := fun t k => castTop (ef_1_RR m a1 a2) k
  obtain ⟨cl1, Ar1, -, S1, M1, -, -⟩ := id V_a2
  obtain ⟨_, _, ⟨T2, L2, k2, n2⟩, -, X2, ⟨Lc2, hQ2, l2, y2, z2⟩, st2⟩ := X0.specialBack hx (y := (⟨"java/lang/String", "<init>", "([CIILjava/lang/Void;)V"⟩ : MethodName)) rfl hown (mvT hZ (hwi hw 7 rfl)) (mvT hZ (hwi hw 8 rfl)) (mvT hZ (hwi hw 10 rfl)) (by decide) (backOf (W := 0) (rm_new4_3 l Z a0 hw [] a1 a2 w_COMPACT_STRINGS k_a2 c0 c1 c2 u_a1_coder u_a1_value h0 n0 Z0 S_COMPACT_STRINGS hcs V_a2 hb_c0 hb_c1 hb_c2 O0 E_a1 F_a1_coder g_a1 F_a1_value) hZ (hwi hw 10 rfl) (hwi hw 3 rfl) (by decide) (by decide)) (g := (mkF m 6 #[.val (.ref a1), .val (.ref a2)] [.null, (.int 3), (.int 0), (.ref a2), (.ref a1)])) rfl (by rw [hml]; rfl) (Steps.refl _) (a := a1) (argsL := [(.ref a2), (.int 0), (.int 3), .null]) (rest := []) (lenOf pd_CIILjava_lang_Void__V_938 rfl) rfl (by show 2 * 0 + _ ≤ _; exact Nat.le_of_eq rfl) (hb hby d1_6) (fun _ _ => ⟨rfl, e0, (by decide : 0 + 1 ≤ _), (by decide : 0 + 3 ≤ _)⟩)
  dsimp only [Pt.U, Pt.locs, Pt.cells, Pt.slots] at X2 l2 y2 z2 st2 hQ2
  subst l2 y2 z2
  obtain ⟨t_2, kt_2, rfl, N2q, Kc2, g2_0, g2_1, g2_2, g2_3, g2_4⟩ := hQ2
  have N2 := Fr.app N0 N2q
  have sz3 : h0.size ≤ T2.heap.size := Kc2.1
  have Z3 : n0 ≤ T2.heap.size := Nat.le_trans Z0 sz3
  have O3 := O0.keep Kc2 (allS g_a1 all0)
  have K3 : Keep h0 T2.heap [a1] := (Keep.refl h0 [a1]).trans Kc2 (allS (Or.inl (List.mem_of_getElem? (i := 0) rfl)) (all0))
  have bn_t_2 : h0.size ≤ t_2 := g2_3
  obtain ⟨fs, hr, hrun, hended, hW, hsame⟩ := X2.leave (v := none) (fun _ => rfl)
  refine ⟨_, _, pre0 _ ?_, hrun, hended, _, _, rfl, ?_, ⟨_, rfl⟩, hW, hsame.mono (by decide) (by decide)⟩
  · show St p e below s₁ (mkF m 0 #[.val (.ref a1), .val (.ref a2)] []) _
    refine XS.aloadN X0.here hx rfl (hb hby d1_0) rfl rfl ?_
    refine XS.aloadN X0.here hx rfl (hb hby d1_1) rfl rfl ?_
    refine XS.iconst X0.here hx rfl (hb hby d1_2) ?_
    refine XS.aloadN X0.here hx rfl (hb hby d1_3) rfl rfl ?_
    show St p e below s₁ (mkF m 4 #[.val (.ref a1), .val (.ref a2)] [(.ref a2), (.int 0), (.ref a2), (.ref a1)]) _
    refine X0.arraylength hx (by rw [e0]; exact Ar1.1) (State.isArrayOf_alike hZ.alike Ar1.2.1) (g := (mkF m 4 #[.val (.ref a1), .val (.ref a2)] [(.ref a2), (.int 0), (.ref a2), (.ref a1)])) rfl rfl (hb hby d1_4) _ ?_
    rw [len_of S1 M1]
    show St p e below s₁ (mkF m 5 #[.val (.ref a1), .val (.ref a2)] [(.int 3), (.int 0), (.ref a2), (.ref a1)]) _
    refine XS.aconstNull X0.here hx rfl (hb hby d1_5) ?_
    refine st2.trans ?_
    show St p e below T2 (mkF m 9 #[.val (.ref a1), .val (.ref a2)] []) _
    exact X2.returnOut hx Bd.returns (hb hby d1_9) hr
  · show Q_new1_3 Z a1 a2 w_COMPACT_STRINGS k_a2 c0 c1 c2 u_a1_coder u_a1_value h0 n0 _ T2.heap _
    exact ⟨t_2, kt_2, rfl, N2, K3, g2_0, g2_1, g2_2, bn_t_2, g2_4⟩
theorem d16_0 : decode jdk_42_method_152_code 0 = .ok (.getstatic 38, 3) := by decide +kernel
theorem d16_3 : decode jdk_42_method_152_code 3 = .ok (.ifCond .eq 10, 3) := by decide +kernel
theorem d16_6 : decode jdk_42_method_152_code 6 = .ok (.aload_n 0, 1) := by decide +kernel
theorem d16_7 : decode jdk_42_method_152_code 7 = .ok (.getfield 15, 3) := by decide +kernel
theorem d16_10 : decode jdk_42_method_152_code 10 = .ok (.goto 4, 3) := by decide +kernel
theorem d16_14 : decode jdk_42_method_152_code 14 = .ok (.ireturn, 1) := by decide +kernel
theorem pn_16 : plainName "java/lang/String" = true := by first | (simp [plainName, overriddenIn]; done) | decide +kernel
theorem ef_16_R (m : MethodId) (x0 : Addr) : entryFrame m #[(.ref x0)] 1 = mkF m 0 #[.val (.ref x0)] [] := by first | (simp [entryFrame, mkF, argsToLocals, Value.category]; done) | rfl
def Q_coder0 (Z : State) (a1 : Addr) (w_COMPACT_STRINGS : Int32) (h0 : Heap) (n0 : Nat) (v : Option Value) (h : Heap) (L : List Loc) : Prop := v = some (.int 0) ∧ Fr n0 L ∧ h = h0
set_option maxRecDepth 65536 in
set_option maxHeartbeats 40000000 in
theorem rm_coder0 (l : Launch) (Z : State) (a0 : Array Value) (hw : ∀ d ∈ tables_1, d.before a0 Z = true) (ws : List Jvm.Cond) (a1 : Addr) (w_COMPACT_STRINGS : Int32) (h0 : Heap) (n0 : Nat) (Z0 : n0 ≤ h0.size) (S_COMPACT_STRINGS : Sta Z Z.heap "java/lang/String" "COMPACT_STRINGS" "Z" (.int w_COMPACT_STRINGS)) (hcs : ¬ (w_COMPACT_STRINGS = (0 : Int32))) (F_a1_coder : Fld Z h0 a1 "java/lang/String" "coder" "B" (.int 0)) (O0 : Old Z n0 h0) :
    MetFree l (⟨"java/lang/String", "coder", "()B"⟩ : MethodName) (head1 (Jvm.Cond.code (⟨"java/lang/String", "coder", "()B"⟩ : MethodName) jdk_42_method_152_code 1 (some .byte) :: ws) ({ frames := 0, cells := 0, slots := 0, locals := 0 } : Room)) (fun a U => a = #[(.ref a1)] ∧ Z.Warmed39 U.vm ∧ U.heap = h0) (fun _ _ _ _ _ => True) (fun _ U o U' => ∃ v L, o = .returned v ∧ Q_coder0 Z a1 w_COMPACT_STRINGS h0 n0 v U'.heap L ∧ FrameEnd U o U' L ({ frames := 0, cells := 0, slots := 0, locals := 0 } : Room).cells ({ frames := 0, cells := 0, slots := 0, locals := 0 } : Room).slots) := by
  refine MetFree.of_bodySF (plainFor_of_name pn_16) hisR ?_
  intro p e s m args below meth c s₁ Bd hml0 hP hK
  obtain ⟨rfl, hZ, hh⟩ := hP
  have hx := Bd.exec
  have hby := Bd.bytes
  have hml : c.maxLocals = 1 := hml0
  have hown : s.vm.findClass "java/lang/String" = some m.cls := findClass_of_methodNamed Bd.named
  have hnm := (name_of_methodNamed Bd.named Bd.method).1
  have X0 : Stand p l e ({ frames := 0, cells := 0, slots := 0, locals := 0 } : Room) s m #[(.ref a1)] below meth c s₁ [] 0 0 := Stand.of_body Bd
  have e0 : s₁.heap = h0 := by rw [← hh, Bd.state]; rfl
  have N0 := Fr.nil n0
  have pre0 : ∀ t, Steps p.tables e below (s₁.setTop (mkF m 0 #[.val (.ref a1)] [])) t → Steps p.tables e below (s₁.setTop (entryFrame m #[(.ref a1)] 1)) t := fun t k => castTop (ef_16_R m a1) k
  obtain ⟨T1, X1, e1, st1⟩ := getS2 X0 hx hZ hown (host := "") (Or.inl (hwi hw 99 rfl)) Via.refl e0 (S_COMPACT_STRINGS.ext O0.2) (g := (mkF m 0 #[.val (.ref a1)] [])) rfl (hb hby d16_0)
  obtain ⟨T2, X2, e2, st2⟩ := getF X1 hx hZ hown (host := "") (Or.inl (hwi hw 21 rfl)) Via.refl e1 F_a1_coder (g := (mkF m 7 #[.val (.ref a1)] [(.ref a1)])) rfl rfl (hb hby d16_7)
  obtain ⟨fs, hr, hrun, hended, hW, hsame⟩ := X2.leave (v := some (.int 0)) (fun h => by rw [Bd.returns] at h; cases h)
  refine ⟨_, _, pre0 _ ?_, hrun, hended, _, _, rfl, ?_, ⟨_, rfl⟩, hW, hsame.mono (by decide) (by decide)⟩
  · show St p e below s₁ (mkF m 0 #[.val (.ref a1)] []) _
    refine st1 _ ?_
    refine XS.ifNo X1.here hx rfl (hb hby d16_3) rfl ((if0 _ _).trans (feq hcs).1) ?_
    refine XS.aloadN X1.here hx rfl (hb hby d16_6) rfl rfl ?_
    refine st2 _ ?_
    show St p e below T2 (mkF m 10 #[.val (.ref a1)] [(.int 0)]) _
    refine XS.goto X2.here hx rfl (pc0 := 10) (pc' := 14) rfl (hb hby d16_10) (by decide) (by decide) ?_
    show St p e below T2 (mkF m 14 #[.val (.ref a1)] [(.int 0)]) _
    exact retN X2 hx (t := .byte) Bd.returns (by simp) (hb hby d16_14) hr
  · show Q_coder0 Z a1 w_COMPACT_STRINGS h0 n0 _ T2.heap _
    rw [e2]
    exact ⟨rfl, N0, rfl⟩
theorem pd_B_147 : parseMethodDescriptor "()B" = some ⟨[], some .byte⟩ := by decide +kernel
theorem d15_0 : decode jdk_42_method_54_code 0 = .ok (.aload_n 0, 1) := by decide +kernel
theorem d15_1 : decode jdk_42_method_54_code 1 = .ok (.getfield 9, 3) := by decide +kernel
theorem d15_4 : decode jdk_42_method_54_code 4 = .ok (.arraylength, 1) := by decide +kernel
theorem d15_5 : decode jdk_42_method_54_code 5 = .ok (.aload_n 0, 1) := by decide +kernel
theorem d15_6 : decode jdk_42_method_54_code 6 = .ok (.invokevirtual 335, 3) := by decide +kernel
theorem d15_9 : decode jdk_42_method_54_code 9 = .ok (.ishr, 1) := by decide +kernel
theorem d15_10 : decode jdk_42_method_54_code 10 = .ok (.ireturn, 1) := by decide +kernel
theorem pn_15 : plainName "java/lang/String" = true := by first | (simp [plainName, overriddenIn]; done) | decide +kernel
theorem ef_15_R (m : MethodId) (x0 : Addr) : entryFrame m #[(.ref x0)] 1 = mkF m 0 #[.val (.ref x0)] [] := by first | (simp [entryFrame, mkF, argsToLocals, Value.category]; done) | rfl
def Q_slen (Z : State) (a1 : Addr) (w_COMPACT_STRINGS : Int32) (t_a1 : Addr) (k_t_a1 : ClassId) (vs : List Value) (N : Int32) (h0 : Heap) (n0 : Nat) (v : Option Value) (h : Heap) (L : List Loc) : Prop := v = some (.int N) ∧ Fr n0 L ∧ h = h0
set_option maxRecDepth 65536 in
set_option maxHeartbeats 40000000 in
theorem rm_slen (l : Launch) (Z : State) (a0 : Array Value) (hw : ∀ d ∈ tables_1, d.before a0 Z = true) (ws : List Jvm.Cond) (a1 : Addr) (w_COMPACT_STRINGS : Int32) (t_a1 : Addr) (k_t_a1 : ClassId) (vs : List Value) (N : Int32) (h0 : Heap) (n0 : Nat) (Z0 : n0 ≤ h0.size) (S_COMPACT_STRINGS : Sta Z Z.heap "java/lang/String" "COMPACT_STRINGS" "Z" (.int w_COMPACT_STRINGS)) (hcs : ¬ (w_COMPACT_STRINGS = (0 : Int32))) (E_a1 : Exa Z h0 a1 "java/lang/String") (F_a1_coder : Fld Z h0 a1 "java/lang/String" "coder" "B" (.int 0)) (F_a1_value : Fld Z h0 a1 "java/lang/String" "value" "[B" (.ref t_a1)) (V_t_a1 : Arv Z h0 t_a1 k_t_a1 .byte N vs (.int 0)) (O0 : Old Z n0 h0) (hN : (N >>> ((0 : Int32) &&& 31)) = N) :
    MetFree l (⟨"java/lang/String", "length", "()I"⟩ : MethodName) (head1 (Jvm.Cond.code (⟨"java/lang/String", "length", "()I"⟩ : MethodName) jdk_42_method_54_code 1 (some .int) :: ws) ({ frames := 1, cells := 0, slots := 0, locals := 13 } : Room)) (fun a U => a = #[(.ref a1)] ∧ Z.Warmed39 U.vm ∧ U.heap = h0) (fun _ _ _ _ _ => True) (fun _ U o U' => ∃ v L, o = .returned v ∧ Q_slen Z a1 w_COMPACT_STRINGS t_a1 k_t_a1 vs N h0 n0 v U'.heap L ∧ FrameEnd U o U' L ({ frames := 1, cells := 0, slots := 0, locals := 13 } : Room).cells ({ frames := 1, cells := 0, slots := 0, locals := 13 } : Room).slots) := by
  refine MetFree.of_bodySF (plainFor_of_name pn_15) hisR ?_
  intro p e s m args below meth c s₁ Bd hml0 hP hK
  obtain ⟨rfl, hZ, hh⟩ := hP
  have hx := Bd.exec
  have hby := Bd.bytes
  have hml : c.maxLocals = 1 := hml0
  have hown : s.vm.findClass "java/lang/String" = some m.cls := findClass_of_methodNamed Bd.named
  have hnm := (name_of_methodNamed Bd.named Bd.method).1
  have X0 : Stand p l e ({ frames := 1, cells := 0, slots := 0, locals := 13 } : Room) s m #[(.ref a1)] below meth c s₁ [] 0 0 := Stand.of_body Bd
  have e0 : s₁.heap = h0 := by rw [← hh, Bd.state]; rfl
  have N0 := Fr.nil n0
  have pre0 : ∀ t, Steps p.tables e below (s₁.setTop (mkF m 0 #[.val (.ref a1)] [])) t → Steps p.tables e below (s₁.setTop (entryFrame m #[(.ref a1)] 1)) t := fun t k => castTop (ef_15_R m a1) k
  obtain ⟨T1, X1, e1, st1⟩ := getF X0 hx hZ hown (host := "") (Or.inl (hwi hw 20 rfl)) Via.refl e0 F_a1_value (g := (mkF m 1 #[.val (.ref a1)] [(.ref a1)])) rfl rfl (hb hby d15_1)
  obtain ⟨cl2, Ar2, -, S2, M2, -, -⟩ := id V_t_a1
  obtain ⟨cq3, kq3, q3a, q3b, q3c⟩ := isOf hZ e1 E_a1
  obtain ⟨_, _, ⟨T3, L3, k3, n3⟩, -, X3, ⟨Lc3, hQ3, l3, y3, z3⟩, st3⟩ := X1.virtualBack hx (y := (⟨"java/lang/String", "coder", "()B"⟩ : MethodName)) (z := (⟨"java/lang/String", "coder", "()B"⟩ : MethodName)) hown (mvT hZ (hwi hw 94 rfl)) (mvT hZ (hwi hw 95 rfl)) (notFace_of_selects (args := #[]) (mvT hZ (hwi hw 97 rfl))) (mvT hZ (hwi hw 97 rfl)) (mvT hZ (hwi hw 96 rfl)) (by decide) (backOf (W := 1) (rm_coder0 l Z a0 hw [] a1 w_COMPACT_STRINGS h0 n0 Z0 S_COMPACT_STRINGS hcs F_a1_coder O0) hZ (hwi hw 98 rfl) (hwi hw 3 rfl) (by decide) (by decide)) q3a q3c (g := (mkF m 6 #[.val (.ref a1)] [(.ref a1), (.int N)])) rfl (by rw [hml]; rfl) (Steps.refl _) (argsL := []) (rest := [(.int N)]) (lenOf pd_B_147 rfl) rfl (by show 2 * 0 + _ ≤ _; exact Nat.le_of_eq rfl) (hb hby d15_6) (fun _ _ => ⟨rfl, e1, (by decide : 0 + 0 ≤ _), (by decide : 0 + 0 ≤ _)⟩)
  dsimp only [Pt.U, Pt.locs, Pt.cells, Pt.slots] at X3 l3 y3 z3 st3 hQ3
  subst l3 y3 z3
  obtain ⟨rfl, N3q, e3⟩ := hQ3
  have N3 := Fr.app N0 N3q
  obtain ⟨fs, hr, hrun, hended, hW, hsame⟩ := X3.leave (v := some (.int N)) (fun h => by rw [Bd.returns] at h; cases h)
  refine ⟨_, _, pre0 _ ?_, hrun, hended, _, _, rfl, ?_, ⟨_, rfl⟩, hW, hsame.mono (by decide) (by decide)⟩
  · show St p e below s₁ (mkF m 0 #[.val (.ref a1)] []) _
    refine XS.aloadN X0.here hx rfl (hb hby d15_0) rfl rfl ?_
    refine st1 _ ?_
    refine X1.arraylength hx (by rw [e1]; exact Ar2.1) (State.isArrayOf_alike hZ.alike Ar2.2.1) (g := (mkF m 4 #[.val (.ref a1)] [(.ref t_a1)])) rfl rfl (hb hby d15_4) _ ?_
    rw [len_of S2 M2]
    show St p e below T1 (mkF m 5 #[.val (.ref a1)] [(.int N)]) _
    refine XS.aloadN X1.here hx rfl (hb hby d15_5) rfl rfl ?_
    refine st3.trans ?_
    refine XS.ishr X3.here hx rfl (hb hby d15_9) rfl ?_
    show St p e below T3 (mkF m 10 #[.val (.ref a1)] [(.int (N >>> ((0 : Int32) &&& 31)))]) _
    rw [hN]
    show St p e below T3 (mkF m 10 #[.val (.ref a1)] [(.int N)]) _
    exact retI X3 hx Bd.returns (hb hby d15_10) hr
  · show Q_slen Z a1 w_COMPACT_STRINGS t_a1 k_t_a1 vs N h0 n0 _ T3.heap _
    rw [e3]
    exact ⟨rfl, N3, rfl⟩
theorem d36_0 : decode jdk_41_method_11_code 0 = .ok (.iload_n 0, 1) := by decide +kernel
theorem d36_1 : decode jdk_41_method_11_code 1 = .ok (.ifCond .lt 8, 3) := by decide +kernel
theorem d36_4 : decode jdk_41_method_11_code 4 = .ok (.iload_n 0, 1) := by decide +kernel
theorem d36_5 : decode jdk_41_method_11_code 5 = .ok (.iload_n 1, 1) := by decide +kernel
theorem d36_6 : decode jdk_41_method_11_code 6 = .ok (.if_icmp .lt 10, 3) := by decide +kernel
theorem d36_16 : decode jdk_41_method_11_code 16 = .ok (.iload_n 0, 1) := by decide +kernel
theorem d36_17 : decode jdk_41_method_11_code 17 = .ok (.ireturn, 1) := by decide +kernel
theorem pn_36 : plainName "jdk/internal/util/Preconditions" = true := by first | (simp [plainName, overriddenIn]; done) | decide +kernel
theorem ef_36_IIR (m : MethodId) (x0 : Int32) (x1 : Int32) (x2 : Addr) : entryFrame m #[(.int x0), (.int x1), (.ref x2)] 3 = mkF m 0 #[.val (.int x0), .val (.int x1), .val (.ref x2)] [] := by first | (simp [entryFrame, mkF, argsToLocals, Value.category]; done) | rfl
def Q_pchk_ref (Z : State) (p1 : Int32) (p2 : Int32) (a3 : Addr) (h0 : Heap) (n0 : Nat) (v : Option Value) (h : Heap) (L : List Loc) : Prop := v = some (.int p1) ∧ Fr n0 L ∧ h = h0
set_option maxRecDepth 65536 in
set_option maxHeartbeats 40000000 in
theorem rm_pchk_ref (l : Launch) (Z : State) (a0 : Array Value) (hw : ∀ d ∈ tables_1, d.before a0 Z = true) (ws : List Jvm.Cond) (p1 : Int32) (p2 : Int32) (a3 : Addr) (h0 : Heap) (n0 : Nat) (Z0 : n0 ≤ h0.size) (hj0 : ¬ (p1 < (0 : Int32))) (hj1 : p1 < p2) :
    MetFree l (⟨"jdk/internal/util/Preconditions", "checkIndex", "(IILjava/util/function/BiFunction;)I"⟩ : MethodName) (head1 (Jvm.Cond.code (⟨"jdk/internal/util/Preconditions", "checkIndex", "(IILjava/util/function/BiFunction;)I"⟩ : MethodName) jdk_41_method_11_code 3 (some .int) :: ws) ({ frames := 0, cells := 0, slots := 0, locals := 0 } : Room)) (fun a U => a = #[(.int p1), (.int p2), (.ref a3)] ∧ Z.Warmed39 U.vm ∧ U.heap = h0) (fun _ _ _ _ _ => True) (fun _ U o U' => ∃ v L, o = .returned v ∧ Q_pchk_ref Z p1 p2 a3 h0 n0 v U'.heap L ∧ FrameEnd U o U' L ({ frames := 0, cells := 0, slots := 0, locals := 0 } : Room).cells ({ frames := 0, cells := 0, slots := 0, locals := 0 } : Room).slots) := by
  refine MetFree.of_bodySF (plainFor_of_name pn_36) hisR ?_
  intro p e s m args below meth c s₁ Bd hml0 hP hK
  obtain ⟨rfl, hZ, hh⟩ := hP
  have hx := Bd.exec
  have hby := Bd.bytes
  have hml : c.maxLocals = 3 := hml0
  have hown : s.vm.findClass "jdk/internal/util/Preconditions" = some m.cls := findClass_of_methodNamed Bd.named
  have hnm := (name_of_methodNamed Bd.named Bd.method).1
  have X0 : Stand p l e ({ frames := 0, cells := 0, slots := 0, locals := 0 } : Room) s m #[(.int p1), (.int p2), (.ref a3)] below meth c s₁ [] 0 0 := Stand.of_body Bd
  have e0 : s₁.heap = h0 := by rw [← hh, Bd.state]; rfl
  have N0 := Fr.nil n0
  have pre0 : ∀ t, Steps p.tables e below (s₁.setTop (mkF m 0 #[.val (.int p1), .val (.int p2), .val (.ref a3)] [])) t → Steps p.tables e below (s₁.setTop (entryFrame m #[(.int p1), (.int p2), (.ref a3)] 3)) t := fun t k => castTop (ef_36_IIR m p1 p2 a3) k
  obtain ⟨fs, hr, hrun, hended, hW, hsame⟩ := X0.leave (v := some (.int p1)) (fun h => by rw [Bd.returns] at h; cases h)
  refine ⟨_, _, pre0 _ ?_, hrun, hended, _, _, rfl, ?_, ⟨_, rfl⟩, hW, hsame.mono (by decide) (by decide)⟩
  · show St p e below s₁ (mkF m 0 #[.val (.int p1), .val (.int p2), .val (.ref a3)] []) _
    refine XS.iloadN X0.here hx rfl (hb hby d36_0) rfl ?_
    refine XS.ifNo X0.here hx rfl (hb hby d36_1) rfl ((if0 _ _).trans (flt hj0).1) ?_
    refine XS.iloadN X0.here hx rfl (hb hby d36_4) rfl ?_
    refine XS.iloadN X0.here hx rfl (hb hby d36_5) rfl ?_
    show St p e below s₁ (mkF m 6 #[.val (.int p1), .val (.int p2), .val (.ref a3)] [(.int p2), (.int p1)]) _
    refine XS.icmpYes X0.here hx rfl (pc0 := 6) (pc' := 16) rfl (hb hby d36_6) rfl (tlt hj1).1 (by decide) (by decide) ?_
    refine XS.iloadN X0.here hx rfl (hb hby d36_16) rfl ?_
    show St p e below s₁ (mkF m 17 #[.val (.int p1), .val (.int p2), .val (.ref a3)] [(.int p1)]) _
    exact retI X0 hx Bd.returns (hb hby d36_17) hr
  · show Q_pchk_ref Z p1 p2 a3 h0 n0 _ s₁.heap _
    rw [e0]
    exact ⟨rfl, N0, rfl⟩
theorem pd_IILjava_util_function_BiFunction__I_319 : parseMethodDescriptor "(IILjava/util/function/BiFunction;)I" = some ⟨[.int, .int, (.object "java/util/function/BiFunction")], some .int⟩ := by decide +kernel
theorem d35_0 : decode jdk_42_method_155_code 0 = .ok (.iload_n 0, 1) := by decide +kernel
theorem d35_1 : decode jdk_42_method_155_code 1 = .ok (.iload_n 1, 1) := by decide +kernel
theorem d35_2 : decode jdk_42_method_155_code 2 = .ok (.getstatic 1053, 3) := by decide +kernel
theorem d35_5 : decode jdk_42_method_155_code 5 = .ok (.invokestatic 1059, 3) := by decide +kernel
theorem d35_8 : decode jdk_42_method_155_code 8 = .ok (.pop, 1) := by decide +kernel
theorem d35_9 : decode jdk_42_method_155_code 9 = .ok (.return_, 1) := by decide +kernel
theorem pn_35 : plainName "java/lang/String" = true := by first | (simp [plainName, overriddenIn]; done) | decide +kernel
theorem ef_35_II (m : MethodId) (x0 : Int32) (x1 : Int32) : entryFrame m #[(.int x0), (.int x1)] 2 = mkF m 0 #[.val (.int x0), .val (.int x1)] [] := by first | (simp [entryFrame, mkF, argsToLocals, Value.category]; done) | rfl
def Q_pure (r : Option Value) (h0 : Heap) (n0 : Nat) (v : Option Value) (h : Heap) (L : List Loc) : Prop := v = r ∧ Fr n0 L ∧ h = h0
set_option maxRecDepth 65536 in
set_option maxHeartbeats 40000000 in
theorem rm_schk_ref (l : Launch) (Z : State) (a0 : Array Value) (hw : ∀ d ∈ tables_1, d.before a0 Z = true) (ws : List Jvm.Cond) (p1 : Int32) (p2 : Int32) (fa : Addr) (h0 : Heap) (n0 : Nat) (Z0 : n0 ≤ h0.size) (hj0 : ¬ (p1 < (0 : Int32))) (hj1 : p1 < p2) (S_SIOOBE_FORMATTER : Sta Z Z.heap "jdk/internal/util/Preconditions" "SIOOBE_FORMATTER" "Ljava/util/function/BiFunction;" (.ref fa)) (O0 : Old Z n0 h0) :
    MetFree l (⟨"java/lang/String", "checkIndex", "(II)V"⟩ : MethodName) (head1 (Jvm.Cond.code (⟨"java/lang/String", "checkIndex", "(II)V"⟩ : MethodName) jdk_42_method_155_code 2 none :: ws) ({ frames := 1, cells := 0, slots := 0, locals := 14 } : Room)) (fun a U => a = #[(.int p1), (.int p2)] ∧ Z.Warmed39 U.vm ∧ U.heap = h0) (fun _ _ _ _ _ => True) (fun _ U o U' => ∃ v L, o = .returned v ∧ Q_pure none h0 n0 v U'.heap L ∧ FrameEnd U o U' L ({ frames := 1, cells := 0, slots := 0, locals := 14 } : Room).cells ({ frames := 1, cells := 0, slots := 0, locals := 14 } : Room).slots) := by
  refine MetFree.of_bodySF (plainFor_of_name pn_35) hisR ?_
  intro p e s m args below meth c s₁ Bd hml0 hP hK
  obtain ⟨rfl, hZ, hh⟩ := hP
  have hx := Bd.exec
  have hby := Bd.bytes
  have hml : c.maxLocals = 2 := hml0
  have hown : s.vm.findClass "java/lang/String" = some m.cls := findClass_of_methodNamed Bd.named
  have hnm := (name_of_methodNamed Bd.named Bd.method).1
  have X0 : Stand p l e ({ frames := 1, cells := 0, slots := 0, locals := 14 } : Room) s m #[(.int p1), (.int p2)] below meth c s₁ [] 0 0 := Stand.of_body Bd
  have e0 : s₁.heap = h0 := by rw [← hh, Bd.state]; rfl
  have N0 := Fr.nil n0
  have pre0 : ∀ t, Steps p.tables e below (s₁.setTop (mkF m 0 #[.val (.int p1), .val (.int p2)] [])) t → Steps p.tables e below (s₁.setTop (entryFrame m #[(.int p1), (.int p2)] 2)) t := fun t k => castTop (ef_35_II m p1 p2) k
  obtain ⟨T1, X1, e1, st1⟩ := getS2 X0 hx hZ hown (host := "") (Or.inl (hwi hw 191 rfl)) Via.refl e0 (S_SIOOBE_FORMATTER.ext O0.2) (g := (mkF m 2 #[.val (.int p1), .val (.int p2)] [(.int p2), (.int p1)])) rfl (hb hby d35_2)
  obtain ⟨_, _, ⟨T2, L2, k2, n2⟩, -, X2, ⟨Lc2, hQ2, l2, y2, z2⟩, st2⟩ := Jvm.LawKit.callS X1 hx (y := (⟨"jdk/internal/util/Preconditions", "checkIndex", "(IILjava/util/function/BiFunction;)I"⟩ : MethodName)) hown (mvT hZ (hwi hw 193 rfl)) (mvT hZ (hwi hw 194 rfl)) (mvT hZ (hwi hw 192 rfl)) (mvT hZ (hwi hw 195 rfl)) (by decide) (backOf (W := 0) (rm_pchk_ref l Z a0 hw [] p1 p2 fa h0 n0 Z0 hj0 hj1) hZ (hwi hw 195 rfl) (hwi hw 192 rfl) (by decide) (by decide)) (g := (mkF m 5 #[.val (.int p1), .val (.int p2)] [(.ref fa), (.int p2), (.int p1)])) rfl (by rw [hml]; rfl) (argsL := [(.int p1), (.int p2), (.ref fa)]) (rest := []) (lenOf pd_IILjava_util_function_BiFunction__I_319 rfl) rfl (by show 2 * 0 + _ ≤ _; exact Nat.le_of_eq rfl) (hb hby d35_5) (fun _ _ => ⟨rfl, e1, (by decide : 0 + 0 ≤ _), (by decide : 0 + 0 ≤ _)⟩)
  dsimp only [Pt.U, Pt.locs, Pt.cells, Pt.slots] at X2 l2 y2 z2 st2 hQ2
  subst l2 y2 z2
  obtain ⟨rfl, N2q, e2⟩ := hQ2
  have N2 := Fr.app N0 N2q
  obtain ⟨fs, hr, hrun, hended, hW, hsame⟩ := X2.leave (v := none) (fun _ => rfl)
  refine ⟨_, _, pre0 _ ?_, hrun, hended, _, _, rfl, ?_, ⟨_, rfl⟩, hW, hsame.mono (by decide) (by decide)⟩
  · show St p e below s₁ (mkF m 0 #[.val (.int p1), .val (.int p2)] []) _
    refine XS.iloadN X0.here hx rfl (hb hby d35_0) rfl ?_
    refine XS.iloadN X0.here hx rfl (hb hby d35_1) rfl ?_
    refine st1 _ ?_
    refine st2 _ ?_
    show St p e below T2 (mkF m 8 #[.val (.int p1), .val (.int p2)] [(.int p1)]) _
    refine XS.pop X2.here hx rfl (hb hby d35_8) rfl rfl ?_
    show St p e below T2 (mkF m 9 #[.val (.int p1), .val (.int p2)] []) _
    exact X2.returnOut hx Bd.returns (hb hby d35_9) hr
  · show Q_pure none h0 n0 _ T2.heap _
    rw [e2]
    exact ⟨rfl, N2, rfl⟩
theorem ef_36_IIn (m : MethodId) (x0 : Int32) (x1 : Int32) : entryFrame m #[(.int x0), (.int x1), .null] 3 = mkF m 0 #[.val (.int x0), .val (.int x1), .val .null] [] := by first | (simp [entryFrame, mkF, argsToLocals, Value.category]; done) | rfl
def Q_pchk_null (Z : State) (p1 : Int32) (p2 : Int32) (h0 : Heap) (n0 : Nat) (v : Option Value) (h : Heap) (L : List Loc) : Prop := v = some (.int p1) ∧ Fr n0 L ∧ h = h0
set_option maxRecDepth 65536 in
set_option maxHeartbeats 40000000 in
theorem rm_pchk_null (l : Launch) (Z : State) (a0 : Array Value) (hw : ∀ d ∈ tables_1, d.before a0 Z = true) (ws : List Jvm.Cond) (p1 : Int32) (p2 : Int32) (h0 : Heap) (n0 : Nat) (Z0 : n0 ≤ h0.size) (hj0 : ¬ (p1 < (0 : Int32))) (hj1 : p1 < p2) :
    MetFree l (⟨"jdk/internal/util/Preconditions", "checkIndex", "(IILjava/util/function/BiFunction;)I"⟩ : MethodName) (head1 (Jvm.Cond.code (⟨"jdk/internal/util/Preconditions", "checkIndex", "(IILjava/util/function/BiFunction;)I"⟩ : MethodName) jdk_41_method_11_code 3 (some .int) :: ws) ({ frames := 0, cells := 0, slots := 0, locals := 0 } : Room)) (fun a U => a = #[(.int p1), (.int p2), .null] ∧ Z.Warmed39 U.vm ∧ U.heap = h0) (fun _ _ _ _ _ => True) (fun _ U o U' => ∃ v L, o = .returned v ∧ Q_pchk_null Z p1 p2 h0 n0 v U'.heap L ∧ FrameEnd U o U' L ({ frames := 0, cells := 0, slots := 0, locals := 0 } : Room).cells ({ frames := 0, cells := 0, slots := 0, locals := 0 } : Room).slots) := by
  refine MetFree.of_bodySF (plainFor_of_name pn_36) hisR ?_
  intro p e s m args below meth c s₁ Bd hml0 hP hK
  obtain ⟨rfl, hZ, hh⟩ := hP
  have hx := Bd.exec
  have hby := Bd.bytes
  have hml : c.maxLocals = 3 := hml0
  have hown : s.vm.findClass "jdk/internal/util/Preconditions" = some m.cls := findClass_of_methodNamed Bd.named
  have hnm := (name_of_methodNamed Bd.named Bd.method).1
  have X0 : Stand p l e ({ frames := 0, cells := 0, slots := 0, locals := 0 } : Room) s m #[(.int p1), (.int p2), .null] below meth c s₁ [] 0 0 := Stand.of_body Bd
  have e0 : s₁.heap = h0 := by rw [← hh, Bd.state]; rfl
  have N0 := Fr.nil n0
  have pre0 : ∀ t, Steps p.tables e below (s₁.setTop (mkF m 0 #[.val (.int p1), .val (.int p2), .val .null] [])) t → Steps p.tables e below (s₁.setTop (entryFrame m #[(.int p1), (.int p2), .null] 3)) t := fun t k => castTop (ef_36_IIn m p1 p2) k
  obtain ⟨fs, hr, hrun, hended, hW, hsame⟩ := X0.leave (v := some (.int p1)) (fun h => by rw [Bd.returns] at h; cases h)
  refine ⟨_, _, pre0 _ ?_, hrun, hended, _, _, rfl, ?_, ⟨_, rfl⟩, hW, hsame.mono (by decide) (by decide)⟩
  · show St p e below s₁ (mkF m 0 #[.val (.int p1), .val (.int p2), .val .null] []) _
    refine XS.iloadN X0.here hx rfl (hb hby d36_0) rfl ?_
    refine XS.ifNo X0.here hx rfl (hb hby d36_1) rfl ((if0 _ _).trans (flt hj0).1) ?_
    refine XS.iloadN X0.here hx rfl (hb hby d36_4) rfl ?_
    refine XS.iloadN X0.here hx rfl (hb hby d36_5) rfl ?_
    show St p e below s₁ (mkF m 6 #[.val (.int p1), .val (.int p2), .val .null] [(.int p2), (.int p1)]) _
    refine XS.icmpYes X0.here hx rfl (pc0 := 6) (pc' := 16) rfl (hb hby d36_6) rfl (tlt hj1).1 (by decide) (by decide) ?_
    refine XS.iloadN X0.here hx rfl (hb hby d36_16) rfl ?_
    show St p e below s₁ (mkF m 17 #[.val (.int p1), .val (.int p2), .val .null] [(.int p1)]) _
    exact retI X0 hx Bd.returns (hb hby d36_17) hr
  · show Q_pchk_null Z p1 p2 h0 n0 _ s₁.heap _
    rw [e0]
    exact ⟨rfl, N0, rfl⟩
set_option maxRecDepth 65536 in
set_option maxHeartbeats 40000000 in
theorem rm_schk_null (l : Launch) (Z : State) (a0 : Array Value) (hw : ∀ d ∈ tables_1, d.before a0 Z = true) (ws : List Jvm.Cond) (p1 : Int32) (p2 : Int32) (h0 : Heap) (n0 : Nat) (Z0 : n0 ≤ h0.size) (hj0 : ¬ (p1 < (0 : Int32))) (hj1 : p1 < p2) (S_SIOOBE_FORMATTER : Sta Z Z.heap "jdk/internal/util/Preconditions" "SIOOBE_FORMATTER" "Ljava/util/function/BiFunction;" .null) (O0 : Old Z n0 h0) :
    MetFree l (⟨"java/lang/String", "checkIndex", "(II)V"⟩ : MethodName) (head1 (Jvm.Cond.code (⟨"java/lang/String", "checkIndex", "(II)V"⟩ : MethodName) jdk_42_method_155_code 2 none :: ws) ({ frames := 1, cells := 0, slots := 0, locals := 14 } : Room)) (fun a U => a = #[(.int p1), (.int p2)] ∧ Z.Warmed39 U.vm ∧ U.heap = h0) (fun _ _ _ _ _ => True) (fun _ U o U' => ∃ v L, o = .returned v ∧ Q_pure none h0 n0 v U'.heap L ∧ FrameEnd U o U' L ({ frames := 1, cells := 0, slots := 0, locals := 14 } : Room).cells ({ frames := 1, cells := 0, slots := 0, locals := 14 } : Room).slots) := by
  refine MetFree.of_bodySF (plainFor_of_name pn_35) hisR ?_
  intro p e s m args below meth c s₁ Bd hml0 hP hK
  obtain ⟨rfl, hZ, hh⟩ := hP
  have hx := Bd.exec
  have hby := Bd.bytes
  have hml : c.maxLocals = 2 := hml0
  have hown : s.vm.findClass "java/lang/String" = some m.cls := findClass_of_methodNamed Bd.named
  have hnm := (name_of_methodNamed Bd.named Bd.method).1
  have X0 : Stand p l e ({ frames := 1, cells := 0, slots := 0, locals := 14 } : Room) s m #[(.int p1), (.int p2)] below meth c s₁ [] 0 0 := Stand.of_body Bd
  have e0 : s₁.heap = h0 := by rw [← hh, Bd.state]; rfl
  have N0 := Fr.nil n0
  have pre0 : ∀ t, Steps p.tables e below (s₁.setTop (mkF m 0 #[.val (.int p1), .val (.int p2)] [])) t → Steps p.tables e below (s₁.setTop (entryFrame m #[(.int p1), (.int p2)] 2)) t := fun t k => castTop (ef_35_II m p1 p2) k
  obtain ⟨T1, X1, e1, st1⟩ := getS2 X0 hx hZ hown (host := "") (Or.inl (hwi hw 191 rfl)) Via.refl e0 (S_SIOOBE_FORMATTER.ext O0.2) (g := (mkF m 2 #[.val (.int p1), .val (.int p2)] [(.int p2), (.int p1)])) rfl (hb hby d35_2)
  obtain ⟨_, _, ⟨T2, L2, k2, n2⟩, -, X2, ⟨Lc2, hQ2, l2, y2, z2⟩, st2⟩ := Jvm.LawKit.callS X1 hx (y := (⟨"jdk/internal/util/Preconditions", "checkIndex", "(IILjava/util/function/BiFunction;)I"⟩ : MethodName)) hown (mvT hZ (hwi hw 193 rfl)) (mvT hZ (hwi hw 194 rfl)) (mvT hZ (hwi hw 192 rfl)) (mvT hZ (hwi hw 195 rfl)) (by decide) (backOf (W := 0) (rm_pchk_null l Z a0 hw [] p1 p2 h0 n0 Z0 hj0 hj1) hZ (hwi hw 195 rfl) (hwi hw 192 rfl) (by decide) (by decide)) (g := (mkF m 5 #[.val (.int p1), .val (.int p2)] [.null, (.int p2), (.int p1)])) rfl (by rw [hml]; rfl) (argsL := [(.int p1), (.int p2), .null]) (rest := []) (lenOf pd_IILjava_util_function_BiFunction__I_319 rfl) rfl (by show 2 * 0 + _ ≤ _; exact Nat.le_of_eq rfl) (hb hby d35_5) (fun _ _ => ⟨rfl, e1, (by decide : 0 + 0 ≤ _), (by decide : 0 + 0 ≤ _)⟩)
  dsimp only [Pt.U, Pt.locs, Pt.cells, Pt.slots] at X2 l2 y2 z2 st2 hQ2
  subst l2 y2 z2
  obtain ⟨rfl, N2q, e2⟩ := hQ2
  have N2 := Fr.app N0 N2q
  obtain ⟨fs, hr, hrun, hended, hW, hsame⟩ := X2.leave (v := none) (fun _ => rfl)
  refine ⟨_, _, pre0 _ ?_, hrun, hended, _, _, rfl, ?_, ⟨_, rfl⟩, hW, hsame.mono (by decide) (by decide)⟩
  · show St p e below s₁ (mkF m 0 #[.val (.int p1), .val (.int p2)] []) _
    refine XS.iloadN X0.here hx rfl (hb hby d35_0) rfl ?_
    refine XS.iloadN X0.here hx rfl (hb hby d35_1) rfl ?_
    refine st1 _ ?_
    refine st2 _ ?_
    show St p e below T2 (mkF m 8 #[.val (.int p1), .val (.int p2)] [(.int p1)]) _
    refine XS.pop X2.here hx rfl (hb hby d35_8) rfl rfl ?_
    show St p e below T2 (mkF m 9 #[.val (.int p1), .val (.int p2)] []) _
    exact X2.returnOut hx Bd.returns (hb hby d35_9) hr
  · show Q_pure none h0 n0 _ T2.heap _
    rw [e2]
    exact ⟨rfl, N2, rfl⟩
theorem rm_schk (l : Launch) (Z : State) (a0 : Array Value) (hw : ∀ d ∈ tables_1, d.before a0 Z = true) (ws : List Jvm.Cond) (p1 : Int32) (p2 : Int32) (w_SIOOBE_FORMATTER : Value) (h0 : Heap) (n0 : Nat) (Z0 : n0 ≤ h0.size) (hj0 : ¬ (p1 < (0 : Int32))) (hj1 : p1 < p2) (O0 : Old Z n0 h0) (S_SIOOBE_FORMATTER : Sta Z Z.heap "jdk/internal/util/Preconditions" "SIOOBE_FORMATTER" "Ljava/util/function/BiFunction;" w_SIOOBE_FORMATTER) (hr_SIOOBE_FORMATTER : w_SIOOBE_FORMATTER.isRef = true) :
    MetFree l (⟨"java/lang/String", "checkIndex", "(II)V"⟩ : MethodName) (head1 (Jvm.Cond.code (⟨"java/lang/String", "checkIndex", "(II)V"⟩ : MethodName) jdk_42_method_155_code 2 none :: ws) ({ frames := 1, cells := 0, slots := 0, locals := 14 } : Room)) (fun a U => a = #[(.int p1), (.int p2)] ∧ Z.Warmed39 U.vm ∧ U.heap = h0) (fun _ _ _ _ _ => True) (fun _ U o U' => ∃ v L, o = .returned v ∧ Q_pure none h0 n0 v U'.heap L ∧ FrameEnd U o U' L ({ frames := 1, cells := 0, slots := 0, locals := 14 } : Room).cells ({ frames := 1, cells := 0, slots := 0, locals := 14 } : Room).slots) := by
  rcases ref_cases hr_SIOOBE_FORMATTER with rfl | ⟨fa, rfl⟩
  · exact rm_schk_null l Z a0 hw ws p1 p2 h0 n0 Z0 hj0 hj1 S_SIOOBE_FORMATTER O0
  · exact rm_schk_ref l Z a0 hw ws p1 p2 fa h0 n0 Z0 hj0 hj1 S_SIOOBE_FORMATTER O0
theorem pd_II_V_313 : parseMethodDescriptor "(II)V" = some ⟨[.int, .int], none⟩ := by decide +kernel
theorem d34_0 : decode jdk_43_method_2_code 0 = .ok (.iload_n 1, 1) := by decide +kernel
theorem d34_1 : decode jdk_43_method_2_code 1 = .ok (.aload_n 0, 1) := by decide +kernel
theorem d34_2 : decode jdk_43_method_2_code 2 = .ok (.arraylength, 1) := by decide +kernel
theorem d34_3 : decode jdk_43_method_2_code 3 = .ok (.invokestatic 9, 3) := by decide +kernel
theorem d34_6 : decode jdk_43_method_2_code 6 = .ok (.aload_n 0, 1) := by decide +kernel
theorem d34_7 : decode jdk_43_method_2_code 7 = .ok (.iload_n 1, 1) := by decide +kernel
theorem d34_8 : decode jdk_43_method_2_code 8 = .ok (.baload, 1) := by decide +kernel
theorem d34_9 : decode jdk_43_method_2_code 9 = .ok (.sipush 255, 3) := by decide +kernel
theorem d34_12 : decode jdk_43_method_2_code 12 = .ok (.iand, 1) := by decide +kernel
theorem d34_13 : decode jdk_43_method_2_code 13 = .ok (.i2c, 1) := by decide +kernel
theorem d34_14 : decode jdk_43_method_2_code 14 = .ok (.ireturn, 1) := by decide +kernel
theorem pn_34 : plainName "java/lang/StringLatin1" = true := by first | (simp [plainName, overriddenIn]; done) | decide +kernel
theorem ef_34_RI (m : MethodId) (x0 : Addr) (x1 : Int32) : entryFrame m #[(.ref x0), (.int x1)] 2 = mkF m 0 #[.val (.ref x0), .val (.int x1)] [] := by first | (simp [entryFrame, mkF, argsToLocals, Value.category]; done) | rfl
def Q_l1chr (Z : State) (a1 : Addr) (p2 : Int32) (k_a1 : ClassId) (vs : List Value) (N : Int32) (xb : Int32) (ch : Int32) (w_SIOOBE_FORMATTER : Value) (h0 : Heap) (n0 : Nat) (v : Option Value) (h : Heap) (L : List Loc) : Prop := v = some (.int ch) ∧ Fr n0 L ∧ h = h0
set_option maxRecDepth 65536 in
set_option maxHeartbeats 40000000 in
theorem rm_l1chr (l : Launch) (Z : State) (a0 : Array Value) (hw : ∀ d ∈ tables_1, d.before a0 Z = true) (ws : List Jvm.Cond) (a1 : Addr) (p2 : Int32) (k_a1 : ClassId) (vs : List Value) (N : Int32) (xb : Int32) (ch : Int32) (w_SIOOBE_FORMATTER : Value) (h0 : Heap) (n0 : Nat) (Z0 : n0 ≤ h0.size) (V_a1 : Arv Z h0 a1 k_a1 .byte N vs (.int 0)) (hj0 : ¬ (p2 < (0 : Int32))) (hj1 : p2 < N) (hxb : (vs).getD p2.toNatClampNeg (.int 0) = .int xb) (O0 : Old Z n0 h0) (hr_SIOOBE_FORMATTER : w_SIOOBE_FORMATTER.isRef = true) (S_SIOOBE_FORMATTER : Sta Z Z.heap "jdk/internal/util/Preconditions" "SIOOBE_FORMATTER" "Ljava/util/function/BiFunction;" w_SIOOBE_FORMATTER) (hch : ((xb &&& (255 : Int32)).toUInt32.toUInt16.toUInt32.toInt32) = ch) (hcn : (ch.toUInt32.toUInt16.toUInt32.toInt32) = ch) :
    MetFree l (⟨"java/lang/StringLatin1", "charAt", "([BI)C"⟩ : MethodName) (head1 (Jvm.Cond.code (⟨"java/lang/StringLatin1", "charAt", "([BI)C"⟩ : MethodName) jdk_43_method_2_code 2 (some .char) :: ws) ({ frames := 2, cells := 0, slots := 0, locals := 27 } : Room)) (fun a U => a = #[(.ref a1), (.int p2)] ∧ Z.Warmed39 U.vm ∧ U.heap = h0) (fun _ _ _ _ _ => True) (fun _ U o U' => ∃ v L, o = .returned v ∧ Q_l1chr Z a1 p2 k_a1 vs N xb ch w_SIOOBE_FORMATTER h0 n0 v U'.heap L ∧ FrameEnd U o U' L ({ frames := 2, cells := 0, slots := 0, locals := 27 } : Room).cells ({ frames := 2, cells := 0, slots := 0, locals := 27 } : Room).slots) := by
  refine MetFree.of_bodySF (plainFor_of_name pn_34) hisR ?_
  intro p e s m args below meth c s₁ Bd hml0 hP hK
  obtain ⟨rfl, hZ, hh⟩ := hP
  have hx := Bd.exec
  have hby := Bd.bytes
  have hml : c.maxLocals = 2 := hml0
  have hown : s.vm.findClass "java/lang/StringLatin1" = some m.cls := findClass_of_methodNamed Bd.named
  have hnm := (name_of_methodNamed Bd.named Bd.method).1
  have X0 : Stand p l e ({ frames := 2, cells := 0, slots := 0, locals := 27 } : Room) s m #[(.ref a1), (.int p2)] below meth c s₁ [] 0 0 := Stand.of_body Bd
  have e0 : s₁.heap = h0 := by rw [← hh, Bd.state]; rfl
  have N0 := Fr.nil n0
  have pre0 : ∀ t, Steps p.tables e below (s₁.setTop (mkF m 0 #[.val (.ref a1), .val (.int p2)] [])) t → Steps p.tables e below (s₁.setTop (entryFrame m #[(.ref a1), (.int p2)] 2)) t := fun t k => castTop (ef_34_RI m a1 p2) k
  obtain ⟨cl1, Ar1, -, S1, M1, -, -⟩ := id V_a1
  obtain ⟨_, _, ⟨T2, L2, k2, n2⟩, -, X2, ⟨Lc2, hQ2, l2, y2, z2⟩, st2⟩ := Jvm.LawKit.callS X0 hx (y := (⟨"java/lang/String", "checkIndex", "(II)V"⟩ : MethodName)) hown (mvT hZ (hwi hw 188 rfl)) (mvT hZ (hwi hw 189 rfl)) (mvT hZ (hwi hw 3 rfl)) (mvT hZ (hwi hw 190 rfl)) (by decide) (backOf (W := 0) (rm_schk l Z a0 hw [] p2 N w_SIOOBE_FORMATTER h0 n0 Z0 hj0 hj1 O0 S_SIOOBE_FORMATTER hr_SIOOBE_FORMATTER) hZ (hwi hw 190 rfl) (hwi hw 3 rfl) (by decide) (by decide)) (g := (mkF m 3 #[.val (.ref a1), .val (.int p2)] [(.int N), (.int p2)])) rfl (by rw [hml]; rfl) (argsL := [(.int p2), (.int N)]) (rest := []) (lenOf pd_II_V_313 rfl) rfl (by show 2 * 0 + _ ≤ _; exact Nat.le_of_eq rfl) (hb hby d34_3) (fun _ _ => ⟨rfl, e0, (by decide : 0 + 0 ≤ _), (by decide : 0 + 0 ≤ _)⟩)
  dsimp only [Pt.U, Pt.locs, Pt.cells, Pt.slots] at X2 l2 y2 z2 st2 hQ2
  subst l2 y2 z2
  obtain ⟨rfl, N2q, e2⟩ := hQ2
  have N2 := Fr.app N0 N2q
  obtain ⟨cl3, Ar3, q3, S3, M3, H3, G3⟩ := id V_a1
  have hin3 : ¬ (p2 < 0 ∨ cl3.slots.size ≤ (p2).toNatClampNeg) := inb_of S3 ⟨hj0, hj1⟩
  have hat3 : cl3.slots[(p2).toNatClampNeg]? = some (.int xb) := H3.at hin3 hxb
  obtain ⟨fs, hr, hrun, hended, hW, hsame⟩ := X2.leave (v := some (.int (ch.toUInt32.toUInt16.toUInt32.toInt32))) (fun h => by rw [Bd.returns] at h; cases h)
  refine ⟨_, _, pre0 _ ?_, hrun, hended, _, _, rfl, ?_, ⟨_, rfl⟩, hW, hsame.mono (by decide) (by decide)⟩
  · show St p e below s₁ (mkF m 0 #[.val (.ref a1), .val (.int p2)] []) _
    refine XS.iloadN X0.here hx rfl (hb hby d34_0) rfl ?_
    refine XS.aloadN X0.here hx rfl (hb hby d34_1) rfl rfl ?_
    refine X0.arraylength hx (by rw [e0]; exact Ar1.1) (State.isArrayOf_alike hZ.alike Ar1.2.1) (g := (mkF m 2 #[.val (.ref a1), .val (.int p2)] [(.ref a1), (.int p2)])) rfl rfl (hb hby d34_2) _ ?_
    rw [len_of S1 M1]
    show St p e below s₁ (mkF m 3 #[.val (.ref a1), .val (.int p2)] [(.int N), (.int p2)]) _
    refine st2 _ ?_
    refine XS.aloadN X2.here hx rfl (hb hby d34_6) rfl rfl ?_
    refine XS.iloadN X2.here hx rfl (hb hby d34_7) rfl ?_
    refine X2.baloadBytes hx (j := p2) (v := (.int xb)) (by rw [e2]; exact Ar3.1) (State.isArrayOf_alike hZ.alike Ar3.2.1) Ar3.2.2 hin3 hat3 (g := (mkF m 8 #[.val (.ref a1), .val (.int p2)] [(.int p2), (.ref a1)])) rfl rfl (hb hby d34_8) _ ?_
    show St p e below T2 (mkF m 9 #[.val (.ref a1), .val (.int p2)] [(.int xb)]) _
    refine XS.sipush X2.here hx rfl (hb hby d34_9) ?_
    refine XS.iand X2.here hx rfl (hb hby d34_12) rfl ?_
    refine XS.i2c X2.here hx rfl (hb hby d34_13) rfl ?_
    show St p e below T2 (mkF m 14 #[.val (.ref a1), .val (.int p2)] [(.int ((xb &&& (255 : Int32)).toUInt32.toUInt16.toUInt32.toInt32))]) _
    rw [hch]
    show St p e below T2 (mkF m 14 #[.val (.ref a1), .val (.int p2)] [(.int ch)]) _
    exact retN X2 hx (t := .char) Bd.returns (by simp) (hb hby d34_14) hr
  · show Q_l1chr Z a1 p2 k_a1 vs N xb ch w_SIOOBE_FORMATTER h0 n0 _ T2.heap _
    rw [e2]
    exact ⟨by rw [hcn], N2, rfl⟩
theorem d33_0 : decode jdk_42_method_154_code 0 = .ok (.getstatic 38, 3) := by decide +kernel
theorem d33_3 : decode jdk_42_method_154_code 3 = .ok (.ifCond .eq 14, 3) := by decide +kernel
theorem d33_6 : decode jdk_42_method_154_code 6 = .ok (.aload_n 0, 1) := by decide +kernel
theorem d33_7 : decode jdk_42_method_154_code 7 = .ok (.getfield 15, 3) := by decide +kernel
theorem d33_10 : decode jdk_42_method_154_code 10 = .ok (.ifCond .ne 7, 3) := by decide +kernel
theorem d33_13 : decode jdk_42_method_154_code 13 = .ok (.iconst 1, 1) := by decide +kernel
theorem d33_14 : decode jdk_42_method_154_code 14 = .ok (.goto 4, 3) := by decide +kernel
theorem d33_18 : decode jdk_42_method_154_code 18 = .ok (.ireturn, 1) := by decide +kernel
theorem pn_33 : plainName "java/lang/String" = true := by first | (simp [plainName, overriddenIn]; done) | decide +kernel
theorem ef_33_R (m : MethodId) (x0 : Addr) : entryFrame m #[(.ref x0)] 1 = mkF m 0 #[.val (.ref x0)] [] := by first | (simp [entryFrame, mkF, argsToLocals, Value.category]; done) | rfl
def Q_islat (Z : State) (a1 : Addr) (w_COMPACT_STRINGS : Int32) (h0 : Heap) (n0 : Nat) (v : Option Value) (h : Heap) (L : List Loc) : Prop := v = some (.int 1) ∧ Fr n0 L ∧ h = h0
set_option maxRecDepth 65536 in
set_option maxHeartbeats 40000000 in
theorem rm_islat (l : Launch) (Z : State) (a0 : Array Value) (hw : ∀ d ∈ tables_1, d.before a0 Z = true) (ws : List Jvm.Cond) (a1 : Addr) (w_COMPACT_STRINGS : Int32) (h0 : Heap) (n0 : Nat) (Z0 : n0 ≤ h0.size) (S_COMPACT_STRINGS : Sta Z Z.heap "java/lang/String" "COMPACT_STRINGS" "Z" (.int w_COMPACT_STRINGS)) (hcs : ¬ (w_COMPACT_STRINGS = (0 : Int32))) (F_a1_coder : Fld Z h0 a1 "java/lang/String" "coder" "B" (.int 0)) (O0 : Old Z n0 h0) :
    MetFree l (⟨"java/lang/String", "isLatin1", "()Z"⟩ : MethodName) (head1 (Jvm.Cond.code (⟨"java/lang/String", "isLatin1", "()Z"⟩ : MethodName) jdk_42_method_154_code 1 (some .boolean) :: ws) ({ frames := 0, cells := 0, slots := 0, locals := 0 } : Room)) (fun a U => a = #[(.ref a1)] ∧ Z.Warmed39 U.vm ∧ U.heap = h0) (fun _ _ _ _ _ => True) (fun _ U o U' => ∃ v L, o = .returned v ∧ Q_islat Z a1 w_COMPACT_STRINGS h0 n0 v U'.heap L ∧ FrameEnd U o U' L ({ frames := 0, cells := 0, slots := 0, locals := 0 } : Room).cells ({ frames := 0, cells := 0, slots := 0, locals := 0 } : Room).slots) := by
  refine MetFree.of_bodySF (plainFor_of_name pn_33) hisR ?_
  intro p e s m args below meth c s₁ Bd hml0 hP hK
  obtain ⟨rfl, hZ, hh⟩ := hP
  have hx := Bd.exec
  have hby := Bd.bytes
  have hml : c.maxLocals = 1 := hml0
  have hown : s.vm.findClass "java/lang/String" = some m.cls := findClass_of_methodNamed Bd.named
  have hnm := (name_of_methodNamed Bd.named Bd.method).1
  have X0 : Stand p l e ({ frames := 0, cells := 0, slots := 0, locals := 0 } : Room) s m #[(.ref a1)] below meth c s₁ [] 0 0 := Stand.of_body Bd
  have e0 : s₁.heap = h0 := by rw [← hh, Bd.state]; rfl
  have N0 := Fr.nil n0
  have pre0 : ∀ t, Steps p.tables e below (s₁.setTop (mkF m 0 #[.val (.ref a1)] [])) t → Steps p.tables e below (s₁.setTop (entryFrame m #[(.ref a1)] 1)) t := fun t k => castTop (ef_33_R m a1) k
  obtain ⟨T1, X1, e1, st1⟩ := getS2 X0 hx hZ hown (host := "") (Or.inl (hwi hw 99 rfl)) Via.refl e0 (S_COMPACT_STRINGS.ext O0.2) (g := (mkF m 0 #[.val (.ref a1)] [])) rfl (hb hby d33_0)
  obtain ⟨T2, X2, e2, st2⟩ := getF X1 hx hZ hown (host := "") (Or.inl (hwi hw 21 rfl)) Via.refl e1 F_a1_coder (g := (mkF m 7 #[.val (.ref a1)] [(.ref a1)])) rfl rfl (hb hby d33_7)
  obtain ⟨fs, hr, hrun, hended, hW, hsame⟩ := X2.leave (v := some (.int 1)) (fun h => by rw [Bd.returns] at h; cases h)
  refine ⟨_, _, pre0 _ ?_, hrun, hended, _, _, rfl, ?_, ⟨_, rfl⟩, hW, hsame.mono (by decide) (by decide)⟩
  · show St p e below s₁ (mkF m 0 #[.val (.ref a1)] []) _
    refine st1 _ ?_
    refine XS.ifNo X1.here hx rfl (hb hby d33_3) rfl ((if0 _ _).trans (feq hcs).1) ?_
    refine XS.aloadN X1.here hx rfl (hb hby d33_6) rfl rfl ?_
    refine st2 _ ?_
    show St p e below T2 (mkF m 10 #[.val (.ref a1)] [(.int 0)]) _
    refine XS.ifNo X2.here hx rfl (hb hby d33_10) rfl ((if0 _ _).trans (teq (by decide : (0 : Int32) = (0 : Int32))).2) ?_
    refine XS.iconst X2.here hx rfl (hb hby d33_13) ?_
    refine XS.goto X2.here hx rfl (pc0 := 14) (pc' := 18) rfl (hb hby d33_14) (by decide) (by decide) ?_
    show St p e below T2 (mkF m 18 #[.val (.ref a1)] [(.int 1)]) _
    exact retN X2 hx (t := .boolean) Bd.returns (by simp) (hb hby d33_18) hr
  · show Q_islat Z a1 w_COMPACT_STRINGS h0 n0 _ T2.heap _
    rw [e2]
    exact ⟨rfl, N0, rfl⟩
theorem pd_Z_171 : parseMethodDescriptor "()Z" = some ⟨[], some .boolean⟩ := by decide +kernel
theorem pd_BI_C_378 : parseMethodDescriptor "([BI)C" = some ⟨[(.array .byte), .int], some .char⟩ := by decide +kernel
theorem d32_0 : decode jdk_42_method_56_code 0 = .ok (.aload_n 0, 1) := by decide +kernel
theorem d32_1 : decode jdk_42_method_56_code 1 = .ok (.invokevirtual 492, 3) := by decide +kernel
theorem d32_4 : decode jdk_42_method_56_code 4 = .ok (.ifCond .eq 12, 3) := by decide +kernel
theorem d32_7 : decode jdk_42_method_56_code 7 = .ok (.aload_n 0, 1) := by decide +kernel
theorem d32_8 : decode jdk_42_method_56_code 8 = .ok (.getfield 9, 3) := by decide +kernel
theorem d32_11 : decode jdk_42_method_56_code 11 = .ok (.iload_n 1, 1) := by decide +kernel
theorem d32_12 : decode jdk_42_method_56_code 12 = .ok (.invokestatic 495, 3) := by decide +kernel
theorem d32_15 : decode jdk_42_method_56_code 15 = .ok (.ireturn, 1) := by decide +kernel
theorem pn_32 : plainName "java/lang/String" = true := by first | (simp [plainName, overriddenIn]; done) | decide +kernel
theorem ef_32_RI (m : MethodId) (x0 : Addr) (x1 : Int32) : entryFrame m #[(.ref x0), (.int x1)] 2 = mkF m 0 #[.val (.ref x0), .val (.int x1)] [] := by first | (simp [entryFrame, mkF, argsToLocals, Value.category]; done) | rfl
def Q_schr (Z : State) (a1 : Addr) (p2 : Int32) (w_COMPACT_STRINGS : Int32) (t_a1 : Addr) (k_t_a1 : ClassId) (vs : List Value) (N : Int32) (xb : Int32) (ch : Int32) (w_SIOOBE_FORMATTER : Value) (h0 : Heap) (n0 : Nat) (v : Option Value) (h : Heap) (L : List Loc) : Prop := v = some (.int ch) ∧ Fr n0 L ∧ h = h0
set_option maxRecDepth 65536 in
set_option maxHeartbeats 40000000 in
theorem rm_schr (l : Launch) (Z : State) (a0 : Array Value) (hw : ∀ d ∈ tables_1, d.before a0 Z = true) (ws : List Jvm.Cond) (a1 : Addr) (p2 : Int32) (w_COMPACT_STRINGS : Int32) (t_a1 : Addr) (k_t_a1 : ClassId) (vs : List Value) (N : Int32) (xb : Int32) (ch : Int32) (w_SIOOBE_FORMATTER : Value) (h0 : Heap) (n0 : Nat) (Z0 : n0 ≤ h0.size) (S_COMPACT_STRINGS : Sta Z Z.heap "java/lang/String" "COMPACT_STRINGS" "Z" (.int w_COMPACT_STRINGS)) (hcs : ¬ (w_COMPACT_STRINGS = (0 : Int32))) (E_a1 : Exa Z h0 a1 "java/lang/String") (F_a1_coder : Fld Z h0 a1 "java/lang/String" "coder" "B" (.int 0)) (F_a1_value : Fld Z h0 a1 "java/lang/String" "value" "[B" (.ref t_a1)) (V_t_a1 : Arv Z h0 t_a1 k_t_a1 .byte N vs (.int 0)) (hj0 : ¬ (p2 < (0 : Int32))) (hj1 : p2 < N) (hxb : (vs).getD p2.toNatClampNeg (.int 0) = .int xb) (O0 : Old Z n0 h0) (hr_SIOOBE_FORMATTER : w_SIOOBE_FORMATTER.isRef = true) (S_SIOOBE_FORMATTER : Sta Z Z.heap "jdk/internal/util/Preconditions" "SIOOBE_FORMATTER" "Ljava/util/function/BiFunction;" w_SIOOBE_FORMATTER) (hch : ((xb &&& (255 : Int32)).toUInt32.toUInt16.toUInt32.toInt32) = ch) (hcn : (ch.toUInt32.toUInt16.toUInt32.toInt32) = ch) :
    MetFree l (⟨"java/lang/String", "charAt", "(I)C"⟩ : MethodName) (head1 (Jvm.Cond.code (⟨"java/lang/String", "charAt", "(I)C"⟩ : MethodName) jdk_42_method_56_code 2 (some .char) :: ws) ({ frames := 3, cells := 0, slots := 0, locals := 40 } : Room)) (fun a U => a = #[(.ref a1), (.int p2)] ∧ Z.Warmed39 U.vm ∧ U.heap = h0) (fun _ _ _ _ _ => True) (fun _ U o U' => ∃ v L, o = .returned v ∧ Q_schr Z a1 p2 w_COMPACT_STRINGS t_a1 k_t_a1 vs N xb ch w_SIOOBE_FORMATTER h0 n0 v U'.heap L ∧ FrameEnd U o U' L ({ frames := 3, cells := 0, slots := 0, locals := 40 } : Room).cells ({ frames := 3, cells := 0, slots := 0, locals := 40 } : Room).slots) := by
  refine MetFree.of_bodySF (plainFor_of_name pn_32) hisR ?_
  intro p e s m args below meth c s₁ Bd hml0 hP hK
  obtain ⟨rfl, hZ, hh⟩ := hP
  have hx := Bd.exec
  have hby := Bd.bytes
  have hml : c.maxLocals = 2 := hml0
  have hown : s.vm.findClass "java/lang/String" = some m.cls := findClass_of_methodNamed Bd.named
  have hnm := (name_of_methodNamed Bd.named Bd.method).1
  have X0 : Stand p l e ({ frames := 3, cells := 0, slots := 0, locals := 40 } : Room) s m #[(.ref a1), (.int p2)] below meth c s₁ [] 0 0 := Stand.of_body Bd
  have e0 : s₁.heap = h0 := by rw [← hh, Bd.state]; rfl
  have N0 := Fr.nil n0
  have pre0 : ∀ t, Steps p.tables e below (s₁.setTop (mkF m 0 #[.val (.ref a1), .val (.int p2)] [])) t → Steps p.tables e below (s₁.setTop (entryFrame m #[(.ref a1), (.int p2)] 2)) t := fun t k => castTop (ef_32_RI m a1 p2) k
  obtain ⟨cq1, kq1, q1a, q1b, q1c⟩ := isOf hZ e0 E_a1
  obtain ⟨_, _, ⟨T1, L1, k1, n1⟩, -, X1, ⟨Lc1, hQ1, l1, y1, z1⟩, st1⟩ := X0.virtualBack hx (y := (⟨"java/lang/String", "isLatin1", "()Z"⟩ : MethodName)) (z := (⟨"java/lang/String", "isLatin1", "()Z"⟩ : MethodName)) hown (mvT hZ (hwi hw 179 rfl)) (mvT hZ (hwi hw 180 rfl)) (notFace_of_selects (args := #[]) (mvT hZ (hwi hw 182 rfl))) (mvT hZ (hwi hw 182 rfl)) (mvT hZ (hwi hw 181 rfl)) (by decide) (backOf (W := 0) (rm_islat l Z a0 hw [] a1 w_COMPACT_STRINGS h0 n0 Z0 S_COMPACT_STRINGS hcs F_a1_coder O0) hZ (hwi hw 183 rfl) (hwi hw 3 rfl) (by decide) (by decide)) q1a q1c (g := (mkF m 1 #[.val (.ref a1), .val (.int p2)] [(.ref a1)])) rfl (by rw [hml]; rfl) (Steps.refl _) (argsL := []) (rest := []) (lenOf pd_Z_171 rfl) rfl (by show 2 * 0 + _ ≤ _; exact Nat.le_of_eq rfl) (hb hby d32_1) (fun _ _ => ⟨rfl, e0, (by decide : 0 + 0 ≤ _), (by decide : 0 + 0 ≤ _)⟩)
  dsimp only [Pt.U, Pt.locs, Pt.cells, Pt.slots] at X1 l1 y1 z1 st1 hQ1
  subst l1 y1 z1
  obtain ⟨rfl, N1q, e1⟩ := hQ1
  have N1 := Fr.app N0 N1q
  obtain ⟨T2, X2, e2, st2⟩ := getF X1 hx hZ hown (host := "") (Or.inl (hwi hw 20 rfl)) Via.refl e1 F_a1_value (g := (mkF m 8 #[.val (.ref a1), .val (.int p2)] [(.ref a1)])) rfl rfl (hb hby d32_8)
  obtain ⟨_, _, ⟨T3, L3, k3, n3⟩, -, X3, ⟨Lc3, hQ3, l3, y3, z3⟩, st3⟩ := Jvm.LawKit.callS X2 hx (y := (⟨"java/lang/StringLatin1", "charAt", "([BI)C"⟩ : MethodName)) hown (mvT hZ (hwi hw 184 rfl)) (mvT hZ (hwi hw 185 rfl)) (mvT hZ (hwi hw 186 rfl)) (mvT hZ (hwi hw 187 rfl)) (by decide) (backOf (W := 0) (rm_l1chr l Z a0 hw [] t_a1 p2 k_t_a1 vs N xb ch w_SIOOBE_FORMATTER h0 n0 Z0 V_t_a1 hj0 hj1 hxb O0 hr_SIOOBE_FORMATTER S_SIOOBE_FORMATTER hch hcn) hZ (hwi hw 187 rfl) (hwi hw 186 rfl) (by decide) (by decide)) (g := (mkF m 12 #[.val (.ref a1), .val (.int p2)] [(.int p2), (.ref t_a1)])) rfl (by rw [hml]; rfl) (argsL := [(.ref t_a1), (.int p2)]) (rest := []) (lenOf pd_BI_C_378 rfl) rfl (by show 2 * 0 + _ ≤ _; exact Nat.le_of_eq rfl) (hb hby d32_12) (fun _ _ => ⟨rfl, e2, (by decide : 0 + 0 ≤ _), (by decide : 0 + 0 ≤ _)⟩)
  dsimp only [Pt.U, Pt.locs, Pt.cells, Pt.slots] at X3 l3 y3 z3 st3 hQ3
  subst l3 y3 z3
  obtain ⟨rfl, N3q, e3⟩ := hQ3
  have N3 := Fr.app N1 N3q
  obtain ⟨fs, hr, hrun, hended, hW, hsame⟩ := X3.leave (v := some (.int (ch.toUInt32.toUInt16.toUInt32.toInt32))) (fun h => by rw [Bd.returns] at h; cases h)
  refine ⟨_, _, pre0 _ ?_, hrun, hended, _, _, rfl, ?_, ⟨_, rfl⟩, hW, hsame.mono (by decide) (by decide)⟩
  · show St p e below s₁ (mkF m 0 #[.val (.ref a1), .val (.int p2)] []) _
    refine XS.aloadN X0.here hx rfl (hb hby d32_0) rfl rfl ?_
    refine st1.trans ?_
    refine XS.ifNo X1.here hx rfl (hb hby d32_4) rfl ((if0 _ _).trans (feq (by decide : ¬ ((1 : Int32) = (0 : Int32)))).1) ?_
    refine XS.aloadN X1.here hx rfl (hb hby d32_7) rfl rfl ?_
    show St p e below T1 (mkF m 8 #[.val (.ref a1), .val (.int p2)] [(.ref a1)]) _
    refine st2 _ ?_
    refine XS.iloadN X2.here hx rfl (hb hby d32_11) rfl ?_
    refine st3 _ ?_
    show St p e below T3 (mkF m 15 #[.val (.ref a1), .val (.int p2)] [(.int ch)]) _
    exact retN X3 hx (t := .char) Bd.returns (by simp) (hb hby d32_15) hr
  · show Q_schr Z a1 p2 w_COMPACT_STRINGS t_a1 k_t_a1 vs N xb ch w_SIOOBE_FORMATTER h0 n0 _ T3.heap _
    rw [e3]
    exact ⟨by rw [hcn], N3, rfl⟩
theorem d12_0 : decode jdk_68_method_2_code 0 = .ok (.aload_n 0, 1) := by decide +kernel
theorem d12_1 : decode jdk_68_method_2_code 1 = .ok (.invokespecial 3, 3) := by decide +kernel
theorem d12_4 : decode jdk_68_method_2_code 4 = .ok (.getstatic 18, 3) := by decide +kernel
theorem d12_7 : decode jdk_68_method_2_code 7 = .ok (.ifCond .eq 18, 3) := by decide +kernel
theorem d12_10 : decode jdk_68_method_2_code 10 = .ok (.aload_n 0, 1) := by decide +kernel
theorem d12_11 : decode jdk_68_method_2_code 11 = .ok (.iload_n 1, 1) := by decide +kernel
theorem d12_12 : decode jdk_68_method_2_code 12 = .ok (.newarray .byte, 2) := by decide +kernel
theorem d12_14 : decode jdk_68_method_2_code 14 = .ok (.putfield 15, 3) := by decide +kernel
theorem d12_17 : decode jdk_68_method_2_code 17 = .ok (.aload_n 0, 1) := by decide +kernel
theorem d12_18 : decode jdk_68_method_2_code 18 = .ok (.iconst 0, 1) := by decide +kernel
theorem d12_19 : decode jdk_68_method_2_code 19 = .ok (.putfield 22, 3) := by decide +kernel
theorem d12_22 : decode jdk_68_method_2_code 22 = .ok (.goto 16, 3) := by decide +kernel
theorem d12_38 : decode jdk_68_method_2_code 38 = .ok (.return_, 1) := by decide +kernel
theorem pn_12 : plainName "java/lang/AbstractStringBuilder" = true := by first | (simp [plainName, overriddenIn]; done) | decide +kernel
theorem ef_12_RI (m : MethodId) (x0 : Addr) (x1 : Int32) : entryFrame m #[(.ref x0), (.int x1)] 2 = mkF m 0 #[.val (.ref x0), .val (.int x1)] [] := by first | (simp [entryFrame, mkF, argsToLocals, Value.category]; done) | rfl
def Q_abinit (Z : State) (a1 : Addr) (w_COMPACT_STRINGS : Int32) (u_a1_value : Value) (u_a1_coder : Value) (h0 : Heap) (n0 : Nat) (v : Option Value) (h : Heap) (L : List Loc) : Prop := ∃ (t : Addr) (kt : ClassId), v = none ∧ Fr n0 L ∧ Keep h0 h [a1] ∧ h0.size ≤ t ∧ Exa Z h a1 "java/lang/StringBuilder" ∧ Fld Z h a1 "java/lang/AbstractStringBuilder" "value" "[B" (.ref t) ∧ Fld Z h a1 "java/lang/AbstractStringBuilder" "coder" "B" (.int 0) ∧ Fld Z h a1 "java/lang/AbstractStringBuilder" "count" "I" (.int 0) ∧ Arv Z h t kt .byte (16 : Int32) [(.int 0), (.int 0), (.int 0), (.int 0), (.int 0), (.int 0), (.int 0), (.int 0), (.int 0), (.int 0), (.int 0), (.int 0), (.int 0), (.int 0), (.int 0), (.int 0)] (.int 0)
set_option maxRecDepth 65536 in
set_option maxHeartbeats 40000000 in
theorem rm_abinit (l : Launch) (Z : State) (a0 : Array Value) (hw : ∀ d ∈ tables_1, d.before a0 Z = true) (ws : List Jvm.Cond) (a1 : Addr) (w_COMPACT_STRINGS : Int32) (u_a1_value : Value) (u_a1_coder : Value) (h0 : Heap) (n0 : Nat) (Z0 : n0 ≤ h0.size) (S_COMPACT_STRINGS : Sta Z Z.heap "java/lang/String" "COMPACT_STRINGS" "Z" (.int w_COMPACT_STRINGS)) (hcs : ¬ (w_COMPACT_STRINGS = (0 : Int32))) (E_a1 : Exa Z h0 a1 "java/lang/StringBuilder") (F_a1_count : Fld Z h0 a1 "java/lang/AbstractStringBuilder" "count" "I" (.int 0)) (O0 : Old Z n0 h0) (F_a1_value : Fld Z h0 a1 "java/lang/AbstractStringBuilder" "value" "[B" u_a1_value) (g_a1 : n0 ≤ a1) (F_a1_coder : Fld Z h0 a1 "java/lang/AbstractStringBuilder" "coder" "B" u_a1_coder) :
    MetFree l (⟨"java/lang/AbstractStringBuilder", "<init>", "(I)V"⟩ : MethodName) (head1 (Jvm.Cond.code (⟨"java/lang/AbstractStringBuilder", "<init>", "(I)V"⟩ : MethodName) jdk_68_method_2_code 2 none :: ws) ({ frames := 1, cells := 1, slots := 16, locals := 12 } : Room)) (fun a U => a = #[(.ref a1), (.int 16)] ∧ Z.Warmed39 U.vm ∧ U.heap = h0) (fun _ _ _ _ _ => True) (fun _ U o U' => ∃ v L, o = .returned v ∧ Q_abinit Z a1 w_COMPACT_STRINGS u_a1_value u_a1_coder h0 n0 v U'.heap L ∧ FrameEnd U o U' L ({ frames := 1, cells := 1, slots := 16, locals := 12 } : Room).cells ({ frames := 1, cells := 1, slots := 16, locals := 12 } : Room).slots) := by
  refine MetFree.of_bodySF (plainFor_of_name pn_12) hisR ?_
  intro p e s m args below meth c s₁ Bd hml0 hP hK
  obtain ⟨rfl, hZ, hh⟩ := hP
  have hx := Bd.exec
  have hby := Bd.bytes
  have hml : c.maxLocals = 2 := hml0
  have hown : s.vm.findClass "java/lang/AbstractStringBuilder" = some m.cls := findClass_of_methodNamed Bd.named
  have hnm := (name_of_methodNamed Bd.named Bd.method).1
  have X0 : Stand p l e ({ frames := 1, cells := 1, slots := 16, locals := 12 } : Room) s m #[(.ref a1), (.int 16)] below meth c s₁ [] 0 0 := Stand.of_body Bd
  have e0 : s₁.heap = h0 := by rw [← hh, Bd.state]; rfl
  have N0 := Fr.nil n0
  have pre0 : ∀ t, Steps p.tables e below (s₁.setTop (mkF m 0 #[.val (.ref a1), .val (.int 16)] [])) t → Steps p.tables e below (s₁.setTop (entryFrame m #[(.ref a1), (.int 16)] 2)) t := fun t k => castTop (ef_12_RI m a1 (16 : Int32)) k
  obtain ⟨T1, X1, e1, st1⟩ := initO X0 hx hZ hown (hwi hw 72 rfl) (hwi hw 12 rfl) (hwi hw 13 rfl) e0 (g := (mkF m 1 #[.val (.ref a1), .val (.int 16)] [(.ref a1)])) rfl (by rw [hml]; rfl) rfl (hb hby d12_1) (by decide) (W := 0) (by show 2 * 0 + _ ≤ _; exact Nat.le_of_eq rfl) (by decide)
  obtain ⟨T2, X2, e2, st2⟩ := getS2 X1 hx hZ hown (host := "") (Or.inl (hwi hw 73 rfl)) Via.refl e1 (S_COMPACT_STRINGS.ext O0.2) (g := (mkF m 4 #[.val (.ref a1), .val (.int 16)] [])) rfl (hb hby d12_4)
  obtain ⟨T3, h3, k3, X3, e3, E3, A3, st3⟩ := newP X2 hx hZ (hwi hw 15 rfl) e2 (g := (mkF m 12 #[.val (.ref a1), .val (.int 16)] [(.int 16), (.ref a1)])) rfl (hb hby d12_12) rfl (by decide) (cap := 16) (by decide) (by decide) (by decide) (by decide)
  obtain ⟨b3, g3⟩ : ∃ z, z = h0.size := ⟨_, rfl⟩
  rw [← g3] at A3 st3
  have bn_b3 : h0.size ≤ b3 := Nat.le_of_eq g3.symm
  have sz4 : h0.size ≤ h3.size := E3.1
  have Z4 : n0 ≤ h3.size := Nat.le_trans Z0 sz4
  have O4 := O0.ext E3
  have K4 : Keep h0 h3 [a1] := (Keep.refl h0 [a1]).ext E3
  have V3 : Arv Z h3 b3 k3 .byte (16 : Int32) [(.int 0), (.int 0), (.int 0), (.int 0), (.int 0), (.int 0), (.int 0), (.int 0), (.int 0), (.int 0), (.int 0), (.int 0), (.int 0), (.int 0), (.int 0), (.int 0)] (.int 0) := (Arv.new A3 (by decide)).pad (pad_rep [] (.int 0) 16)
  have fc5 := (E_a1.ext E3)
  have fc6 := (F_a1_value.ext E3)
  obtain ⟨T7, h7, X7, e7, W7, st7⟩ := putF X3 hx hZ hown (host := "") (Or.inl (hwi hw 74 rfl)) Via.refl e3 fc6 fc5 (Or.inl (hwi hw 75 rfl)) (hwi hw 61 rfl) (ty := (.array .byte)) (by decide) rfl rfl (g := (mkF m 14 #[.val (.ref a1), .val (.int 16)] [(.ref b3), (.ref a1)])) rfl rfl (hb hby d12_14)
  have N7 := Fr.snoc X7 N0 g_a1
  have Fw7 := fc6.same W7
  have sz8 : h3.size ≤ h7.size := Nat.le_of_eq W7.size.symm
  have Z8 : n0 ≤ h7.size := Nat.le_trans Z4 sz8
  have O8 := O4.wr W7 g_a1
  have K8 : Keep h0 h7 [a1] := K4.wr W7 (Or.inl (List.mem_of_getElem? (i := 0) rfl))
  have fc9 := (fc5.wr W7)
  have fc10 := ((F_a1_coder.ext E3).other W7 (Or.inr (slot_ne (Or.inl (hwi hw 77 rfl)) (Or.inl (hwi hw 75 rfl)) (by decide) (t := .byte) (t' := (.array .byte)) (by decide) (by decide))))
  obtain ⟨T11, h11, X11, e11, W11, st11⟩ := putFN X7 hx hZ hown (hwi hw 76 rfl) Via.refl e7 fc10 fc9 (Or.inl (hwi hw 77 rfl)) (hwi hw 61 rfl) (ty := .byte) (v' := (.int 0)) (by decide) rfl (by decide) (g := (mkF m 19 #[.val (.ref a1), .val (.int 16)] [(.int 0), (.ref a1)])) rfl rfl (hb hby d12_19)
  have N11 := Fr.snoc X11 N7 g_a1
  have Fw11 := fc10.same W11
  have sz12 : h7.size ≤ h11.size := Nat.le_of_eq W11.size.symm
  have Z12 : n0 ≤ h11.size := Nat.le_trans Z8 sz12
  have O12 := O8.wr W11 g_a1
  have K12 : Keep h0 h11 [a1] := K8.wr W11 (Or.inl (List.mem_of_getElem? (i := 0) rfl))
  have fc13 := (fc9.wr W11)
  have fc14 := (Fw7.other W11 (Or.inr (slot_ne (Or.inl (hwi hw 75 rfl)) (Or.inl (hwi hw 77 rfl)) (by decide) (t := (.array .byte)) (t' := .byte) (by decide) (by decide))))
  have fc15 := (((F_a1_count.ext E3).other W7 (Or.inr (slot_ne (Or.inl (hwi hw 101 rfl)) (Or.inl (hwi hw 75 rfl)) (by decide) (t := .int) (t' := (.array .byte)) (by decide) (by decide)))).other W11 (Or.inr (slot_ne (Or.inl (hwi hw 101 rfl)) (Or.inl (hwi hw 77 rfl)) (by decide) (t := .int) (t' := .byte) (by decide) (by decide))))
  have fc16 := ((V3.other W7 (neN (by have := ltN E_a1.lt; have := ltN V3.lt; omega))).other W11 (neN (by have := ltN E_a1.lt; have := ltN V3.lt; omega)))
  obtain ⟨fs, hr, hrun, hended, hW, hsame⟩ := X11.leave (v := none) (fun _ => rfl)
  refine ⟨_, _, pre0 _ ?_, hrun, hended, _, _, rfl, ?_, ⟨_, rfl⟩, hW, hsame.mono (by decide) (by decide)⟩
  · show St p e below s₁ (mkF m 0 #[.val (.ref a1), .val (.int 16)] []) _
    refine XS.aloadN X0.here hx rfl (hb hby d12_0) rfl rfl ?_
    refine st1 _ ?_
    refine st2 _ ?_
    refine XS.ifNo X2.here hx rfl (hb hby d12_7) rfl ((if0 _ _).trans (feq hcs).1) ?_
    show St p e below T2 (mkF m 10 #[.val (.ref a1), .val (.int 16)] []) _
    refine XS.aloadN X2.here hx rfl (hb hby d12_10) rfl rfl ?_
    refine XS.iloadN X2.here hx rfl (hb hby d12_11) rfl ?_
    refine st3 _ ?_
    refine st7 _ ?_
    show St p e below T7 (mkF m 17 #[.val (.ref a1), .val (.int 16)] []) _
    refine XS.aloadN X7.here hx rfl (hb hby d12_17) rfl rfl ?_
    refine XS.iconst X7.here hx rfl (hb hby d12_18) ?_
    refine st11 _ ?_
    refine XS.goto X11.here hx rfl (pc0 := 22) (pc' := 38) rfl (hb hby d12_22) (by decide) (by decide) ?_
    show St p e below T11 (mkF m 38 #[.val (.ref a1), .val (.int 16)] []) _
    exact X11.returnOut hx Bd.returns (hb hby d12_38) hr
  · show Q_abinit Z a1 w_COMPACT_STRINGS u_a1_value u_a1_coder h0 n0 _ T11.heap _
    rw [e11]
    exact ⟨b3, k3, rfl, N11, K12, bn_b3, fc13, fc14, Fw11, fc15, fc16⟩
theorem pd_I_V_240 : parseMethodDescriptor "(I)V" = some ⟨[.int], none⟩ := by decide +kernel
theorem d11_0 : decode jdk_67_method_1_code 0 = .ok (.aload_n 0, 1) := by decide +kernel
theorem d11_1 : decode jdk_67_method_1_code 1 = .ok (.bipush 16, 2) := by decide +kernel
theorem d11_3 : decode jdk_67_method_1_code 3 = .ok (.invokespecial 1, 3) := by decide +kernel
theorem d11_6 : decode jdk_67_method_1_code 6 = .ok (.return_, 1) := by decide +kernel
theorem pn_11 : plainName "java/lang/StringBuilder" = true := by first | (simp [plainName, overriddenIn]; done) | decide +kernel
theorem ef_11_R (m : MethodId) (x0 : Addr) : entryFrame m #[(.ref x0)] 1 = mkF m 0 #[.val (.ref x0)] [] := by first | (simp [entryFrame, mkF, argsToLocals, Value.category]; done) | rfl
def Q_sbinit (Z : State) (a1 : Addr) (w_COMPACT_STRINGS : Int32) (u_a1_value : Value) (u_a1_coder : Value) (h0 : Heap) (n0 : Nat) (v : Option Value) (h : Heap) (L : List Loc) : Prop := ∃ (t : Addr) (kt : ClassId), v = none ∧ Fr n0 L ∧ Keep h0 h [a1] ∧ h0.size ≤ t ∧ Exa Z h a1 "java/lang/StringBuilder" ∧ Fld Z h a1 "java/lang/AbstractStringBuilder" "value" "[B" (.ref t) ∧ Fld Z h a1 "java/lang/AbstractStringBuilder" "coder" "B" (.int 0) ∧ Fld Z h a1 "java/lang/AbstractStringBuilder" "count" "I" (.int 0) ∧ Arv Z h t kt .byte (16 : Int32) [(.int 0), (.int 0), (.int 0), (.int 0), (.int 0), (.int 0), (.int 0), (.int 0), (.int 0), (.int 0), (.int 0), (.int 0), (.int 0), (.int 0), (.int 0), (.int 0)] (.int 0)
set_option maxRecDepth 65536 in
set_option maxHeartbeats 40000000 in
theorem rm_sbinit (l : Launch) (Z : State) (a0 : Array Value) (hw : ∀ d ∈ tables_1, d.before a0 Z = true) (ws : List Jvm.Cond) (a1 : Addr) (w_COMPACT_STRINGS : Int32) (u_a1_value : Value) (u_a1_coder : Value) (h0 : Heap) (n0 : Nat) (Z0 : n0 ≤ h0.size) (S_COMPACT_STRINGS : Sta Z Z.heap "java/lang/String" "COMPACT_STRINGS" "Z" (.int w_COMPACT_STRINGS)) (hcs : ¬ (w_COMPACT_STRINGS = (0 : Int32))) (E_a1 : Exa Z h0 a1 "java/lang/StringBuilder") (F_a1_count : Fld Z h0 a1 "java/lang/AbstractStringBuilder" "count" "I" (.int 0)) (O0 : Old Z n0 h0) (F_a1_value : Fld Z h0 a1 "java/lang/AbstractStringBuilder" "value" "[B" u_a1_value) (g_a1 : n0 ≤ a1) (F_a1_coder : Fld Z h0 a1 "java/lang/AbstractStringBuilder" "coder" "B" u_a1_coder) :
    MetFree l (⟨"java/lang/StringBuilder", "<init>", "()V"⟩ : MethodName) (head1 (Jvm.Cond.code (⟨"java/lang/StringBuilder", "<init>", "()V"⟩ : MethodName) jdk_67_method_1_code 1 none :: ws) ({ frames := 2, cells := 1, slots := 16, locals := 25 } : Room)) (fun a U => a = #[(.ref a1)] ∧ Z.Warmed39 U.vm ∧ U.heap = h0) (fun _ _ _ _ _ => True) (fun _ U o U' => ∃ v L, o = .returned v ∧ Q_sbinit Z a1 w_COMPACT_STRINGS u_a1_value u_a1_coder h0 n0 v U'.heap L ∧ FrameEnd U o U' L ({ frames := 2, cells := 1, slots := 16, locals := 25 } : Room).cells ({ frames := 2, cells := 1, slots := 16, locals := 25 } : Room).slots) := by
  refine MetFree.of_bodySF (plainFor_of_name pn_11) hisR ?_
  intro p e s m args below meth c s₁ Bd hml0 hP hK
  obtain ⟨rfl, hZ, hh⟩ := hP
  have hx := Bd.exec
  have hby := Bd.bytes
  have hml : c.maxLocals = 1 := hml0
  have hown : s.vm.findClass "java/lang/StringBuilder" = some m.cls := findClass_of_methodNamed Bd.named
  have hnm := (name_of_methodNamed Bd.named Bd.method).1
  have X0 : Stand p l e ({ frames := 2, cells := 1, slots := 16, locals := 25 } : Room) s m #[(.ref a1)] below meth c s₁ [] 0 0 := Stand.of_body Bd
  have e0 : s₁.heap = h0 := by rw [← hh, Bd.state]; rfl
  have N0 := Fr.nil n0
  have pre0 : ∀ t, Steps p.tables e below (s₁.setTop (mkF m 0 #[.val (.ref a1)] [])) t → Steps p.tables e below (s₁.setTop (entryFrame m #[(.ref a1)] 1)) t := fun t k => castTop (ef_11_R m a1) k
  obtain ⟨_, _, ⟨T1, L1, k1, n1⟩, -, X1, ⟨Lc1, hQ1, l1, y1, z1⟩, st1⟩ := X0.specialBack hx (y := (⟨"java/lang/AbstractStringBuilder", "<init>", "(I)V"⟩ : MethodName)) rfl hown (mvT hZ (hwi hw 66 rfl)) (mvT hZ (hwi hw 67 rfl)) (mvT hZ (hwi hw 71 rfl)) (by decide) (backOf (W := 0) (rm_abinit l Z a0 hw [] a1 w_COMPACT_STRINGS u_a1_value u_a1_coder h0 n0 Z0 S_COMPACT_STRINGS hcs E_a1 F_a1_count O0 F_a1_value g_a1 F_a1_coder) hZ (hwi hw 71 rfl) (hwi hw 70 rfl) (by decide) (by decide)) (g := (mkF m 3 #[.val (.ref a1)] [(.int 16), (.ref a1)])) rfl (by rw [hml]; rfl) (Steps.refl _) (a := a1) (argsL := [(.int 16)]) (rest := []) (lenOf pd_I_V_240 rfl) rfl (by show 2 * 0 + _ ≤ _; exact Nat.le_of_eq rfl) (hb hby d11_3) (fun _ _ => ⟨rfl, e0, (by decide : 0 + 1 ≤ _), (by decide : 0 + 16 ≤ _)⟩)
  dsimp only [Pt.U, Pt.locs, Pt.cells, Pt.slots] at X1 l1 y1 z1 st1 hQ1
  subst l1 y1 z1
  obtain ⟨t_1, kt_1, rfl, N1q, Kc1, g1_0, g1_1, g1_2, g1_3, g1_4, g1_5⟩ := hQ1
  have N1 := Fr.app N0 N1q
  have sz2 : h0.size ≤ T1.heap.size := Kc1.1
  have Z2 : n0 ≤ T1.heap.size := Nat.le_trans Z0 sz2
  have O2 := O0.keep Kc1 (allS g_a1 all0)
  have K2 : Keep h0 T1.heap [a1] := (Keep.refl h0 [a1]).trans Kc1 (allS (Or.inl (List.mem_of_getElem? (i := 0) rfl)) (all0))
  have bn_t_1 : h0.size ≤ t_1 := g1_0
  obtain ⟨fs, hr, hrun, hended, hW, hsame⟩ := X1.leave (v := none) (fun _ => rfl)
  refine ⟨_, _, pre0 _ ?_, hrun, hended, _, _, rfl, ?_, ⟨_, rfl⟩, hW, hsame.mono (by decide) (by decide)⟩
  · show St p e below s₁ (mkF m 0 #[.val (.ref a1)] []) _
    refine XS.aloadN X0.here hx rfl (hb hby d11_0) rfl rfl ?_
    refine XS.bipush X0.here hx rfl (hb hby d11_1) ?_
    refine st1.trans ?_
    show St p e below T1 (mkF m 6 #[.val (.ref a1)] []) _
    exact X1.returnOut hx Bd.returns (hb hby d11_6) hr
  · show Q_sbinit Z a1 w_COMPACT_STRINGS u_a1_value u_a1_coder h0 n0 _ T1.heap _
    exact ⟨t_1, kt_1, rfl, N1, K2, bn_t_1, g1_1, g1_2, g1_3, g1_4, g1_5⟩
def own_ap (vd vs : List Value) (dp nn : Int32) : List Value := vd.take dp.toNatClampNeg ++ ((List.range nn.toNatClampNeg).map fun i => vs.getD ((0 : Int32).toNatClampNeg + i) (.int 0)) ++ vd.drop (dp.toNatClampNeg + nn.toNatClampNeg)
theorem d20_0 : decode jdk_42_method_147_code 0 = .ok (.aload_n 0, 1) := by decide +kernel
theorem d20_1 : decode jdk_42_method_147_code 1 = .ok (.invokevirtual 335, 3) := by decide +kernel
theorem d20_4 : decode jdk_42_method_147_code 4 = .ok (.iload_n 3, 1) := by decide +kernel
theorem d20_5 : decode jdk_42_method_147_code 5 = .ok (.if_icmp .ne 23, 3) := by decide +kernel
theorem d20_8 : decode jdk_42_method_147_code 8 = .ok (.aload_n 0, 1) := by decide +kernel
theorem d20_9 : decode jdk_42_method_147_code 9 = .ok (.getfield 9, 3) := by decide +kernel
theorem d20_12 : decode jdk_42_method_147_code 12 = .ok (.iconst 0, 1) := by decide +kernel
theorem d20_13 : decode jdk_42_method_147_code 13 = .ok (.aload_n 1, 1) := by decide +kernel
theorem d20_14 : decode jdk_42_method_147_code 14 = .ok (.iload_n 2, 1) := by decide +kernel
theorem d20_15 : decode jdk_42_method_147_code 15 = .ok (.iload_n 3, 1) := by decide +kernel
theorem d20_16 : decode jdk_42_method_147_code 16 = .ok (.ishl, 1) := by decide +kernel
theorem d20_17 : decode jdk_42_method_147_code 17 = .ok (.aload_n 0, 1) := by decide +kernel
theorem d20_18 : decode jdk_42_method_147_code 18 = .ok (.getfield 9, 3) := by decide +kernel
theorem d20_21 : decode jdk_42_method_147_code 21 = .ok (.arraylength, 1) := by decide +kernel
theorem d20_22 : decode jdk_42_method_147_code 22 = .ok (.invokestatic 212, 3) := by decide +kernel
theorem d20_25 : decode jdk_42_method_147_code 25 = .ok (.goto 18, 3) := by decide +kernel
theorem d20_43 : decode jdk_42_method_147_code 43 = .ok (.return_, 1) := by decide +kernel
theorem pn_20 : plainName "java/lang/String" = true := by first | (simp [plainName, overriddenIn]; done) | decide +kernel
theorem ef_20_RRII (m : MethodId) (x0 : Addr) (x1 : Addr) (x2 : Int32) (x3 : Int32) : entryFrame m #[(.ref x0), (.ref x1), (.int x2), (.int x3)] 4 = mkF m 0 #[.val (.ref x0), .val (.ref x1), .val (.int x2), .val (.int x3)] [] := by first | (simp [entryFrame, mkF, argsToLocals, Value.category]; done) | rfl
def Q_getb (Z : State) (a1 : Addr) (a2 : Addr) (p3 : Int32) (w_COMPACT_STRINGS : Int32) (t_a1 : Addr) (k_t_a1 : ClassId) (vs : List Value) (N : Int32) (k_a2 : ClassId) (vd : List Value) (h0 : Heap) (n0 : Nat) (v : Option Value) (h : Heap) (L : List Loc) : Prop := v = none ∧ Fr n0 L ∧ Keep h0 h [a2] ∧ Arv Z h a2 k_a2 .byte (16 : Int32) (own_ap vd vs p3 N) (.int 0)
set_option maxRecDepth 65536 in
set_option maxHeartbeats 40000000 in
theorem rm_getb (l : Launch) (Z : State) (a0 : Array Value) (hw : ∀ d ∈ tables_1, d.before a0 Z = true) (ws : List Jvm.Cond) (a1 : Addr) (a2 : Addr) (p3 : Int32) (w_COMPACT_STRINGS : Int32) (t_a1 : Addr) (k_t_a1 : ClassId) (vs : List Value) (N : Int32) (k_a2 : ClassId) (vd : List Value) (h0 : Heap) (n0 : Nat) (Z0 : n0 ≤ h0.size) (S_COMPACT_STRINGS : Sta Z Z.heap "java/lang/String" "COMPACT_STRINGS" "Z" (.int w_COMPACT_STRINGS)) (hcs : ¬ (w_COMPACT_STRINGS = (0 : Int32))) (E_a1 : Exa Z h0 a1 "java/lang/String") (F_a1_coder : Fld Z h0 a1 "java/lang/String" "coder" "B" (.int 0)) (F_a1_value : Fld Z h0 a1 "java/lang/String" "value" "[B" (.ref t_a1)) (V_t_a1 : Arv Z h0 t_a1 k_t_a1 .byte N vs (.int 0)) (V_a2 : Arv Z h0 a2 k_a2 .byte (16 : Int32) vd (.int 0)) (hdp : ¬ (p3 < (0 : Int32))) (hfit : p3.toNatClampNeg + N.toNatClampNeg ≤ (16 : Int32).toNatClampNeg) (hlen : p3.toNatClampNeg + N.toNatClampNeg ≤ (vd).length) (hnn : ¬ (N < (0 : Int32))) (hne : ¬ (t_a1 = a2)) (O0 : Old Z n0 h0) (hsl : (p3 <<< ((0 : Int32) &&& 31)) = p3) (g_a2 : n0 ≤ a2) :
    MetFree l (⟨"java/lang/String", "getBytes", "([BIB)V"⟩ : MethodName) (head1 (Jvm.Cond.code (⟨"java/lang/String", "getBytes", "([BIB)V"⟩ : MethodName) jdk_42_method_147_code 4 none :: ws) ({ frames := 1, cells := 0, slots := 0, locals := 18 } : Room)) (fun a U => a = #[(.ref a1), (.ref a2), (.int p3), (.int 0)] ∧ Z.Warmed39 U.vm ∧ U.heap = h0) (fun _ _ _ _ _ => True) (fun _ U o U' => ∃ v L, o = .returned v ∧ Q_getb Z a1 a2 p3 w_COMPACT_STRINGS t_a1 k_t_a1 vs N k_a2 vd h0 n0 v U'.heap L ∧ FrameEnd U o U' L ({ frames := 1, cells := 0, slots := 0, locals := 18 } : Room).cells ({ frames := 1, cells := 0, slots := 0, locals := 18 } : Room).slots) := by
  refine MetFree.of_bodySF (plainFor_of_name pn_20) hisR ?_
  intro p e s m args below meth c s₁ Bd hml0 hP hK
  obtain ⟨rfl, hZ, hh⟩ := hP
  have hx := Bd.exec
  have hby := Bd.bytes
  have hml : c.maxLocals = 4 := hml0
  have hown : s.vm.findClass "java/lang/String" = some m.cls := findClass_of_methodNamed Bd.named
  have hnm := (name_of_methodNamed Bd.named Bd.method).1
  have X0 : Stand p l e ({ frames := 1, cells := 0, slots := 0, locals := 18 } : Room) s m #[(.ref a1), (.ref a2), (.int p3), (.int 0)] below meth c s₁ [] 0 0 := Stand.of_body Bd
  have e0 : s₁.heap = h0 := by rw [← hh, Bd.state]; rfl
  have N0 := Fr.nil n0
  have pre0 : ∀ t, Steps p.tables e below (s₁.setTop (mkF m 0 #[.val (.ref a1), .val (.ref a2), .val (.int p3), .val (.int 0)] [])) t → Steps p.tables e below (s₁.setTop (entryFrame m #[(.ref a1), (.ref a2), (.int p3), (.int 0)] 4)) t := fun t k => castTop (ef_20_RRII m a1 a2 p3 (0 : Int32)) k
  obtain ⟨cq1, kq1, q1a, q1b, q1c⟩ := isOf hZ e0 E_a1
  obtain ⟨_, _, ⟨T1, L1, k1, n1⟩, -, X1, ⟨Lc1, hQ1, l1, y1, z1⟩, st1⟩ := X0.virtualBack hx (y := (⟨"java/lang/String", "coder", "()B"⟩ : MethodName)) (z := (⟨"java/lang/String", "coder", "()B"⟩ : MethodName)) hown (mvT hZ (hwi hw 94 rfl)) (mvT hZ (hwi hw 95 rfl)) (notFace_of_selects (args := #[]) (mvT hZ (hwi hw 97 rfl))) (mvT hZ (hwi hw 97 rfl)) (mvT hZ (hwi hw 96 rfl)) (by decide) (backOf (W := 0) (rm_coder0 l Z a0 hw [] a1 w_COMPACT_STRINGS h0 n0 Z0 S_COMPACT_STRINGS hcs F_a1_coder O0) hZ (hwi hw 98 rfl) (hwi hw 3 rfl) (by decide) (by decide)) q1a q1c (g := (mkF m 1 #[.val (.ref a1), .val (.ref a2), .val (.int p3), .val (.int 0)] [(.ref a1)])) rfl (by rw [hml]; rfl) (Steps.refl _) (argsL := []) (rest := []) (lenOf pd_B_147 rfl) rfl (by show 2 * 0 + _ ≤ _; exact Nat.le_of_eq rfl) (hb hby d20_1) (fun _ _ => ⟨rfl, e0, (by decide : 0 + 0 ≤ _), (by decide : 0 + 0 ≤ _)⟩)
  dsimp only [Pt.U, Pt.locs, Pt.cells, Pt.slots] at X1 l1 y1 z1 st1 hQ1
  subst l1 y1 z1
  obtain ⟨rfl, N1q, e1⟩ := hQ1
  have N1 := Fr.app N0 N1q
  obtain ⟨T2, X2, e2, st2⟩ := getF X1 hx hZ hown (host := "") (Or.inl (hwi hw 20 rfl)) Via.refl e1 F_a1_value (g := (mkF m 9 #[.val (.ref a1), .val (.ref a2), .val (.int p3), .val (.int 0)] [(.ref a1)])) rfl rfl (hb hby d20_9)
  obtain ⟨T3, X3, e3, st3⟩ := getF X2 hx hZ hown (host := "") (Or.inl (hwi hw 20 rfl)) Via.refl e2 F_a1_value (g := (mkF m 18 #[.val (.ref a1), .val (.ref a2), .val (.int p3), .val (.int 0)] [(.ref a1), (.int p3), (.ref a2), (.int 0), (.ref t_a1)])) rfl rfl (hb hby d20_18)
  obtain ⟨cl4, Ar4, -, S4, M4, -, -⟩ := id V_t_a1
  obtain ⟨T5, h5, L5, X5, e5, N5, Kc5, V5, st5⟩ := cpA X3 hx hZ hown (hwi hw 123 rfl) (hwi hw 126 rfl) (hwi hw 124 rfl) (hwi hw 125 rfl) e3 V_t_a1 V_a2 (sp := (0 : Int32)) (dp := p3) (nn := N) (us := (List.range N.toNatClampNeg).map fun i => (vs : List Value).getD ((0 : Int32).toNatClampNeg + i) (.int 0)) (Or.inl ⟨rfl, rfl⟩) (by decide) hdp hnn (Nat.le_of_eq (Nat.zero_add _)) hfit rfl hlen N1 g_a2 (g := (mkF m 22 #[.val (.ref a1), .val (.ref a2), .val (.int p3), .val (.int 0)] [(.int N), (.int p3), (.ref a2), (.int 0), (.ref t_a1)])) rfl (by rw [hml]; rfl) rfl (hb hby d20_22) (by decide) (W := 0) (by show 2 * 0 + _ ≤ _; exact Nat.le_of_eq rfl) (by decide)
  have Vd5 : Arv Z h5 a2 k_a2 .byte (16 : Int32) (own_ap vd vs p3 N) (.int 0) := V5
  have sz6 : h0.size ≤ h5.size := Kc5.1
  have Z6 : n0 ≤ h5.size := Nat.le_trans Z0 sz6
  have O6 := O0.keep Kc5 (allS g_a2 all0)
  have K6 : Keep h0 h5 [a2] := (Keep.refl h0 [a2]).trans Kc5 (allS (Or.inl (List.mem_of_getElem? (i := 0) rfl)) (all0))
  obtain ⟨fs, hr, hrun, hended, hW, hsame⟩ := X5.leave (v := none) (fun _ => rfl)
  refine ⟨_, _, pre0 _ ?_, hrun, hended, _, _, rfl, ?_, ⟨_, rfl⟩, hW, hsame.mono (by decide) (by decide)⟩
  · show St p e below s₁ (mkF m 0 #[.val (.ref a1), .val (.ref a2), .val (.int p3), .val (.int 0)] []) _
    refine XS.aloadN X0.here hx rfl (hb hby d20_0) rfl rfl ?_
    refine st1.trans ?_
    refine XS.iloadN X1.here hx rfl (hb hby d20_4) rfl ?_
    refine XS.icmpNo X1.here hx rfl (hb hby d20_5) rfl (teq (by decide : (0 : Int32) = (0 : Int32))).2 ?_
    show St p e below T1 (mkF m 8 #[.val (.ref a1), .val (.ref a2), .val (.int p3), .val (.int 0)] []) _
    refine XS.aloadN X1.here hx rfl (hb hby d20_8) rfl rfl ?_
    refine st2 _ ?_
    refine XS.iconst X2.here hx rfl (hb hby d20_12) ?_
    refine XS.aloadN X2.here hx rfl (hb hby d20_13) rfl rfl ?_
    show St p e below T2 (mkF m 14 #[.val (.ref a1), .val (.ref a2), .val (.int p3), .val (.int 0)] [(.ref a2), (.int 0), (.ref t_a1)]) _
    refine XS.iloadN X2.here hx rfl (hb hby d20_14) rfl ?_
    refine XS.iloadN X2.here hx rfl (hb hby d20_15) rfl ?_
    refine XS.ishl X2.here hx rfl (hb hby d20_16) rfl ?_
    show St p e below T2 (mkF m 17 #[.val (.ref a1), .val (.ref a2), .val (.int p3), .val (.int 0)] [(.int (p3 <<< ((0 : Int32) &&& 31))), (.ref a2), (.int 0), (.ref t_a1)]) _
    rw [hsl]
    show St p e below T2 (mkF m 17 #[.val (.ref a1), .val (.ref a2), .val (.int p3), .val (.int 0)] [(.int p3), (.ref a2), (.int 0), (.ref t_a1)]) _
    refine XS.aloadN X2.here hx rfl (hb hby d20_17) rfl rfl ?_
    refine st3 _ ?_
    refine X3.arraylength hx (by rw [e3]; exact Ar4.1) (State.isArrayOf_alike hZ.alike Ar4.2.1) (g := (mkF m 21 #[.val (.ref a1), .val (.ref a2), .val (.int p3), .val (.int 0)] [(.ref t_a1), (.int p3), (.ref a2), (.int 0), (.ref t_a1)])) rfl rfl (hb hby d20_21) _ ?_
    rw [len_of S4 M4]
    show St p e below T3 (mkF m 22 #[.val (.ref a1), .val (.ref a2), .val (.int p3), .val (.int 0)] [(.int N), (.int p3), (.ref a2), (.int 0), (.ref t_a1)]) _
    refine st5 _ ?_
    refine XS.goto X5.here hx rfl (pc0 := 25) (pc' := 43) rfl (hb hby d20_25) (by decide) (by decide) ?_
    show St p e below T5 (mkF m 43 #[.val (.ref a1), .val (.ref a2), .val (.int p3), .val (.int 0)] []) _
    exact X5.returnOut hx Bd.returns (hb hby d20_43) hr
  · show Q_getb Z a1 a2 p3 w_COMPACT_STRINGS t_a1 k_t_a1 vs N k_a2 vd h0 n0 _ T5.heap _
    rw [e5]
    exact ⟨rfl, N5, K6, Vd5⟩
theorem d19_0 : decode jdk_68_method_71_code 0 = .ok (.getstatic 18, 3) := by decide +kernel
theorem d19_3 : decode jdk_68_method_71_code 3 = .ok (.ifCond .eq 18, 3) := by decide +kernel
theorem d19_6 : decode jdk_68_method_71_code 6 = .ok (.aload_n 0, 1) := by decide +kernel
theorem d19_7 : decode jdk_68_method_71_code 7 = .ok (.getfield 22, 3) := by decide +kernel
theorem d19_10 : decode jdk_68_method_71_code 10 = .ok (.aload_n 1, 1) := by decide +kernel
theorem d19_11 : decode jdk_68_method_71_code 11 = .ok (.invokevirtual 40, 3) := by decide +kernel
theorem d19_14 : decode jdk_68_method_71_code 14 = .ok (.if_icmp .eq 7, 3) := by decide +kernel
theorem d19_21 : decode jdk_68_method_71_code 21 = .ok (.return_, 1) := by decide +kernel
theorem pn_19 : plainName "java/lang/AbstractStringBuilder" = true := by first | (simp [plainName, overriddenIn]; done) | decide +kernel
theorem ef_19_RR (m : MethodId) (x0 : Addr) (x1 : Addr) : entryFrame m #[(.ref x0), (.ref x1)] 2 = mkF m 0 #[.val (.ref x0), .val (.ref x1)] [] := by first | (simp [entryFrame, mkF, argsToLocals, Value.category]; done) | rfl
def Q_infl (Z : State) (a1 : Addr) (a2 : Addr) (w_COMPACT_STRINGS : Int32) (h0 : Heap) (n0 : Nat) (v : Option Value) (h : Heap) (L : List Loc) : Prop := v = none ∧ Fr n0 L ∧ h = h0
set_option maxRecDepth 65536 in
set_option maxHeartbeats 40000000 in
theorem rm_infl (l : Launch) (Z : State) (a0 : Array Value) (hw : ∀ d ∈ tables_1, d.before a0 Z = true) (ws : List Jvm.Cond) (a1 : Addr) (a2 : Addr) (w_COMPACT_STRINGS : Int32) (h0 : Heap) (n0 : Nat) (Z0 : n0 ≤ h0.size) (S_COMPACT_STRINGS : Sta Z Z.heap "java/lang/String" "COMPACT_STRINGS" "Z" (.int w_COMPACT_STRINGS)) (hcs : ¬ (w_COMPACT_STRINGS = (0 : Int32))) (E_a1 : Exa Z h0 a1 "java/lang/StringBuilder") (F_a1_coder : Fld Z h0 a1 "java/lang/AbstractStringBuilder" "coder" "B" (.int 0)) (E_a2 : Exa Z h0 a2 "java/lang/String") (F_a2_coder : Fld Z h0 a2 "java/lang/String" "coder" "B" (.int 0)) (O0 : Old Z n0 h0) :
    MetFree l (⟨"java/lang/AbstractStringBuilder", "inflateIfNeededFor", "(Ljava/lang/String;)V"⟩ : MethodName) (head1 (Jvm.Cond.code (⟨"java/lang/AbstractStringBuilder", "inflateIfNeededFor", "(Ljava/lang/String;)V"⟩ : MethodName) jdk_68_method_71_code 2 none :: ws) ({ frames := 1, cells := 0, slots := 0, locals := 13 } : Room)) (fun a U => a = #[(.ref a1), (.ref a2)] ∧ Z.Warmed39 U.vm ∧ U.heap = h0) (fun _ _ _ _ _ => True) (fun _ U o U' => ∃ v L, o = .returned v ∧ Q_infl Z a1 a2 w_COMPACT_STRINGS h0 n0 v U'.heap L ∧ FrameEnd U o U' L ({ frames := 1, cells := 0, slots := 0, locals := 13 } : Room).cells ({ frames := 1, cells := 0, slots := 0, locals := 13 } : Room).slots) := by
  refine MetFree.of_bodySF (plainFor_of_name pn_19) hisR ?_
  intro p e s m args below meth c s₁ Bd hml0 hP hK
  obtain ⟨rfl, hZ, hh⟩ := hP
  have hx := Bd.exec
  have hby := Bd.bytes
  have hml : c.maxLocals = 2 := hml0
  have hown : s.vm.findClass "java/lang/AbstractStringBuilder" = some m.cls := findClass_of_methodNamed Bd.named
  have hnm := (name_of_methodNamed Bd.named Bd.method).1
  have X0 : Stand p l e ({ frames := 1, cells := 0, slots := 0, locals := 13 } : Room) s m #[(.ref a1), (.ref a2)] below meth c s₁ [] 0 0 := Stand.of_body Bd
  have e0 : s₁.heap = h0 := by rw [← hh, Bd.state]; rfl
  have N0 := Fr.nil n0
  have pre0 : ∀ t, Steps p.tables e below (s₁.setTop (mkF m 0 #[.val (.ref a1), .val (.ref a2)] [])) t → Steps p.tables e below (s₁.setTop (entryFrame m #[(.ref a1), (.ref a2)] 2)) t := fun t k => castTop (ef_19_RR m a1 a2) k
  obtain ⟨T1, X1, e1, st1⟩ := getS2 X0 hx hZ hown (host := "") (Or.inl (hwi hw 73 rfl)) Via.refl e0 (S_COMPACT_STRINGS.ext O0.2) (g := (mkF m 0 #[.val (.ref a1), .val (.ref a2)] [])) rfl (hb hby d19_0)
  obtain ⟨T2, X2, e2, st2⟩ := getF X1 hx hZ hown (host := "") (Or.inl (hwi hw 76 rfl)) Via.refl e1 F_a1_coder (g := (mkF m 7 #[.val (.ref a1), .val (.ref a2)] [(.ref a1)])) rfl rfl (hb hby d19_7)
  obtain ⟨cq3, kq3, q3a, q3b, q3c⟩ := isOf hZ e2 E_a2
  obtain ⟨_, _, ⟨T3, L3, k3, n3⟩, -, X3, ⟨Lc3, hQ3, l3, y3, z3⟩, st3⟩ := X2.virtualBack hx (y := (⟨"java/lang/String", "coder", "()B"⟩ : MethodName)) (z := (⟨"java/lang/String", "coder", "()B"⟩ : MethodName)) hown (mvT hZ (hwi hw 117 rfl)) (mvT hZ (hwi hw 95 rfl)) (notFace_of_selects (args := #[]) (mvT hZ (hwi hw 97 rfl))) (mvT hZ (hwi hw 97 rfl)) (mvT hZ (hwi hw 96 rfl)) (by decide) (backOf (W := 1) (rm_coder0 l Z a0 hw [] a2 w_COMPACT_STRINGS h0 n0 Z0 S_COMPACT_STRINGS hcs F_a2_coder O0) hZ (hwi hw 98 rfl) (hwi hw 3 rfl) (by decide) (by decide)) q3a q3c (g := (mkF m 11 #[.val (.ref a1), .val (.ref a2)] [(.ref a2), (.int 0)])) rfl (by rw [hml]; rfl) (Steps.refl _) (argsL := []) (rest := [(.int 0)]) (lenOf pd_B_147 rfl) rfl (by show 2 * 0 + _ ≤ _; exact Nat.le_of_eq rfl) (hb hby d19_11) (fun _ _ => ⟨rfl, e2, (by decide : 0 + 0 ≤ _), (by decide : 0 + 0 ≤ _)⟩)
  dsimp only [Pt.U, Pt.locs, Pt.cells, Pt.slots] at X3 l3 y3 z3 st3 hQ3
  subst l3 y3 z3
  obtain ⟨rfl, N3q, e3⟩ := hQ3
  have N3 := Fr.app N0 N3q
  obtain ⟨fs, hr, hrun, hended, hW, hsame⟩ := X3.leave (v := none) (fun _ => rfl)
  refine ⟨_, _, pre0 _ ?_, hrun, hended, _, _, rfl, ?_, ⟨_, rfl⟩, hW, hsame.mono (by decide) (by decide)⟩
  · show St p e below s₁ (mkF m 0 #[.val (.ref a1), .val (.ref a2)] []) _
    refine st1 _ ?_
    refine XS.ifNo X1.here hx rfl (hb hby d19_3) rfl ((if0 _ _).trans (feq hcs).1) ?_
    refine XS.aloadN X1.here hx rfl (hb hby d19_6) rfl rfl ?_
    refine st2 _ ?_
    show St p e below T2 (mkF m 10 #[.val (.ref a1), .val (.ref a2)] [(.int 0)]) _
    refine XS.aloadN X2.here hx rfl (hb hby d19_10) rfl rfl ?_
    refine st3.trans ?_
    refine XS.icmpYes X3.here hx rfl (pc0 := 14) (pc' := 21) rfl (hb hby d19_14) rfl (teq (by decide : (0 : Int32) = (0 : Int32))).1 (by decide) (by decide) ?_
    show St p e below T3 (mkF m 21 #[.val (.ref a1), .val (.ref a2)] []) _
    exact X3.returnOut hx Bd.returns (hb hby d19_21) hr
  · show Q_infl Z a1 a2 w_COMPACT_STRINGS h0 n0 _ T3.heap _
    rw [e3]
    exact ⟨rfl, N3, rfl⟩
theorem pd_Ljava_lang_String__V_863 : parseMethodDescriptor "(Ljava/lang/String;)V" = some ⟨[(.object "java/lang/String")], none⟩ := by decide +kernel
theorem own_declares {Z : State} {a0 : Array Value} {y : MethodName} {bytes : ByteArray} {mx : Nat} {rt : Option FieldType} (wi : (Jvm.Cond.instanceMethod y).before a0 Z = true) (wc : (Jvm.Cond.code y bytes mx rt).before a0 Z = true) : (Jvm.Cond.declares y).before a0 Z = true := by
  obtain ⟨m, meth, h1, h2, h3, h4⟩ := Cond.instanceMethod_spec wi
  obtain ⟨meth', c, g1, -, -, -, -, -, -, g8⟩ := Cond.code_spec h1 wc
  cases h2.symm.trans g1
  simp [Cond.before, Cond.holds, Cond.value, h1, h2, h3, g8]
theorem own_same {Z : State} {a0 : Array Value} {y z0 z1 : MethodName} {C : String} (wi : (Jvm.Cond.instanceMethod y).before a0 Z = true) (ws : (Jvm.Cond.selects C z0 z1).before a0 Z = true) (hc : z1.cls = y.cls) (hy : y.cls ≠ "java/lang/invoke/MethodHandle" ∧ y.cls ≠ "java/lang/invoke/VarHandle") : (Jvm.Cond.sameMethod y.cls y.cls y.name y.desc).before a0 Z = true := by
  obtain ⟨m, meth, h1, h2, h3, h4⟩ := Cond.instanceMethod_spec wi
  have hf := State.methodFound?_of_named h1 hy
  have hcl := findClass_of_methodNamed h1
  obtain ⟨c, r, m', -, -, q3, -, mk, hk, hni⟩ := Cond.selects_spec ws
  have hcl' := findClass_of_methodNamed q3
  rw [hc, hcl] at hcl'
  have e : m.cls = m'.cls := Option.some.inj hcl'
  have h1' : Z.methodNamed? ⟨y.cls, y.name, y.desc⟩ = some m := h1
  rw [← e] at hk
  simp [Cond.before, Cond.holds, Cond.value, hcl, hf, h1', hk, hni]
theorem own_nf {s : State} {args : Array Value} {y z0 z1 : MethodName} {C : String} (ws : (Jvm.Cond.selects C z0 z1).before args s = true) (hc : z1.cls = y.cls) : NotFace s y := fun r0 h0 => by
  obtain ⟨c, r, m', -, -, q3, -, mk, hk, hni⟩ := Cond.selects_spec ws
  have hcl := findClass_of_methodNamed h0
  have hcl' := findClass_of_methodNamed q3
  rw [hc, hcl] at hcl'
  have e : r0.cls = m'.cls := Option.some.inj hcl'
  exact ⟨mk, by rw [e]; exact hk, hni⟩
theorem pd_BIB_V_463 : parseMethodDescriptor "([BIB)V" = some ⟨[(.array .byte), .int, .byte], none⟩ := by decide +kernel
theorem d18_0 : decode jdk_68_method_73_code 0 = .ok (.aload_n 0, 1) := by decide +kernel
theorem d18_1 : decode jdk_68_method_73_code 1 = .ok (.aload_n 2, 1) := by decide +kernel
theorem d18_2 : decode jdk_68_method_73_code 2 = .ok (.invokevirtual 397, 3) := by decide +kernel
theorem d18_5 : decode jdk_68_method_73_code 5 = .ok (.aload_n 2, 1) := by decide +kernel
theorem d18_6 : decode jdk_68_method_73_code 6 = .ok (.aload_n 0, 1) := by decide +kernel
theorem d18_7 : decode jdk_68_method_73_code 7 = .ok (.getfield 15, 3) := by decide +kernel
theorem d18_10 : decode jdk_68_method_73_code 10 = .ok (.iload_n 1, 1) := by decide +kernel
theorem d18_11 : decode jdk_68_method_73_code 11 = .ok (.aload_n 0, 1) := by decide +kernel
theorem d18_12 : decode jdk_68_method_73_code 12 = .ok (.getfield 22, 3) := by decide +kernel
theorem d18_15 : decode jdk_68_method_73_code 15 = .ok (.invokevirtual 399, 3) := by decide +kernel
theorem d18_18 : decode jdk_68_method_73_code 18 = .ok (.return_, 1) := by decide +kernel
theorem pn_18 : plainName "java/lang/AbstractStringBuilder" = true := by first | (simp [plainName, overriddenIn]; done) | decide +kernel
theorem ef_18_RIR (m : MethodId) (x0 : Addr) (x1 : Int32) (x2 : Addr) : entryFrame m #[(.ref x0), (.int x1), (.ref x2)] 3 = mkF m 0 #[.val (.ref x0), .val (.int x1), .val (.ref x2)] [] := by first | (simp [entryFrame, mkF, argsToLocals, Value.category]; done) | rfl
def Q_putst (Z : State) (a1 : Addr) (p2 : Int32) (a3 : Addr) (w_COMPACT_STRINGS : Int32) (t_a1 : Addr) (k_t_a1 : ClassId) (vd : List Value) (t_a3 : Addr) (k_t_a3 : ClassId) (vs : List Value) (N : Int32) (h0 : Heap) (n0 : Nat) (v : Option Value) (h : Heap) (L : List Loc) : Prop := v = none ∧ Fr n0 L ∧ Keep h0 h [t_a1] ∧ Arv Z h t_a1 k_t_a1 .byte (16 : Int32) (own_ap vd vs p2 N) (.int 0)
set_option maxRecDepth 65536 in
set_option maxHeartbeats 40000000 in
theorem rm_putst (l : Launch) (Z : State) (a0 : Array Value) (hw : ∀ d ∈ tables_1, d.before a0 Z = true) (ws : List Jvm.Cond) (a1 : Addr) (p2 : Int32) (a3 : Addr) (w_COMPACT_STRINGS : Int32) (t_a1 : Addr) (k_t_a1 : ClassId) (vd : List Value) (t_a3 : Addr) (k_t_a3 : ClassId) (vs : List Value) (N : Int32) (h0 : Heap) (n0 : Nat) (Z0 : n0 ≤ h0.size) (S_COMPACT_STRINGS : Sta Z Z.heap "java/lang/String" "COMPACT_STRINGS" "Z" (.int w_COMPACT_STRINGS)) (hcs : ¬ (w_COMPACT_STRINGS = (0 : Int32))) (E_a1 : Exa Z h0 a1 "java/lang/StringBuilder") (F_a1_coder : Fld Z h0 a1 "java/lang/AbstractStringBuilder" "coder" "B" (.int 0)) (F_a1_value : Fld Z h0 a1 "java/lang/AbstractStringBuilder" "value" "[B" (.ref t_a1)) (V_t_a1 : Arv Z h0 t_a1 k_t_a1 .byte (16 : Int32) vd (.int 0)) (E_a3 : Exa Z h0 a3 "java/lang/String") (F_a3_coder : Fld Z h0 a3 "java/lang/String" "coder" "B" (.int 0)) (F_a3_value : Fld Z h0 a3 "java/lang/String" "value" "[B" (.ref t_a3)) (V_t_a3 : Arv Z h0 t_a3 k_t_a3 .byte N vs (.int 0)) (hdp : ¬ (p2 < (0 : Int32))) (hfit : p2.toNatClampNeg + N.toNatClampNeg ≤ (16 : Int32).toNatClampNeg) (hlen : p2.toNatClampNeg + N.toNatClampNeg ≤ (vd).length) (hnn : ¬ (N < (0 : Int32))) (hne : ¬ (t_a3 = t_a1)) (O0 : Old Z n0 h0) (g_t_a1 : n0 ≤ t_a1) (hsl : (p2 <<< ((0 : Int32) &&& 31)) = p2) :
    MetFree l (⟨"java/lang/AbstractStringBuilder", "putStringAt", "(ILjava/lang/String;)V"⟩ : MethodName) (head1 (Jvm.Cond.code (⟨"java/lang/AbstractStringBuilder", "putStringAt", "(ILjava/lang/String;)V"⟩ : MethodName) jdk_68_method_73_code 3 none :: ws) ({ frames := 2, cells := 0, slots := 0, locals := 33 } : Room)) (fun a U => a = #[(.ref a1), (.int p2), (.ref a3)] ∧ Z.Warmed39 U.vm ∧ U.heap = h0) (fun _ _ _ _ _ => True) (fun _ U o U' => ∃ v L, o = .returned v ∧ Q_putst Z a1 p2 a3 w_COMPACT_STRINGS t_a1 k_t_a1 vd t_a3 k_t_a3 vs N h0 n0 v U'.heap L ∧ FrameEnd U o U' L ({ frames := 2, cells := 0, slots := 0, locals := 33 } : Room).cells ({ frames := 2, cells := 0, slots := 0, locals := 33 } : Room).slots) := by
  refine MetFree.of_bodySF (plainFor_of_name pn_18) hisR ?_
  intro p e s m args below meth c s₁ Bd hml0 hP hK
  obtain ⟨rfl, hZ, hh⟩ := hP
  have hx := Bd.exec
  have hby := Bd.bytes
  have hml : c.maxLocals = 3 := hml0
  have hown : s.vm.findClass "java/lang/AbstractStringBuilder" = some m.cls := findClass_of_methodNamed Bd.named
  have hnm := (name_of_methodNamed Bd.named Bd.method).1
  have X0 : Stand p l e ({ frames := 2, cells := 0, slots := 0, locals := 33 } : Room) s m #[(.ref a1), (.int p2), (.ref a3)] below meth c s₁ [] 0 0 := Stand.of_body Bd
  have e0 : s₁.heap = h0 := by rw [← hh, Bd.state]; rfl
  have N0 := Fr.nil n0
  have pre0 : ∀ t, Steps p.tables e below (s₁.setTop (mkF m 0 #[.val (.ref a1), .val (.int p2), .val (.ref a3)] [])) t → Steps p.tables e below (s₁.setTop (entryFrame m #[(.ref a1), (.int p2), (.ref a3)] 3)) t := fun t k => castTop (ef_18_RIR m a1 p2 a3) k
  obtain ⟨cq1, kq1, q1a, q1b, q1c⟩ := isOf hZ e0 E_a1
  obtain ⟨_, _, ⟨T1, L1, k1, n1⟩, -, X1, ⟨Lc1, hQ1, l1, y1, z1⟩, st1⟩ := X0.virtualBack hx (y := (⟨"java/lang/AbstractStringBuilder", "inflateIfNeededFor", "(Ljava/lang/String;)V"⟩ : MethodName)) (z := (⟨"java/lang/AbstractStringBuilder", "inflateIfNeededFor", "(Ljava/lang/String;)V"⟩ : MethodName)) hown (mvT hZ (hwi hw 112 rfl)) (mvT hZ (own_declares (hwi hw 113 rfl) (hwi hw 116 rfl))) (notFace_of_selects (args := #[]) (mvT hZ (hwi hw 115 rfl))) (mvT hZ (hwi hw 115 rfl)) (mvT hZ (hwi hw 113 rfl)) (by decide) (backOf (W := 0) (rm_infl l Z a0 hw [] a1 a3 w_COMPACT_STRINGS h0 n0 Z0 S_COMPACT_STRINGS hcs E_a1 F_a1_coder E_a3 F_a3_coder O0) hZ (hwi hw 116 rfl) (hwi hw 70 rfl) (by decide) (by decide)) q1a q1c (g := (mkF m 2 #[.val (.ref a1), .val (.int p2), .val (.ref a3)] [(.ref a3), (.ref a1)])) rfl (by rw [hml]; rfl) (Steps.refl _) (argsL := [(.ref a3)]) (rest := []) (lenOf pd_Ljava_lang_String__V_863 rfl) rfl (by show 2 * 0 + _ ≤ _; exact Nat.le_of_eq rfl) (hb hby d18_2) (fun _ _ => ⟨rfl, e0, (by decide : 0 + 0 ≤ _), (by decide : 0 + 0 ≤ _)⟩)
  dsimp only [Pt.U, Pt.locs, Pt.cells, Pt.slots] at X1 l1 y1 z1 st1 hQ1
  subst l1 y1 z1
  obtain ⟨rfl, N1q, e1⟩ := hQ1
  have N1 := Fr.app N0 N1q
  obtain ⟨T2, X2, e2, st2⟩ := getF X1 hx hZ hown (host := "") (Or.inl (hwi hw 74 rfl)) Via.refl e1 F_a1_value (g := (mkF m 7 #[.val (.ref a1), .val (.int p2), .val (.ref a3)] [(.ref a1), (.ref a3)])) rfl rfl (hb hby d18_7)
  obtain ⟨T3, X3, e3, st3⟩ := getF X2 hx hZ hown (host := "") (Or.inl (hwi hw 76 rfl)) Via.refl e2 F_a1_coder (g := (mkF m 12 #[.val (.ref a1), .val (.int p2), .val (.ref a3)] [(.ref a1), (.int p2), (.ref t_a1), (.ref a3)])) rfl rfl (hb hby d18_12)
  obtain ⟨cq4, kq4, q4a, q4b, q4c⟩ := isOf hZ e3 E_a3
  obtain ⟨_, _, ⟨T4, L4, k4, n4⟩, -, X4, ⟨Lc4, hQ4, l4, y4, z4⟩, st4⟩ := X3.virtualBack hx (y := (⟨"java/lang/String", "getBytes", "([BIB)V"⟩ : MethodName)) (z := (⟨"java/lang/String", "getBytes", "([BIB)V"⟩ : MethodName)) hown (mvT hZ (hwi hw 118 rfl)) (mvT hZ (hwi hw 119 rfl)) (notFace_of_selects (args := #[]) (mvT hZ (hwi hw 121 rfl))) (mvT hZ (hwi hw 121 rfl)) (mvT hZ (hwi hw 120 rfl)) (by decide) (backOf (W := 0) (rm_getb l Z a0 hw [] a3 t_a1 p2 w_COMPACT_STRINGS t_a3 k_t_a3 vs N k_t_a1 vd h0 n0 Z0 S_COMPACT_STRINGS hcs E_a3 F_a3_coder F_a3_value V_t_a3 V_t_a1 hdp hfit hlen hnn hne O0 hsl g_t_a1) hZ (hwi hw 122 rfl) (hwi hw 3 rfl) (by decide) (by decide)) q4a q4c (g := (mkF m 15 #[.val (.ref a1), .val (.int p2), .val (.ref a3)] [(.int 0), (.int p2), (.ref t_a1), (.ref a3)])) rfl (by rw [hml]; rfl) (Steps.refl _) (argsL := [(.ref t_a1), (.int p2), (.int 0)]) (rest := []) (lenOf pd_BIB_V_463 rfl) rfl (by show 2 * 0 + _ ≤ _; exact Nat.le_of_eq rfl) (hb hby d18_15) (fun _ _ => ⟨rfl, e3, (by decide : 0 + 0 ≤ _), (by decide : 0 + 0 ≤ _)⟩)
  dsimp only [Pt.U, Pt.locs, Pt.cells, Pt.slots] at X4 l4 y4 z4 st4 hQ4
  subst l4 y4 z4
  obtain ⟨rfl, N4q, Kc4, g4_0⟩ := hQ4
  have N4 := Fr.app N1 N4q
  have sz5 : h0.size ≤ T4.heap.size := Kc4.1
  have Z5 : n0 ≤ T4.heap.size := Nat.le_trans Z0 sz5
  have O5 := O0.keep Kc4 (allS g_t_a1 all0)
  have K5 : Keep h0 T4.heap [t_a1] := (Keep.refl h0 [t_a1]).trans Kc4 (allS (Or.inl (List.mem_of_getElem? (i := 0) rfl)) (all0))
  obtain ⟨fs, hr, hrun, hended, hW, hsame⟩ := X4.leave (v := none) (fun _ => rfl)
  refine ⟨_, _, pre0 _ ?_, hrun, hended, _, _, rfl, ?_, ⟨_, rfl⟩, hW, hsame.mono (by decide) (by decide)⟩
  · show St p e below s₁ (mkF m 0 #[.val (.ref a1), .val (.int p2), .val (.ref a3)] []) _
    refine XS.aloadN X0.here hx rfl (hb hby d18_0) rfl rfl ?_
    refine XS.aloadN X0.here hx rfl (hb hby d18_1) rfl rfl ?_
    refine st1.trans ?_
    refine XS.aloadN X1.here hx rfl (hb hby d18_5) rfl rfl ?_
    show St p e below T1 (mkF m 6 #[.val (.ref a1), .val (.int p2), .val (.ref a3)] [(.ref a3)]) _
    refine XS.aloadN X1.here hx rfl (hb hby d18_6) rfl rfl ?_
    refine st2 _ ?_
    refine XS.iloadN X2.here hx rfl (hb hby d18_10) rfl ?_
    refine XS.aloadN X2.here hx rfl (hb hby d18_11) rfl rfl ?_
    show St p e below T2 (mkF m 12 #[.val (.ref a1), .val (.int p2), .val (.ref a3)] [(.ref a1), (.int p2), (.ref t_a1), (.ref a3)]) _
    refine st3 _ ?_
    refine st4.trans ?_
    show St p e below T4 (mkF m 18 #[.val (.ref a1), .val (.int p2), .val (.ref a3)] []) _
    exact X4.returnOut hx Bd.returns (hb hby d18_18) hr
  · show Q_putst Z a1 p2 a3 w_COMPACT_STRINGS t_a1 k_t_a1 vd t_a3 k_t_a3 vs N h0 n0 _ T4.heap _
    exact ⟨rfl, N4, K5, g4_0⟩
theorem d17_0 : decode jdk_68_method_9_code 0 = .ok (.aload_n 0, 1) := by decide +kernel
theorem d17_1 : decode jdk_68_method_9_code 1 = .ok (.getfield 15, 3) := by decide +kernel
theorem d17_4 : decode jdk_68_method_9_code 4 = .ok (.arraylength, 1) := by decide +kernel
theorem d17_5 : decode jdk_68_method_9_code 5 = .ok (.aload_n 0, 1) := by decide +kernel
theorem d17_6 : decode jdk_68_method_9_code 6 = .ok (.getfield 22, 3) := by decide +kernel
theorem d17_9 : decode jdk_68_method_9_code 9 = .ok (.ishr, 1) := by decide +kernel
theorem d17_10 : decode jdk_68_method_9_code 10 = .ok (.istore_n 2, 1) := by decide +kernel
theorem d17_11 : decode jdk_68_method_9_code 11 = .ok (.iload_n 1, 1) := by decide +kernel
theorem d17_12 : decode jdk_68_method_9_code 12 = .ok (.iload_n 2, 1) := by decide +kernel
theorem d17_13 : decode jdk_68_method_9_code 13 = .ok (.isub, 1) := by decide +kernel
theorem d17_14 : decode jdk_68_method_9_code 14 = .ok (.ifCond .le 24, 3) := by decide +kernel
theorem d17_38 : decode jdk_68_method_9_code 38 = .ok (.return_, 1) := by decide +kernel
theorem pn_17 : plainName "java/lang/AbstractStringBuilder" = true := by first | (simp [plainName, overriddenIn]; done) | decide +kernel
theorem ef_17_RI (m : MethodId) (x0 : Addr) (x1 : Int32) : entryFrame m #[(.ref x0), (.int x1)] 3 = mkF m 0 #[.val (.ref x0), .val (.int x1), .unset] [] := by first | (simp [entryFrame, mkF, argsToLocals, Value.category]; done) | rfl
def Q_ensc (Z : State) (a1 : Addr) (p2 : Int32) (t_a1 : Addr) (k_t_a1 : ClassId) (vd : List Value) (h0 : Heap) (n0 : Nat) (v : Option Value) (h : Heap) (L : List Loc) : Prop := v = none ∧ Fr n0 L ∧ h = h0
set_option maxRecDepth 65536 in
set_option maxHeartbeats 40000000 in
theorem rm_ensc (l : Launch) (Z : State) (a0 : Array Value) (hw : ∀ d ∈ tables_1, d.before a0 Z = true) (ws : List Jvm.Cond) (a1 : Addr) (p2 : Int32) (t_a1 : Addr) (k_t_a1 : ClassId) (vd : List Value) (h0 : Heap) (n0 : Nat) (Z0 : n0 ≤ h0.size) (E_a1 : Exa Z h0 a1 "java/lang/StringBuilder") (F_a1_coder : Fld Z h0 a1 "java/lang/AbstractStringBuilder" "coder" "B" (.int 0)) (F_a1_value : Fld Z h0 a1 "java/lang/AbstractStringBuilder" "value" "[B" (.ref t_a1)) (V_t_a1 : Arv Z h0 t_a1 k_t_a1 .byte (16 : Int32) vd (.int 0)) (hcap : ¬ ((0 : Int32) < (p2 - (16 : Int32)))) :
    MetFree l (⟨"java/lang/AbstractStringBuilder", "ensureCapacityInternal", "(I)V"⟩ : MethodName) (head1 (Jvm.Cond.code (⟨"java/lang/AbstractStringBuilder", "ensureCapacityInternal", "(I)V"⟩ : MethodName) jdk_68_method_9_code 3 none :: ws) ({ frames := 0, cells := 0, slots := 0, locals := 0 } : Room)) (fun a U => a = #[(.ref a1), (.int p2)] ∧ Z.Warmed39 U.vm ∧ U.heap = h0) (fun _ _ _ _ _ => True) (fun _ U o U' => ∃ v L, o = .returned v ∧ Q_ensc Z a1 p2 t_a1 k_t_a1 vd h0 n0 v U'.heap L ∧ FrameEnd U o U' L ({ frames := 0, cells := 0, slots := 0, locals := 0 } : Room).cells ({ frames := 0, cells := 0, slots := 0, locals := 0 } : Room).slots) := by
  refine MetFree.of_bodySF (plainFor_of_name pn_17) hisR ?_
  intro p e s m args below meth c s₁ Bd hml0 hP hK
  obtain ⟨rfl, hZ, hh⟩ := hP
  have hx := Bd.exec
  have hby := Bd.bytes
  have hml : c.maxLocals = 3 := hml0
  have hown : s.vm.findClass "java/lang/AbstractStringBuilder" = some m.cls := findClass_of_methodNamed Bd.named
  have hnm := (name_of_methodNamed Bd.named Bd.method).1
  have X0 : Stand p l e ({ frames := 0, cells := 0, slots := 0, locals := 0 } : Room) s m #[(.ref a1), (.int p2)] below meth c s₁ [] 0 0 := Stand.of_body Bd
  have e0 : s₁.heap = h0 := by rw [← hh, Bd.state]; rfl
  have N0 := Fr.nil n0
  have pre0 : ∀ t, Steps p.tables e below (s₁.setTop (mkF m 0 #[.val (.ref a1), .val (.int p2), .unset] [])) t → Steps p.tables e below (s₁.setTop (entryFrame m #[(.ref a1), (.int p2)] 3)) t := fun t k => castTop (ef_17_RI m a1 p2) k
  obtain ⟨T1, X1, e1, st1⟩ := getF X0 hx hZ hown (host := "") (Or.inl (hwi hw 74 rfl)) Via.refl e0 F_a1_value (g := (mkF m 1 #[.val (.ref a1), .val (.int p2), .unset] [(.ref a1)])) rfl rfl (hb hby d17_1)
  obtain ⟨cl2, Ar2, -, S2, M2, -, -⟩ := id V_t_a1
  obtain ⟨T3, X3, e3, st3⟩ := getF X1 hx hZ hown (host := "") (Or.inl (hwi hw 76 rfl)) Via.refl e1 F_a1_coder (g := (mkF m 6 #[.val (.ref a1), .val (.int p2), .unset] [(.ref a1), (.int 16)])) rfl rfl (hb hby d17_6)
  obtain ⟨fs, hr, hrun, hended, hW, hsame⟩ := X3.leave (v := none) (fun _ => rfl)
  refine ⟨_, _, pre0 _ ?_, hrun, hended, _, _, rfl, ?_, ⟨_, rfl⟩, hW, hsame.mono (by decide) (by decide)⟩
  · show St p e below s₁ (mkF m 0 #[.val (.ref a1), .val (.int p2), .unset] []) _
    refine XS.aloadN X0.here hx rfl (hb hby d17_0) rfl rfl ?_
    refine st1 _ ?_
    refine X1.arraylength hx (by rw [e1]; exact Ar2.1) (State.isArrayOf_alike hZ.alike Ar2.2.1) (g := (mkF m 4 #[.val (.ref a1), .val (.int p2), .unset] [(.ref t_a1)])) rfl rfl (hb hby d17_4) _ ?_
    rw [len_of S2 M2]
    show St p e below T1 (mkF m 5 #[.val (.ref a1), .val (.int p2), .unset] [(.int 16)]) _
    refine XS.aloadN X1.here hx rfl (hb hby d17_5) rfl rfl ?_
    refine st3 _ ?_
    refine XS.ishr X3.here hx rfl (hb hby d17_9) rfl ?_
    show St p e below T3 (mkF m 10 #[.val (.ref a1), .val (.int p2), .unset] [(.int ((16 : Int32) >>> ((0 : Int32) &&& 31)))]) _
    rw [(by decide : ((16 : Int32) >>> ((0 : Int32) &&& 31)) = (16 : Int32))]
    show St p e below T3 (mkF m 10 #[.val (.ref a1), .val (.int p2), .unset] [(.int 16)]) _
    refine XS.istoreN X3.here hx rfl (hb hby d17_10) rfl (l' := #[.val (.ref a1), .val (.int p2), .val (.int 16)]) rfl ?_
    refine XS.iloadN X3.here hx rfl (hb hby d17_11) rfl ?_
    refine XS.iloadN X3.here hx rfl (hb hby d17_12) rfl ?_
    refine XS.isub X3.here hx rfl (hb hby d17_13) rfl ?_
    show St p e below T3 (mkF m 14 #[.val (.ref a1), .val (.int p2), .val (.int 16)] [(.int (p2 - (16 : Int32)))]) _
    refine XS.ifYes X3.here hx rfl (pc0 := 14) (pc' := 38) rfl (hb hby d17_14) rfl ((if0 _ _).trans (flt hcap).2.2.2) (by decide) (by decide) ?_
    show St p e below T3 (mkF m 38 #[.val (.ref a1), .val (.int p2), .val (.int 16)] []) _
    exact X3.returnOut hx Bd.returns (hb hby d17_38) hr
  · show Q_ensc Z a1 p2 t_a1 k_t_a1 vd h0 n0 _ T3.heap _
    rw [e3]
    exact ⟨rfl, N0, rfl⟩
theorem pd_I_154 : parseMethodDescriptor "()I" = some ⟨[], some .int⟩ := by decide +kernel
theorem pd_ILjava_lang_String__V_936 : parseMethodDescriptor "(ILjava/lang/String;)V" = some ⟨[.int, (.object "java/lang/String")], none⟩ := by decide +kernel
theorem d14_0 : decode jdk_68_method_22_code 0 = .ok (.aload_n 1, 1) := by decide +kernel
theorem d14_1 : decode jdk_68_method_22_code 1 = .ok (.ifnonnull 8, 3) := by decide +kernel
theorem d14_9 : decode jdk_68_method_22_code 9 = .ok (.aload_n 1, 1) := by decide +kernel
theorem d14_10 : decode jdk_68_method_22_code 10 = .ok (.invokevirtual 32, 3) := by decide +kernel
theorem d14_13 : decode jdk_68_method_22_code 13 = .ok (.istore_n 2, 1) := by decide +kernel
theorem d14_14 : decode jdk_68_method_22_code 14 = .ok (.aload_n 0, 1) := by decide +kernel
theorem d14_15 : decode jdk_68_method_22_code 15 = .ok (.aload_n 0, 1) := by decide +kernel
theorem d14_16 : decode jdk_68_method_22_code 16 = .ok (.getfield 79, 3) := by decide +kernel
theorem d14_19 : decode jdk_68_method_22_code 19 = .ok (.iload_n 2, 1) := by decide +kernel
theorem d14_20 : decode jdk_68_method_22_code 20 = .ok (.iadd, 1) := by decide +kernel
theorem d14_21 : decode jdk_68_method_22_code 21 = .ok (.invokevirtual 100, 3) := by decide +kernel
theorem d14_24 : decode jdk_68_method_22_code 24 = .ok (.aload_n 0, 1) := by decide +kernel
theorem d14_25 : decode jdk_68_method_22_code 25 = .ok (.aload_n 0, 1) := by decide +kernel
theorem d14_26 : decode jdk_68_method_22_code 26 = .ok (.getfield 79, 3) := by decide +kernel
theorem d14_29 : decode jdk_68_method_22_code 29 = .ok (.aload_n 1, 1) := by decide +kernel
theorem d14_30 : decode jdk_68_method_22_code 30 = .ok (.invokevirtual 208, 3) := by decide +kernel
theorem d14_33 : decode jdk_68_method_22_code 33 = .ok (.aload_n 0, 1) := by decide +kernel
theorem d14_34 : decode jdk_68_method_22_code 34 = .ok (.dup, 1) := by decide +kernel
theorem d14_35 : decode jdk_68_method_22_code 35 = .ok (.getfield 79, 3) := by decide +kernel
theorem d14_38 : decode jdk_68_method_22_code 38 = .ok (.iload_n 2, 1) := by decide +kernel
theorem d14_39 : decode jdk_68_method_22_code 39 = .ok (.iadd, 1) := by decide +kernel
theorem d14_40 : decode jdk_68_method_22_code 40 = .ok (.putfield 79, 3) := by decide +kernel
theorem d14_43 : decode jdk_68_method_22_code 43 = .ok (.aload_n 0, 1) := by decide +kernel
theorem d14_44 : decode jdk_68_method_22_code 44 = .ok (.areturn, 1) := by decide +kernel
theorem pn_14 : plainName "java/lang/AbstractStringBuilder" = true := by first | (simp [plainName, overriddenIn]; done) | decide +kernel
theorem ef_14_RR (m : MethodId) (x0 : Addr) (x1 : Addr) : entryFrame m #[(.ref x0), (.ref x1)] 3 = mkF m 0 #[.val (.ref x0), .val (.ref x1), .unset] [] := by first | (simp [entryFrame, mkF, argsToLocals, Value.category]; done) | rfl
def Q_abapp (Z : State) (a1 : Addr) (a2 : Addr) (w_COMPACT_STRINGS : Int32) (t_a1 : Addr) (k_t_a1 : ClassId) (vd : List Value) (cn : Int32) (t_a2 : Addr) (k_t_a2 : ClassId) (vs : List Value) (N : Int32) (h0 : Heap) (n0 : Nat) (v : Option Value) (h : Heap) (L : List Loc) : Prop := v = some (.ref a1) ∧ Fr n0 L ∧ Keep h0 h [t_a1, a1] ∧ Exa Z h a1 "java/lang/StringBuilder" ∧ Fld Z h a1 "java/lang/AbstractStringBuilder" "value" "[B" (.ref t_a1) ∧ Fld Z h a1 "java/lang/AbstractStringBuilder" "coder" "B" (.int 0) ∧ Fld Z h a1 "java/lang/AbstractStringBuilder" "count" "I" (.int (cn + N)) ∧ Arv Z h t_a1 k_t_a1 .byte (16 : Int32) (own_ap vd vs cn N) (.int 0)
set_option maxRecDepth 65536 in
set_option maxHeartbeats 40000000 in
theorem rm_abapp (l : Launch) (Z : State) (a0 : Array Value) (hw : ∀ d ∈ tables_1, d.before a0 Z = true) (ws : List Jvm.Cond) (a1 : Addr) (a2 : Addr) (w_COMPACT_STRINGS : Int32) (t_a1 : Addr) (k_t_a1 : ClassId) (vd : List Value) (cn : Int32) (t_a2 : Addr) (k_t_a2 : ClassId) (vs : List Value) (N : Int32) (h0 : Heap) (n0 : Nat) (Z0 : n0 ≤ h0.size) (S_COMPACT_STRINGS : Sta Z Z.heap "java/lang/String" "COMPACT_STRINGS" "Z" (.int w_COMPACT_STRINGS)) (hcs : ¬ (w_COMPACT_STRINGS = (0 : Int32))) (E_a1 : Exa Z h0 a1 "java/lang/StringBuilder") (F_a1_coder : Fld Z h0 a1 "java/lang/AbstractStringBuilder" "coder" "B" (.int 0)) (F_a1_value : Fld Z h0 a1 "java/lang/AbstractStringBuilder" "value" "[B" (.ref t_a1)) (V_t_a1 : Arv Z h0 t_a1 k_t_a1 .byte (16 : Int32) vd (.int 0)) (F_a1_count : Fld Z h0 a1 "java/lang/AbstractStringBuilder" "count" "I" (.int cn)) (E_a2 : Exa Z h0 a2 "java/lang/String") (F_a2_coder : Fld Z h0 a2 "java/lang/String" "coder" "B" (.int 0)) (F_a2_value : Fld Z h0 a2 "java/lang/String" "value" "[B" (.ref t_a2)) (V_t_a2 : Arv Z h0 t_a2 k_t_a2 .byte N vs (.int 0)) (hdp : ¬ (cn < (0 : Int32))) (hfit : cn.toNatClampNeg + N.toNatClampNeg ≤ (16 : Int32).toNatClampNeg) (hlen : cn.toNatClampNeg + N.toNatClampNeg ≤ (vd).length) (hnn : ¬ (N < (0 : Int32))) (hcap : ¬ ((0 : Int32) < ((cn + N) - (16 : Int32)))) (hne : ¬ (t_a2 = t_a1)) (hno : ¬ (a2 = a1)) (g_t_a1 : n0 ≤ t_a1) (O0 : Old Z n0 h0) (hN : (N >>> ((0 : Int32) &&& 31)) = N) (hsl : (cn <<< ((0 : Int32) &&& 31)) = cn) (g_a1 : n0 ≤ a1) :
    MetFree l (⟨"java/lang/AbstractStringBuilder", "append", "(Ljava/lang/String;)Ljava/lang/AbstractStringBuilder;"⟩ : MethodName) (head1 (Jvm.Cond.code (⟨"java/lang/AbstractStringBuilder", "append", "(Ljava/lang/String;)Ljava/lang/AbstractStringBuilder;"⟩ : MethodName) jdk_68_method_22_code 3 (some (.object "java/lang/AbstractStringBuilder")) :: ws) ({ frames := 3, cells := 0, slots := 0, locals := 47 } : Room)) (fun a U => a = #[(.ref a1), (.ref a2)] ∧ Z.Warmed39 U.vm ∧ U.heap = h0) (fun _ _ _ _ _ => True) (fun _ U o U' => ∃ v L, o = .returned v ∧ Q_abapp Z a1 a2 w_COMPACT_STRINGS t_a1 k_t_a1 vd cn t_a2 k_t_a2 vs N h0 n0 v U'.heap L ∧ FrameEnd U o U' L ({ frames := 3, cells := 0, slots := 0, locals := 47 } : Room).cells ({ frames := 3, cells := 0, slots := 0, locals := 47 } : Room).slots) := by
  refine MetFree.of_bodySF (plainFor_of_name pn_14) hisR ?_
  intro p e s m args below meth c s₁ Bd hml0 hP hK
  obtain ⟨rfl, hZ, hh⟩ := hP
  have hx := Bd.exec
  have hby := Bd.bytes
  have hml : c.maxLocals = 3 := hml0
  have hown : s.vm.findClass "java/lang/AbstractStringBuilder" = some m.cls := findClass_of_methodNamed Bd.named
  have hnm := (name_of_methodNamed Bd.named Bd.method).1
  have X0 : Stand p l e ({ frames := 3, cells := 0, slots := 0, locals := 47 } : Room) s m #[(.ref a1), (.ref a2)] below meth c s₁ [] 0 0 := Stand.of_body Bd
  have e0 : s₁.heap = h0 := by rw [← hh, Bd.state]; rfl
  have N0 := Fr.nil n0
  have pre0 : ∀ t, Steps p.tables e below (s₁.setTop (mkF m 0 #[.val (.ref a1), .val (.ref a2), .unset] [])) t → Steps p.tables e below (s₁.setTop (entryFrame m #[(.ref a1), (.ref a2)] 3)) t := fun t k => castTop (ef_14_RR m a1 a2) k
  obtain ⟨cq1, kq1, q1a, q1b, q1c⟩ := isOf hZ e0 E_a2
  obtain ⟨_, _, ⟨T1, L1, k1, n1⟩, -, X1, ⟨Lc1, hQ1, l1, y1, z1⟩, st1⟩ := X0.virtualBack hx (y := (⟨"java/lang/String", "length", "()I"⟩ : MethodName)) (z := (⟨"java/lang/String", "length", "()I"⟩ : MethodName)) hown (mvT hZ (hwi hw 89 rfl)) (mvT hZ (hwi hw 90 rfl)) (notFace_of_selects (args := #[]) (mvT hZ (hwi hw 92 rfl))) (mvT hZ (hwi hw 92 rfl)) (mvT hZ (hwi hw 91 rfl)) (by decide) (backOf (W := 0) (rm_slen l Z a0 hw [] a2 w_COMPACT_STRINGS t_a2 k_t_a2 vs N h0 n0 Z0 S_COMPACT_STRINGS hcs E_a2 F_a2_coder F_a2_value V_t_a2 O0 hN) hZ (hwi hw 93 rfl) (hwi hw 3 rfl) (by decide) (by decide)) q1a q1c (g := (mkF m 10 #[.val (.ref a1), .val (.ref a2), .unset] [(.ref a2)])) rfl (by rw [hml]; rfl) (Steps.refl _) (argsL := []) (rest := []) (lenOf pd_I_154 rfl) rfl (by show 2 * 0 + _ ≤ _; exact Nat.le_of_eq rfl) (hb hby d14_10) (fun _ _ => ⟨rfl, e0, (by decide : 0 + 0 ≤ _), (by decide : 0 + 0 ≤ _)⟩)
  dsimp only [Pt.U, Pt.locs, Pt.cells, Pt.slots] at X1 l1 y1 z1 st1 hQ1
  subst l1 y1 z1
  obtain ⟨rfl, N1q, e1⟩ := hQ1
  have N1 := Fr.app N0 N1q
  obtain ⟨T2, X2, e2, st2⟩ := getF X1 hx hZ hown (host := "") (Or.inl (hwi hw 100 rfl)) Via.refl e1 F_a1_count (g := (mkF m 16 #[.val (.ref a1), .val (.ref a2), .val (.int N)] [(.ref a1), (.ref a1)])) rfl rfl (hb hby d14_16)
  obtain ⟨cq3, kq3, q3a, q3b, q3c⟩ := isOf hZ e2 E_a1
  obtain ⟨_, _, ⟨T3, L3, k3, n3⟩, -, X3, ⟨Lc3, hQ3, l3, y3, z3⟩, st3⟩ := X2.virtualBack hx (y := (⟨"java/lang/AbstractStringBuilder", "ensureCapacityInternal", "(I)V"⟩ : MethodName)) (z := (⟨"java/lang/AbstractStringBuilder", "ensureCapacityInternal", "(I)V"⟩ : MethodName)) hown (mvT hZ (hwi hw 102 rfl)) (mvT hZ (own_declares (hwi hw 103 rfl) (hwi hw 106 rfl))) (notFace_of_selects (args := #[]) (mvT hZ (hwi hw 105 rfl))) (mvT hZ (hwi hw 105 rfl)) (mvT hZ (hwi hw 103 rfl)) (by decide) (backOf (W := 0) (rm_ensc l Z a0 hw [] a1 (cn + N) t_a1 k_t_a1 vd h0 n0 Z0 E_a1 F_a1_coder F_a1_value V_t_a1 hcap) hZ (hwi hw 106 rfl) (hwi hw 70 rfl) (by decide) (by decide)) q3a q3c (g := (mkF m 21 #[.val (.ref a1), .val (.ref a2), .val (.int N)] [(.int (cn + N)), (.ref a1)])) rfl (by rw [hml]; rfl) (Steps.refl _) (argsL := [(.int (cn + N))]) (rest := []) (lenOf pd_I_V_240 rfl) rfl (by show 2 * 0 + _ ≤ _; exact Nat.le_of_eq rfl) (hb hby d14_21) (fun _ _ => ⟨rfl, e2, (by decide : 0 + 0 ≤ _), (by decide : 0 + 0 ≤ _)⟩)
  dsimp only [Pt.U, Pt.locs, Pt.cells, Pt.slots] at X3 l3 y3 z3 st3 hQ3
  subst l3 y3 z3
  obtain ⟨rfl, N3q, e3⟩ := hQ3
  have N3 := Fr.app N1 N3q
  obtain ⟨T4, X4, e4, st4⟩ := getF X3 hx hZ hown (host := "") (Or.inl (hwi hw 100 rfl)) Via.refl e3 F_a1_count (g := (mkF m 26 #[.val (.ref a1), .val (.ref a2), .val (.int N)] [(.ref a1), (.ref a1)])) rfl rfl (hb hby d14_26)
  obtain ⟨cq5, kq5, q5a, q5b, q5c⟩ := isOf hZ e4 E_a1
  obtain ⟨_, _, ⟨T5, L5, k5, n5⟩, -, X5, ⟨Lc5, hQ5, l5, y5, z5⟩, st5⟩ := X4.virtualBack hx (y := (⟨"java/lang/AbstractStringBuilder", "putStringAt", "(ILjava/lang/String;)V"⟩ : MethodName)) (z := (⟨"java/lang/AbstractStringBuilder", "putStringAt", "(ILjava/lang/String;)V"⟩ : MethodName)) hown (mvT hZ (hwi hw 107 rfl)) (mvT hZ (own_declares (hwi hw 108 rfl) (hwi hw 111 rfl))) (notFace_of_selects (args := #[]) (mvT hZ (hwi hw 110 rfl))) (mvT hZ (hwi hw 110 rfl)) (mvT hZ (hwi hw 108 rfl)) (by decide) (backOf (W := 0) (rm_putst l Z a0 hw [] a1 cn a2 w_COMPACT_STRINGS t_a1 k_t_a1 vd t_a2 k_t_a2 vs N h0 n0 Z0 S_COMPACT_STRINGS hcs E_a1 F_a1_coder F_a1_value V_t_a1 E_a2 F_a2_coder F_a2_value V_t_a2 hdp hfit hlen hnn hne O0 g_t_a1 hsl) hZ (hwi hw 111 rfl) (hwi hw 70 rfl) (by decide) (by decide)) q5a q5c (g := (mkF m 30 #[.val (.ref a1), .val (.ref a2), .val (.int N)] [(.ref a2), (.int cn), (.ref a1)])) rfl (by rw [hml]; rfl) (Steps.refl _) (argsL := [(.int cn), (.ref a2)]) (rest := []) (lenOf pd_ILjava_lang_String__V_936 rfl) rfl (by show 2 * 0 + _ ≤ _; exact Nat.le_of_eq rfl) (hb hby d14_30) (fun _ _ => ⟨rfl, e4, (by decide : 0 + 0 ≤ _), (by decide : 0 + 0 ≤ _)⟩)
  dsimp only [Pt.U, Pt.locs, Pt.cells, Pt.slots] at X5 l5 y5 z5 st5 hQ5
  subst l5 y5 z5
  obtain ⟨rfl, N5q, Kc5, g5_0⟩ := hQ5
  have N5 := Fr.app N3 N5q
  have sz6 : h0.size ≤ T5.heap.size := Kc5.1
  have Z6 : n0 ≤ T5.heap.size := Nat.le_trans Z0 sz6
  have O6 := O0.keep Kc5 (allS g_t_a1 all0)
  have K6 : Keep h0 T5.heap [t_a1, a1] := (Keep.refl h0 [t_a1, a1]).trans Kc5 (allS (Or.inl (List.mem_of_getElem? (i := 0) rfl)) (all0))
  have fc7 := (E_a1.keep Kc5)
  have fc8 := (F_a1_count.keep Kc5 (ninS (Exa.neArv fc7 g5_0 (hwi hw 61 rfl)) nin0))
  obtain ⟨T9, X9, e9, st9⟩ := getF X5 hx hZ hown (host := "") (Or.inl (hwi hw 100 rfl)) Via.refl rfl fc8 (g := (mkF m 35 #[.val (.ref a1), .val (.ref a2), .val (.int N)] [(.ref a1), (.ref a1)])) rfl rfl (hb hby d14_35)
  obtain ⟨T10, h10, X10, e10, W10, st10⟩ := putF X9 hx hZ hown (host := "") (Or.inl (hwi hw 100 rfl)) Via.refl e9 fc8 fc7 (Or.inl (hwi hw 101 rfl)) (hwi hw 61 rfl) (ty := .int) (by decide) rfl rfl (g := (mkF m 40 #[.val (.ref a1), .val (.ref a2), .val (.int N)] [(.int (cn + N)), (.ref a1)])) rfl rfl (hb hby d14_40)
  have N10 := Fr.snoc X10 N5 g_a1
  have Fw10 := fc8.same W10
  have sz11 : T5.heap.size ≤ h10.size := Nat.le_of_eq W10.size.symm
  have Z11 : n0 ≤ h10.size := Nat.le_trans Z6 sz11
  have O11 := O6.wr W10 g_a1
  have K11 : Keep h0 h10 [t_a1, a1] := K6.wr W10 (Or.inl (List.mem_of_getElem? (i := 1) rfl))
  have fc12 := (fc7.wr W10)
  have fc13 := (g5_0.other W10 (Ne.symm (Exa.neArv E_a1 V_t_a1 (hwi hw 61 rfl))))
  have fc14 := ((F_a1_value.keep Kc5 (ninS (Exa.neArv fc12 fc13 (hwi hw 61 rfl)) nin0)).other W10 (Or.inr (slot_ne (Or.inl (hwi hw 75 rfl)) (Or.inl (hwi hw 101 rfl)) (by decide) (t := (.array .byte)) (t' := .int) (by decide) (by decide))))
  have fc15 := ((F_a1_coder.keep Kc5 (ninS (Exa.neArv fc12 fc13 (hwi hw 61 rfl)) nin0)).other W10 (Or.inr (slot_ne (Or.inl (hwi hw 77 rfl)) (Or.inl (hwi hw 101 rfl)) (by decide) (t := .byte) (t' := .int) (by decide) (by decide))))
  obtain ⟨fs, hr, hrun, hended, hW, hsame⟩ := X10.leave (v := some (.ref a1)) (fun h => by rw [Bd.returns] at h; cases h)
  refine ⟨_, _, pre0 _ ?_, hrun, hended, _, _, rfl, ?_, ⟨_, rfl⟩, hW, hsame.mono (by decide) (by decide)⟩
  · show St p e below s₁ (mkF m 0 #[.val (.ref a1), .val (.ref a2), .unset] []) _
    refine XS.aloadN X0.here hx rfl (hb hby d14_0) rfl rfl ?_
    refine XS.ifnonnullYes X0.here hx rfl (pc0 := 1) (pc' := 9) rfl (hb hby d14_1) rfl (by decide) (by decide) ?_
    refine XS.aloadN X0.here hx rfl (hb hby d14_9) rfl rfl ?_
    refine st1.trans ?_
    show St p e below T1 (mkF m 13 #[.val (.ref a1), .val (.ref a2), .unset] [(.int N)]) _
    refine XS.istoreN X1.here hx rfl (hb hby d14_13) rfl (l' := #[.val (.ref a1), .val (.ref a2), .val (.int N)]) rfl ?_
    refine XS.aloadN X1.here hx rfl (hb hby d14_14) rfl rfl ?_
    refine XS.aloadN X1.here hx rfl (hb hby d14_15) rfl rfl ?_
    refine st2 _ ?_
    show St p e below T2 (mkF m 19 #[.val (.ref a1), .val (.ref a2), .val (.int N)] [(.int cn), (.ref a1)]) _
    refine XS.iloadN X2.here hx rfl (hb hby d14_19) rfl ?_
    refine XS.iadd X2.here hx rfl (hb hby d14_20) rfl ?_
    refine st3.trans ?_
    refine XS.aloadN X3.here hx rfl (hb hby d14_24) rfl rfl ?_
    show St p e below T3 (mkF m 25 #[.val (.ref a1), .val (.ref a2), .val (.int N)] [(.ref a1)]) _
    refine XS.aloadN X3.here hx rfl (hb hby d14_25) rfl rfl ?_
    refine st4 _ ?_
    refine XS.aloadN X4.here hx rfl (hb hby d14_29) rfl rfl ?_
    refine st5.trans ?_
    show St p e below T5 (mkF m 33 #[.val (.ref a1), .val (.ref a2), .val (.int N)] []) _
    refine XS.aloadN X5.here hx rfl (hb hby d14_33) rfl rfl ?_
    refine XS.dup X5.here hx rfl (hb hby d14_34) rfl rfl ?_
    refine st9 _ ?_
    refine XS.iloadN X9.here hx rfl (hb hby d14_38) rfl ?_
    show St p e below T9 (mkF m 39 #[.val (.ref a1), .val (.ref a2), .val (.int N)] [(.int N), (.int cn), (.ref a1)]) _
    refine XS.iadd X9.here hx rfl (hb hby d14_39) rfl ?_
    refine st10 _ ?_
    refine XS.aloadN X10.here hx rfl (hb hby d14_43) rfl rfl ?_
    show St p e below T10 (mkF m 44 #[.val (.ref a1), .val (.ref a2), .val (.int N)] [(.ref a1)]) _
    jvm_step X10.here [X10.here.top, hx, (hb hby d14_44), X10.method', Bd.returns, Value.isRef, FieldType.isReference]
    first | (intro acts; rw [hr _ acts rfl rfl rfl]) | rw [hr _ _ rfl rfl rfl]
    exact Steps.refl _
  · show Q_abapp Z a1 a2 w_COMPACT_STRINGS t_a1 k_t_a1 vd cn t_a2 k_t_a2 vs N h0 n0 _ T10.heap _
    rw [e10]
    exact ⟨rfl, N10, K11, fc12, fc14, fc15, Fw10, fc13⟩
theorem pd_Ljava_lang_String__Ljava_lang_AbstractStringBuilder_4 : parseMethodDescriptor "(Ljava/lang/String;)Ljava/lang/AbstractStringBuilder;" = some ⟨[(.object "java/lang/String")], some (.object "java/lang/AbstractStringBuilder")⟩ := by decide +kernel
theorem d13_0 : decode jdk_67_method_7_code 0 = .ok (.aload_n 0, 1) := by decide +kernel
theorem d13_1 : decode jdk_67_method_7_code 1 = .ok (.aload_n 1, 1) := by decide +kernel
theorem d13_2 : decode jdk_67_method_7_code 2 = .ok (.invokespecial 29, 3) := by decide +kernel
theorem d13_5 : decode jdk_67_method_7_code 5 = .ok (.pop, 1) := by decide +kernel
theorem d13_6 : decode jdk_67_method_7_code 6 = .ok (.aload_n 0, 1) := by decide +kernel
theorem d13_7 : decode jdk_67_method_7_code 7 = .ok (.areturn, 1) := by decide +kernel
theorem pn_13 : plainName "java/lang/StringBuilder" = true := by first | (simp [plainName, overriddenIn]; done) | decide +kernel
theorem ef_13_RR (m : MethodId) (x0 : Addr) (x1 : Addr) : entryFrame m #[(.ref x0), (.ref x1)] 2 = mkF m 0 #[.val (.ref x0), .val (.ref x1)] [] := by first | (simp [entryFrame, mkF, argsToLocals, Value.category]; done) | rfl
def Q_sbapp (Z : State) (a1 : Addr) (a2 : Addr) (w_COMPACT_STRINGS : Int32) (t_a1 : Addr) (k_t_a1 : ClassId) (vd : List Value) (cn : Int32) (t_a2 : Addr) (k_t_a2 : ClassId) (vs : List Value) (N : Int32) (h0 : Heap) (n0 : Nat) (v : Option Value) (h : Heap) (L : List Loc) : Prop := v = some (.ref a1) ∧ Fr n0 L ∧ Keep h0 h [a1, t_a1] ∧ Exa Z h a1 "java/lang/StringBuilder" ∧ Fld Z h a1 "java/lang/AbstractStringBuilder" "value" "[B" (.ref t_a1) ∧ Fld Z h a1 "java/lang/AbstractStringBuilder" "coder" "B" (.int 0) ∧ Fld Z h a1 "java/lang/AbstractStringBuilder" "count" "I" (.int (cn + N)) ∧ Arv Z h t_a1 k_t_a1 .byte (16 : Int32) (own_ap vd vs cn N) (.int 0)
set_option maxRecDepth 65536 in
set_option maxHeartbeats 40000000 in
theorem rm_sbapp (l : Launch) (Z : State) (a0 : Array Value) (hw : ∀ d ∈ tables_1, d.before a0 Z = true) (ws : List Jvm.Cond) (a1 : Addr) (a2 : Addr) (w_COMPACT_STRINGS : Int32) (t_a1 : Addr) (k_t_a1 : ClassId) (vd : List Value) (cn : Int32) (t_a2 : Addr) (k_t_a2 : ClassId) (vs : List Value) (N : Int32) (h0 : Heap) (n0 : Nat) (Z0 : n0 ≤ h0.size) (S_COMPACT_STRINGS : Sta Z Z.heap "java/lang/String" "COMPACT_STRINGS" "Z" (.int w_COMPACT_STRINGS)) (hcs : ¬ (w_COMPACT_STRINGS = (0 : Int32))) (E_a1 : Exa Z h0 a1 "java/lang/StringBuilder") (F_a1_coder : Fld Z h0 a1 "java/lang/AbstractStringBuilder" "coder" "B" (.int 0)) (F_a1_value : Fld Z h0 a1 "java/lang/AbstractStringBuilder" "value" "[B" (.ref t_a1)) (V_t_a1 : Arv Z h0 t_a1 k_t_a1 .byte (16 : Int32) vd (.int 0)) (F_a1_count : Fld Z h0 a1 "java/lang/AbstractStringBuilder" "count" "I" (.int cn)) (E_a2 : Exa Z h0 a2 "java/lang/String") (F_a2_coder : Fld Z h0 a2 "java/lang/String" "coder" "B" (.int 0)) (F_a2_value : Fld Z h0 a2 "java/lang/String" "value" "[B" (.ref t_a2)) (V_t_a2 : Arv Z h0 t_a2 k_t_a2 .byte N vs (.int 0)) (hdp : ¬ (cn < (0 : Int32))) (hfit : cn.toNatClampNeg + N.toNatClampNeg ≤ (16 : Int32).toNatClampNeg) (hlen : cn.toNatClampNeg + N.toNatClampNeg ≤ (vd).length) (hnn : ¬ (N < (0 : Int32))) (hcap : ¬ ((0 : Int32) < ((cn + N) - (16 : Int32)))) (hne : ¬ (t_a2 = t_a1)) (hno : ¬ (a2 = a1)) (g_t_a1 : n0 ≤ t_a1) (O0 : Old Z n0 h0) (g_a1 : n0 ≤ a1) (hN : (N >>> ((0 : Int32) &&& 31)) = N) (hsl : (cn <<< ((0 : Int32) &&& 31)) = cn) :
    MetFree l (⟨"java/lang/StringBuilder", "append", "(Ljava/lang/String;)Ljava/lang/StringBuilder;"⟩ : MethodName) (head1 (Jvm.Cond.code (⟨"java/lang/StringBuilder", "append", "(Ljava/lang/String;)Ljava/lang/StringBuilder;"⟩ : MethodName) jdk_67_method_7_code 2 (some (.object "java/lang/StringBuilder")) :: ws) ({ frames := 4, cells := 0, slots := 0, locals := 61 } : Room)) (fun a U => a = #[(.ref a1), (.ref a2)] ∧ Z.Warmed39 U.vm ∧ U.heap = h0) (fun _ _ _ _ _ => True) (fun _ U o U' => ∃ v L, o = .returned v ∧ Q_sbapp Z a1 a2 w_COMPACT_STRINGS t_a1 k_t_a1 vd cn t_a2 k_t_a2 vs N h0 n0 v U'.heap L ∧ FrameEnd U o U' L ({ frames := 4, cells := 0, slots := 0, locals := 61 } : Room).cells ({ frames := 4, cells := 0, slots := 0, locals := 61 } : Room).slots) := by
  refine MetFree.of_bodySF (plainFor_of_name pn_13) hisR ?_
  intro p e s m args below meth c s₁ Bd hml0 hP hK
  obtain ⟨rfl, hZ, hh⟩ := hP
  have hx := Bd.exec
  have hby := Bd.bytes
  have hml : c.maxLocals = 2 := hml0
  have hown : s.vm.findClass "java/lang/StringBuilder" = some m.cls := findClass_of_methodNamed Bd.named
  have hnm := (name_of_methodNamed Bd.named Bd.method).1
  have X0 : Stand p l e ({ frames := 4, cells := 0, slots := 0, locals := 61 } : Room) s m #[(.ref a1), (.ref a2)] below meth c s₁ [] 0 0 := Stand.of_body Bd
  have e0 : s₁.heap = h0 := by rw [← hh, Bd.state]; rfl
  have N0 := Fr.nil n0
  have pre0 : ∀ t, Steps p.tables e below (s₁.setTop (mkF m 0 #[.val (.ref a1), .val (.ref a2)] [])) t → Steps p.tables e below (s₁.setTop (entryFrame m #[(.ref a1), (.ref a2)] 2)) t := fun t k => castTop (ef_13_RR m a1 a2) k
  obtain ⟨_, _, ⟨T1, L1, k1, n1⟩, -, X1, ⟨Lc1, hQ1, l1, y1, z1⟩, st1⟩ := superBack X0 hx hZ (y := (⟨"java/lang/AbstractStringBuilder", "append", "(Ljava/lang/String;)Ljava/lang/AbstractStringBuilder;"⟩ : MethodName)) hown (hwi hw 84 rfl) (own_same (y := (⟨"java/lang/AbstractStringBuilder", "append", "(Ljava/lang/String;)Ljava/lang/AbstractStringBuilder;"⟩ : MethodName)) (hwi hw 85 rfl) (hwi hw 105 rfl) rfl (by decide)) (hwi hw 85 rfl) (hwi hw 86 rfl) (by decide) (backOf (W := 0) (rm_abapp l Z a0 hw [] a1 a2 w_COMPACT_STRINGS t_a1 k_t_a1 vd cn t_a2 k_t_a2 vs N h0 n0 Z0 S_COMPACT_STRINGS hcs E_a1 F_a1_coder F_a1_value V_t_a1 F_a1_count E_a2 F_a2_coder F_a2_value V_t_a2 hdp hfit hlen hnn hcap hne hno g_t_a1 O0 hN hsl g_a1) hZ (hwi hw 88 rfl) (hwi hw 70 rfl) (by decide) (by decide)) e0 (Ins.self E_a1) (g := (mkF m 2 #[.val (.ref a1), .val (.ref a2)] [(.ref a2), (.ref a1)])) rfl (by rw [hml]; rfl) (hwi hw 88 rfl) (argsL := [(.ref a2)]) (rest := []) (lenOf pd_Ljava_lang_String__Ljava_lang_AbstractStringBuilder_4 rfl) rfl (by show 2 * 0 + _ ≤ _; exact Nat.le_of_eq rfl) (hb hby d13_2) (fun _ _ => ⟨rfl, e0, (by decide : 0 + 0 ≤ _), (by decide : 0 + 0 ≤ _)⟩)
  dsimp only [Pt.U, Pt.locs, Pt.cells, Pt.slots] at X1 l1 y1 z1 st1 hQ1
  subst l1 y1 z1
  obtain ⟨rfl, N1q, Kc1, g1_0, g1_1, g1_2, g1_3, g1_4⟩ := hQ1
  have N1 := Fr.app N0 N1q
  have sz2 : h0.size ≤ T1.heap.size := Kc1.1
  have Z2 : n0 ≤ T1.heap.size := Nat.le_trans Z0 sz2
  have O2 := O0.keep Kc1 (allS g_t_a1 (allS g_a1 all0))
  have K2 : Keep h0 T1.heap [a1, t_a1] := (Keep.refl h0 [a1, t_a1]).trans Kc1 (allS (Or.inl (List.mem_of_getElem? (i := 1) rfl)) (allS (Or.inl (List.mem_of_getElem? (i := 0) rfl)) (all0)))
  obtain ⟨fs, hr, hrun, hended, hW, hsame⟩ := X1.leave (v := some (.ref a1)) (fun h => by rw [Bd.returns] at h; cases h)
  refine ⟨_, _, pre0 _ ?_, hrun, hended, _, _, rfl, ?_, ⟨_, rfl⟩, hW, hsame.mono (by decide) (by decide)⟩
  · show St p e below s₁ (mkF m 0 #[.val (.ref a1), .val (.ref a2)] []) _
    refine XS.aloadN X0.here hx rfl (hb hby d13_0) rfl rfl ?_
    refine XS.aloadN X0.here hx rfl (hb hby d13_1) rfl rfl ?_
    refine st1.trans ?_
    refine XS.pop X1.here hx rfl (hb hby d13_5) rfl rfl ?_
    show St p e below T1 (mkF m 6 #[.val (.ref a1), .val (.ref a2)] []) _
    refine XS.aloadN X1.here hx rfl (hb hby d13_6) rfl rfl ?_
    show St p e below T1 (mkF m 7 #[.val (.ref a1), .val (.ref a2)] [(.ref a1)]) _
    jvm_step X1.here [X1.here.top, hx, (hb hby d13_7), X1.method', Bd.returns, Value.isRef, FieldType.isReference]
    first | (intro acts; rw [hr _ acts rfl rfl rfl]) | rw [hr _ _ rfl rfl rfl]
    exact Steps.refl _
  · show Q_sbapp Z a1 a2 w_COMPACT_STRINGS t_a1 k_t_a1 vd cn t_a2 k_t_a2 vs N h0 n0 _ T1.heap _
    exact ⟨rfl, N1, K2, g1_0, g1_1, g1_2, g1_3, g1_4⟩
theorem d30_0 : decode jdk_65_method_131_code 0 = .ok (.iload_n 1, 1) := by decide +kernel
theorem d30_1 : decode jdk_65_method_131_code 1 = .ok (.iload_n 0, 1) := by decide +kernel
theorem d30_2 : decode jdk_65_method_131_code 2 = .ok (.if_icmp .ge 35, 3) := by decide +kernel
theorem d30_37 : decode jdk_65_method_131_code 37 = .ok (.return_, 1) := by decide +kernel
theorem pn_30 : plainName "java/util/Arrays" = true := by first | (simp [plainName, overriddenIn]; done) | decide +kernel
theorem ef_30_II (m : MethodId) (x0 : Int32) (x1 : Int32) : entryFrame m #[(.int x0), (.int x1)] 2 = mkF m 0 #[.val (.int x0), .val (.int x1)] [] := by first | (simp [entryFrame, mkF, argsToLocals, Value.category]; done) | rfl
def Q_cklen_5 (Z : State)  (h0 : Heap) (n0 : Nat) (v : Option Value) (h : Heap) (L : List Loc) : Prop := v = none ∧ Fr n0 L ∧ h = h0
set_option maxRecDepth 65536 in
set_option maxHeartbeats 40000000 in
theorem rm_cklen_5 (l : Launch) (Z : State) (a0 : Array Value) (hw : ∀ d ∈ tables_1, d.before a0 Z = true) (ws : List Jvm.Cond)  (h0 : Heap) (n0 : Nat) (Z0 : n0 ≤ h0.size) :
    MetFree l (⟨"java/util/Arrays", "checkLength", "(II)V"⟩ : MethodName) (head1 (Jvm.Cond.code (⟨"java/util/Arrays", "checkLength", "(II)V"⟩ : MethodName) jdk_65_method_131_code 2 none :: ws) ({ frames := 0, cells := 0, slots := 0, locals := 0 } : Room)) (fun a U => a = #[(.int 0), (.int 5)] ∧ Z.Warmed39 U.vm ∧ U.heap = h0) (fun _ _ _ _ _ => True) (fun _ U o U' => ∃ v L, o = .returned v ∧ Q_cklen_5 Z  h0 n0 v U'.heap L ∧ FrameEnd U o U' L ({ frames := 0, cells := 0, slots := 0, locals := 0 } : Room).cells ({ frames := 0, cells := 0, slots := 0, locals := 0 } : Room).slots) := by
  refine MetFree.of_bodySF (plainFor_of_name pn_30) hisR ?_
  intro p e s m args below meth c s₁ Bd hml0 hP hK
  obtain ⟨rfl, hZ, hh⟩ := hP
  have hx := Bd.exec
  have hby := Bd.bytes
  have hml : c.maxLocals = 2 := hml0
  have hown : s.vm.findClass "java/util/Arrays" = some m.cls := findClass_of_methodNamed Bd.named
  have hnm := (name_of_methodNamed Bd.named Bd.method).1
  have X0 : Stand p l e ({ frames := 0, cells := 0, slots := 0, locals := 0 } : Room) s m #[(.int 0), (.int 5)] below meth c s₁ [] 0 0 := Stand.of_body Bd
  have e0 : s₁.heap = h0 := by rw [← hh, Bd.state]; rfl
  have N0 := Fr.nil n0
  have pre0 : ∀ t, Steps p.tables e below (s₁.setTop (mkF m 0 #[.val (.int 0), .val (.int 5)] [])) t → Steps p.tables e below (s₁.setTop (entryFrame m #[(.int 0), (.int 5)] 2)) t := fun t k => castTop (ef_30_II m (0 : Int32) (5 : Int32)) k
  obtain ⟨fs, hr, hrun, hended, hW, hsame⟩ := X0.leave (v := none) (fun _ => rfl)
  refine ⟨_, _, pre0 _ ?_, hrun, hended, _, _, rfl, ?_, ⟨_, rfl⟩, hW, hsame.mono (by decide) (by decide)⟩
  · show St p e below s₁ (mkF m 0 #[.val (.int 0), .val (.int 5)] []) _
    refine XS.iloadN X0.here hx rfl (hb hby d30_0) rfl ?_
    refine XS.iloadN X0.here hx rfl (hb hby d30_1) rfl ?_
    refine XS.icmpYes X0.here hx rfl (pc0 := 2) (pc' := 37) rfl (hb hby d30_2) rfl (flt (by decide : ¬ ((5 : Int32) < (0 : Int32)))).2.1 (by decide) (by decide) ?_
    show St p e below s₁ (mkF m 37 #[.val (.int 0), .val (.int 5)] []) _
    exact X0.returnOut hx Bd.returns (hb hby d30_37) hr
  · show Q_cklen_5 Z  h0 n0 _ s₁.heap _
    rw [e0]
    exact ⟨rfl, N0, rfl⟩
theorem d31_0 : decode jdk_29_method_69_code 0 = .ok (.iload_n 0, 1) := by decide +kernel
theorem d31_1 : decode jdk_29_method_69_code 1 = .ok (.iload_n 1, 1) := by decide +kernel
theorem d31_2 : decode jdk_29_method_69_code 2 = .ok (.if_icmp .gt 7, 3) := by decide +kernel
theorem d31_9 : decode jdk_29_method_69_code 9 = .ok (.iload_n 1, 1) := by decide +kernel
theorem d31_10 : decode jdk_29_method_69_code 10 = .ok (.ireturn, 1) := by decide +kernel
theorem ef_31_II (m : MethodId) (x0 : Int32) (x1 : Int32) : entryFrame m #[(.int x0), (.int x1)] 2 = mkF m 0 #[.val (.int x0), .val (.int x1)] [] := by first | (simp [entryFrame, mkF, argsToLocals, Value.category]; done) | rfl
def Q_min_5 (Z : State)  (h0 : Heap) (n0 : Nat) (v : Option Value) (h : Heap) (L : List Loc) : Prop := v = some (.int 5) ∧ Fr n0 L ∧ h = h0
set_option maxRecDepth 65536 in
set_option maxHeartbeats 40000000 in
theorem rm_min_5 (l : Launch) (Z : State) (a0 : Array Value) (hw : ∀ d ∈ tables_1, d.before a0 Z = true) (ws : List Jvm.Cond)  (h0 : Heap) (n0 : Nat) (Z0 : n0 ≤ h0.size) :
    MetFree l (⟨"java/lang/Math", "min", "(II)I"⟩ : MethodName) (head1 (Jvm.Cond.code (⟨"java/lang/Math", "min", "(II)I"⟩ : MethodName) jdk_29_method_69_code 2 (some .int) :: ws) ({ frames := 0, cells := 0, slots := 0, locals := 0 } : Room)) (fun a U => a = #[(.int 16), (.int 5)] ∧ Z.Warmed39 U.vm ∧ U.heap = h0) (fun _ _ _ _ _ => True) (fun _ U o U' => ∃ v L, o = .returned v ∧ Q_min_5 Z  h0 n0 v U'.heap L ∧ FrameEnd U o U' L ({ frames := 0, cells := 0, slots := 0, locals := 0 } : Room).cells ({ frames := 0, cells := 0, slots := 0, locals := 0 } : Room).slots) := by
  refine MetFree.of_bodySF (Jvm.Free.JP.mathPlain rfl (by decide +kernel)) hisR ?_
  intro p e s m args below meth c s₁ Bd hml0 hP hK
  obtain ⟨rfl, hZ, hh⟩ := hP
  have hx := Bd.exec
  have hby := Bd.bytes
  have hml : c.maxLocals = 2 := hml0
  have hown : s.vm.findClass "java/lang/Math" = some m.cls := findClass_of_methodNamed Bd.named
  have hnm := (name_of_methodNamed Bd.named Bd.method).1
  have X0 : Stand p l e ({ frames := 0, cells := 0, slots := 0, locals := 0 } : Room) s m #[(.int 16), (.int 5)] below meth c s₁ [] 0 0 := Stand.of_body Bd
  have e0 : s₁.heap = h0 := by rw [← hh, Bd.state]; rfl
  have N0 := Fr.nil n0
  have pre0 : ∀ t, Steps p.tables e below (s₁.setTop (mkF m 0 #[.val (.int 16), .val (.int 5)] [])) t → Steps p.tables e below (s₁.setTop (entryFrame m #[(.int 16), (.int 5)] 2)) t := fun t k => castTop (ef_31_II m (16 : Int32) (5 : Int32)) k
  obtain ⟨fs, hr, hrun, hended, hW, hsame⟩ := X0.leave (v := some (.int 5)) (fun h => by rw [Bd.returns] at h; cases h)
  refine ⟨_, _, pre0 _ ?_, hrun, hended, _, _, rfl, ?_, ⟨_, rfl⟩, hW, hsame.mono (by decide) (by decide)⟩
  · show St p e below s₁ (mkF m 0 #[.val (.int 16), .val (.int 5)] []) _
    refine XS.iloadN X0.here hx rfl (hb hby d31_0) rfl ?_
    refine XS.iloadN X0.here hx rfl (hb hby d31_1) rfl ?_
    refine XS.icmpYes X0.here hx rfl (pc0 := 2) (pc' := 9) rfl (hb hby d31_2) rfl (tlt (by decide : (5 : Int32) < (16 : Int32))).2.2.1 (by decide) (by decide) ?_
    refine XS.iloadN X0.here hx rfl (hb hby d31_9) rfl ?_
    show St p e below s₁ (mkF m 10 #[.val (.int 16), .val (.int 5)] [(.int 5)]) _
    exact retI X0 hx Bd.returns (hb hby d31_10) hr
  · show Q_min_5 Z  h0 n0 _ s₁.heap _
    rw [e0]
    exact ⟨rfl, N0, rfl⟩
theorem pd_II_I_300 : parseMethodDescriptor "(II)I" = some ⟨[.int, .int], some .int⟩ := by decide +kernel
theorem d29_0 : decode jdk_65_method_133_code 0 = .ok (.iload_n 1, 1) := by decide +kernel
theorem d29_1 : decode jdk_65_method_133_code 1 = .ok (.iload_n 2, 1) := by decide +kernel
theorem d29_2 : decode jdk_65_method_133_code 2 = .ok (.invokestatic 343, 3) := by decide +kernel
theorem d29_5 : decode jdk_65_method_133_code 5 = .ok (.iload_n 2, 1) := by decide +kernel
theorem d29_6 : decode jdk_65_method_133_code 6 = .ok (.iload_n 1, 1) := by decide +kernel
theorem d29_7 : decode jdk_65_method_133_code 7 = .ok (.isub, 1) := by decide +kernel
theorem d29_8 : decode jdk_65_method_133_code 8 = .ok (.istore_n 3, 1) := by decide +kernel
theorem d29_9 : decode jdk_65_method_133_code 9 = .ok (.iload_n 3, 1) := by decide +kernel
theorem d29_10 : decode jdk_65_method_133_code 10 = .ok (.newarray .byte, 2) := by decide +kernel
theorem d29_12 : decode jdk_65_method_133_code 12 = .ok (.astore 4, 2) := by decide +kernel
theorem d29_14 : decode jdk_65_method_133_code 14 = .ok (.aload_n 0, 1) := by decide +kernel
theorem d29_15 : decode jdk_65_method_133_code 15 = .ok (.iload_n 1, 1) := by decide +kernel
theorem d29_16 : decode jdk_65_method_133_code 16 = .ok (.aload 4, 2) := by decide +kernel
theorem d29_18 : decode jdk_65_method_133_code 18 = .ok (.iconst 0, 1) := by decide +kernel
theorem d29_19 : decode jdk_65_method_133_code 19 = .ok (.aload_n 0, 1) := by decide +kernel
theorem d29_20 : decode jdk_65_method_133_code 20 = .ok (.arraylength, 1) := by decide +kernel
theorem d29_21 : decode jdk_65_method_133_code 21 = .ok (.iload_n 1, 1) := by decide +kernel
theorem d29_22 : decode jdk_65_method_133_code 22 = .ok (.isub, 1) := by decide +kernel
theorem d29_23 : decode jdk_65_method_133_code 23 = .ok (.iload_n 3, 1) := by decide +kernel
theorem d29_24 : decode jdk_65_method_133_code 24 = .ok (.invokestatic 304, 3) := by decide +kernel
theorem d29_27 : decode jdk_65_method_133_code 27 = .ok (.invokestatic 150, 3) := by decide +kernel
theorem d29_30 : decode jdk_65_method_133_code 30 = .ok (.aload 4, 2) := by decide +kernel
theorem d29_32 : decode jdk_65_method_133_code 32 = .ok (.areturn, 1) := by decide +kernel
theorem pn_29 : plainName "java/util/Arrays" = true := by first | (simp [plainName, overriddenIn]; done) | decide +kernel
theorem ef_29_RII (m : MethodId) (x0 : Addr) (x1 : Int32) (x2 : Int32) : entryFrame m #[(.ref x0), (.int x1), (.int x2)] 5 = mkF m 0 #[.val (.ref x0), .val (.int x1), .val (.int x2), .unset, .unset] [] := by first | (simp [entryFrame, mkF, argsToLocals, Value.category]; done) | rfl
def Q_corb_5 (Z : State) (a1 : Addr) (k_a1 : ClassId) (vd : List Value) (h0 : Heap) (n0 : Nat) (v : Option Value) (h : Heap) (L : List Loc) : Prop := ∃ (r : Addr) (kr : ClassId), v = some (.ref r) ∧ Fr n0 L ∧ Keep h0 h [] ∧ h0.size ≤ r ∧ Arv Z h r kr .byte (5 : Int32) (own_ap [(.int 0), (.int 0), (.int 0), (.int 0), (.int 0)] vd (0 : Int32) (5 : Int32)) (.int 0)
set_option maxRecDepth 65536 in
set_option maxHeartbeats 40000000 in
theorem rm_corb_5 (l : Launch) (Z : State) (a0 : Array Value) (hw : ∀ d ∈ tables_1, d.before a0 Z = true) (ws : List Jvm.Cond) (a1 : Addr) (k_a1 : ClassId) (vd : List Value) (h0 : Heap) (n0 : Nat) (Z0 : n0 ≤ h0.size) (V_a1 : Arv Z h0 a1 k_a1 .byte (16 : Int32) vd (.int 0)) (O0 : Old Z n0 h0) :
    MetFree l (⟨"java/util/Arrays", "copyOfRangeByte", "([BII)[B"⟩ : MethodName) (head1 (Jvm.Cond.code (⟨"java/util/Arrays", "copyOfRangeByte", "([BII)[B"⟩ : MethodName) jdk_65_method_133_code 5 (some (.array .byte)) :: ws) ({ frames := 1, cells := 1, slots := 5, locals := 18 } : Room)) (fun a U => a = #[(.ref a1), (.int 0), (.int 5)] ∧ Z.Warmed39 U.vm ∧ U.heap = h0) (fun _ _ _ _ _ => True) (fun _ U o U' => ∃ v L, o = .returned v ∧ Q_corb_5 Z a1 k_a1 vd h0 n0 v U'.heap L ∧ FrameEnd U o U' L ({ frames := 1, cells := 1, slots := 5, locals := 18 } : Room).cells ({ frames := 1, cells := 1, slots := 5, locals := 18 } : Room).slots) := by
  refine MetFree.of_bodySF (plainFor_of_name pn_29) hisR ?_
  intro p e s m args below meth c s₁ Bd hml0 hP hK
  obtain ⟨rfl, hZ, hh⟩ := hP
  have hx := Bd.exec
  have hby := Bd.bytes
  have hml : c.maxLocals = 5 := hml0
  have hown : s.vm.findClass "java/util/Arrays" = some m.cls := findClass_of_methodNamed Bd.named
  have hnm := (name_of_methodNamed Bd.named Bd.method).1
  have X0 : Stand p l e ({ frames := 1, cells := 1, slots := 5, locals := 18 } : Room) s m #[(.ref a1), (.int 0), (.int 5)] below meth c s₁ [] 0 0 := Stand.of_body Bd
  have e0 : s₁.heap = h0 := by rw [← hh, Bd.state]; rfl
  have N0 := Fr.nil n0
  have pre0 : ∀ t, Steps p.tables e below (s₁.setTop (mkF m 0 #[.val (.ref a1), .val (.int 0), .val (.int 5), .unset, .unset] [])) t → Steps p.tables e below (s₁.setTop (entryFrame m #[(.ref a1), (.int 0), (.int 5)] 5)) t := fun t k => castTop (ef_29_RII m a1 (0 : Int32) (5 : Int32)) k
  obtain ⟨_, _, ⟨T1, L1, k1, n1⟩, -, X1, ⟨Lc1, hQ1, l1, y1, z1⟩, st1⟩ := Jvm.LawKit.callS X0 hx (y := (⟨"java/util/Arrays", "checkLength", "(II)V"⟩ : MethodName)) hown (mvT hZ (hwi hw 165 rfl)) (mvT hZ (hwi hw 166 rfl)) (mvT hZ (hwi hw 160 rfl)) (mvT hZ (hwi hw 167 rfl)) (by decide) (backOf (W := 0) (rm_cklen_5 l Z a0 hw []  h0 n0 Z0) hZ (hwi hw 167 rfl) (hwi hw 160 rfl) (by decide) (by decide)) (g := (mkF m 2 #[.val (.ref a1), .val (.int 0), .val (.int 5), .unset, .unset] [(.int 5), (.int 0)])) rfl (by rw [hml]; rfl) (argsL := [(.int 0), (.int 5)]) (rest := []) (lenOf pd_II_V_313 rfl) rfl (by show 2 * 0 + _ ≤ _; exact Nat.le_of_eq rfl) (hb hby d29_2) (fun _ _ => ⟨rfl, e0, (by decide : 0 + 0 ≤ _), (by decide : 0 + 0 ≤ _)⟩)
  dsimp only [Pt.U, Pt.locs, Pt.cells, Pt.slots] at X1 l1 y1 z1 st1 hQ1
  subst l1 y1 z1
  obtain ⟨rfl, N1q, e1⟩ := hQ1
  have N1 := Fr.app N0 N1q
  obtain ⟨T2, h2, k2, X2, e2, E2, A2, st2⟩ := newP X1 hx hZ (hwi hw 15 rfl) e1 (g := (mkF m 10 #[.val (.ref a1), .val (.int 0), .val (.int 5), .val (.int 5), .unset] [(.int 5)])) rfl (hb hby d29_10) rfl (by decide) (cap := 5) (by decide) (by decide) (by decide) (by decide)
  obtain ⟨b2, g2⟩ : ∃ z, z = h0.size := ⟨_, rfl⟩
  rw [← g2] at A2 st2
  have bn_b2 : h0.size ≤ b2 := Nat.le_of_eq g2.symm
  have sz3 : h0.size ≤ h2.size := E2.1
  have Z3 : n0 ≤ h2.size := Nat.le_trans Z0 sz3
  have O3 := O0.ext E2
  have K3 : Keep h0 h2 [] := (Keep.refl h0 []).ext E2
  have V2 : Arv Z h2 b2 k2 .byte (5 : Int32) [(.int 0), (.int 0), (.int 0), (.int 0), (.int 0)] (.int 0) := (Arv.new A2 (by decide)).pad (pad_rep [] (.int 0) 5)
  have fc4 := (V_a1.ext E2)
  obtain ⟨cl5, Ar5, -, S5, M5, -, -⟩ := id fc4
  obtain ⟨_, _, ⟨T6, L6, k6, n6⟩, -, X6, ⟨Lc6, hQ6, l6, y6, z6⟩, st6⟩ := Jvm.LawKit.callS X2 hx (y := (⟨"java/lang/Math", "min", "(II)I"⟩ : MethodName)) hown (mvT hZ (hwi hw 168 rfl)) (mvT hZ (hwi hw 169 rfl)) (mvT hZ (hwi hw 170 rfl)) (mvT hZ (hwi hw 171 rfl)) (by decide) (backOf (W := 4) (rm_min_5 l Z a0 hw []  h2 n0 Z3) hZ (hwi hw 171 rfl) (hwi hw 170 rfl) (by decide) (by decide)) (g := (mkF m 24 #[.val (.ref a1), .val (.int 0), .val (.int 5), .val (.int 5), .val (.ref b2)] [(.int 5), (.int 16), (.int 0), (.ref b2), (.int 0), (.ref a1)])) rfl (by rw [hml]; rfl) (argsL := [(.int 16), (.int 5)]) (rest := [(.int 0), (.ref b2), (.int 0), (.ref a1)]) (lenOf pd_II_I_300 rfl) rfl (by show 2 * 0 + _ ≤ _; exact Nat.le_of_eq rfl) (hb hby d29_24) (fun _ _ => ⟨rfl, e2, (by decide : 1 + 0 ≤ _), (by decide : 5 + 0 ≤ _)⟩)
  dsimp only [Pt.U, Pt.locs, Pt.cells, Pt.slots] at X6 l6 y6 z6 st6 hQ6
  subst l6 y6 z6
  obtain ⟨rfl, N6q, e6⟩ := hQ6
  have N6 := Fr.app N1 N6q
  obtain ⟨T7, h7, L7, X7, e7, N7, Kc7, V7, st7⟩ := cpA X6 hx hZ hown (hwi hw 172 rfl) (hwi hw 126 rfl) (hwi hw 124 rfl) (hwi hw 125 rfl) e6 fc4 V2 (sp := (0 : Int32)) (dp := (0 : Int32)) (nn := (5 : Int32)) (us := (List.range (5 : Int32).toNatClampNeg).map fun i => (vd : List Value).getD ((0 : Int32).toNatClampNeg + i) (.int 0)) (Or.inl ⟨rfl, rfl⟩) (by decide) (by decide) (by decide) (by decide) (by decide) rfl (Nat.le_of_ble_eq_true rfl) N6 (Nat.le_trans Z0 bn_b2) (g := (mkF m 27 #[.val (.ref a1), .val (.int 0), .val (.int 5), .val (.int 5), .val (.ref b2)] [(.int 5), (.int 0), (.ref b2), (.int 0), (.ref a1)])) rfl (by rw [hml]; rfl) rfl (hb hby d29_27) (by decide) (W := 0) (by show 2 * 0 + _ ≤ _; exact Nat.le_of_eq rfl) (by decide)
  have Vd7 : Arv Z h7 b2 k2 .byte (5 : Int32) (own_ap [(.int 0), (.int 0), (.int 0), (.int 0), (.int 0)] vd (0 : Int32) (5 : Int32)) (.int 0) := V7
  have sz8 : h2.size ≤ h7.size := Kc7.1
  have Z8 : n0 ≤ h7.size := Nat.le_trans Z3 sz8
  have O8 := O3.keep Kc7 (allS (Nat.le_trans Z0 bn_b2) all0)
  have K8 : Keep h0 h7 [] := K3.trans Kc7 (allS (Or.inr bn_b2) (all0))
  obtain ⟨fs, hr, hrun, hended, hW, hsame⟩ := X7.leave (v := some (.ref b2)) (fun h => by rw [Bd.returns] at h; cases h)
  refine ⟨_, _, pre0 _ ?_, hrun, hended, _, _, rfl, ?_, ⟨_, rfl⟩, hW, hsame.mono (by decide) (by decide)⟩
  · show St p e below s₁ (mkF m 0 #[.val (.ref a1), .val (.int 0), .val (.int 5), .unset, .unset] []) _
    refine XS.iloadN X0.here hx rfl (hb hby d29_0) rfl ?_
    refine XS.iloadN X0.here hx rfl (hb hby d29_1) rfl ?_
    refine st1 _ ?_
    refine XS.iloadN X1.here hx rfl (hb hby d29_5) rfl ?_
    show St p e below T1 (mkF m 6 #[.val (.ref a1), .val (.int 0), .val (.int 5), .unset, .unset] [(.int 5)]) _
    refine XS.iloadN X1.here hx rfl (hb hby d29_6) rfl ?_
    refine XS.isub X1.here hx rfl (hb hby d29_7) rfl ?_
    show St p e below T1 (mkF m 8 #[.val (.ref a1), .val (.int 0), .val (.int 5), .unset, .unset] [(.int ((5 : Int32) - (0 : Int32)))]) _
    rw [(by decide : ((5 : Int32) - (0 : Int32)) = (5 : Int32))]
    show St p e below T1 (mkF m 8 #[.val (.ref a1), .val (.int 0), .val (.int 5), .unset, .unset] [(.int 5)]) _
    refine XS.istoreN X1.here hx rfl (hb hby d29_8) rfl (l' := #[.val (.ref a1), .val (.int 0), .val (.int 5), .val (.int 5), .unset]) rfl ?_
    refine XS.iloadN X1.here hx rfl (hb hby d29_9) rfl ?_
    refine st2 _ ?_
    refine XS.astore X2.here hx rfl (hb hby d29_12) rfl rfl (l' := #[.val (.ref a1), .val (.int 0), .val (.int 5), .val (.int 5), .val (.ref b2)]) rfl ?_
    show St p e below T2 (mkF m 14 #[.val (.ref a1), .val (.int 0), .val (.int 5), .val (.int 5), .val (.ref b2)] []) _
    refine XS.aloadN X2.here hx rfl (hb hby d29_14) rfl rfl ?_
    refine XS.iloadN X2.here hx rfl (hb hby d29_15) rfl ?_
    refine XS.aload X2.here hx rfl (hb hby d29_16) rfl rfl ?_
    refine XS.iconst X2.here hx rfl (hb hby d29_18) ?_
    show St p e below T2 (mkF m 19 #[.val (.ref a1), .val (.int 0), .val (.int 5), .val (.int 5), .val (.ref b2)] [(.int 0), (.ref b2), (.int 0), (.ref a1)]) _
    refine XS.aloadN X2.here hx rfl (hb hby d29_19) rfl rfl ?_
    refine X2.arraylength hx (by rw [e2]; exact Ar5.1) (State.isArrayOf_alike hZ.alike Ar5.2.1) (g := (mkF m 20 #[.val (.ref a1), .val (.int 0), .val (.int 5), .val (.int 5), .val (.ref b2)] [(.ref a1), (.int 0), (.ref b2), (.int 0), (.ref a1)])) rfl rfl (hb hby d29_20) _ ?_
    rw [len_of S5 M5]
    show St p e below T2 (mkF m 21 #[.val (.ref a1), .val (.int 0), .val (.int 5), .val (.int 5), .val (.ref b2)] [(.int 16), (.int 0), (.ref b2), (.int 0), (.ref a1)]) _
    refine XS.iloadN X2.here hx rfl (hb hby d29_21) rfl ?_
    refine XS.isub X2.here hx rfl (hb hby d29_22) rfl ?_
    show St p e below T2 (mkF m 23 #[.val (.ref a1), .val (.int 0), .val (.int 5), .val (.int 5), .val (.ref b2)] [(.int ((16 : Int32) - (0 : Int32))), (.int 0), (.ref b2), (.int 0), (.ref a1)]) _
    rw [(by decide : ((16 : Int32) - (0 : Int32)) = (16 : Int32))]
    show St p e below T2 (mkF m 23 #[.val (.ref a1), .val (.int 0), .val (.int 5), .val (.int 5), .val (.ref b2)] [(.int 16), (.int 0), (.ref b2), (.int 0), (.ref a1)]) _
    refine XS.iloadN X2.here hx rfl (hb hby d29_23) rfl ?_
    refine st6 _ ?_
    refine st7 _ ?_
    refine XS.aload X7.here hx rfl (hb hby d29_30) rfl rfl ?_
    show St p e below T7 (mkF m 32 #[.val (.ref a1), .val (.int 0), .val (.int 5), .val (.int 5), .val (.ref b2)] [(.ref b2)]) _
    jvm_step X7.here [X7.here.top, hx, (hb hby d29_32), X7.method', Bd.returns, Value.isRef, FieldType.isReference]
    first | (intro acts; rw [hr _ acts rfl rfl rfl]) | rw [hr _ _ rfl rfl rfl]
    exact Steps.refl _
  · show Q_corb_5 Z a1 k_a1 vd h0 n0 _ T7.heap _
    rw [e7]
    exact ⟨b2, k2, rfl, N7, K8, bn_b2, Vd7⟩
theorem pd_BII__B_541 : parseMethodDescriptor "([BII)[B" = some ⟨[(.array .byte), .int, .int], some (.array .byte)⟩ := by decide +kernel
theorem d28_0 : decode jdk_65_method_132_code 0 = .ok (.iload_n 1, 1) := by decide +kernel
theorem d28_1 : decode jdk_65_method_132_code 1 = .ok (.ifCond .ne 9, 3) := by decide +kernel
theorem d28_4 : decode jdk_65_method_132_code 4 = .ok (.iload_n 2, 1) := by decide +kernel
theorem d28_5 : decode jdk_65_method_132_code 5 = .ok (.aload_n 0, 1) := by decide +kernel
theorem d28_6 : decode jdk_65_method_132_code 6 = .ok (.arraylength, 1) := by decide +kernel
theorem d28_7 : decode jdk_65_method_132_code 7 = .ok (.if_icmp .eq 10, 3) := by decide +kernel
theorem d28_10 : decode jdk_65_method_132_code 10 = .ok (.aload_n 0, 1) := by decide +kernel
theorem d28_11 : decode jdk_65_method_132_code 11 = .ok (.iload_n 1, 1) := by decide +kernel
theorem d28_12 : decode jdk_65_method_132_code 12 = .ok (.iload_n 2, 1) := by decide +kernel
theorem d28_13 : decode jdk_65_method_132_code 13 = .ok (.invokestatic 339, 3) := by decide +kernel
theorem d28_16 : decode jdk_65_method_132_code 16 = .ok (.areturn, 1) := by decide +kernel
theorem pn_28 : plainName "java/util/Arrays" = true := by first | (simp [plainName, overriddenIn]; done) | decide +kernel
theorem ef_28_RII (m : MethodId) (x0 : Addr) (x1 : Int32) (x2 : Int32) : entryFrame m #[(.ref x0), (.int x1), (.int x2)] 3 = mkF m 0 #[.val (.ref x0), .val (.int x1), .val (.int x2)] [] := by first | (simp [entryFrame, mkF, argsToLocals, Value.category]; done) | rfl
def Q_cor_5 (Z : State) (a1 : Addr) (k_a1 : ClassId) (vd : List Value) (h0 : Heap) (n0 : Nat) (v : Option Value) (h : Heap) (L : List Loc) : Prop := ∃ (r : Addr) (kr : ClassId), v = some (.ref r) ∧ Fr n0 L ∧ Keep h0 h [] ∧ h0.size ≤ r ∧ Arv Z h r kr .byte (5 : Int32) (own_ap [(.int 0), (.int 0), (.int 0), (.int 0), (.int 0)] vd (0 : Int32) (5 : Int32)) (.int 0)
set_option maxRecDepth 65536 in
set_option maxHeartbeats 40000000 in
theorem rm_cor_5 (l : Launch) (Z : State) (a0 : Array Value) (hw : ∀ d ∈ tables_1, d.before a0 Z = true) (ws : List Jvm.Cond) (a1 : Addr) (k_a1 : ClassId) (vd : List Value) (h0 : Heap) (n0 : Nat) (Z0 : n0 ≤ h0.size) (V_a1 : Arv Z h0 a1 k_a1 .byte (16 : Int32) vd (.int 0)) (O0 : Old Z n0 h0) :
    MetFree l (⟨"java/util/Arrays", "copyOfRange", "([BII)[B"⟩ : MethodName) (head1 (Jvm.Cond.code (⟨"java/util/Arrays", "copyOfRange", "([BII)[B"⟩ : MethodName) jdk_65_method_132_code 3 (some (.array .byte)) :: ws) ({ frames := 2, cells := 1, slots := 5, locals := 34 } : Room)) (fun a U => a = #[(.ref a1), (.int 0), (.int 5)] ∧ Z.Warmed39 U.vm ∧ U.heap = h0) (fun _ _ _ _ _ => True) (fun _ U o U' => ∃ v L, o = .returned v ∧ Q_cor_5 Z a1 k_a1 vd h0 n0 v U'.heap L ∧ FrameEnd U o U' L ({ frames := 2, cells := 1, slots := 5, locals := 34 } : Room).cells ({ frames := 2, cells := 1, slots := 5, locals := 34 } : Room).slots) := by
  refine MetFree.of_bodySF (plainFor_of_name pn_28) hisR ?_
  intro p e s m args below meth c s₁ Bd hml0 hP hK
  obtain ⟨rfl, hZ, hh⟩ := hP
  have hx := Bd.exec
  have hby := Bd.bytes
  have hml : c.maxLocals = 3 := hml0
  have hown : s.vm.findClass "java/util/Arrays" = some m.cls := findClass_of_methodNamed Bd.named
  have hnm := (name_of_methodNamed Bd.named Bd.method).1
  have X0 : Stand p l e ({ frames := 2, cells := 1, slots := 5, locals := 34 } : Room) s m #[(.ref a1), (.int 0), (.int 5)] below meth c s₁ [] 0 0 := Stand.of_body Bd
  have e0 : s₁.heap = h0 := by rw [← hh, Bd.state]; rfl
  have N0 := Fr.nil n0
  have pre0 : ∀ t, Steps p.tables e below (s₁.setTop (mkF m 0 #[.val (.ref a1), .val (.int 0), .val (.int 5)] [])) t → Steps p.tables e below (s₁.setTop (entryFrame m #[(.ref a1), (.int 0), (.int 5)] 3)) t := fun t k => castTop (ef_28_RII m a1 (0 : Int32) (5 : Int32)) k
  obtain ⟨cl1, Ar1, -, S1, M1, -, -⟩ := id V_a1
  obtain ⟨_, _, ⟨T2, L2, k2, n2⟩, -, X2, ⟨Lc2, hQ2, l2, y2, z2⟩, st2⟩ := Jvm.LawKit.callS X0 hx (y := (⟨"java/util/Arrays", "copyOfRangeByte", "([BII)[B"⟩ : MethodName)) hown (mvT hZ (hwi hw 162 rfl)) (mvT hZ (hwi hw 163 rfl)) (mvT hZ (hwi hw 160 rfl)) (mvT hZ (hwi hw 164 rfl)) (by decide) (backOf (W := 0) (rm_corb_5 l Z a0 hw [] a1 k_a1 vd h0 n0 Z0 V_a1 O0) hZ (hwi hw 164 rfl) (hwi hw 160 rfl) (by decide) (by decide)) (g := (mkF m 13 #[.val (.ref a1), .val (.int 0), .val (.int 5)] [(.int 5), (.int 0), (.ref a1)])) rfl (by rw [hml]; rfl) (argsL := [(.ref a1), (.int 0), (.int 5)]) (rest := []) (lenOf pd_BII__B_541 rfl) rfl (by show 2 * 0 + _ ≤ _; exact Nat.le_of_eq rfl) (hb hby d28_13) (fun _ _ => ⟨rfl, e0, (by decide : 0 + 1 ≤ _), (by decide : 0 + 5 ≤ _)⟩)
  dsimp only [Pt.U, Pt.locs, Pt.cells, Pt.slots] at X2 l2 y2 z2 st2 hQ2
  subst l2 y2 z2
  obtain ⟨r_2, kr_2, rfl, N2q, Kc2, g2_0, g2_1⟩ := hQ2
  have N2 := Fr.app N0 N2q
  have sz3 : h0.size ≤ T2.heap.size := Kc2.1
  have Z3 : n0 ≤ T2.heap.size := Nat.le_trans Z0 sz3
  have O3 := O0.keep Kc2 all0
  have K3 : Keep h0 T2.heap [] := (Keep.refl h0 []).trans Kc2 (all0)
  have bn_r_2 : h0.size ≤ r_2 := g2_0
  obtain ⟨fs, hr, hrun, hended, hW, hsame⟩ := X2.leave (v := some (.ref r_2)) (fun h => by rw [Bd.returns] at h; cases h)
  refine ⟨_, _, pre0 _ ?_, hrun, hended, _, _, rfl, ?_, ⟨_, rfl⟩, hW, hsame.mono (by decide) (by decide)⟩
  · show St p e below s₁ (mkF m 0 #[.val (.ref a1), .val (.int 0), .val (.int 5)] []) _
    refine XS.iloadN X0.here hx rfl (hb hby d28_0) rfl ?_
    refine XS.ifNo X0.here hx rfl (hb hby d28_1) rfl ((if0 _ _).trans (teq (by decide : (0 : Int32) = (0 : Int32))).2) ?_
    refine XS.iloadN X0.here hx rfl (hb hby d28_4) rfl ?_
    refine XS.aloadN X0.here hx rfl (hb hby d28_5) rfl rfl ?_
    show St p e below s₁ (mkF m 6 #[.val (.ref a1), .val (.int 0), .val (.int 5)] [(.ref a1), (.int 5)]) _
    refine X0.arraylength hx (by rw [e0]; exact Ar1.1) (State.isArrayOf_alike hZ.alike Ar1.2.1) (g := (mkF m 6 #[.val (.ref a1), .val (.int 0), .val (.int 5)] [(.ref a1), (.int 5)])) rfl rfl (hb hby d28_6) _ ?_
    rw [len_of S1 M1]
    show St p e below s₁ (mkF m 7 #[.val (.ref a1), .val (.int 0), .val (.int 5)] [(.int 16), (.int 5)]) _
    refine XS.icmpNo X0.here hx rfl (hb hby d28_7) rfl (feq (by decide : ¬ ((5 : Int32) = (16 : Int32)))).1 ?_
    refine XS.aloadN X0.here hx rfl (hb hby d28_10) rfl rfl ?_
    refine XS.iloadN X0.here hx rfl (hb hby d28_11) rfl ?_
    refine XS.iloadN X0.here hx rfl (hb hby d28_12) rfl ?_
    show St p e below s₁ (mkF m 13 #[.val (.ref a1), .val (.int 0), .val (.int 5)] [(.int 5), (.int 0), (.ref a1)]) _
    refine st2 _ ?_
    show St p e below T2 (mkF m 16 #[.val (.ref a1), .val (.int 0), .val (.int 5)] [(.ref r_2)]) _
    jvm_step X2.here [X2.here.top, hx, (hb hby d28_16), X2.method', Bd.returns, Value.isRef, FieldType.isReference]
    first | (intro acts; rw [hr _ acts rfl rfl rfl]) | rw [hr _ _ rfl rfl rfl]
    exact Steps.refl _
  · show Q_cor_5 Z a1 k_a1 vd h0 n0 _ T2.heap _
    exact ⟨r_2, kr_2, rfl, N2, K3, bn_r_2, g2_1⟩
theorem d24_0 : decode jdk_68_method_64_code 0 = .ok (.aload_n 0, 1) := by decide +kernel
theorem d24_1 : decode jdk_68_method_64_code 1 = .ok (.getfield 15, 3) := by decide +kernel
theorem d24_4 : decode jdk_68_method_64_code 4 = .ok (.areturn, 1) := by decide +kernel
theorem pn_24 : plainName "java/lang/AbstractStringBuilder" = true := by first | (simp [plainName, overriddenIn]; done) | decide +kernel
theorem ef_24_R (m : MethodId) (x0 : Addr) : entryFrame m #[(.ref x0)] 1 = mkF m 0 #[.val (.ref x0)] [] := by first | (simp [entryFrame, mkF, argsToLocals, Value.category]; done) | rfl
def Q_getval (Z : State) (a1 : Addr) (v_a1_value : Addr) (h0 : Heap) (n0 : Nat) (v : Option Value) (h : Heap) (L : List Loc) : Prop := v = some (.ref v_a1_value) ∧ Fr n0 L ∧ h = h0
set_option maxRecDepth 65536 in
set_option maxHeartbeats 40000000 in
theorem rm_getval (l : Launch) (Z : State) (a0 : Array Value) (hw : ∀ d ∈ tables_1, d.before a0 Z = true) (ws : List Jvm.Cond) (a1 : Addr) (v_a1_value : Addr) (h0 : Heap) (n0 : Nat) (Z0 : n0 ≤ h0.size) (F_a1_value : Fld Z h0 a1 "java/lang/AbstractStringBuilder" "value" "[B" (.ref v_a1_value)) :
    MetFree l (⟨"java/lang/AbstractStringBuilder", "getValue", "()[B"⟩ : MethodName) (head1 (Jvm.Cond.code (⟨"java/lang/AbstractStringBuilder", "getValue", "()[B"⟩ : MethodName) jdk_68_method_64_code 1 (some (.array .byte)) :: ws) ({ frames := 0, cells := 0, slots := 0, locals := 0 } : Room)) (fun a U => a = #[(.ref a1)] ∧ Z.Warmed39 U.vm ∧ U.heap = h0) (fun _ _ _ _ _ => True) (fun _ U o U' => ∃ v L, o = .returned v ∧ Q_getval Z a1 v_a1_value h0 n0 v U'.heap L ∧ FrameEnd U o U' L ({ frames := 0, cells := 0, slots := 0, locals := 0 } : Room).cells ({ frames := 0, cells := 0, slots := 0, locals := 0 } : Room).slots) := by
  refine MetFree.of_bodySF (plainFor_of_name pn_24) hisR ?_
  intro p e s m args below meth c s₁ Bd hml0 hP hK
  obtain ⟨rfl, hZ, hh⟩ := hP
  have hx := Bd.exec
  have hby := Bd.bytes
  have hml : c.maxLocals = 1 := hml0
  have hown : s.vm.findClass "java/lang/AbstractStringBuilder" = some m.cls := findClass_of_methodNamed Bd.named
  have hnm := (name_of_methodNamed Bd.named Bd.method).1
  have X0 : Stand p l e ({ frames := 0, cells := 0, slots := 0, locals := 0 } : Room) s m #[(.ref a1)] below meth c s₁ [] 0 0 := Stand.of_body Bd
  have e0 : s₁.heap = h0 := by rw [← hh, Bd.state]; rfl
  have N0 := Fr.nil n0
  have pre0 : ∀ t, Steps p.tables e below (s₁.setTop (mkF m 0 #[.val (.ref a1)] [])) t → Steps p.tables e below (s₁.setTop (entryFrame m #[(.ref a1)] 1)) t := fun t k => castTop (ef_24_R m a1) k
  obtain ⟨T1, X1, e1, st1⟩ := getF X0 hx hZ hown (host := "") (Or.inl (hwi hw 74 rfl)) Via.refl e0 F_a1_value (g := (mkF m 1 #[.val (.ref a1)] [(.ref a1)])) rfl rfl (hb hby d24_1)
  obtain ⟨fs, hr, hrun, hended, hW, hsame⟩ := X1.leave (v := some (.ref v_a1_value)) (fun h => by rw [Bd.returns] at h; cases h)
  refine ⟨_, _, pre0 _ ?_, hrun, hended, _, _, rfl, ?_, ⟨_, rfl⟩, hW, hsame.mono (by decide) (by decide)⟩
  · show St p e below s₁ (mkF m 0 #[.val (.ref a1)] []) _
    refine XS.aloadN X0.here hx rfl (hb hby d24_0) rfl rfl ?_
    refine st1 _ ?_
    show St p e below T1 (mkF m 4 #[.val (.ref a1)] [(.ref v_a1_value)]) _
    jvm_step X1.here [X1.here.top, hx, (hb hby d24_4), X1.method', Bd.returns, Value.isRef, FieldType.isReference]
    first | (intro acts; rw [hr _ acts rfl rfl rfl]) | rw [hr _ _ rfl rfl rfl]
    exact Steps.refl _
  · show Q_getval Z a1 v_a1_value h0 n0 _ T1.heap _
    rw [e1]
    exact ⟨rfl, N0, rfl⟩
theorem d26_0 : decode jdk_68_method_6_code 0 = .ok (.aload_n 0, 1) := by decide +kernel
theorem d26_1 : decode jdk_68_method_6_code 1 = .ok (.getfield 79, 3) := by decide +kernel
theorem d26_4 : decode jdk_68_method_6_code 4 = .ok (.ireturn, 1) := by decide +kernel
theorem pn_26 : plainName "java/lang/AbstractStringBuilder" = true := by first | (simp [plainName, overriddenIn]; done) | decide +kernel
theorem ef_26_R (m : MethodId) (x0 : Addr) : entryFrame m #[(.ref x0)] 1 = mkF m 0 #[.val (.ref x0)] [] := by first | (simp [entryFrame, mkF, argsToLocals, Value.category]; done) | rfl
def Q_ablen (Z : State) (a1 : Addr) (v_a1_count : Int32) (h0 : Heap) (n0 : Nat) (v : Option Value) (h : Heap) (L : List Loc) : Prop := v = some (.int v_a1_count) ∧ Fr n0 L ∧ h = h0
set_option maxRecDepth 65536 in
set_option maxHeartbeats 40000000 in
theorem rm_ablen (l : Launch) (Z : State) (a0 : Array Value) (hw : ∀ d ∈ tables_1, d.before a0 Z = true) (ws : List Jvm.Cond) (a1 : Addr) (v_a1_count : Int32) (h0 : Heap) (n0 : Nat) (Z0 : n0 ≤ h0.size) (F_a1_count : Fld Z h0 a1 "java/lang/AbstractStringBuilder" "count" "I" (.int v_a1_count)) :
    MetFree l (⟨"java/lang/AbstractStringBuilder", "length", "()I"⟩ : MethodName) (head1 (Jvm.Cond.code (⟨"java/lang/AbstractStringBuilder", "length", "()I"⟩ : MethodName) jdk_68_method_6_code 1 (some .int) :: ws) ({ frames := 0, cells := 0, slots := 0, locals := 0 } : Room)) (fun a U => a = #[(.ref a1)] ∧ Z.Warmed39 U.vm ∧ U.heap = h0) (fun _ _ _ _ _ => True) (fun _ U o U' => ∃ v L, o = .returned v ∧ Q_ablen Z a1 v_a1_count h0 n0 v U'.heap L ∧ FrameEnd U o U' L ({ frames := 0, cells := 0, slots := 0, locals := 0 } : Room).cells ({ frames := 0, cells := 0, slots := 0, locals := 0 } : Room).slots) := by
  refine MetFree.of_bodySF (plainFor_of_name pn_26) hisR ?_
  intro p e s m args below meth c s₁ Bd hml0 hP hK
  obtain ⟨rfl, hZ, hh⟩ := hP
  have hx := Bd.exec
  have hby := Bd.bytes
  have hml : c.maxLocals = 1 := hml0
  have hown : s.vm.findClass "java/lang/AbstractStringBuilder" = some m.cls := findClass_of_methodNamed Bd.named
  have hnm := (name_of_methodNamed Bd.named Bd.method).1
  have X0 : Stand p l e ({ frames := 0, cells := 0, slots := 0, locals := 0 } : Room) s m #[(.ref a1)] below meth c s₁ [] 0 0 := Stand.of_body Bd
  have e0 : s₁.heap = h0 := by rw [← hh, Bd.state]; rfl
  have N0 := Fr.nil n0
  have pre0 : ∀ t, Steps p.tables e below (s₁.setTop (mkF m 0 #[.val (.ref a1)] [])) t → Steps p.tables e below (s₁.setTop (entryFrame m #[(.ref a1)] 1)) t := fun t k => castTop (ef_26_R m a1) k
  obtain ⟨T1, X1, e1, st1⟩ := getF X0 hx hZ hown (host := "") (Or.inl (hwi hw 100 rfl)) Via.refl e0 F_a1_count (g := (mkF m 1 #[.val (.ref a1)] [(.ref a1)])) rfl rfl (hb hby d26_1)
  obtain ⟨fs, hr, hrun, hended, hW, hsame⟩ := X1.leave (v := some (.int v_a1_count)) (fun h => by rw [Bd.returns] at h; cases h)
  refine ⟨_, _, pre0 _ ?_, hrun, hended, _, _, rfl, ?_, ⟨_, rfl⟩, hW, hsame.mono (by decide) (by decide)⟩
  · show St p e below s₁ (mkF m 0 #[.val (.ref a1)] []) _
    refine XS.aloadN X0.here hx rfl (hb hby d26_0) rfl rfl ?_
    refine st1 _ ?_
    show St p e below T1 (mkF m 4 #[.val (.ref a1)] [(.int v_a1_count)]) _
    exact retI X1 hx Bd.returns (hb hby d26_4) hr
  · show Q_ablen Z a1 v_a1_count h0 n0 _ T1.heap _
    rw [e1]
    exact ⟨rfl, N0, rfl⟩
theorem d25_0 : decode jdk_67_method_93_code 0 = .ok (.aload_n 0, 1) := by decide +kernel
theorem d25_1 : decode jdk_67_method_93_code 1 = .ok (.invokespecial 343, 3) := by decide +kernel
theorem d25_4 : decode jdk_67_method_93_code 4 = .ok (.ireturn, 1) := by decide +kernel
theorem pn_25 : plainName "java/lang/StringBuilder" = true := by first | (simp [plainName, overriddenIn]; done) | decide +kernel
theorem ef_25_R (m : MethodId) (x0 : Addr) : entryFrame m #[(.ref x0)] 1 = mkF m 0 #[.val (.ref x0)] [] := by first | (simp [entryFrame, mkF, argsToLocals, Value.category]; done) | rfl
def Q_sblen (Z : State) (a1 : Addr) (v_a1_count : Int32) (h0 : Heap) (n0 : Nat) (v : Option Value) (h : Heap) (L : List Loc) : Prop := v = some (.int v_a1_count) ∧ Fr n0 L ∧ h = h0
set_option maxRecDepth 65536 in
set_option maxHeartbeats 40000000 in
theorem rm_sblen (l : Launch) (Z : State) (a0 : Array Value) (hw : ∀ d ∈ tables_1, d.before a0 Z = true) (ws : List Jvm.Cond) (a1 : Addr) (v_a1_count : Int32) (h0 : Heap) (n0 : Nat) (Z0 : n0 ≤ h0.size) (E_a1 : Exa Z h0 a1 "java/lang/StringBuilder") (F_a1_count : Fld Z h0 a1 "java/lang/AbstractStringBuilder" "count" "I" (.int v_a1_count)) :
    MetFree l (⟨"java/lang/StringBuilder", "length", "()I"⟩ : MethodName) (head1 (Jvm.Cond.code (⟨"java/lang/StringBuilder", "length", "()I"⟩ : MethodName) jdk_67_method_93_code 1 (some .int) :: ws) ({ frames := 1, cells := 0, slots := 0, locals := 12 } : Room)) (fun a U => a = #[(.ref a1)] ∧ Z.Warmed39 U.vm ∧ U.heap = h0) (fun _ _ _ _ _ => True) (fun _ U o U' => ∃ v L, o = .returned v ∧ Q_sblen Z a1 v_a1_count h0 n0 v U'.heap L ∧ FrameEnd U o U' L ({ frames := 1, cells := 0, slots := 0, locals := 12 } : Room).cells ({ frames := 1, cells := 0, slots := 0, locals := 12 } : Room).slots) := by
  refine MetFree.of_bodySF (plainFor_of_name pn_25) hisR ?_
  intro p e s m args below meth c s₁ Bd hml0 hP hK
  obtain ⟨rfl, hZ, hh⟩ := hP
  have hx := Bd.exec
  have hby := Bd.bytes
  have hml : c.maxLocals = 1 := hml0
  have hown : s.vm.findClass "java/lang/StringBuilder" = some m.cls := findClass_of_methodNamed Bd.named
  have hnm := (name_of_methodNamed Bd.named Bd.method).1
  have X0 : Stand p l e ({ frames := 1, cells := 0, slots := 0, locals := 12 } : Room) s m #[(.ref a1)] below meth c s₁ [] 0 0 := Stand.of_body Bd
  have e0 : s₁.heap = h0 := by rw [← hh, Bd.state]; rfl
  have N0 := Fr.nil n0
  have pre0 : ∀ t, Steps p.tables e below (s₁.setTop (mkF m 0 #[.val (.ref a1)] [])) t → Steps p.tables e below (s₁.setTop (entryFrame m #[(.ref a1)] 1)) t := fun t k => castTop (ef_25_R m a1) k
  obtain ⟨_, _, ⟨T1, L1, k1, n1⟩, -, X1, ⟨Lc1, hQ1, l1, y1, z1⟩, st1⟩ := superBack X0 hx hZ (y := (⟨"java/lang/AbstractStringBuilder", "length", "()I"⟩ : MethodName)) hown (hwi hw 151 rfl) (own_same (y := (⟨"java/lang/AbstractStringBuilder", "length", "()I"⟩ : MethodName)) (hwi hw 147 rfl) (hwi hw 105 rfl) rfl (by decide)) (hwi hw 147 rfl) (hwi hw 86 rfl) (by decide) (backOf (W := 0) (rm_ablen l Z a0 hw [] a1 v_a1_count h0 n0 Z0 F_a1_count) hZ (hwi hw 152 rfl) (hwi hw 70 rfl) (by decide) (by decide)) e0 (Ins.self E_a1) (g := (mkF m 1 #[.val (.ref a1)] [(.ref a1)])) rfl (by rw [hml]; rfl) (hwi hw 152 rfl) (argsL := []) (rest := []) (lenOf pd_I_154 rfl) rfl (by show 2 * 0 + _ ≤ _; exact Nat.le_of_eq rfl) (hb hby d25_1) (fun _ _ => ⟨rfl, e0, (by decide : 0 + 0 ≤ _), (by decide : 0 + 0 ≤ _)⟩)
  dsimp only [Pt.U, Pt.locs, Pt.cells, Pt.slots] at X1 l1 y1 z1 st1 hQ1
  subst l1 y1 z1
  obtain ⟨rfl, N1q, e1⟩ := hQ1
  have N1 := Fr.app N0 N1q
  obtain ⟨fs, hr, hrun, hended, hW, hsame⟩ := X1.leave (v := some (.int v_a1_count)) (fun h => by rw [Bd.returns] at h; cases h)
  refine ⟨_, _, pre0 _ ?_, hrun, hended, _, _, rfl, ?_, ⟨_, rfl⟩, hW, hsame.mono (by decide) (by decide)⟩
  · show St p e below s₁ (mkF m 0 #[.val (.ref a1)] []) _
    refine XS.aloadN X0.here hx rfl (hb hby d25_0) rfl rfl ?_
    refine st1.trans ?_
    show St p e below T1 (mkF m 4 #[.val (.ref a1)] [(.int v_a1_count)]) _
    exact retI X1 hx Bd.returns (hb hby d25_4) hr
  · show Q_sblen Z a1 v_a1_count h0 n0 _ T1.heap _
    rw [e1]
    exact ⟨rfl, N1, rfl⟩
theorem d27_0 : decode jdk_68_method_68_code 0 = .ok (.getstatic 18, 3) := by decide +kernel
theorem d27_3 : decode jdk_68_method_68_code 3 = .ok (.ifCond .eq 14, 3) := by decide +kernel
theorem d27_6 : decode jdk_68_method_68_code 6 = .ok (.aload_n 0, 1) := by decide +kernel
theorem d27_7 : decode jdk_68_method_68_code 7 = .ok (.getfield 22, 3) := by decide +kernel
theorem d27_10 : decode jdk_68_method_68_code 10 = .ok (.ifCond .ne 7, 3) := by decide +kernel
theorem d27_13 : decode jdk_68_method_68_code 13 = .ok (.iconst 1, 1) := by decide +kernel
theorem d27_14 : decode jdk_68_method_68_code 14 = .ok (.goto 4, 3) := by decide +kernel
theorem d27_18 : decode jdk_68_method_68_code 18 = .ok (.ireturn, 1) := by decide +kernel
theorem pn_27 : plainName "java/lang/AbstractStringBuilder" = true := by first | (simp [plainName, overriddenIn]; done) | decide +kernel
theorem ef_27_R (m : MethodId) (x0 : Addr) : entryFrame m #[(.ref x0)] 1 = mkF m 0 #[.val (.ref x0)] [] := by first | (simp [entryFrame, mkF, argsToLocals, Value.category]; done) | rfl
def Q_ablat (Z : State) (a1 : Addr) (w_COMPACT_STRINGS : Int32) (h0 : Heap) (n0 : Nat) (v : Option Value) (h : Heap) (L : List Loc) : Prop := v = some (.int 1) ∧ Fr n0 L ∧ h = h0
set_option maxRecDepth 65536 in
set_option maxHeartbeats 40000000 in
theorem rm_ablat (l : Launch) (Z : State) (a0 : Array Value) (hw : ∀ d ∈ tables_1, d.before a0 Z = true) (ws : List Jvm.Cond) (a1 : Addr) (w_COMPACT_STRINGS : Int32) (h0 : Heap) (n0 : Nat) (Z0 : n0 ≤ h0.size) (S_COMPACT_STRINGS : Sta Z Z.heap "java/lang/String" "COMPACT_STRINGS" "Z" (.int w_COMPACT_STRINGS)) (hcs : ¬ (w_COMPACT_STRINGS = (0 : Int32))) (F_a1_coder : Fld Z h0 a1 "java/lang/AbstractStringBuilder" "coder" "B" (.int 0)) (O0 : Old Z n0 h0) :
    MetFree l (⟨"java/lang/AbstractStringBuilder", "isLatin1", "()Z"⟩ : MethodName) (head1 (Jvm.Cond.code (⟨"java/lang/AbstractStringBuilder", "isLatin1", "()Z"⟩ : MethodName) jdk_68_method_68_code 1 (some .boolean) :: ws) ({ frames := 0, cells := 0, slots := 0, locals := 0 } : Room)) (fun a U => a = #[(.ref a1)] ∧ Z.Warmed39 U.vm ∧ U.heap = h0) (fun _ _ _ _ _ => True) (fun _ U o U' => ∃ v L, o = .returned v ∧ Q_ablat Z a1 w_COMPACT_STRINGS h0 n0 v U'.heap L ∧ FrameEnd U o U' L ({ frames := 0, cells := 0, slots := 0, locals := 0 } : Room).cells ({ frames := 0, cells := 0, slots := 0, locals := 0 } : Room).slots) := by
  refine MetFree.of_bodySF (plainFor_of_name pn_27) hisR ?_
  intro p e s m args below meth c s₁ Bd hml0 hP hK
  obtain ⟨rfl, hZ, hh⟩ := hP
  have hx := Bd.exec
  have hby := Bd.bytes
  have hml : c.maxLocals = 1 := hml0
  have hown : s.vm.findClass "java/lang/AbstractStringBuilder" = some m.cls := findClass_of_methodNamed Bd.named
  have hnm := (name_of_methodNamed Bd.named Bd.method).1
  have X0 : Stand p l e ({ frames := 0, cells := 0, slots := 0, locals := 0 } : Room) s m #[(.ref a1)] below meth c s₁ [] 0 0 := Stand.of_body Bd
  have e0 : s₁.heap = h0 := by rw [← hh, Bd.state]; rfl
  have N0 := Fr.nil n0
  have pre0 : ∀ t, Steps p.tables e below (s₁.setTop (mkF m 0 #[.val (.ref a1)] [])) t → Steps p.tables e below (s₁.setTop (entryFrame m #[(.ref a1)] 1)) t := fun t k => castTop (ef_27_R m a1) k
  obtain ⟨T1, X1, e1, st1⟩ := getS2 X0 hx hZ hown (host := "") (Or.inl (hwi hw 73 rfl)) Via.refl e0 (S_COMPACT_STRINGS.ext O0.2) (g := (mkF m 0 #[.val (.ref a1)] [])) rfl (hb hby d27_0)
  obtain ⟨T2, X2, e2, st2⟩ := getF X1 hx hZ hown (host := "") (Or.inl (hwi hw 76 rfl)) Via.refl e1 F_a1_coder (g := (mkF m 7 #[.val (.ref a1)] [(.ref a1)])) rfl rfl (hb hby d27_7)
  obtain ⟨fs, hr, hrun, hended, hW, hsame⟩ := X2.leave (v := some (.int 1)) (fun h => by rw [Bd.returns] at h; cases h)
  refine ⟨_, _, pre0 _ ?_, hrun, hended, _, _, rfl, ?_, ⟨_, rfl⟩, hW, hsame.mono (by decide) (by decide)⟩
  · show St p e below s₁ (mkF m 0 #[.val (.ref a1)] []) _
    refine st1 _ ?_
    refine XS.ifNo X1.here hx rfl (hb hby d27_3) rfl ((if0 _ _).trans (feq hcs).1) ?_
    refine XS.aloadN X1.here hx rfl (hb hby d27_6) rfl rfl ?_
    refine st2 _ ?_
    show St p e below T2 (mkF m 10 #[.val (.ref a1)] [(.int 0)]) _
    refine XS.ifNo X2.here hx rfl (hb hby d27_10) rfl ((if0 _ _).trans (teq (by decide : (0 : Int32) = (0 : Int32))).2) ?_
    refine XS.iconst X2.here hx rfl (hb hby d27_13) ?_
    refine XS.goto X2.here hx rfl (pc0 := 14) (pc' := 18) rfl (hb hby d27_14) (by decide) (by decide) ?_
    show St p e below T2 (mkF m 18 #[.val (.ref a1)] [(.int 1)]) _
    exact retN X2 hx (t := .boolean) Bd.returns (by simp) (hb hby d27_18) hr
  · show Q_ablat Z a1 w_COMPACT_STRINGS h0 n0 _ T2.heap _
    rw [e2]
    exact ⟨rfl, N0, rfl⟩
theorem pd_B_238 : parseMethodDescriptor "()[B" = some ⟨[], some (.array .byte)⟩ := by decide +kernel
theorem d23_0 : decode jdk_42_method_150_code 0 = .ok (.aload_n 0, 1) := by decide +kernel
theorem d23_1 : decode jdk_42_method_150_code 1 = .ok (.invokespecial 1, 3) := by decide +kernel
theorem d23_4 : decode jdk_42_method_150_code 4 = .ok (.aload_n 1, 1) := by decide +kernel
theorem d23_5 : decode jdk_42_method_150_code 5 = .ok (.invokevirtual 552, 3) := by decide +kernel
theorem d23_8 : decode jdk_42_method_150_code 8 = .ok (.astore_n 3, 1) := by decide +kernel
theorem d23_9 : decode jdk_42_method_150_code 9 = .ok (.aload_n 1, 1) := by decide +kernel
theorem d23_10 : decode jdk_42_method_150_code 10 = .ok (.invokevirtual 549, 3) := by decide +kernel
theorem d23_13 : decode jdk_42_method_150_code 13 = .ok (.istore 4, 2) := by decide +kernel
theorem d23_15 : decode jdk_42_method_150_code 15 = .ok (.aload_n 1, 1) := by decide +kernel
theorem d23_16 : decode jdk_42_method_150_code 16 = .ok (.invokevirtual 1047, 3) := by decide +kernel
theorem d23_19 : decode jdk_42_method_150_code 19 = .ok (.ifCond .eq 22, 3) := by decide +kernel
theorem d23_22 : decode jdk_42_method_150_code 22 = .ok (.aload_n 0, 1) := by decide +kernel
theorem d23_23 : decode jdk_42_method_150_code 23 = .ok (.iconst 0, 1) := by decide +kernel
theorem d23_24 : decode jdk_42_method_150_code 24 = .ok (.putfield 15, 3) := by decide +kernel
theorem d23_27 : decode jdk_42_method_150_code 27 = .ok (.aload_n 0, 1) := by decide +kernel
theorem d23_28 : decode jdk_42_method_150_code 28 = .ok (.aload_n 3, 1) := by decide +kernel
theorem d23_29 : decode jdk_42_method_150_code 29 = .ok (.iconst 0, 1) := by decide +kernel
theorem d23_30 : decode jdk_42_method_150_code 30 = .ok (.iload 4, 2) := by decide +kernel
theorem d23_32 : decode jdk_42_method_150_code 32 = .ok (.invokestatic 54, 3) := by decide +kernel
theorem d23_35 : decode jdk_42_method_150_code 35 = .ok (.putfield 9, 3) := by decide +kernel
theorem d23_38 : decode jdk_42_method_150_code 38 = .ok (.goto 59, 3) := by decide +kernel
theorem d23_97 : decode jdk_42_method_150_code 97 = .ok (.return_, 1) := by decide +kernel
theorem pn_23 : plainName "java/lang/String" = true := by first | (simp [plainName, overriddenIn]; done) | decide +kernel
theorem ef_23_RRn (m : MethodId) (x0 : Addr) (x1 : Addr) : entryFrame m #[(.ref x0), (.ref x1), .null] 5 = mkF m 0 #[.val (.ref x0), .val (.ref x1), .val .null, .unset, .unset] [] := by first | (simp [entryFrame, mkF, argsToLocals, Value.category]; done) | rfl
def Q_new2_5 (Z : State) (a1 : Addr) (a2 : Addr) (w_COMPACT_STRINGS : Int32) (t_a2 : Addr) (k_t_a2 : ClassId) (vd : List Value) (u_a1_coder : Value) (u_a1_value : Value) (h0 : Heap) (n0 : Nat) (v : Option Value) (h : Heap) (L : List Loc) : Prop := ∃ (t : Addr) (kt : ClassId), v = none ∧ Fr n0 L ∧ Keep h0 h [a1] ∧ h0.size ≤ t ∧ Exa Z h a1 "java/lang/String" ∧ Fld Z h a1 "java/lang/String" "coder" "B" (.int 0) ∧ Fld Z h a1 "java/lang/String" "value" "[B" (.ref t) ∧ Arv Z h t kt .byte (5 : Int32) (own_ap [(.int 0), (.int 0), (.int 0), (.int 0), (.int 0)] vd (0 : Int32) (5 : Int32)) (.int 0)
set_option maxRecDepth 65536 in
set_option maxHeartbeats 40000000 in
theorem rm_new2_5 (l : Launch) (Z : State) (a0 : Array Value) (hw : ∀ d ∈ tables_1, d.before a0 Z = true) (ws : List Jvm.Cond) (a1 : Addr) (a2 : Addr) (w_COMPACT_STRINGS : Int32) (t_a2 : Addr) (k_t_a2 : ClassId) (vd : List Value) (u_a1_coder : Value) (u_a1_value : Value) (h0 : Heap) (n0 : Nat) (Z0 : n0 ≤ h0.size) (E_a1 : Exa Z h0 a1 "java/lang/String") (S_COMPACT_STRINGS : Sta Z Z.heap "java/lang/String" "COMPACT_STRINGS" "Z" (.int w_COMPACT_STRINGS)) (hcs : ¬ (w_COMPACT_STRINGS = (0 : Int32))) (E_a2 : Exa Z h0 a2 "java/lang/StringBuilder") (F_a2_coder : Fld Z h0 a2 "java/lang/AbstractStringBuilder" "coder" "B" (.int 0)) (F_a2_value : Fld Z h0 a2 "java/lang/AbstractStringBuilder" "value" "[B" (.ref t_a2)) (V_t_a2 : Arv Z h0 t_a2 k_t_a2 .byte (16 : Int32) vd (.int 0)) (F_a2_count : Fld Z h0 a2 "java/lang/AbstractStringBuilder" "count" "I" (.int 5)) (O0 : Old Z n0 h0) (F_a1_coder : Fld Z h0 a1 "java/lang/String" "coder" "B" u_a1_coder) (g_a1 : n0 ≤ a1) (F_a1_value : Fld Z h0 a1 "java/lang/String" "value" "[B" u_a1_value) :
    MetFree l (⟨"java/lang/String", "<init>", "(Ljava/lang/AbstractStringBuilder;Ljava/lang/Void;)V"⟩ : MethodName) (head1 (Jvm.Cond.code (⟨"java/lang/String", "<init>", "(Ljava/lang/AbstractStringBuilder;Ljava/lang/Void;)V"⟩ : MethodName) jdk_42_method_150_code 5 none :: ws) ({ frames := 3, cells := 1, slots := 5, locals := 49 } : Room)) (fun a U => a = #[(.ref a1), (.ref a2), .null] ∧ Z.Warmed39 U.vm ∧ U.heap = h0) (fun _ _ _ _ _ => True) (fun _ U o U' => ∃ v L, o = .returned v ∧ Q_new2_5 Z a1 a2 w_COMPACT_STRINGS t_a2 k_t_a2 vd u_a1_coder u_a1_value h0 n0 v U'.heap L ∧ FrameEnd U o U' L ({ frames := 3, cells := 1, slots := 5, locals := 49 } : Room).cells ({ frames := 3, cells := 1, slots := 5, locals := 49 } : Room).slots) := by
  refine MetFree.of_bodySF (plainFor_of_name pn_23) hisR ?_
  intro p e s m args below meth c s₁ Bd hml0 hP hK
  obtain ⟨rfl, hZ, hh⟩ := hP
  have hx := Bd.exec
  have hby := Bd.bytes
  have hml : c.maxLocals = 5 := hml0
  have hown : s.vm.findClass "java/lang/String" = some m.cls := findClass_of_methodNamed Bd.named
  have hnm := (name_of_methodNamed Bd.named Bd.method).1
  have X0 : Stand p l e ({ frames := 3, cells := 1, slots := 5, locals := 49 } : Room) s m #[(.ref a1), (.ref a2), .null] below meth c s₁ [] 0 0 := Stand.of_body Bd
  have e0 : s₁.heap = h0 := by rw [← hh, Bd.state]; rfl
  have N0 := Fr.nil n0
  have pre0 : ∀ t, Steps p.tables e below (s₁.setTop (mkF m 0 #[.val (.ref a1), .val (.ref a2), .val .null, .unset, .unset] [])) t → Steps p.tables e below (s₁.setTop (entryFrame m #[(.ref a1), (.ref a2), .null] 5)) t := fun t k => castTop (ef_23_RRn m a1 a2) k
  obtain ⟨T1, X1, e1, st1⟩ := initO X0 hx hZ hown (hwi hw 11 rfl) (hwi hw 12 rfl) (hwi hw 13 rfl) e0 (g := (mkF m 1 #[.val (.ref a1), .val (.ref a2), .val .null, .unset, .unset] [(.ref a1)])) rfl (by rw [hml]; rfl) rfl (hb hby d23_1) (by decide) (W := 0) (by show 2 * 0 + _ ≤ _; exact Nat.le_of_eq rfl) (by decide)
  obtain ⟨cq2, kq2, q2a, q2b, q2c⟩ := isOf hZ e1 E_a2
  obtain ⟨_, _, ⟨T2, L2, k2, n2⟩, -, X2, ⟨Lc2, hQ2, l2, y2, z2⟩, st2⟩ := X1.virtualBack hx (y := (⟨"java/lang/AbstractStringBuilder", "getValue", "()[B"⟩ : MethodName)) (z := (⟨"java/lang/AbstractStringBuilder", "getValue", "()[B"⟩ : MethodName)) hown (mvT hZ (hwi hw 140 rfl)) (mvT hZ (hwi hw 141 rfl)) (notFace_of_selects (args := #[]) (mvT hZ (hwi hw 143 rfl))) (mvT hZ (hwi hw 143 rfl)) (mvT hZ (hwi hw 142 rfl)) (by decide) (backOf (W := 0) (rm_getval l Z a0 hw [] a2 t_a2 h0 n0 Z0 F_a2_value) hZ (hwi hw 144 rfl) (hwi hw 70 rfl) (by decide) (by decide)) q2a q2c (g := (mkF m 5 #[.val (.ref a1), .val (.ref a2), .val .null, .unset, .unset] [(.ref a2)])) rfl (by rw [hml]; rfl) (Steps.refl _) (argsL := []) (rest := []) (lenOf pd_B_238 rfl) rfl (by show 2 * 0 + _ ≤ _; exact Nat.le_of_eq rfl) (hb hby d23_5) (fun _ _ => ⟨rfl, e1, (by decide : 0 + 0 ≤ _), (by decide : 0 + 0 ≤ _)⟩)
  dsimp only [Pt.U, Pt.locs, Pt.cells, Pt.slots] at X2 l2 y2 z2 st2 hQ2
  subst l2 y2 z2
  obtain ⟨rfl, N2q, e2⟩ := hQ2
  have N2 := Fr.app N0 N2q
  obtain ⟨cq3, kq3, q3a, q3b, q3c⟩ := isOf hZ e2 E_a2
  obtain ⟨_, _, ⟨T3, L3, k3, n3⟩, -, X3, ⟨Lc3, hQ3, l3, y3, z3⟩, st3⟩ := X2.virtualBack hx (y := (⟨"java/lang/AbstractStringBuilder", "length", "()I"⟩ : MethodName)) (z := (⟨"java/lang/StringBuilder", "length", "()I"⟩ : MethodName)) hown (mvT hZ (hwi hw 145 rfl)) (mvT hZ (hwi hw 146 rfl)) (own_nf (mvT hZ (hwi hw 105 rfl) (args := #[])) rfl) (mvT hZ (hwi hw 148 rfl)) (mvT hZ (hwi hw 149 rfl)) (by decide) (backOf (W := 0) (rm_sblen l Z a0 hw [] a2 (5 : Int32) h0 n0 Z0 E_a2 F_a2_count) hZ (hwi hw 150 rfl) (hwi hw 62 rfl) (by decide) (by decide)) q3a q3c (g := (mkF m 10 #[.val (.ref a1), .val (.ref a2), .val .null, .val (.ref t_a2), .unset] [(.ref a2)])) rfl (by rw [hml]; rfl) (Steps.refl _) (argsL := []) (rest := []) (lenOf pd_I_154 rfl) rfl (by show 2 * 0 + _ ≤ _; exact Nat.le_of_eq rfl) (hb hby d23_10) (fun _ _ => ⟨rfl, e2, (by decide : 0 + 0 ≤ _), (by decide : 0 + 0 ≤ _)⟩)
  dsimp only [Pt.U, Pt.locs, Pt.cells, Pt.slots] at X3 l3 y3 z3 st3 hQ3
  subst l3 y3 z3
  obtain ⟨rfl, N3q, e3⟩ := hQ3
  have N3 := Fr.app N2 N3q
  obtain ⟨cq4, kq4, q4a, q4b, q4c⟩ := isOf hZ e3 E_a2
  obtain ⟨_, _, ⟨T4, L4, k4, n4⟩, -, X4, ⟨Lc4, hQ4, l4, y4, z4⟩, st4⟩ := X3.virtualBack hx (y := (⟨"java/lang/AbstractStringBuilder", "isLatin1", "()Z"⟩ : MethodName)) (z := (⟨"java/lang/AbstractStringBuilder", "isLatin1", "()Z"⟩ : MethodName)) hown (mvT hZ (hwi hw 153 rfl)) (mvT hZ (hwi hw 154 rfl)) (notFace_of_selects (args := #[]) (mvT hZ (hwi hw 156 rfl))) (mvT hZ (hwi hw 156 rfl)) (mvT hZ (hwi hw 155 rfl)) (by decide) (backOf (W := 0) (rm_ablat l Z a0 hw [] a2 w_COMPACT_STRINGS h0 n0 Z0 S_COMPACT_STRINGS hcs F_a2_coder O0) hZ (hwi hw 157 rfl) (hwi hw 70 rfl) (by decide) (by decide)) q4a q4c (g := (mkF m 16 #[.val (.ref a1), .val (.ref a2), .val .null, .val (.ref t_a2), .val (.int 5)] [(.ref a2)])) rfl (by rw [hml]; rfl) (Steps.refl _) (argsL := []) (rest := []) (lenOf pd_Z_171 rfl) rfl (by show 2 * 0 + _ ≤ _; exact Nat.le_of_eq rfl) (hb hby d23_16) (fun _ _ => ⟨rfl, e3, (by decide : 0 + 0 ≤ _), (by decide : 0 + 0 ≤ _)⟩)
  dsimp only [Pt.U, Pt.locs, Pt.cells, Pt.slots] at X4 l4 y4 z4 st4 hQ4
  subst l4 y4 z4
  obtain ⟨rfl, N4q, e4⟩ := hQ4
  have N4 := Fr.app N3 N4q
  obtain ⟨T5, h5, X5, e5, W5, st5⟩ := putFN X4 hx hZ hown (hwi hw 21 rfl) Via.refl e4 F_a1_coder E_a1 (Or.inr ⟨(hwi hw 17 rfl), rfl, hnm⟩) (hwi hw 2 rfl) (ty := .byte) (v' := (.int 0)) (by decide) rfl (by decide) (g := (mkF m 24 #[.val (.ref a1), .val (.ref a2), .val .null, .val (.ref t_a2), .val (.int 5)] [(.int 0), (.ref a1)])) rfl rfl (hb hby d23_24)
  have N5 := Fr.snoc X5 N4 g_a1
  have Fw5 := F_a1_coder.same W5
  have sz6 : h0.size ≤ h5.size := Nat.le_of_eq W5.size.symm
  have Z6 : n0 ≤ h5.size := Nat.le_trans Z0 sz6
  have O6 := O0.wr W5 g_a1
  have K6 : Keep h0 h5 [a1] := (Keep.refl h0 [a1]).wr W5 (Or.inl (List.mem_of_getElem? (i := 0) rfl))
  have fc8 := (V_t_a2.other W5 (Ne.symm (Exa.neArv E_a1 V_t_a2 (hwi hw 2 rfl))))
  obtain ⟨_, _, ⟨T7, L7, k7, n7⟩, -, X7, ⟨Lc7, hQ7, l7, y7, z7⟩, st7⟩ := Jvm.LawKit.callS X5 hx (y := (⟨"java/util/Arrays", "copyOfRange", "([BII)[B"⟩ : MethodName)) hown (mvT hZ (hwi hw 158 rfl)) (mvT hZ (hwi hw 159 rfl)) (mvT hZ (hwi hw 160 rfl)) (mvT hZ (hwi hw 161 rfl)) (by decide) (backOf (W := 1) (rm_cor_5 l Z a0 hw [] t_a2 k_t_a2 vd h5 n0 Z6 fc8 O6) hZ (hwi hw 161 rfl) (hwi hw 160 rfl) (by decide) (by decide)) (g := (mkF m 32 #[.val (.ref a1), .val (.ref a2), .val .null, .val (.ref t_a2), .val (.int 5)] [(.int 5), (.int 0), (.ref t_a2), (.ref a1)])) rfl (by rw [hml]; rfl) (argsL := [(.ref t_a2), (.int 0), (.int 5)]) (rest := [(.ref a1)]) (lenOf pd_BII__B_541 rfl) rfl (by show 2 * 0 + _ ≤ _; exact Nat.le_of_eq rfl) (hb hby d23_32) (fun _ _ => ⟨rfl, e5, (by decide : 0 + 1 ≤ _), (by decide : 0 + 5 ≤ _)⟩)
  dsimp only [Pt.U, Pt.locs, Pt.cells, Pt.slots] at X7 l7 y7 z7 st7 hQ7
  subst l7 y7 z7
  obtain ⟨r_7, kr_7, rfl, N7q, Kc7, g7_0, g7_1⟩ := hQ7
  have N7 := Fr.app N5 N7q
  have sz9 : h5.size ≤ T7.heap.size := Kc7.1
  have Z9 : n0 ≤ T7.heap.size := Nat.le_trans Z6 sz9
  have O9 := O6.keep Kc7 all0
  have K9 : Keep h0 T7.heap [a1] := K6.trans Kc7 (all0)
  have bn_r_7 : h0.size ≤ r_7 := Nat.le_trans K6.1 g7_0
  have fc10 := ((E_a1.wr W5).keep Kc7)
  have fc11 := ((F_a1_value.other W5 (Or.inr (slot_ne (Or.inr (hwi hw 16 rfl)) (Or.inr (hwi hw 17 rfl)) (by decide) (t := (.array .byte)) (t' := .byte) (by decide) (by decide)))).keep Kc7 nin0)
  obtain ⟨T12, h12, X12, e12, W12, st12⟩ := putF X7 hx hZ hown (host := "") (Or.inl (hwi hw 20 rfl)) Via.refl rfl fc11 fc10 (Or.inr ⟨(hwi hw 16 rfl), rfl, hnm⟩) (hwi hw 2 rfl) (ty := (.array .byte)) (by decide) rfl rfl (g := (mkF m 35 #[.val (.ref a1), .val (.ref a2), .val .null, .val (.ref t_a2), .val (.int 5)] [(.ref r_7), (.ref a1)])) rfl rfl (hb hby d23_35)
  have N12 := Fr.snoc X12 N7 g_a1
  have Fw12 := fc11.same W12
  have sz13 : T7.heap.size ≤ h12.size := Nat.le_of_eq W12.size.symm
  have Z13 : n0 ≤ h12.size := Nat.le_trans Z9 sz13
  have O13 := O9.wr W12 g_a1
  have K13 : Keep h0 h12 [a1] := K9.wr W12 (Or.inl (List.mem_of_getElem? (i := 0) rfl))
  have fc14 := (fc10.wr W12)
  have fc15 := ((Fw5.keep Kc7 nin0).other W12 (Or.inr (slot_ne (Or.inr (hwi hw 17 rfl)) (Or.inr (hwi hw 16 rfl)) (by decide) (t := .byte) (t' := (.array .byte)) (by decide) (by decide))))
  have fc16 := (g7_1.other W12 (neN (by have := ltN E_a1.lt; have := ltN g7_1.lt; omega)))
  obtain ⟨fs, hr, hrun, hended, hW, hsame⟩ := X12.leave (v := none) (fun _ => rfl)
  refine ⟨_, _, pre0 _ ?_, hrun, hended, _, _, rfl, ?_, ⟨_, rfl⟩, hW, hsame.mono (by decide) (by decide)⟩
  · show St p e below s₁ (mkF m 0 #[.val (.ref a1), .val (.ref a2), .val .null, .unset, .unset] []) _
    refine XS.aloadN X0.here hx rfl (hb hby d23_0) rfl rfl ?_
    refine st1 _ ?_
    refine XS.aloadN X1.here hx rfl (hb hby d23_4) rfl rfl ?_
    refine st2.trans ?_
    show St p e below T2 (mkF m 8 #[.val (.ref a1), .val (.ref a2), .val .null, .unset, .unset] [(.ref t_a2)]) _
    refine XS.astoreN X2.here hx rfl (hb hby d23_8) rfl rfl (l' := #[.val (.ref a1), .val (.ref a2), .val .null, .val (.ref t_a2), .unset]) rfl ?_
    refine XS.aloadN X2.here hx rfl (hb hby d23_9) rfl rfl ?_
    refine st3.trans ?_
    refine XS.istore X3.here hx rfl (hb hby d23_13) rfl (l' := #[.val (.ref a1), .val (.ref a2), .val .null, .val (.ref t_a2), .val (.int 5)]) rfl ?_
    show St p e below T3 (mkF m 15 #[.val (.ref a1), .val (.ref a2), .val .null, .val (.ref t_a2), .val (.int 5)] []) _
    refine XS.aloadN X3.here hx rfl (hb hby d23_15) rfl rfl ?_
    refine st4.trans ?_
    refine XS.ifNo X4.here hx rfl (hb hby d23_19) rfl ((if0 _ _).trans (feq (by decide : ¬ ((1 : Int32) = (0 : Int32)))).1) ?_
    refine XS.aloadN X4.here hx rfl (hb hby d23_22) rfl rfl ?_
    show St p e below T4 (mkF m 23 #[.val (.ref a1), .val (.ref a2), .val .null, .val (.ref t_a2), .val (.int 5)] [(.ref a1)]) _
    refine XS.iconst X4.here hx rfl (hb hby d23_23) ?_
    refine st5 _ ?_
    refine XS.aloadN X5.here hx rfl (hb hby d23_27) rfl rfl ?_
    refine XS.aloadN X5.here hx rfl (hb hby d23_28) rfl rfl ?_
    show St p e below T5 (mkF m 29 #[.val (.ref a1), .val (.ref a2), .val .null, .val (.ref t_a2), .val (.int 5)] [(.ref t_a2), (.ref a1)]) _
    refine XS.iconst X5.here hx rfl (hb hby d23_29) ?_
    refine XS.iload X5.here hx rfl (hb hby d23_30) rfl ?_
    refine st7 _ ?_
    refine st12 _ ?_
    show St p e below T12 (mkF m 38 #[.val (.ref a1), .val (.ref a2), .val .null, .val (.ref t_a2), .val (.int 5)] []) _
    refine XS.goto X12.here hx rfl (pc0 := 38) (pc' := 97) rfl (hb hby d23_38) (by decide) (by decide) ?_
    show St p e below T12 (mkF m 97 #[.val (.ref a1), .val (.ref a2), .val .null, .val (.ref t_a2), .val (.int 5)] []) _
    exact X12.returnOut hx Bd.returns (hb hby d23_97) hr
  · show Q_new2_5 Z a1 a2 w_COMPACT_STRINGS t_a2 k_t_a2 vd u_a1_coder u_a1_value h0 n0 _ T12.heap _
    rw [e12]
    exact ⟨r_7, kr_7, rfl, N12, K13, bn_r_7, fc14, fc15, Fw12, fc16⟩
theorem pd_Ljava_lang_AbstractStringBuilder_Ljava_lang_Void__V_861 : parseMethodDescriptor "(Ljava/lang/AbstractStringBuilder;Ljava/lang/Void;)V" = some ⟨[(.object "java/lang/AbstractStringBuilder"), (.object "java/lang/Void")], none⟩ := by decide +kernel
theorem d22_0 : decode jdk_42_method_53_code 0 = .ok (.aload_n 0, 1) := by decide +kernel
theorem d22_1 : decode jdk_42_method_53_code 1 = .ok (.aload_n 1, 1) := by decide +kernel
theorem d22_2 : decode jdk_42_method_53_code 2 = .ok (.aconst_null, 1) := by decide +kernel
theorem d22_3 : decode jdk_42_method_53_code 3 = .ok (.invokespecial 489, 3) := by decide +kernel
theorem d22_6 : decode jdk_42_method_53_code 6 = .ok (.return_, 1) := by decide +kernel
theorem pn_22 : plainName "java/lang/String" = true := by first | (simp [plainName, overriddenIn]; done) | decide +kernel
theorem ef_22_RR (m : MethodId) (x0 : Addr) (x1 : Addr) : entryFrame m #[(.ref x0), (.ref x1)] 2 = mkF m 0 #[.val (.ref x0), .val (.ref x1)] [] := by first | (simp [entryFrame, mkF, argsToLocals, Value.category]; done) | rfl
def Q_news_5 (Z : State) (a1 : Addr) (a2 : Addr) (w_COMPACT_STRINGS : Int32) (t_a2 : Addr) (k_t_a2 : ClassId) (vd : List Value) (u_a1_coder : Value) (u_a1_value : Value) (h0 : Heap) (n0 : Nat) (v : Option Value) (h : Heap) (L : List Loc) : Prop := ∃ (t : Addr) (kt : ClassId), v = none ∧ Fr n0 L ∧ Keep h0 h [a1] ∧ h0.size ≤ t ∧ Exa Z h a1 "java/lang/String" ∧ Fld Z h a1 "java/lang/String" "coder" "B" (.int 0) ∧ Fld Z h a1 "java/lang/String" "value" "[B" (.ref t) ∧ Arv Z h t kt .byte (5 : Int32) (own_ap [(.int 0), (.int 0), (.int 0), (.int 0), (.int 0)] vd (0 : Int32) (5 : Int32)) (.int 0)
set_option maxRecDepth 65536 in
set_option maxHeartbeats 40000000 in
theorem rm_news_5 (l : Launch) (Z : State) (a0 : Array Value) (hw : ∀ d ∈ tables_1, d.before a0 Z = true) (ws : List Jvm.Cond) (a1 : Addr) (a2 : Addr) (w_COMPACT_STRINGS : Int32) (t_a2 : Addr) (k_t_a2 : ClassId) (vd : List Value) (u_a1_coder : Value) (u_a1_value : Value) (h0 : Heap) (n0 : Nat) (Z0 : n0 ≤ h0.size) (E_a1 : Exa Z h0 a1 "java/lang/String") (S_COMPACT_STRINGS : Sta Z Z.heap "java/lang/String" "COMPACT_STRINGS" "Z" (.int w_COMPACT_STRINGS)) (hcs : ¬ (w_COMPACT_STRINGS = (0 : Int32))) (E_a2 : Exa Z h0 a2 "java/lang/StringBuilder") (F_a2_coder : Fld Z h0 a2 "java/lang/AbstractStringBuilder" "coder" "B" (.int 0)) (F_a2_value : Fld Z h0 a2 "java/lang/AbstractStringBuilder" "value" "[B" (.ref t_a2)) (V_t_a2 : Arv Z h0 t_a2 k_t_a2 .byte (16 : Int32) vd (.int 0)) (F_a2_count : Fld Z h0 a2 "java/lang/AbstractStringBuilder" "count" "I" (.int 5)) (O0 : Old Z n0 h0) (F_a1_coder : Fld Z h0 a1 "java/lang/String" "coder" "B" u_a1_coder) (g_a1 : n0 ≤ a1) (F_a1_value : Fld Z h0 a1 "java/lang/String" "value" "[B" u_a1_value) :
    MetFree l (⟨"java/lang/String", "<init>", "(Ljava/lang/StringBuilder;)V"⟩ : MethodName) (head1 (Jvm.Cond.code (⟨"java/lang/String", "<init>", "(Ljava/lang/StringBuilder;)V"⟩ : MethodName) jdk_42_method_53_code 2 none :: ws) ({ frames := 4, cells := 1, slots := 5, locals := 65 } : Room)) (fun a U => a = #[(.ref a1), (.ref a2)] ∧ Z.Warmed39 U.vm ∧ U.heap = h0) (fun _ _ _ _ _ => True) (fun _ U o U' => ∃ v L, o = .returned v ∧ Q_news_5 Z a1 a2 w_COMPACT_STRINGS t_a2 k_t_a2 vd u_a1_coder u_a1_value h0 n0 v U'.heap L ∧ FrameEnd U o U' L ({ frames := 4, cells := 1, slots := 5, locals := 65 } : Room).cells ({ frames := 4, cells := 1, slots := 5, locals := 65 } : Room).slots) := by
  refine MetFree.of_bodySF (plainFor_of_name pn_22) hisR ?_
  intro p e s m args below meth c s₁ Bd hml0 hP hK
  obtain ⟨rfl, hZ, hh⟩ := hP
  have hx := Bd.exec
  have hby := Bd.bytes
  have hml : c.maxLocals = 2 := hml0
  have hown : s.vm.findClass "java/lang/String" = some m.cls := findClass_of_methodNamed Bd.named
  have hnm := (name_of_methodNamed Bd.named Bd.method).1
  have X0 : Stand p l e ({ frames := 4, cells := 1, slots := 5, locals := 65 } : Room) s m #[(.ref a1), (.ref a2)] below meth c s₁ [] 0 0 := Stand.of_body Bd
  have e0 : s₁.heap = h0 := by rw [← hh, Bd.state]; rfl
  have N0 := Fr.nil n0
  have pre0 : ∀ t, Steps p.tables e below (s₁.setTop (mkF m 0 #[.val (.ref a1), .val (.ref a2)] [])) t → Steps p.tables e below (s₁.setTop (entryFrame m #[(.ref a1), (.ref a2)] 2)) t := fun t k => castTop (ef_22_RR m a1 a2) k
  obtain ⟨_, _, ⟨T1, L1, k1, n1⟩, -, X1, ⟨Lc1, hQ1, l1, y1, z1⟩, st1⟩ := X0.specialBack hx (y := (⟨"java/lang/String", "<init>", "(Ljava/lang/AbstractStringBuilder;Ljava/lang/Void;)V"⟩ : MethodName)) rfl hown (mvT hZ (hwi hw 137 rfl)) (mvT hZ (hwi hw 138 rfl)) (mvT hZ (hwi hw 139 rfl)) (by decide) (backOf (W := 0) (rm_new2_5 l Z a0 hw [] a1 a2 w_COMPACT_STRINGS t_a2 k_t_a2 vd u_a1_coder u_a1_value h0 n0 Z0 E_a1 S_COMPACT_STRINGS hcs E_a2 F_a2_coder F_a2_value V_t_a2 F_a2_count O0 F_a1_coder g_a1 F_a1_value) hZ (hwi hw 139 rfl) (hwi hw 3 rfl) (by decide) (by decide)) (g := (mkF m 3 #[.val (.ref a1), .val (.ref a2)] [.null, (.ref a2), (.ref a1)])) rfl (by rw [hml]; rfl) (Steps.refl _) (a := a1) (argsL := [(.ref a2), .null]) (rest := []) (lenOf pd_Ljava_lang_AbstractStringBuilder_Ljava_lang_Void__V_861 rfl) rfl (by show 2 * 0 + _ ≤ _; exact Nat.le_of_eq rfl) (hb hby d22_3) (fun _ _ => ⟨rfl, e0, (by decide : 0 + 1 ≤ _), (by decide : 0 + 5 ≤ _)⟩)
  dsimp only [Pt.U, Pt.locs, Pt.cells, Pt.slots] at X1 l1 y1 z1 st1 hQ1
  subst l1 y1 z1
  obtain ⟨t_1, kt_1, rfl, N1q, Kc1, g1_0, g1_1, g1_2, g1_3, g1_4⟩ := hQ1
  have N1 := Fr.app N0 N1q
  have sz2 : h0.size ≤ T1.heap.size := Kc1.1
  have Z2 : n0 ≤ T1.heap.size := Nat.le_trans Z0 sz2
  have O2 := O0.keep Kc1 (allS g_a1 all0)
  have K2 : Keep h0 T1.heap [a1] := (Keep.refl h0 [a1]).trans Kc1 (allS (Or.inl (List.mem_of_getElem? (i := 0) rfl)) (all0))
  have bn_t_1 : h0.size ≤ t_1 := g1_0
  obtain ⟨fs, hr, hrun, hended, hW, hsame⟩ := X1.leave (v := none) (fun _ => rfl)
  refine ⟨_, _, pre0 _ ?_, hrun, hended, _, _, rfl, ?_, ⟨_, rfl⟩, hW, hsame.mono (by decide) (by decide)⟩
  · show St p e below s₁ (mkF m 0 #[.val (.ref a1), .val (.ref a2)] []) _
    refine XS.aloadN X0.here hx rfl (hb hby d22_0) rfl rfl ?_
    refine XS.aloadN X0.here hx rfl (hb hby d22_1) rfl rfl ?_
    refine XS.aconstNull X0.here hx rfl (hb hby d22_2) ?_
    refine st1.trans ?_
    show St p e below T1 (mkF m 6 #[.val (.ref a1), .val (.ref a2)] []) _
    exact X1.returnOut hx Bd.returns (hb hby d22_6) hr
  · show Q_news_5 Z a1 a2 w_COMPACT_STRINGS t_a2 k_t_a2 vd u_a1_coder u_a1_value h0 n0 _ T1.heap _
    exact ⟨t_1, kt_1, rfl, N1, K2, bn_t_1, g1_1, g1_2, g1_3, g1_4⟩
theorem pd_Ljava_lang_StringBuilder__V_574 : parseMethodDescriptor "(Ljava/lang/StringBuilder;)V" = some ⟨[(.object "java/lang/StringBuilder")], none⟩ := by decide +kernel
theorem d21_0 : decode jdk_67_method_42_code 0 = .ok (.new 18, 3) := by decide +kernel
theorem d21_3 : decode jdk_67_method_42_code 3 = .ok (.dup, 1) := by decide +kernel
theorem d21_4 : decode jdk_67_method_42_code 4 = .ok (.aload_n 0, 1) := by decide +kernel
theorem d21_5 : decode jdk_67_method_42_code 5 = .ok (.invokespecial 137, 3) := by decide +kernel
theorem d21_8 : decode jdk_67_method_42_code 8 = .ok (.areturn, 1) := by decide +kernel
theorem pn_21 : plainName "java/lang/StringBuilder" = true := by first | (simp [plainName, overriddenIn]; done) | decide +kernel
theorem ef_21_R (m : MethodId) (x0 : Addr) : entryFrame m #[(.ref x0)] 1 = mkF m 0 #[.val (.ref x0)] [] := by first | (simp [entryFrame, mkF, argsToLocals, Value.category]; done) | rfl
def Q_tostr_5 (Z : State) (a1 : Addr) (w_COMPACT_STRINGS : Int32) (t_a1 : Addr) (k_t_a1 : ClassId) (vd : List Value) (h0 : Heap) (n0 : Nat) (v : Option Value) (h : Heap) (L : List Loc) : Prop := ∃ (r : Addr) (t : Addr) (kt : ClassId), v = some (.ref r) ∧ Fr n0 L ∧ Keep h0 h [] ∧ h0.size ≤ r ∧ h0.size ≤ t ∧ Exa Z h r "java/lang/String" ∧ Fld Z h r "java/lang/String" "coder" "B" (.int 0) ∧ Fld Z h r "java/lang/String" "value" "[B" (.ref t) ∧ Arv Z h t kt .byte (5 : Int32) (own_ap [(.int 0), (.int 0), (.int 0), (.int 0), (.int 0)] vd (0 : Int32) (5 : Int32)) (.int 0)
set_option maxRecDepth 65536 in
set_option maxHeartbeats 40000000 in
theorem rm_tostr_5 (l : Launch) (Z : State) (a0 : Array Value) (hw : ∀ d ∈ tables_1, d.before a0 Z = true) (ws : List Jvm.Cond) (a1 : Addr) (w_COMPACT_STRINGS : Int32) (t_a1 : Addr) (k_t_a1 : ClassId) (vd : List Value) (h0 : Heap) (n0 : Nat) (Z0 : n0 ≤ h0.size) (S_COMPACT_STRINGS : Sta Z Z.heap "java/lang/String" "COMPACT_STRINGS" "Z" (.int w_COMPACT_STRINGS)) (hcs : ¬ (w_COMPACT_STRINGS = (0 : Int32))) (E_a1 : Exa Z h0 a1 "java/lang/StringBuilder") (F_a1_coder : Fld Z h0 a1 "java/lang/AbstractStringBuilder" "coder" "B" (.int 0)) (F_a1_value : Fld Z h0 a1 "java/lang/AbstractStringBuilder" "value" "[B" (.ref t_a1)) (V_t_a1 : Arv Z h0 t_a1 k_t_a1 .byte (16 : Int32) vd (.int 0)) (F_a1_count : Fld Z h0 a1 "java/lang/AbstractStringBuilder" "count" "I" (.int 5)) (O0 : Old Z n0 h0) :
    MetFree l (⟨"java/lang/StringBuilder", "toString", "()Ljava/lang/String;"⟩ : MethodName) (head1 (Jvm.Cond.code (⟨"java/lang/StringBuilder", "toString", "()Ljava/lang/String;"⟩ : MethodName) jdk_67_method_42_code 1 (some (.object "java/lang/String")) :: ws) ({ frames := 5, cells := 2, slots := 9, locals := 79 } : Room)) (fun a U => a = #[(.ref a1)] ∧ Z.Warmed39 U.vm ∧ U.heap = h0) (fun _ _ _ _ _ => True) (fun _ U o U' => ∃ v L, o = .returned v ∧ Q_tostr_5 Z a1 w_COMPACT_STRINGS t_a1 k_t_a1 vd h0 n0 v U'.heap L ∧ FrameEnd U o U' L ({ frames := 5, cells := 2, slots := 9, locals := 79 } : Room).cells ({ frames := 5, cells := 2, slots := 9, locals := 79 } : Room).slots) := by
  refine MetFree.of_bodySF (plainFor_of_name pn_21) hisR ?_
  intro p e s m args below meth c s₁ Bd hml0 hP hK
  obtain ⟨rfl, hZ, hh⟩ := hP
  have hx := Bd.exec
  have hby := Bd.bytes
  have hml : c.maxLocals = 1 := hml0
  have hown : s.vm.findClass "java/lang/StringBuilder" = some m.cls := findClass_of_methodNamed Bd.named
  have hnm := (name_of_methodNamed Bd.named Bd.method).1
  have X0 : Stand p l e ({ frames := 5, cells := 2, slots := 9, locals := 79 } : Room) s m #[(.ref a1)] below meth c s₁ [] 0 0 := Stand.of_body Bd
  have e0 : s₁.heap = h0 := by rw [← hh, Bd.state]; rfl
  have N0 := Fr.nil n0
  have pre0 : ∀ t, Steps p.tables e below (s₁.setTop (mkF m 0 #[.val (.ref a1)] [])) t → Steps p.tables e below (s₁.setTop (entryFrame m #[(.ref a1)] 1)) t := fun t k => castTop (ef_21_R m a1) k
  obtain ⟨T1, h1, X1, e1, E1, A1, D1, -, st1⟩ := newO X0 hx hZ hown (hwi hw 133 rfl) (hwi hw 2 rfl) (hwi hw 3 rfl) e0 (g := (mkF m 0 #[.val (.ref a1)] [])) rfl (hb hby d21_0) (by decide) (by decide)
  obtain ⟨b1, g1⟩ : ∃ z, z = h0.size := ⟨_, rfl⟩
  rw [← g1] at A1 D1 st1
  have bn_b1 : h0.size ≤ b1 := Nat.le_of_eq g1.symm
  have sz2 : h0.size ≤ h1.size := E1.1
  have Z2 : n0 ≤ h1.size := Nat.le_trans Z0 sz2
  have O2 := O0.ext E1
  have K2 : Keep h0 h1 [] := (Keep.refl h0 []).ext E1
  have F1_value : Fld Z h1 b1 "java/lang/String" "value" "[B" .null := D1 (Or.inr (hwi hw 16 rfl)) (ty := (.array .byte)) (by decide)
  have F1_coder : Fld Z h1 b1 "java/lang/String" "coder" "B" (.int 0) := D1 (Or.inr (hwi hw 17 rfl)) (ty := .byte) (by decide)
  have fc4 := (E_a1.ext E1)
  have fc5 := (F_a1_coder.ext E1)
  have fc6 := (F_a1_value.ext E1)
  have fc7 := (V_t_a1.ext E1)
  have fc8 := (F_a1_count.ext E1)
  obtain ⟨_, _, ⟨T3, L3, k3, n3⟩, -, X3, ⟨Lc3, hQ3, l3, y3, z3⟩, st3⟩ := X1.specialBack hx (y := (⟨"java/lang/String", "<init>", "(Ljava/lang/StringBuilder;)V"⟩ : MethodName)) rfl hown (mvT hZ (hwi hw 134 rfl)) (mvT hZ (hwi hw 135 rfl)) (mvT hZ (hwi hw 136 rfl)) (by decide) (backOf (W := 1) (rm_news_5 l Z a0 hw [] b1 a1 w_COMPACT_STRINGS t_a1 k_t_a1 vd (.int 0) .null h1 n0 Z2 A1 S_COMPACT_STRINGS hcs fc4 fc5 fc6 fc7 fc8 O2 F1_coder (Nat.le_trans Z0 bn_b1) F1_value) hZ (hwi hw 136 rfl) (hwi hw 3 rfl) (by decide) (by decide)) (g := (mkF m 5 #[.val (.ref a1)] [(.ref a1), (.ref b1), (.ref b1)])) rfl (by rw [hml]; rfl) (Steps.refl _) (a := b1) (argsL := [(.ref a1)]) (rest := [(.ref b1)]) (lenOf pd_Ljava_lang_StringBuilder__V_574 rfl) rfl (by show 2 * 0 + _ ≤ _; exact Nat.le_of_eq rfl) (hb hby d21_5) (fun _ _ => ⟨rfl, e1, (by decide : 1 + 1 ≤ _), (by decide : 4 + 5 ≤ _)⟩)
  dsimp only [Pt.U, Pt.locs, Pt.cells, Pt.slots] at X3 l3 y3 z3 st3 hQ3
  subst l3 y3 z3
  obtain ⟨t_3, kt_3, rfl, N3q, Kc3, g3_0, g3_1, g3_2, g3_3, g3_4⟩ := hQ3
  have N3 := Fr.app N0 N3q
  have sz9 : h1.size ≤ T3.heap.size := Kc3.1
  have Z9 : n0 ≤ T3.heap.size := Nat.le_trans Z2 sz9
  have O9 := O2.keep Kc3 (allS (Nat.le_trans Z0 bn_b1) all0)
  have K9 : Keep h0 T3.heap [] := K2.trans Kc3 (allS (Or.inr bn_b1) (all0))
  have bn_t_3 : h0.size ≤ t_3 := Nat.le_trans K2.1 g3_0
  obtain ⟨fs, hr, hrun, hended, hW, hsame⟩ := X3.leave (v := some (.ref b1)) (fun h => by rw [Bd.returns] at h; cases h)
  refine ⟨_, _, pre0 _ ?_, hrun, hended, _, _, rfl, ?_, ⟨_, rfl⟩, hW, hsame.mono (by decide) (by decide)⟩
  · show St p e below s₁ (mkF m 0 #[.val (.ref a1)] []) _
    refine st1 _ ?_
    refine XS.dup X1.here hx rfl (hb hby d21_3) rfl rfl ?_
    refine XS.aloadN X1.here hx rfl (hb hby d21_4) rfl rfl ?_
    refine st3.trans ?_
    show St p e below T3 (mkF m 8 #[.val (.ref a1)] [(.ref b1)]) _
    jvm_step X3.here [X3.here.top, hx, (hb hby d21_8), X3.method', Bd.returns, Value.isRef, FieldType.isReference]
    first | (intro acts; rw [hr _ acts rfl rfl rfl]) | rw [hr _ _ rfl rfl rfl]
    exact Steps.refl _
  · show Q_tostr_5 Z a1 w_COMPACT_STRINGS t_a1 k_t_a1 vd h0 n0 _ T3.heap _
    exact ⟨b1, t_3, kt_3, rfl, N3, K9, bn_b1, bn_t_3, g3_1, g3_2, g3_3, g3_4⟩
def Q_cklen_6 (Z : State)  (h0 : Heap) (n0 : Nat) (v : Option Value) (h : Heap) (L : List Loc) : Prop := v = none ∧ Fr n0 L ∧ h = h0
set_option maxRecDepth 65536 in
set_option maxHeartbeats 40000000 in
theorem rm_cklen_6 (l : Launch) (Z : State) (a0 : Array Value) (hw : ∀ d ∈ tables_1, d.before a0 Z = true) (ws : List Jvm.Cond)  (h0 : Heap) (n0 : Nat) (Z0 : n0 ≤ h0.size) :
    MetFree l (⟨"java/util/Arrays", "checkLength", "(II)V"⟩ : MethodName) (head1 (Jvm.Cond.code (⟨"java/util/Arrays", "checkLength", "(II)V"⟩ : MethodName) jdk_65_method_131_code 2 none :: ws) ({ frames := 0, cells := 0, slots := 0, locals := 0 } : Room)) (fun a U => a = #[(.int 0), (.int 6)] ∧ Z.Warmed39 U.vm ∧ U.heap = h0) (fun _ _ _ _ _ => True) (fun _ U o U' => ∃ v L, o = .returned v ∧ Q_cklen_6 Z  h0 n0 v U'.heap L ∧ FrameEnd U o U' L ({ frames := 0, cells := 0, slots := 0, locals := 0 } : Room).cells ({ frames := 0, cells := 0, slots := 0, locals := 0 } : Room).slots) := by
  refine MetFree.of_bodySF (plainFor_of_name pn_30) hisR ?_
  intro p e s m args below meth c s₁ Bd hml0 hP hK
  obtain ⟨rfl, hZ, hh⟩ := hP
  have hx := Bd.exec
  have hby := Bd.bytes
  have hml : c.maxLocals = 2 := hml0
  have hown : s.vm.findClass "java/util/Arrays" = some m.cls := findClass_of_methodNamed Bd.named
  have hnm := (name_of_methodNamed Bd.named Bd.method).1
  have X0 : Stand p l e ({ frames := 0, cells := 0, slots := 0, locals := 0 } : Room) s m #[(.int 0), (.int 6)] below meth c s₁ [] 0 0 := Stand.of_body Bd
  have e0 : s₁.heap = h0 := by rw [← hh, Bd.state]; rfl
  have N0 := Fr.nil n0
  have pre0 : ∀ t, Steps p.tables e below (s₁.setTop (mkF m 0 #[.val (.int 0), .val (.int 6)] [])) t → Steps p.tables e below (s₁.setTop (entryFrame m #[(.int 0), (.int 6)] 2)) t := fun t k => castTop (ef_30_II m (0 : Int32) (6 : Int32)) k
  obtain ⟨fs, hr, hrun, hended, hW, hsame⟩ := X0.leave (v := none) (fun _ => rfl)
  refine ⟨_, _, pre0 _ ?_, hrun, hended, _, _, rfl, ?_, ⟨_, rfl⟩, hW, hsame.mono (by decide) (by decide)⟩
  · show St p e below s₁ (mkF m 0 #[.val (.int 0), .val (.int 6)] []) _
    refine XS.iloadN X0.here hx rfl (hb hby d30_0) rfl ?_
    refine XS.iloadN X0.here hx rfl (hb hby d30_1) rfl ?_
    refine XS.icmpYes X0.here hx rfl (pc0 := 2) (pc' := 37) rfl (hb hby d30_2) rfl (flt (by decide : ¬ ((6 : Int32) < (0 : Int32)))).2.1 (by decide) (by decide) ?_
    show St p e below s₁ (mkF m 37 #[.val (.int 0), .val (.int 6)] []) _
    exact X0.returnOut hx Bd.returns (hb hby d30_37) hr
  · show Q_cklen_6 Z  h0 n0 _ s₁.heap _
    rw [e0]
    exact ⟨rfl, N0, rfl⟩
def Q_min_6 (Z : State)  (h0 : Heap) (n0 : Nat) (v : Option Value) (h : Heap) (L : List Loc) : Prop := v = some (.int 6) ∧ Fr n0 L ∧ h = h0
set_option maxRecDepth 65536 in
set_option maxHeartbeats 40000000 in
theorem rm_min_6 (l : Launch) (Z : State) (a0 : Array Value) (hw : ∀ d ∈ tables_1, d.before a0 Z = true) (ws : List Jvm.Cond)  (h0 : Heap) (n0 : Nat) (Z0 : n0 ≤ h0.size) :
    MetFree l (⟨"java/lang/Math", "min", "(II)I"⟩ : MethodName) (head1 (Jvm.Cond.code (⟨"java/lang/Math", "min", "(II)I"⟩ : MethodName) jdk_29_method_69_code 2 (some .int) :: ws) ({ frames := 0, cells := 0, slots := 0, locals := 0 } : Room)) (fun a U => a = #[(.int 16), (.int 6)] ∧ Z.Warmed39 U.vm ∧ U.heap = h0) (fun _ _ _ _ _ => True) (fun _ U o U' => ∃ v L, o = .returned v ∧ Q_min_6 Z  h0 n0 v U'.heap L ∧ FrameEnd U o U' L ({ frames := 0, cells := 0, slots := 0, locals := 0 } : Room).cells ({ frames := 0, cells := 0, slots := 0, locals := 0 } : Room).slots) := by
  refine MetFree.of_bodySF (Jvm.Free.JP.mathPlain rfl (by decide +kernel)) hisR ?_
  intro p e s m args below meth c s₁ Bd hml0 hP hK
  obtain ⟨rfl, hZ, hh⟩ := hP
  have hx := Bd.exec
  have hby := Bd.bytes
  have hml : c.maxLocals = 2 := hml0
  have hown : s.vm.findClass "java/lang/Math" = some m.cls := findClass_of_methodNamed Bd.named
  have hnm := (name_of_methodNamed Bd.named Bd.method).1
  have X0 : Stand p l e ({ frames := 0, cells := 0, slots := 0, locals := 0 } : Room) s m #[(.int 16), (.int 6)] below meth c s₁ [] 0 0 := Stand.of_body Bd
  have e0 : s₁.heap = h0 := by rw [← hh, Bd.state]; rfl
  have N0 := Fr.nil n0
  have pre0 : ∀ t, Steps p.tables e below (s₁.setTop (mkF m 0 #[.val (.int 16), .val (.int 6)] [])) t → Steps p.tables e below (s₁.setTop (entryFrame m #[(.int 16), (.int 6)] 2)) t := fun t k => castTop (ef_31_II m (16 : Int32) (6 : Int32)) k
  obtain ⟨fs, hr, hrun, hended, hW, hsame⟩ := X0.leave (v := some (.int 6)) (fun h => by rw [Bd.returns] at h; cases h)
  refine ⟨_, _, pre0 _ ?_, hrun, hended, _, _, rfl, ?_, ⟨_, rfl⟩, hW, hsame.mono (by decide) (by decide)⟩
  · show St p e below s₁ (mkF m 0 #[.val (.int 16), .val (.int 6)] []) _
    refine XS.iloadN X0.here hx rfl (hb hby d31_0) rfl ?_
    refine XS.iloadN X0.here hx rfl (hb hby d31_1) rfl ?_
    refine XS.icmpYes X0.here hx rfl (pc0 := 2) (pc' := 9) rfl (hb hby d31_2) rfl (tlt (by decide : (6 : Int32) < (16 : Int32))).2.2.1 (by decide) (by decide) ?_
    refine XS.iloadN X0.here hx rfl (hb hby d31_9) rfl ?_
    show St p e below s₁ (mkF m 10 #[.val (.int 16), .val (.int 6)] [(.int 6)]) _
    exact retI X0 hx Bd.returns (hb hby d31_10) hr
  · show Q_min_6 Z  h0 n0 _ s₁.heap _
    rw [e0]
    exact ⟨rfl, N0, rfl⟩
def Q_corb_6 (Z : State) (a1 : Addr) (k_a1 : ClassId) (vd : List Value) (h0 : Heap) (n0 : Nat) (v : Option Value) (h : Heap) (L : List Loc) : Prop := ∃ (r : Addr) (kr : ClassId), v = some (.ref r) ∧ Fr n0 L ∧ Keep h0 h [] ∧ h0.size ≤ r ∧ Arv Z h r kr .byte (6 : Int32) (own_ap [(.int 0), (.int 0), (.int 0), (.int 0), (.int 0), (.int 0)] vd (0 : Int32) (6 : Int32)) (.int 0)
set_option maxRecDepth 65536 in
set_option maxHeartbeats 40000000 in
theorem rm_corb_6 (l : Launch) (Z : State) (a0 : Array Value) (hw : ∀ d ∈ tables_1, d.before a0 Z = true) (ws : List Jvm.Cond) (a1 : Addr) (k_a1 : ClassId) (vd : List Value) (h0 : Heap) (n0 : Nat) (Z0 : n0 ≤ h0.size) (V_a1 : Arv Z h0 a1 k_a1 .byte (16 : Int32) vd (.int 0)) (O0 : Old Z n0 h0) :
    MetFree l (⟨"java/util/Arrays", "copyOfRangeByte", "([BII)[B"⟩ : MethodName) (head1 (Jvm.Cond.code (⟨"java/util/Arrays", "copyOfRangeByte", "([BII)[B"⟩ : MethodName) jdk_65_method_133_code 5 (some (.array .byte)) :: ws) ({ frames := 1, cells := 1, slots := 6, locals := 18 } : Room)) (fun a U => a = #[(.ref a1), (.int 0), (.int 6)] ∧ Z.Warmed39 U.vm ∧ U.heap = h0) (fun _ _ _ _ _ => True) (fun _ U o U' => ∃ v L, o = .returned v ∧ Q_corb_6 Z a1 k_a1 vd h0 n0 v U'.heap L ∧ FrameEnd U o U' L ({ frames := 1, cells := 1, slots := 6, locals := 18 } : Room).cells ({ frames := 1, cells := 1, slots := 6, locals := 18 } : Room).slots) := by
  refine MetFree.of_bodySF (plainFor_of_name pn_29) hisR ?_
  intro p e s m args below meth c s₁ Bd hml0 hP hK
  obtain ⟨rfl, hZ, hh⟩ := hP
  have hx := Bd.exec
  have hby := Bd.bytes
  have hml : c.maxLocals = 5 := hml0
  have hown : s.vm.findClass "java/util/Arrays" = some m.cls := findClass_of_methodNamed Bd.named
  have hnm := (name_of_methodNamed Bd.named Bd.method).1
  have X0 : Stand p l e ({ frames := 1, cells := 1, slots := 6, locals := 18 } : Room) s m #[(.ref a1), (.int 0), (.int 6)] below meth c s₁ [] 0 0 := Stand.of_body Bd
  have e0 : s₁.heap = h0 := by rw [← hh, Bd.state]; rfl
  have N0 := Fr.nil n0
  have pre0 : ∀ t, Steps p.tables e below (s₁.setTop (mkF m 0 #[.val (.ref a1), .val (.int 0), .val (.int 6), .unset, .unset] [])) t → Steps p.tables e below (s₁.setTop (entryFrame m #[(.ref a1), (.int 0), (.int 6)] 5)) t := fun t k => castTop (ef_29_RII m a1 (0 : Int32) (6 : Int32)) k
  obtain ⟨_, _, ⟨T1, L1, k1, n1⟩, -, X1, ⟨Lc1, hQ1, l1, y1, z1⟩, st1⟩ := Jvm.LawKit.callS X0 hx (y := (⟨"java/util/Arrays", "checkLength", "(II)V"⟩ : MethodName)) hown (mvT hZ (hwi hw 165 rfl)) (mvT hZ (hwi hw 166 rfl)) (mvT hZ (hwi hw 160 rfl)) (mvT hZ (hwi hw 167 rfl)) (by decide) (backOf (W := 0) (rm_cklen_6 l Z a0 hw []  h0 n0 Z0) hZ (hwi hw 167 rfl) (hwi hw 160 rfl) (by decide) (by decide)) (g := (mkF m 2 #[.val (.ref a1), .val (.int 0), .val (.int 6), .unset, .unset] [(.int 6), (.int 0)])) rfl (by rw [hml]; rfl) (argsL := [(.int 0), (.int 6)]) (rest := []) (lenOf pd_II_V_313 rfl) rfl (by show 2 * 0 + _ ≤ _; exact Nat.le_of_eq rfl) (hb hby d29_2) (fun _ _ => ⟨rfl, e0, (by decide : 0 + 0 ≤ _), (by decide : 0 + 0 ≤ _)⟩)
  dsimp only [Pt.U, Pt.locs, Pt.cells, Pt.slots] at X1 l1 y1 z1 st1 hQ1
  subst l1 y1 z1
  obtain ⟨rfl, N1q, e1⟩ := hQ1
  have N1 := Fr.app N0 N1q
  obtain ⟨T2, h2, k2, X2, e2, E2, A2, st2⟩ := newP X1 hx hZ (hwi hw 15 rfl) e1 (g := (mkF m 10 #[.val (.ref a1), .val (.int 0), .val (.int 6), .val (.int 6), .unset] [(.int 6)])) rfl (hb hby d29_10) rfl (by decide) (cap := 6) (by decide) (by decide) (by decide) (by decide)
  obtain ⟨b2, g2⟩ : ∃ z, z = h0.size := ⟨_, rfl⟩
  rw [← g2] at A2 st2
  have bn_b2 : h0.size ≤ b2 := Nat.le_of_eq g2.symm
  have sz3 : h0.size ≤ h2.size := E2.1
  have Z3 : n0 ≤ h2.size := Nat.le_trans Z0 sz3
  have O3 := O0.ext E2
  have K3 : Keep h0 h2 [] := (Keep.refl h0 []).ext E2
  have V2 : Arv Z h2 b2 k2 .byte (6 : Int32) [(.int 0), (.int 0), (.int 0), (.int 0), (.int 0), (.int 0)] (.int 0) := (Arv.new A2 (by decide)).pad (pad_rep [] (.int 0) 6)
  have fc4 := (V_a1.ext E2)
  obtain ⟨cl5, Ar5, -, S5, M5, -, -⟩ := id fc4
  obtain ⟨_, _, ⟨T6, L6, k6, n6⟩, -, X6, ⟨Lc6, hQ6, l6, y6, z6⟩, st6⟩ := Jvm.LawKit.callS X2 hx (y := (⟨"java/lang/Math", "min", "(II)I"⟩ : MethodName)) hown (mvT hZ (hwi hw 168 rfl)) (mvT hZ (hwi hw 169 rfl)) (mvT hZ (hwi hw 170 rfl)) (mvT hZ (hwi hw 171 rfl)) (by decide) (backOf (W := 4) (rm_min_6 l Z a0 hw []  h2 n0 Z3) hZ (hwi hw 171 rfl) (hwi hw 170 rfl) (by decide) (by decide)) (g := (mkF m 24 #[.val (.ref a1), .val (.int 0), .val (.int 6), .val (.int 6), .val (.ref b2)] [(.int 6), (.int 16), (.int 0), (.ref b2), (.int 0), (.ref a1)])) rfl (by rw [hml]; rfl) (argsL := [(.int 16), (.int 6)]) (rest := [(.int 0), (.ref b2), (.int 0), (.ref a1)]) (lenOf pd_II_I_300 rfl) rfl (by show 2 * 0 + _ ≤ _; exact Nat.le_of_eq rfl) (hb hby d29_24) (fun _ _ => ⟨rfl, e2, (by decide : 1 + 0 ≤ _), (by decide : 6 + 0 ≤ _)⟩)
  dsimp only [Pt.U, Pt.locs, Pt.cells, Pt.slots] at X6 l6 y6 z6 st6 hQ6
  subst l6 y6 z6
  obtain ⟨rfl, N6q, e6⟩ := hQ6
  have N6 := Fr.app N1 N6q
  obtain ⟨T7, h7, L7, X7, e7, N7, Kc7, V7, st7⟩ := cpA X6 hx hZ hown (hwi hw 172 rfl) (hwi hw 126 rfl) (hwi hw 124 rfl) (hwi hw 125 rfl) e6 fc4 V2 (sp := (0 : Int32)) (dp := (0 : Int32)) (nn := (6 : Int32)) (us := (List.range (6 : Int32).toNatClampNeg).map fun i => (vd : List Value).getD ((0 : Int32).toNatClampNeg + i) (.int 0)) (Or.inl ⟨rfl, rfl⟩) (by decide) (by decide) (by decide) (by decide) (by decide) rfl (Nat.le_of_ble_eq_true rfl) N6 (Nat.le_trans Z0 bn_b2) (g := (mkF m 27 #[.val (.ref a1), .val (.int 0), .val (.int 6), .val (.int 6), .val (.ref b2)] [(.int 6), (.int 0), (.ref b2), (.int 0), (.ref a1)])) rfl (by rw [hml]; rfl) rfl (hb hby d29_27) (by decide) (W := 0) (by show 2 * 0 + _ ≤ _; exact Nat.le_of_eq rfl) (by decide)
  have Vd7 : Arv Z h7 b2 k2 .byte (6 : Int32) (own_ap [(.int 0), (.int 0), (.int 0), (.int 0), (.int 0), (.int 0)] vd (0 : Int32) (6 : Int32)) (.int 0) := V7
  have sz8 : h2.size ≤ h7.size := Kc7.1
  have Z8 : n0 ≤ h7.size := Nat.le_trans Z3 sz8
  have O8 := O3.keep Kc7 (allS (Nat.le_trans Z0 bn_b2) all0)
  have K8 : Keep h0 h7 [] := K3.trans Kc7 (allS (Or.inr bn_b2) (all0))
  obtain ⟨fs, hr, hrun, hended, hW, hsame⟩ := X7.leave (v := some (.ref b2)) (fun h => by rw [Bd.returns] at h; cases h)
  refine ⟨_, _, pre0 _ ?_, hrun, hended, _, _, rfl, ?_, ⟨_, rfl⟩, hW, hsame.mono (by decide) (by decide)⟩
  · show St p e below s₁ (mkF m 0 #[.val (.ref a1), .val (.int 0), .val (.int 6), .unset, .unset] []) _
    refine XS.iloadN X0.here hx rfl (hb hby d29_0) rfl ?_
    refine XS.iloadN X0.here hx rfl (hb hby d29_1) rfl ?_
    refine st1 _ ?_
    refine XS.iloadN X1.here hx rfl (hb hby d29_5) rfl ?_
    show St p e below T1 (mkF m 6 #[.val (.ref a1), .val (.int 0), .val (.int 6), .unset, .unset] [(.int 6)]) _
    refine XS.iloadN X1.here hx rfl (hb hby d29_6) rfl ?_
    refine XS.isub X1.here hx rfl (hb hby d29_7) rfl ?_
    show St p e below T1 (mkF m 8 #[.val (.ref a1), .val (.int 0), .val (.int 6), .unset, .unset] [(.int ((6 : Int32) - (0 : Int32)))]) _
    rw [(by decide : ((6 : Int32) - (0 : Int32)) = (6 : Int32))]
    show St p e below T1 (mkF m 8 #[.val (.ref a1), .val (.int 0), .val (.int 6), .unset, .unset] [(.int 6)]) _
    refine XS.istoreN X1.here hx rfl (hb hby d29_8) rfl (l' := #[.val (.ref a1), .val (.int 0), .val (.int 6), .val (.int 6), .unset]) rfl ?_
    refine XS.iloadN X1.here hx rfl (hb hby d29_9) rfl ?_
    refine st2 _ ?_
    refine XS.astore X2.here hx rfl (hb hby d29_12) rfl rfl (l' := #[.val (.ref a1), .val (.int 0), .val (.int 6), .val (.int 6), .val (.ref b2)]) rfl ?_
    show St p e below T2 (mkF m 14 #[.val (.ref a1), .val (.int 0), .val (.int 6), .val (.int 6), .val (.ref b2)] []) _
    refine XS.aloadN X2.here hx rfl (hb hby d29_14) rfl rfl ?_
    refine XS.iloadN X2.here hx rfl (hb hby d29_15) rfl ?_
    refine XS.aload X2.here hx rfl (hb hby d29_16) rfl rfl ?_
    refine XS.iconst X2.here hx rfl (hb hby d29_18) ?_
    show St p e below T2 (mkF m 19 #[.val (.ref a1), .val (.int 0), .val (.int 6), .val (.int 6), .val (.ref b2)] [(.int 0), (.ref b2), (.int 0), (.ref a1)]) _
    refine XS.aloadN X2.here hx rfl (hb hby d29_19) rfl rfl ?_
    refine X2.arraylength hx (by rw [e2]; exact Ar5.1) (State.isArrayOf_alike hZ.alike Ar5.2.1) (g := (mkF m 20 #[.val (.ref a1), .val (.int 0), .val (.int 6), .val (.int 6), .val (.ref b2)] [(.ref a1), (.int 0), (.ref b2), (.int 0), (.ref a1)])) rfl rfl (hb hby d29_20) _ ?_
    rw [len_of S5 M5]
    show St p e below T2 (mkF m 21 #[.val (.ref a1), .val (.int 0), .val (.int 6), .val (.int 6), .val (.ref b2)] [(.int 16), (.int 0), (.ref b2), (.int 0), (.ref a1)]) _
    refine XS.iloadN X2.here hx rfl (hb hby d29_21) rfl ?_
    refine XS.isub X2.here hx rfl (hb hby d29_22) rfl ?_
    show St p e below T2 (mkF m 23 #[.val (.ref a1), .val (.int 0), .val (.int 6), .val (.int 6), .val (.ref b2)] [(.int ((16 : Int32) - (0 : Int32))), (.int 0), (.ref b2), (.int 0), (.ref a1)]) _
    rw [(by decide : ((16 : Int32) - (0 : Int32)) = (16 : Int32))]
    show St p e below T2 (mkF m 23 #[.val (.ref a1), .val (.int 0), .val (.int 6), .val (.int 6), .val (.ref b2)] [(.int 16), (.int 0), (.ref b2), (.int 0), (.ref a1)]) _
    refine XS.iloadN X2.here hx rfl (hb hby d29_23) rfl ?_
    refine st6 _ ?_
    refine st7 _ ?_
    refine XS.aload X7.here hx rfl (hb hby d29_30) rfl rfl ?_
    show St p e below T7 (mkF m 32 #[.val (.ref a1), .val (.int 0), .val (.int 6), .val (.int 6), .val (.ref b2)] [(.ref b2)]) _
    jvm_step X7.here [X7.here.top, hx, (hb hby d29_32), X7.method', Bd.returns, Value.isRef, FieldType.isReference]
    first | (intro acts; rw [hr _ acts rfl rfl rfl]) | rw [hr _ _ rfl rfl rfl]
    exact Steps.refl _
  · show Q_corb_6 Z a1 k_a1 vd h0 n0 _ T7.heap _
    rw [e7]
    exact ⟨b2, k2, rfl, N7, K8, bn_b2, Vd7⟩
def Q_cor_6 (Z : State) (a1 : Addr) (k_a1 : ClassId) (vd : List Value) (h0 : Heap) (n0 : Nat) (v : Option Value) (h : Heap) (L : List Loc) : Prop := ∃ (r : Addr) (kr : ClassId), v = some (.ref r) ∧ Fr n0 L ∧ Keep h0 h [] ∧ h0.size ≤ r ∧ Arv Z h r kr .byte (6 : Int32) (own_ap [(.int 0), (.int 0), (.int 0), (.int 0), (.int 0), (.int 0)] vd (0 : Int32) (6 : Int32)) (.int 0)
set_option maxRecDepth 65536 in
set_option maxHeartbeats 40000000 in
theorem rm_cor_6 (l : Launch) (Z : State) (a0 : Array Value) (hw : ∀ d ∈ tables_1, d.before a0 Z = true) (ws : List Jvm.Cond) (a1 : Addr) (k_a1 : ClassId) (vd : List Value) (h0 : Heap) (n0 : Nat) (Z0 : n0 ≤ h0.size) (V_a1 : Arv Z h0 a1 k_a1 .byte (16 : Int32) vd (.int 0)) (O0 : Old Z n0 h0) :
    MetFree l (⟨"java/util/Arrays", "copyOfRange", "([BII)[B"⟩ : MethodName) (head1 (Jvm.Cond.code (⟨"java/util/Arrays", "copyOfRange", "([BII)[B"⟩ : MethodName) jdk_65_method_132_code 3 (some (.array .byte)) :: ws) ({ frames := 2, cells := 1, slots := 6, locals := 34 } : Room)) (fun a U => a = #[(.ref a1), (.int 0), (.int 6)] ∧ Z.Warmed39 U.vm ∧ U.heap = h0) (fun _ _ _ _ _ => True) (fun _ U o U' => ∃ v L, o = .returned v ∧ Q_cor_6 Z a1 k_a1 vd h0 n0 v U'.heap L ∧ FrameEnd U o U' L ({ frames := 2, cells := 1, slots := 6, locals := 34 } : Room).cells ({ frames := 2, cells := 1, slots := 6, locals := 34 } : Room).slots) := by
  refine MetFree.of_bodySF (plainFor_of_name pn_28) hisR ?_
  intro p e s m args below meth c s₁ Bd hml0 hP hK
  obtain ⟨rfl, hZ, hh⟩ := hP
  have hx := Bd.exec
  have hby := Bd.bytes
  have hml : c.maxLocals = 3 := hml0
  have hown : s.vm.findClass "java/util/Arrays" = some m.cls := findClass_of_methodNamed Bd.named
  have hnm := (name_of_methodNamed Bd.named Bd.method).1
  have X0 : Stand p l e ({ frames := 2, cells := 1, slots := 6, locals := 34 } : Room) s m #[(.ref a1), (.int 0), (.int 6)] below meth c s₁ [] 0 0 := Stand.of_body Bd
  have e0 : s₁.heap = h0 := by rw [← hh, Bd.state]; rfl
  have N0 := Fr.nil n0
  have pre0 : ∀ t, Steps p.tables e below (s₁.setTop (mkF m 0 #[.val (.ref a1), .val (.int 0), .val (.int 6)] [])) t → Steps p.tables e below (s₁.setTop (entryFrame m #[(.ref a1), (.int 0), (.int 6)] 3)) t := fun t k => castTop (ef_28_RII m a1 (0 : Int32) (6 : Int32)) k
  obtain ⟨cl1, Ar1, -, S1, M1, -, -⟩ := id V_a1
  obtain ⟨_, _, ⟨T2, L2, k2, n2⟩, -, X2, ⟨Lc2, hQ2, l2, y2, z2⟩, st2⟩ := Jvm.LawKit.callS X0 hx (y := (⟨"java/util/Arrays", "copyOfRangeByte", "([BII)[B"⟩ : MethodName)) hown (mvT hZ (hwi hw 162 rfl)) (mvT hZ (hwi hw 163 rfl)) (mvT hZ (hwi hw 160 rfl)) (mvT hZ (hwi hw 164 rfl)) (by decide) (backOf (W := 0) (rm_corb_6 l Z a0 hw [] a1 k_a1 vd h0 n0 Z0 V_a1 O0) hZ (hwi hw 164 rfl) (hwi hw 160 rfl) (by decide) (by decide)) (g := (mkF m 13 #[.val (.ref a1), .val (.int 0), .val (.int 6)] [(.int 6), (.int 0), (.ref a1)])) rfl (by rw [hml]; rfl) (argsL := [(.ref a1), (.int 0), (.int 6)]) (rest := []) (lenOf pd_BII__B_541 rfl) rfl (by show 2 * 0 + _ ≤ _; exact Nat.le_of_eq rfl) (hb hby d28_13) (fun _ _ => ⟨rfl, e0, (by decide : 0 + 1 ≤ _), (by decide : 0 + 6 ≤ _)⟩)
  dsimp only [Pt.U, Pt.locs, Pt.cells, Pt.slots] at X2 l2 y2 z2 st2 hQ2
  subst l2 y2 z2
  obtain ⟨r_2, kr_2, rfl, N2q, Kc2, g2_0, g2_1⟩ := hQ2
  have N2 := Fr.app N0 N2q
  have sz3 : h0.size ≤ T2.heap.size := Kc2.1
  have Z3 : n0 ≤ T2.heap.size := Nat.le_trans Z0 sz3
  have O3 := O0.keep Kc2 all0
  have K3 : Keep h0 T2.heap [] := (Keep.refl h0 []).trans Kc2 (all0)
  have bn_r_2 : h0.size ≤ r_2 := g2_0
  obtain ⟨fs, hr, hrun, hended, hW, hsame⟩ := X2.leave (v := some (.ref r_2)) (fun h => by rw [Bd.returns] at h; cases h)
  refine ⟨_, _, pre0 _ ?_, hrun, hended, _, _, rfl, ?_, ⟨_, rfl⟩, hW, hsame.mono (by decide) (by decide)⟩
  · show St p e below s₁ (mkF m 0 #[.val (.ref a1), .val (.int 0), .val (.int 6)] []) _
    refine XS.iloadN X0.here hx rfl (hb hby d28_0) rfl ?_
    refine XS.ifNo X0.here hx rfl (hb hby d28_1) rfl ((if0 _ _).trans (teq (by decide : (0 : Int32) = (0 : Int32))).2) ?_
    refine XS.iloadN X0.here hx rfl (hb hby d28_4) rfl ?_
    refine XS.aloadN X0.here hx rfl (hb hby d28_5) rfl rfl ?_
    show St p e below s₁ (mkF m 6 #[.val (.ref a1), .val (.int 0), .val (.int 6)] [(.ref a1), (.int 6)]) _
    refine X0.arraylength hx (by rw [e0]; exact Ar1.1) (State.isArrayOf_alike hZ.alike Ar1.2.1) (g := (mkF m 6 #[.val (.ref a1), .val (.int 0), .val (.int 6)] [(.ref a1), (.int 6)])) rfl rfl (hb hby d28_6) _ ?_
    rw [len_of S1 M1]
    show St p e below s₁ (mkF m 7 #[.val (.ref a1), .val (.int 0), .val (.int 6)] [(.int 16), (.int 6)]) _
    refine XS.icmpNo X0.here hx rfl (hb hby d28_7) rfl (feq (by decide : ¬ ((6 : Int32) = (16 : Int32)))).1 ?_
    refine XS.aloadN X0.here hx rfl (hb hby d28_10) rfl rfl ?_
    refine XS.iloadN X0.here hx rfl (hb hby d28_11) rfl ?_
    refine XS.iloadN X0.here hx rfl (hb hby d28_12) rfl ?_
    show St p e below s₁ (mkF m 13 #[.val (.ref a1), .val (.int 0), .val (.int 6)] [(.int 6), (.int 0), (.ref a1)]) _
    refine st2 _ ?_
    show St p e below T2 (mkF m 16 #[.val (.ref a1), .val (.int 0), .val (.int 6)] [(.ref r_2)]) _
    jvm_step X2.here [X2.here.top, hx, (hb hby d28_16), X2.method', Bd.returns, Value.isRef, FieldType.isReference]
    first | (intro acts; rw [hr _ acts rfl rfl rfl]) | rw [hr _ _ rfl rfl rfl]
    exact Steps.refl _
  · show Q_cor_6 Z a1 k_a1 vd h0 n0 _ T2.heap _
    exact ⟨r_2, kr_2, rfl, N2, K3, bn_r_2, g2_1⟩
def Q_new2_6 (Z : State) (a1 : Addr) (a2 : Addr) (w_COMPACT_STRINGS : Int32) (t_a2 : Addr) (k_t_a2 : ClassId) (vd : List Value) (u_a1_coder : Value) (u_a1_value : Value) (h0 : Heap) (n0 : Nat) (v : Option Value) (h : Heap) (L : List Loc) : Prop := ∃ (t : Addr) (kt : ClassId), v = none ∧ Fr n0 L ∧ Keep h0 h [a1] ∧ h0.size ≤ t ∧ Exa Z h a1 "java/lang/String" ∧ Fld Z h a1 "java/lang/String" "coder" "B" (.int 0) ∧ Fld Z h a1 "java/lang/String" "value" "[B" (.ref t) ∧ Arv Z h t kt .byte (6 : Int32) (own_ap [(.int 0), (.int 0), (.int 0), (.int 0), (.int 0), (.int 0)] vd (0 : Int32) (6 : Int32)) (.int 0)
set_option maxRecDepth 65536 in
set_option maxHeartbeats 40000000 in
theorem rm_new2_6 (l : Launch) (Z : State) (a0 : Array Value) (hw : ∀ d ∈ tables_1, d.before a0 Z = true) (ws : List Jvm.Cond) (a1 : Addr) (a2 : Addr) (w_COMPACT_STRINGS : Int32) (t_a2 : Addr) (k_t_a2 : ClassId) (vd : List Value) (u_a1_coder : Value) (u_a1_value : Value) (h0 : Heap) (n0 : Nat) (Z0 : n0 ≤ h0.size) (E_a1 : Exa Z h0 a1 "java/lang/String") (S_COMPACT_STRINGS : Sta Z Z.heap "java/lang/String" "COMPACT_STRINGS" "Z" (.int w_COMPACT_STRINGS)) (hcs : ¬ (w_COMPACT_STRINGS = (0 : Int32))) (E_a2 : Exa Z h0 a2 "java/lang/StringBuilder") (F_a2_coder : Fld Z h0 a2 "java/lang/AbstractStringBuilder" "coder" "B" (.int 0)) (F_a2_value : Fld Z h0 a2 "java/lang/AbstractStringBuilder" "value" "[B" (.ref t_a2)) (V_t_a2 : Arv Z h0 t_a2 k_t_a2 .byte (16 : Int32) vd (.int 0)) (F_a2_count : Fld Z h0 a2 "java/lang/AbstractStringBuilder" "count" "I" (.int 6)) (O0 : Old Z n0 h0) (F_a1_coder : Fld Z h0 a1 "java/lang/String" "coder" "B" u_a1_coder) (g_a1 : n0 ≤ a1) (F_a1_value : Fld Z h0 a1 "java/lang/String" "value" "[B" u_a1_value) :
    MetFree l (⟨"java/lang/String", "<init>", "(Ljava/lang/AbstractStringBuilder;Ljava/lang/Void;)V"⟩ : MethodName) (head1 (Jvm.Cond.code (⟨"java/lang/String", "<init>", "(Ljava/lang/AbstractStringBuilder;Ljava/lang/Void;)V"⟩ : MethodName) jdk_42_method_150_code 5 none :: ws) ({ frames := 3, cells := 1, slots := 6, locals := 49 } : Room)) (fun a U => a = #[(.ref a1), (.ref a2), .null] ∧ Z.Warmed39 U.vm ∧ U.heap = h0) (fun _ _ _ _ _ => True) (fun _ U o U' => ∃ v L, o = .returned v ∧ Q_new2_6 Z a1 a2 w_COMPACT_STRINGS t_a2 k_t_a2 vd u_a1_coder u_a1_value h0 n0 v U'.heap L ∧ FrameEnd U o U' L ({ frames := 3, cells := 1, slots := 6, locals := 49 } : Room).cells ({ frames := 3, cells := 1, slots := 6, locals := 49 } : Room).slots) := by
  refine MetFree.of_bodySF (plainFor_of_name pn_23) hisR ?_
  intro p e s m args below meth c s₁ Bd hml0 hP hK
  obtain ⟨rfl, hZ, hh⟩ := hP
  have hx := Bd.exec
  have hby := Bd.bytes
  have hml : c.maxLocals = 5 := hml0
  have hown : s.vm.findClass "java/lang/String" = some m.cls := findClass_of_methodNamed Bd.named
  have hnm := (name_of_methodNamed Bd.named Bd.method).1
  have X0 : Stand p l e ({ frames := 3, cells := 1, slots := 6, locals := 49 } : Room) s m #[(.ref a1), (.ref a2), .null] below meth c s₁ [] 0 0 := Stand.of_body Bd
  have e0 : s₁.heap = h0 := by rw [← hh, Bd.state]; rfl
  have N0 := Fr.nil n0
  have pre0 : ∀ t, Steps p.tables e below (s₁.setTop (mkF m 0 #[.val (.ref a1), .val (.ref a2), .val .null, .unset, .unset] [])) t → Steps p.tables e below (s₁.setTop (entryFrame m #[(.ref a1), (.ref a2), .null] 5)) t := fun t k => castTop (ef_23_RRn m a1 a2) k
  obtain ⟨T1, X1, e1, st1⟩ := initO X0 hx hZ hown (hwi hw 11 rfl) (hwi hw 12 rfl) (hwi hw 13 rfl) e0 (g := (mkF m 1 #[.val (.ref a1), .val (.ref a2), .val .null, .unset, .unset] [(.ref a1)])) rfl (by rw [hml]; rfl) rfl (hb hby d23_1) (by decide) (W := 0) (by show 2 * 0 + _ ≤ _; exact Nat.le_of_eq rfl) (by decide)
  obtain ⟨cq2, kq2, q2a, q2b, q2c⟩ := isOf hZ e1 E_a2
  obtain ⟨_, _, ⟨T2, L2, k2, n2⟩, -, X2, ⟨Lc2, hQ2, l2, y2, z2⟩, st2⟩ := X1.virtualBack hx (y := (⟨"java/lang/AbstractStringBuilder", "getValue", "()[B"⟩ : MethodName)) (z := (⟨"java/lang/AbstractStringBuilder", "getValue", "()[B"⟩ : MethodName)) hown (mvT hZ (hwi hw 140 rfl)) (mvT hZ (hwi hw 141 rfl)) (notFace_of_selects (args := #[]) (mvT hZ (hwi hw 143 rfl))) (mvT hZ (hwi hw 143 rfl)) (mvT hZ (hwi hw 142 rfl)) (by decide) (backOf (W := 0) (rm_getval l Z a0 hw [] a2 t_a2 h0 n0 Z0 F_a2_value) hZ (hwi hw 144 rfl) (hwi hw 70 rfl) (by decide) (by decide)) q2a q2c (g := (mkF m 5 #[.val (.ref a1), .val (.ref a2), .val .null, .unset, .unset] [(.ref a2)])) rfl (by rw [hml]; rfl) (Steps.refl _) (argsL := []) (rest := []) (lenOf pd_B_238 rfl) rfl (by show 2 * 0 + _ ≤ _; exact Nat.le_of_eq rfl) (hb hby d23_5) (fun _ _ => ⟨rfl, e1, (by decide : 0 + 0 ≤ _), (by decide : 0 + 0 ≤ _)⟩)
  dsimp only [Pt.U, Pt.locs, Pt.cells, Pt.slots] at X2 l2 y2 z2 st2 hQ2
  subst l2 y2 z2
  obtain ⟨rfl, N2q, e2⟩ := hQ2
  have N2 := Fr.app N0 N2q
  obtain ⟨cq3, kq3, q3a, q3b, q3c⟩ := isOf hZ e2 E_a2
  obtain ⟨_, _, ⟨T3, L3, k3, n3⟩, -, X3, ⟨Lc3, hQ3, l3, y3, z3⟩, st3⟩ := X2.virtualBack hx (y := (⟨"java/lang/AbstractStringBuilder", "length", "()I"⟩ : MethodName)) (z := (⟨"java/lang/StringBuilder", "length", "()I"⟩ : MethodName)) hown (mvT hZ (hwi hw 145 rfl)) (mvT hZ (hwi hw 146 rfl)) (own_nf (mvT hZ (hwi hw 105 rfl) (args := #[])) rfl) (mvT hZ (hwi hw 148 rfl)) (mvT hZ (hwi hw 149 rfl)) (by decide) (backOf (W := 0) (rm_sblen l Z a0 hw [] a2 (6 : Int32) h0 n0 Z0 E_a2 F_a2_count) hZ (hwi hw 150 rfl) (hwi hw 62 rfl) (by decide) (by decide)) q3a q3c (g := (mkF m 10 #[.val (.ref a1), .val (.ref a2), .val .null, .val (.ref t_a2), .unset] [(.ref a2)])) rfl (by rw [hml]; rfl) (Steps.refl _) (argsL := []) (rest := []) (lenOf pd_I_154 rfl) rfl (by show 2 * 0 + _ ≤ _; exact Nat.le_of_eq rfl) (hb hby d23_10) (fun _ _ => ⟨rfl, e2, (by decide : 0 + 0 ≤ _), (by decide : 0 + 0 ≤ _)⟩)
  dsimp only [Pt.U, Pt.locs, Pt.cells, Pt.slots] at X3 l3 y3 z3 st3 hQ3
  subst l3 y3 z3
  obtain ⟨rfl, N3q, e3⟩ := hQ3
  have N3 := Fr.app N2 N3q
  obtain ⟨cq4, kq4, q4a, q4b, q4c⟩ := isOf hZ e3 E_a2
  obtain ⟨_, _, ⟨T4, L4, k4, n4⟩, -, X4, ⟨Lc4, hQ4, l4, y4, z4⟩, st4⟩ := X3.virtualBack hx (y := (⟨"java/lang/AbstractStringBuilder", "isLatin1", "()Z"⟩ : MethodName)) (z := (⟨"java/lang/AbstractStringBuilder", "isLatin1", "()Z"⟩ : MethodName)) hown (mvT hZ (hwi hw 153 rfl)) (mvT hZ (hwi hw 154 rfl)) (notFace_of_selects (args := #[]) (mvT hZ (hwi hw 156 rfl))) (mvT hZ (hwi hw 156 rfl)) (mvT hZ (hwi hw 155 rfl)) (by decide) (backOf (W := 0) (rm_ablat l Z a0 hw [] a2 w_COMPACT_STRINGS h0 n0 Z0 S_COMPACT_STRINGS hcs F_a2_coder O0) hZ (hwi hw 157 rfl) (hwi hw 70 rfl) (by decide) (by decide)) q4a q4c (g := (mkF m 16 #[.val (.ref a1), .val (.ref a2), .val .null, .val (.ref t_a2), .val (.int 6)] [(.ref a2)])) rfl (by rw [hml]; rfl) (Steps.refl _) (argsL := []) (rest := []) (lenOf pd_Z_171 rfl) rfl (by show 2 * 0 + _ ≤ _; exact Nat.le_of_eq rfl) (hb hby d23_16) (fun _ _ => ⟨rfl, e3, (by decide : 0 + 0 ≤ _), (by decide : 0 + 0 ≤ _)⟩)
  dsimp only [Pt.U, Pt.locs, Pt.cells, Pt.slots] at X4 l4 y4 z4 st4 hQ4
  subst l4 y4 z4
  obtain ⟨rfl, N4q, e4⟩ := hQ4
  have N4 := Fr.app N3 N4q
  obtain ⟨T5, h5, X5, e5, W5, st5⟩ := putFN X4 hx hZ hown (hwi hw 21 rfl) Via.refl e4 F_a1_coder E_a1 (Or.inr ⟨(hwi hw 17 rfl), rfl, hnm⟩) (hwi hw 2 rfl) (ty := .byte) (v' := (.int 0)) (by decide) rfl (by decide) (g := (mkF m 24 #[.val (.ref a1), .val (.ref a2), .val .null, .val (.ref t_a2), .val (.int 6)] [(.int 0), (.ref a1)])) rfl rfl (hb hby d23_24)
  have N5 := Fr.snoc X5 N4 g_a1
  have Fw5 := F_a1_coder.same W5
  have sz6 : h0.size ≤ h5.size := Nat.le_of_eq W5.size.symm
  have Z6 : n0 ≤ h5.size := Nat.le_trans Z0 sz6
  have O6 := O0.wr W5 g_a1
  have K6 : Keep h0 h5 [a1] := (Keep.refl h0 [a1]).wr W5 (Or.inl (List.mem_of_getElem? (i := 0) rfl))
  have fc8 := (V_t_a2.other W5 (Ne.symm (Exa.neArv E_a1 V_t_a2 (hwi hw 2 rfl))))
  obtain ⟨_, _, ⟨T7, L7, k7, n7⟩, -, X7, ⟨Lc7, hQ7, l7, y7, z7⟩, st7⟩ := Jvm.LawKit.callS X5 hx (y := (⟨"java/util/Arrays", "copyOfRange", "([BII)[B"⟩ : MethodName)) hown (mvT hZ (hwi hw 158 rfl)) (mvT hZ (hwi hw 159 rfl)) (mvT hZ (hwi hw 160 rfl)) (mvT hZ (hwi hw 161 rfl)) (by decide) (backOf (W := 1) (rm_cor_6 l Z a0 hw [] t_a2 k_t_a2 vd h5 n0 Z6 fc8 O6) hZ (hwi hw 161 rfl) (hwi hw 160 rfl) (by decide) (by decide)) (g := (mkF m 32 #[.val (.ref a1), .val (.ref a2), .val .null, .val (.ref t_a2), .val (.int 6)] [(.int 6), (.int 0), (.ref t_a2), (.ref a1)])) rfl (by rw [hml]; rfl) (argsL := [(.ref t_a2), (.int 0), (.int 6)]) (rest := [(.ref a1)]) (lenOf pd_BII__B_541 rfl) rfl (by show 2 * 0 + _ ≤ _; exact Nat.le_of_eq rfl) (hb hby d23_32) (fun _ _ => ⟨rfl, e5, (by decide : 0 + 1 ≤ _), (by decide : 0 + 6 ≤ _)⟩)
  dsimp only [Pt.U, Pt.locs, Pt.cells, Pt.slots] at X7 l7 y7 z7 st7 hQ7
  subst l7 y7 z7
  obtain ⟨r_7, kr_7, rfl, N7q, Kc7, g7_0, g7_1⟩ := hQ7
  have N7 := Fr.app N5 N7q
  have sz9 : h5.size ≤ T7.heap.size := Kc7.1
  have Z9 : n0 ≤ T7.heap.size := Nat.le_trans Z6 sz9
  have O9 := O6.keep Kc7 all0
  have K9 : Keep h0 T7.heap [a1] := K6.trans Kc7 (all0)
  have bn_r_7 : h0.size ≤ r_7 := Nat.le_trans K6.1 g7_0
  have fc10 := ((E_a1.wr W5).keep Kc7)
  have fc11 := ((F_a1_value.other W5 (Or.inr (slot_ne (Or.inr (hwi hw 16 rfl)) (Or.inr (hwi hw 17 rfl)) (by decide) (t := (.array .byte)) (t' := .byte) (by decide) (by decide)))).keep Kc7 nin0)
  obtain ⟨T12, h12, X12, e12, W12, st12⟩ := putF X7 hx hZ hown (host := "") (Or.inl (hwi hw 20 rfl)) Via.refl rfl fc11 fc10 (Or.inr ⟨(hwi hw 16 rfl), rfl, hnm⟩) (hwi hw 2 rfl) (ty := (.array .byte)) (by decide) rfl rfl (g := (mkF m 35 #[.val (.ref a1), .val (.ref a2), .val .null, .val (.ref t_a2), .val (.int 6)] [(.ref r_7), (.ref a1)])) rfl rfl (hb hby d23_35)
  have N12 := Fr.snoc X12 N7 g_a1
  have Fw12 := fc11.same W12
  have sz13 : T7.heap.size ≤ h12.size := Nat.le_of_eq W12.size.symm
  have Z13 : n0 ≤ h12.size := Nat.le_trans Z9 sz13
  have O13 := O9.wr W12 g_a1
  have K13 : Keep h0 h12 [a1] := K9.wr W12 (Or.inl (List.mem_of_getElem? (i := 0) rfl))
  have fc14 := (fc10.wr W12)
  have fc15 := ((Fw5.keep Kc7 nin0).other W12 (Or.inr (slot_ne (Or.inr (hwi hw 17 rfl)) (Or.inr (hwi hw 16 rfl)) (by decide) (t := .byte) (t' := (.array .byte)) (by decide) (by decide))))
  have fc16 := (g7_1.other W12 (neN (by have := ltN E_a1.lt; have := ltN g7_1.lt; omega)))
  obtain ⟨fs, hr, hrun, hended, hW, hsame⟩ := X12.leave (v := none) (fun _ => rfl)
  refine ⟨_, _, pre0 _ ?_, hrun, hended, _, _, rfl, ?_, ⟨_, rfl⟩, hW, hsame.mono (by decide) (by decide)⟩
  · show St p e below s₁ (mkF m 0 #[.val (.ref a1), .val (.ref a2), .val .null, .unset, .unset] []) _
    refine XS.aloadN X0.here hx rfl (hb hby d23_0) rfl rfl ?_
    refine st1 _ ?_
    refine XS.aloadN X1.here hx rfl (hb hby d23_4) rfl rfl ?_
    refine st2.trans ?_
    show St p e below T2 (mkF m 8 #[.val (.ref a1), .val (.ref a2), .val .null, .unset, .unset] [(.ref t_a2)]) _
    refine XS.astoreN X2.here hx rfl (hb hby d23_8) rfl rfl (l' := #[.val (.ref a1), .val (.ref a2), .val .null, .val (.ref t_a2), .unset]) rfl ?_
    refine XS.aloadN X2.here hx rfl (hb hby d23_9) rfl rfl ?_
    refine st3.trans ?_
    refine XS.istore X3.here hx rfl (hb hby d23_13) rfl (l' := #[.val (.ref a1), .val (.ref a2), .val .null, .val (.ref t_a2), .val (.int 6)]) rfl ?_
    show St p e below T3 (mkF m 15 #[.val (.ref a1), .val (.ref a2), .val .null, .val (.ref t_a2), .val (.int 6)] []) _
    refine XS.aloadN X3.here hx rfl (hb hby d23_15) rfl rfl ?_
    refine st4.trans ?_
    refine XS.ifNo X4.here hx rfl (hb hby d23_19) rfl ((if0 _ _).trans (feq (by decide : ¬ ((1 : Int32) = (0 : Int32)))).1) ?_
    refine XS.aloadN X4.here hx rfl (hb hby d23_22) rfl rfl ?_
    show St p e below T4 (mkF m 23 #[.val (.ref a1), .val (.ref a2), .val .null, .val (.ref t_a2), .val (.int 6)] [(.ref a1)]) _
    refine XS.iconst X4.here hx rfl (hb hby d23_23) ?_
    refine st5 _ ?_
    refine XS.aloadN X5.here hx rfl (hb hby d23_27) rfl rfl ?_
    refine XS.aloadN X5.here hx rfl (hb hby d23_28) rfl rfl ?_
    show St p e below T5 (mkF m 29 #[.val (.ref a1), .val (.ref a2), .val .null, .val (.ref t_a2), .val (.int 6)] [(.ref t_a2), (.ref a1)]) _
    refine XS.iconst X5.here hx rfl (hb hby d23_29) ?_
    refine XS.iload X5.here hx rfl (hb hby d23_30) rfl ?_
    refine st7 _ ?_
    refine st12 _ ?_
    show St p e below T12 (mkF m 38 #[.val (.ref a1), .val (.ref a2), .val .null, .val (.ref t_a2), .val (.int 6)] []) _
    refine XS.goto X12.here hx rfl (pc0 := 38) (pc' := 97) rfl (hb hby d23_38) (by decide) (by decide) ?_
    show St p e below T12 (mkF m 97 #[.val (.ref a1), .val (.ref a2), .val .null, .val (.ref t_a2), .val (.int 6)] []) _
    exact X12.returnOut hx Bd.returns (hb hby d23_97) hr
  · show Q_new2_6 Z a1 a2 w_COMPACT_STRINGS t_a2 k_t_a2 vd u_a1_coder u_a1_value h0 n0 _ T12.heap _
    rw [e12]
    exact ⟨r_7, kr_7, rfl, N12, K13, bn_r_7, fc14, fc15, Fw12, fc16⟩
def Q_news_6 (Z : State) (a1 : Addr) (a2 : Addr) (w_COMPACT_STRINGS : Int32) (t_a2 : Addr) (k_t_a2 : ClassId) (vd : List Value) (u_a1_coder : Value) (u_a1_value : Value) (h0 : Heap) (n0 : Nat) (v : Option Value) (h : Heap) (L : List Loc) : Prop := ∃ (t : Addr) (kt : ClassId), v = none ∧ Fr n0 L ∧ Keep h0 h [a1] ∧ h0.size ≤ t ∧ Exa Z h a1 "java/lang/String" ∧ Fld Z h a1 "java/lang/String" "coder" "B" (.int 0) ∧ Fld Z h a1 "java/lang/String" "value" "[B" (.ref t) ∧ Arv Z h t kt .byte (6 : Int32) (own_ap [(.int 0), (.int 0), (.int 0), (.int 0), (.int 0), (.int 0)] vd (0 : Int32) (6 : Int32)) (.int 0)
set_option maxRecDepth 65536 in
set_option maxHeartbeats 40000000 in
theorem rm_news_6 (l : Launch) (Z : State) (a0 : Array Value) (hw : ∀ d ∈ tables_1, d.before a0 Z = true) (ws : List Jvm.Cond) (a1 : Addr) (a2 : Addr) (w_COMPACT_STRINGS : Int32) (t_a2 : Addr) (k_t_a2 : ClassId) (vd : List Value) (u_a1_coder : Value) (u_a1_value : Value) (h0 : Heap) (n0 : Nat) (Z0 : n0 ≤ h0.size) (E_a1 : Exa Z h0 a1 "java/lang/String") (S_COMPACT_STRINGS : Sta Z Z.heap "java/lang/String" "COMPACT_STRINGS" "Z" (.int w_COMPACT_STRINGS)) (hcs : ¬ (w_COMPACT_STRINGS = (0 : Int32))) (E_a2 : Exa Z h0 a2 "java/lang/StringBuilder") (F_a2_coder : Fld Z h0 a2 "java/lang/AbstractStringBuilder" "coder" "B" (.int 0)) (F_a2_value : Fld Z h0 a2 "java/lang/AbstractStringBuilder" "value" "[B" (.ref t_a2)) (V_t_a2 : Arv Z h0 t_a2 k_t_a2 .byte (16 : Int32) vd (.int 0)) (F_a2_count : Fld Z h0 a2 "java/lang/AbstractStringBuilder" "count" "I" (.int 6)) (O0 : Old Z n0 h0) (F_a1_coder : Fld Z h0 a1 "java/lang/String" "coder" "B" u_a1_coder) (g_a1 : n0 ≤ a1) (F_a1_value : Fld Z h0 a1 "java/lang/String" "value" "[B" u_a1_value) :
    MetFree l (⟨"java/lang/String", "<init>", "(Ljava/lang/StringBuilder;)V"⟩ : MethodName) (head1 (Jvm.Cond.code (⟨"java/lang/String", "<init>", "(Ljava/lang/StringBuilder;)V"⟩ : MethodName) jdk_42_method_53_code 2 none :: ws) ({ frames := 4, cells := 1, slots := 6, locals := 65 } : Room)) (fun a U => a = #[(.ref a1), (.ref a2)] ∧ Z.Warmed39 U.vm ∧ U.heap = h0) (fun _ _ _ _ _ => True) (fun _ U o U' => ∃ v L, o = .returned v ∧ Q_news_6 Z a1 a2 w_COMPACT_STRINGS t_a2 k_t_a2 vd u_a1_coder u_a1_value h0 n0 v U'.heap L ∧ FrameEnd U o U' L ({ frames := 4, cells := 1, slots := 6, locals := 65 } : Room).cells ({ frames := 4, cells := 1, slots := 6, locals := 65 } : Room).slots) := by
  refine MetFree.of_bodySF (plainFor_of_name pn_22) hisR ?_
  intro p e s m args below meth c s₁ Bd hml0 hP hK
  obtain ⟨rfl, hZ, hh⟩ := hP
  have hx := Bd.exec
  have hby := Bd.bytes
  have hml : c.maxLocals = 2 := hml0
  have hown : s.vm.findClass "java/lang/String" = some m.cls := findClass_of_methodNamed Bd.named
  have hnm := (name_of_methodNamed Bd.named Bd.method).1
  have X0 : Stand p l e ({ frames := 4, cells := 1, slots := 6, locals := 65 } : Room) s m #[(.ref a1), (.ref a2)] below meth c s₁ [] 0 0 := Stand.of_body Bd
  have e0 : s₁.heap = h0 := by rw [← hh, Bd.state]; rfl
  have N0 := Fr.nil n0
  have pre0 : ∀ t, Steps p.tables e below (s₁.setTop (mkF m 0 #[.val (.ref a1), .val (.ref a2)] [])) t → Steps p.tables e below (s₁.setTop (entryFrame m #[(.ref a1), (.ref a2)] 2)) t := fun t k => castTop (ef_22_RR m a1 a2) k
  obtain ⟨_, _, ⟨T1, L1, k1, n1⟩, -, X1, ⟨Lc1, hQ1, l1, y1, z1⟩, st1⟩ := X0.specialBack hx (y := (⟨"java/lang/String", "<init>", "(Ljava/lang/AbstractStringBuilder;Ljava/lang/Void;)V"⟩ : MethodName)) rfl hown (mvT hZ (hwi hw 137 rfl)) (mvT hZ (hwi hw 138 rfl)) (mvT hZ (hwi hw 139 rfl)) (by decide) (backOf (W := 0) (rm_new2_6 l Z a0 hw [] a1 a2 w_COMPACT_STRINGS t_a2 k_t_a2 vd u_a1_coder u_a1_value h0 n0 Z0 E_a1 S_COMPACT_STRINGS hcs E_a2 F_a2_coder F_a2_value V_t_a2 F_a2_count O0 F_a1_coder g_a1 F_a1_value) hZ (hwi hw 139 rfl) (hwi hw 3 rfl) (by decide) (by decide)) (g := (mkF m 3 #[.val (.ref a1), .val (.ref a2)] [.null, (.ref a2), (.ref a1)])) rfl (by rw [hml]; rfl) (Steps.refl _) (a := a1) (argsL := [(.ref a2), .null]) (rest := []) (lenOf pd_Ljava_lang_AbstractStringBuilder_Ljava_lang_Void__V_861 rfl) rfl (by show 2 * 0 + _ ≤ _; exact Nat.le_of_eq rfl) (hb hby d22_3) (fun _ _ => ⟨rfl, e0, (by decide : 0 + 1 ≤ _), (by decide : 0 + 6 ≤ _)⟩)
  dsimp only [Pt.U, Pt.locs, Pt.cells, Pt.slots] at X1 l1 y1 z1 st1 hQ1
  subst l1 y1 z1
  obtain ⟨t_1, kt_1, rfl, N1q, Kc1, g1_0, g1_1, g1_2, g1_3, g1_4⟩ := hQ1
  have N1 := Fr.app N0 N1q
  have sz2 : h0.size ≤ T1.heap.size := Kc1.1
  have Z2 : n0 ≤ T1.heap.size := Nat.le_trans Z0 sz2
  have O2 := O0.keep Kc1 (allS g_a1 all0)
  have K2 : Keep h0 T1.heap [a1] := (Keep.refl h0 [a1]).trans Kc1 (allS (Or.inl (List.mem_of_getElem? (i := 0) rfl)) (all0))
  have bn_t_1 : h0.size ≤ t_1 := g1_0
  obtain ⟨fs, hr, hrun, hended, hW, hsame⟩ := X1.leave (v := none) (fun _ => rfl)
  refine ⟨_, _, pre0 _ ?_, hrun, hended, _, _, rfl, ?_, ⟨_, rfl⟩, hW, hsame.mono (by decide) (by decide)⟩
  · show St p e below s₁ (mkF m 0 #[.val (.ref a1), .val (.ref a2)] []) _
    refine XS.aloadN X0.here hx rfl (hb hby d22_0) rfl rfl ?_
    refine XS.aloadN X0.here hx rfl (hb hby d22_1) rfl rfl ?_
    refine XS.aconstNull X0.here hx rfl (hb hby d22_2) ?_
    refine st1.trans ?_
    show St p e below T1 (mkF m 6 #[.val (.ref a1), .val (.ref a2)] []) _
    exact X1.returnOut hx Bd.returns (hb hby d22_6) hr
  · show Q_news_6 Z a1 a2 w_COMPACT_STRINGS t_a2 k_t_a2 vd u_a1_coder u_a1_value h0 n0 _ T1.heap _
    exact ⟨t_1, kt_1, rfl, N1, K2, bn_t_1, g1_1, g1_2, g1_3, g1_4⟩
def Q_tostr_6 (Z : State) (a1 : Addr) (w_COMPACT_STRINGS : Int32) (t_a1 : Addr) (k_t_a1 : ClassId) (vd : List Value) (h0 : Heap) (n0 : Nat) (v : Option Value) (h : Heap) (L : List Loc) : Prop := ∃ (r : Addr) (t : Addr) (kt : ClassId), v = some (.ref r) ∧ Fr n0 L ∧ Keep h0 h [] ∧ h0.size ≤ r ∧ h0.size ≤ t ∧ Exa Z h r "java/lang/String" ∧ Fld Z h r "java/lang/String" "coder" "B" (.int 0) ∧ Fld Z h r "java/lang/String" "value" "[B" (.ref t) ∧ Arv Z h t kt .byte (6 : Int32) (own_ap [(.int 0), (.int 0), (.int 0), (.int 0), (.int 0), (.int 0)] vd (0 : Int32) (6 : Int32)) (.int 0)
set_option maxRecDepth 65536 in
set_option maxHeartbeats 40000000 in
theorem rm_tostr_6 (l : Launch) (Z : State) (a0 : Array Value) (hw : ∀ d ∈ tables_1, d.before a0 Z = true) (ws : List Jvm.Cond) (a1 : Addr) (w_COMPACT_STRINGS : Int32) (t_a1 : Addr) (k_t_a1 : ClassId) (vd : List Value) (h0 : Heap) (n0 : Nat) (Z0 : n0 ≤ h0.size) (S_COMPACT_STRINGS : Sta Z Z.heap "java/lang/String" "COMPACT_STRINGS" "Z" (.int w_COMPACT_STRINGS)) (hcs : ¬ (w_COMPACT_STRINGS = (0 : Int32))) (E_a1 : Exa Z h0 a1 "java/lang/StringBuilder") (F_a1_coder : Fld Z h0 a1 "java/lang/AbstractStringBuilder" "coder" "B" (.int 0)) (F_a1_value : Fld Z h0 a1 "java/lang/AbstractStringBuilder" "value" "[B" (.ref t_a1)) (V_t_a1 : Arv Z h0 t_a1 k_t_a1 .byte (16 : Int32) vd (.int 0)) (F_a1_count : Fld Z h0 a1 "java/lang/AbstractStringBuilder" "count" "I" (.int 6)) (O0 : Old Z n0 h0) :
    MetFree l (⟨"java/lang/StringBuilder", "toString", "()Ljava/lang/String;"⟩ : MethodName) (head1 (Jvm.Cond.code (⟨"java/lang/StringBuilder", "toString", "()Ljava/lang/String;"⟩ : MethodName) jdk_67_method_42_code 1 (some (.object "java/lang/String")) :: ws) ({ frames := 5, cells := 2, slots := 10, locals := 79 } : Room)) (fun a U => a = #[(.ref a1)] ∧ Z.Warmed39 U.vm ∧ U.heap = h0) (fun _ _ _ _ _ => True) (fun _ U o U' => ∃ v L, o = .returned v ∧ Q_tostr_6 Z a1 w_COMPACT_STRINGS t_a1 k_t_a1 vd h0 n0 v U'.heap L ∧ FrameEnd U o U' L ({ frames := 5, cells := 2, slots := 10, locals := 79 } : Room).cells ({ frames := 5, cells := 2, slots := 10, locals := 79 } : Room).slots) := by
  refine MetFree.of_bodySF (plainFor_of_name pn_21) hisR ?_
  intro p e s m args below meth c s₁ Bd hml0 hP hK
  obtain ⟨rfl, hZ, hh⟩ := hP
  have hx := Bd.exec
  have hby := Bd.bytes
  have hml : c.maxLocals = 1 := hml0
  have hown : s.vm.findClass "java/lang/StringBuilder" = some m.cls := findClass_of_methodNamed Bd.named
  have hnm := (name_of_methodNamed Bd.named Bd.method).1
  have X0 : Stand p l e ({ frames := 5, cells := 2, slots := 10, locals := 79 } : Room) s m #[(.ref a1)] below meth c s₁ [] 0 0 := Stand.of_body Bd
  have e0 : s₁.heap = h0 := by rw [← hh, Bd.state]; rfl
  have N0 := Fr.nil n0
  have pre0 : ∀ t, Steps p.tables e below (s₁.setTop (mkF m 0 #[.val (.ref a1)] [])) t → Steps p.tables e below (s₁.setTop (entryFrame m #[(.ref a1)] 1)) t := fun t k => castTop (ef_21_R m a1) k
  obtain ⟨T1, h1, X1, e1, E1, A1, D1, -, st1⟩ := newO X0 hx hZ hown (hwi hw 133 rfl) (hwi hw 2 rfl) (hwi hw 3 rfl) e0 (g := (mkF m 0 #[.val (.ref a1)] [])) rfl (hb hby d21_0) (by decide) (by decide)
  obtain ⟨b1, g1⟩ : ∃ z, z = h0.size := ⟨_, rfl⟩
  rw [← g1] at A1 D1 st1
  have bn_b1 : h0.size ≤ b1 := Nat.le_of_eq g1.symm
  have sz2 : h0.size ≤ h1.size := E1.1
  have Z2 : n0 ≤ h1.size := Nat.le_trans Z0 sz2
  have O2 := O0.ext E1
  have K2 : Keep h0 h1 [] := (Keep.refl h0 []).ext E1
  have F1_value : Fld Z h1 b1 "java/lang/String" "value" "[B" .null := D1 (Or.inr (hwi hw 16 rfl)) (ty := (.array .byte)) (by decide)
  have F1_coder : Fld Z h1 b1 "java/lang/String" "coder" "B" (.int 0) := D1 (Or.inr (hwi hw 17 rfl)) (ty := .byte) (by decide)
  have fc4 := (E_a1.ext E1)
  have fc5 := (F_a1_coder.ext E1)
  have fc6 := (F_a1_value.ext E1)
  have fc7 := (V_t_a1.ext E1)
  have fc8 := (F_a1_count.ext E1)
  obtain ⟨_, _, ⟨T3, L3, k3, n3⟩, -, X3, ⟨Lc3, hQ3, l3, y3, z3⟩, st3⟩ := X1.specialBack hx (y := (⟨"java/lang/String", "<init>", "(Ljava/lang/StringBuilder;)V"⟩ : MethodName)) rfl hown (mvT hZ (hwi hw 134 rfl)) (mvT hZ (hwi hw 135 rfl)) (mvT hZ (hwi hw 136 rfl)) (by decide) (backOf (W := 1) (rm_news_6 l Z a0 hw [] b1 a1 w_COMPACT_STRINGS t_a1 k_t_a1 vd (.int 0) .null h1 n0 Z2 A1 S_COMPACT_STRINGS hcs fc4 fc5 fc6 fc7 fc8 O2 F1_coder (Nat.le_trans Z0 bn_b1) F1_value) hZ (hwi hw 136 rfl) (hwi hw 3 rfl) (by decide) (by decide)) (g := (mkF m 5 #[.val (.ref a1)] [(.ref a1), (.ref b1), (.ref b1)])) rfl (by rw [hml]; rfl) (Steps.refl _) (a := b1) (argsL := [(.ref a1)]) (rest := [(.ref b1)]) (lenOf pd_Ljava_lang_StringBuilder__V_574 rfl) rfl (by show 2 * 0 + _ ≤ _; exact Nat.le_of_eq rfl) (hb hby d21_5) (fun _ _ => ⟨rfl, e1, (by decide : 1 + 1 ≤ _), (by decide : 4 + 6 ≤ _)⟩)
  dsimp only [Pt.U, Pt.locs, Pt.cells, Pt.slots] at X3 l3 y3 z3 st3 hQ3
  subst l3 y3 z3
  obtain ⟨t_3, kt_3, rfl, N3q, Kc3, g3_0, g3_1, g3_2, g3_3, g3_4⟩ := hQ3
  have N3 := Fr.app N0 N3q
  have sz9 : h1.size ≤ T3.heap.size := Kc3.1
  have Z9 : n0 ≤ T3.heap.size := Nat.le_trans Z2 sz9
  have O9 := O2.keep Kc3 (allS (Nat.le_trans Z0 bn_b1) all0)
  have K9 : Keep h0 T3.heap [] := K2.trans Kc3 (allS (Or.inr bn_b1) (all0))
  have bn_t_3 : h0.size ≤ t_3 := Nat.le_trans K2.1 g3_0
  obtain ⟨fs, hr, hrun, hended, hW, hsame⟩ := X3.leave (v := some (.ref b1)) (fun h => by rw [Bd.returns] at h; cases h)
  refine ⟨_, _, pre0 _ ?_, hrun, hended, _, _, rfl, ?_, ⟨_, rfl⟩, hW, hsame.mono (by decide) (by decide)⟩
  · show St p e below s₁ (mkF m 0 #[.val (.ref a1)] []) _
    refine st1 _ ?_
    refine XS.dup X1.here hx rfl (hb hby d21_3) rfl rfl ?_
    refine XS.aloadN X1.here hx rfl (hb hby d21_4) rfl rfl ?_
    refine st3.trans ?_
    show St p e below T3 (mkF m 8 #[.val (.ref a1)] [(.ref b1)]) _
    jvm_step X3.here [X3.here.top, hx, (hb hby d21_8), X3.method', Bd.returns, Value.isRef, FieldType.isReference]
    first | (intro acts; rw [hr _ acts rfl rfl rfl]) | rw [hr _ _ rfl rfl rfl]
    exact Steps.refl _
  · show Q_tostr_6 Z a1 w_COMPACT_STRINGS t_a1 k_t_a1 vd h0 n0 _ T3.heap _
    exact ⟨b1, t_3, kt_3, rfl, N3, K9, bn_b1, bn_t_3, g3_1, g3_2, g3_3, g3_4⟩
def Q_cklen_7 (Z : State)  (h0 : Heap) (n0 : Nat) (v : Option Value) (h : Heap) (L : List Loc) : Prop := v = none ∧ Fr n0 L ∧ h = h0
set_option maxRecDepth 65536 in
set_option maxHeartbeats 40000000 in
theorem rm_cklen_7 (l : Launch) (Z : State) (a0 : Array Value) (hw : ∀ d ∈ tables_1, d.before a0 Z = true) (ws : List Jvm.Cond)  (h0 : Heap) (n0 : Nat) (Z0 : n0 ≤ h0.size) :
    MetFree l (⟨"java/util/Arrays", "checkLength", "(II)V"⟩ : MethodName) (head1 (Jvm.Cond.code (⟨"java/util/Arrays", "checkLength", "(II)V"⟩ : MethodName) jdk_65_method_131_code 2 none :: ws) ({ frames := 0, cells := 0, slots := 0, locals := 0 } : Room)) (fun a U => a = #[(.int 0), (.int 7)] ∧ Z.Warmed39 U.vm ∧ U.heap = h0) (fun _ _ _ _ _ => True) (fun _ U o U' => ∃ v L, o = .returned v ∧ Q_cklen_7 Z  h0 n0 v U'.heap L ∧ FrameEnd U o U' L ({ frames := 0, cells := 0, slots := 0, locals := 0 } : Room).cells ({ frames := 0, cells := 0, slots := 0, locals := 0 } : Room).slots) := by
  refine MetFree.of_bodySF (plainFor_of_name pn_30) hisR ?_
  intro p e s m args below meth c s₁ Bd hml0 hP hK
  obtain ⟨rfl, hZ, hh⟩ := hP
  have hx := Bd.exec
  have hby := Bd.bytes
  have hml : c.maxLocals = 2 := hml0
  have hown : s.vm.findClass "java/util/Arrays" = some m.cls := findClass_of_methodNamed Bd.named
  have hnm := (name_of_methodNamed Bd.named Bd.method).1
  have X0 : Stand p l e ({ frames := 0, cells := 0, slots := 0, locals := 0 } : Room) s m #[(.int 0), (.int 7)] below meth c s₁ [] 0 0 := Stand.of_body Bd
  have e0 : s₁.heap = h0 := by rw [← hh, Bd.state]; rfl
  have N0 := Fr.nil n0
  have pre0 : ∀ t, Steps p.tables e below (s₁.setTop (mkF m 0 #[.val (.int 0), .val (.int 7)] [])) t → Steps p.tables e below (s₁.setTop (entryFrame m #[(.int 0), (.int 7)] 2)) t := fun t k => castTop (ef_30_II m (0 : Int32) (7 : Int32)) k
  obtain ⟨fs, hr, hrun, hended, hW, hsame⟩ := X0.leave (v := none) (fun _ => rfl)
  refine ⟨_, _, pre0 _ ?_, hrun, hended, _, _, rfl, ?_, ⟨_, rfl⟩, hW, hsame.mono (by decide) (by decide)⟩
  · show St p e below s₁ (mkF m 0 #[.val (.int 0), .val (.int 7)] []) _
    refine XS.iloadN X0.here hx rfl (hb hby d30_0) rfl ?_
    refine XS.iloadN X0.here hx rfl (hb hby d30_1) rfl ?_
    refine XS.icmpYes X0.here hx rfl (pc0 := 2) (pc' := 37) rfl (hb hby d30_2) rfl (flt (by decide : ¬ ((7 : Int32) < (0 : Int32)))).2.1 (by decide) (by decide) ?_
    show St p e below s₁ (mkF m 37 #[.val (.int 0), .val (.int 7)] []) _
    exact X0.returnOut hx Bd.returns (hb hby d30_37) hr
  · show Q_cklen_7 Z  h0 n0 _ s₁.heap _
    rw [e0]
    exact ⟨rfl, N0, rfl⟩
def Q_min_7 (Z : State)  (h0 : Heap) (n0 : Nat) (v : Option Value) (h : Heap) (L : List Loc) : Prop := v = some (.int 7) ∧ Fr n0 L ∧ h = h0
set_option maxRecDepth 65536 in
set_option maxHeartbeats 40000000 in
theorem rm_min_7 (l : Launch) (Z : State) (a0 : Array Value) (hw : ∀ d ∈ tables_1, d.before a0 Z = true) (ws : List Jvm.Cond)  (h0 : Heap) (n0 : Nat) (Z0 : n0 ≤ h0.size) :
    MetFree l (⟨"java/lang/Math", "min", "(II)I"⟩ : MethodName) (head1 (Jvm.Cond.code (⟨"java/lang/Math", "min", "(II)I"⟩ : MethodName) jdk_29_method_69_code 2 (some .int) :: ws) ({ frames := 0, cells := 0, slots := 0, locals := 0 } : Room)) (fun a U => a = #[(.int 16), (.int 7)] ∧ Z.Warmed39 U.vm ∧ U.heap = h0) (fun _ _ _ _ _ => True) (fun _ U o U' => ∃ v L, o = .returned v ∧ Q_min_7 Z  h0 n0 v U'.heap L ∧ FrameEnd U o U' L ({ frames := 0, cells := 0, slots := 0, locals := 0 } : Room).cells ({ frames := 0, cells := 0, slots := 0, locals := 0 } : Room).slots) := by
  refine MetFree.of_bodySF (Jvm.Free.JP.mathPlain rfl (by decide +kernel)) hisR ?_
  intro p e s m args below meth c s₁ Bd hml0 hP hK
  obtain ⟨rfl, hZ, hh⟩ := hP
  have hx := Bd.exec
  have hby := Bd.bytes
  have hml : c.maxLocals = 2 := hml0
  have hown : s.vm.findClass "java/lang/Math" = some m.cls := findClass_of_methodNamed Bd.named
  have hnm := (name_of_methodNamed Bd.named Bd.method).1
  have X0 : Stand p l e ({ frames := 0, cells := 0, slots := 0, locals := 0 } : Room) s m #[(.int 16), (.int 7)] below meth c s₁ [] 0 0 := Stand.of_body Bd
  have e0 : s₁.heap = h0 := by rw [← hh, Bd.state]; rfl
  have N0 := Fr.nil n0
  have pre0 : ∀ t, Steps p.tables e below (s₁.setTop (mkF m 0 #[.val (.int 16), .val (.int 7)] [])) t → Steps p.tables e below (s₁.setTop (entryFrame m #[(.int 16), (.int 7)] 2)) t := fun t k => castTop (ef_31_II m (16 : Int32) (7 : Int32)) k
  obtain ⟨fs, hr, hrun, hended, hW, hsame⟩ := X0.leave (v := some (.int 7)) (fun h => by rw [Bd.returns] at h; cases h)
  refine ⟨_, _, pre0 _ ?_, hrun, hended, _, _, rfl, ?_, ⟨_, rfl⟩, hW, hsame.mono (by decide) (by decide)⟩
  · show St p e below s₁ (mkF m 0 #[.val (.int 16), .val (.int 7)] []) _
    refine XS.iloadN X0.here hx rfl (hb hby d31_0) rfl ?_
    refine XS.iloadN X0.here hx rfl (hb hby d31_1) rfl ?_
    refine XS.icmpYes X0.here hx rfl (pc0 := 2) (pc' := 9) rfl (hb hby d31_2) rfl (tlt (by decide : (7 : Int32) < (16 : Int32))).2.2.1 (by decide) (by decide) ?_
    refine XS.iloadN X0.here hx rfl (hb hby d31_9) rfl ?_
    show St p e below s₁ (mkF m 10 #[.val (.int 16), .val (.int 7)] [(.int 7)]) _
    exact retI X0 hx Bd.returns (hb hby d31_10) hr
  · show Q_min_7 Z  h0 n0 _ s₁.heap _
    rw [e0]
    exact ⟨rfl, N0, rfl⟩
def Q_corb_7 (Z : State) (a1 : Addr) (k_a1 : ClassId) (vd : List Value) (h0 : Heap) (n0 : Nat) (v : Option Value) (h : Heap) (L : List Loc) : Prop := ∃ (r : Addr) (kr : ClassId), v = some (.ref r) ∧ Fr n0 L ∧ Keep h0 h [] ∧ h0.size ≤ r ∧ Arv Z h r kr .byte (7 : Int32) (own_ap [(.int 0), (.int 0), (.int 0), (.int 0), (.int 0), (.int 0), (.int 0)] vd (0 : Int32) (7 : Int32)) (.int 0)
set_option maxRecDepth 65536 in
set_option maxHeartbeats 40000000 in
theorem rm_corb_7 (l : Launch) (Z : State) (a0 : Array Value) (hw : ∀ d ∈ tables_1, d.before a0 Z = true) (ws : List Jvm.Cond) (a1 : Addr) (k_a1 : ClassId) (vd : List Value) (h0 : Heap) (n0 : Nat) (Z0 : n0 ≤ h0.size) (V_a1 : Arv Z h0 a1 k_a1 .byte (16 : Int32) vd (.int 0)) (O0 : Old Z n0 h0) :
    MetFree l (⟨"java/util/Arrays", "copyOfRangeByte", "([BII)[B"⟩ : MethodName) (head1 (Jvm.Cond.code (⟨"java/util/Arrays", "copyOfRangeByte", "([BII)[B"⟩ : MethodName) jdk_65_method_133_code 5 (some (.array .byte)) :: ws) ({ frames := 1, cells := 1, slots := 7, locals := 18 } : Room)) (fun a U => a = #[(.ref a1), (.int 0), (.int 7)] ∧ Z.Warmed39 U.vm ∧ U.heap = h0) (fun _ _ _ _ _ => True) (fun _ U o U' => ∃ v L, o = .returned v ∧ Q_corb_7 Z a1 k_a1 vd h0 n0 v U'.heap L ∧ FrameEnd U o U' L ({ frames := 1, cells := 1, slots := 7, locals := 18 } : Room).cells ({ frames := 1, cells := 1, slots := 7, locals := 18 } : Room).slots) := by
  refine MetFree.of_bodySF (plainFor_of_name pn_29) hisR ?_
  intro p e s m args below meth c s₁ Bd hml0 hP hK
  obtain ⟨rfl, hZ, hh⟩ := hP
  have hx := Bd.exec
  have hby := Bd.bytes
  have hml : c.maxLocals = 5 := hml0
  have hown : s.vm.findClass "java/util/Arrays" = some m.cls := findClass_of_methodNamed Bd.named
  have hnm := (name_of_methodNamed Bd.named Bd.method).1
  have X0 : Stand p l e ({ frames := 1, cells := 1, slots := 7, locals := 18 } : Room) s m #[(.ref a1), (.int 0), (.int 7)] below meth c s₁ [] 0 0 := Stand.of_body Bd
  have e0 : s₁.heap = h0 := by rw [← hh, Bd.state]; rfl
  have N0 := Fr.nil n0
  have pre0 : ∀ t, Steps p.tables e below (s₁.setTop (mkF m 0 #[.val (.ref a1), .val (.int 0), .val (.int 7), .unset, .unset] [])) t → Steps p.tables e below (s₁.setTop (entryFrame m #[(.ref a1), (.int 0), (.int 7)] 5)) t := fun t k => castTop (ef_29_RII m a1 (0 : Int32) (7 : Int32)) k
  obtain ⟨_, _, ⟨T1, L1, k1, n1⟩, -, X1, ⟨Lc1, hQ1, l1, y1, z1⟩, st1⟩ := Jvm.LawKit.callS X0 hx (y := (⟨"java/util/Arrays", "checkLength", "(II)V"⟩ : MethodName)) hown (mvT hZ (hwi hw 165 rfl)) (mvT hZ (hwi hw 166 rfl)) (mvT hZ (hwi hw 160 rfl)) (mvT hZ (hwi hw 167 rfl)) (by decide) (backOf (W := 0) (rm_cklen_7 l Z a0 hw []  h0 n0 Z0) hZ (hwi hw 167 rfl) (hwi hw 160 rfl) (by decide) (by decide)) (g := (mkF m 2 #[.val (.ref a1), .val (.int 0), .val (.int 7), .unset, .unset] [(.int 7), (.int 0)])) rfl (by rw [hml]; rfl) (argsL := [(.int 0), (.int 7)]) (rest := []) (lenOf pd_II_V_313 rfl) rfl (by show 2 * 0 + _ ≤ _; exact Nat.le_of_eq rfl) (hb hby d29_2) (fun _ _ => ⟨rfl, e0, (by decide : 0 + 0 ≤ _), (by decide : 0 + 0 ≤ _)⟩)
  dsimp only [Pt.U, Pt.locs, Pt.cells, Pt.slots] at X1 l1 y1 z1 st1 hQ1
  subst l1 y1 z1
  obtain ⟨rfl, N1q, e1⟩ := hQ1
  have N1 := Fr.app N0 N1q
  obtain ⟨T2, h2, k2, X2, e2, E2, A2, st2⟩ := newP X1 hx hZ (hwi hw 15 rfl) e1 (g := (mkF m 10 #[.val (.ref a1), .val (.int 0), .val (.int 7), .val (.int 7), .unset] [(.int 7)])) rfl (hb hby d29_10) rfl (by decide) (cap := 7) (by decide) (by decide) (by decide) (by decide)
  obtain ⟨b2, g2⟩ : ∃ z, z = h0.size := ⟨_, rfl⟩
  rw [← g2] at A2 st2
  have bn_b2 : h0.size ≤ b2 := Nat.le_of_eq g2.symm
  have sz3 : h0.size ≤ h2.size := E2.1
  have Z3 : n0 ≤ h2.size := Nat.le_trans Z0 sz3
  have O3 := O0.ext E2
  have K3 : Keep h0 h2 [] := (Keep.refl h0 []).ext E2
  have V2 : Arv Z h2 b2 k2 .byte (7 : Int32) [(.int 0), (.int 0), (.int 0), (.int 0), (.int 0), (.int 0), (.int 0)] (.int 0) := (Arv.new A2 (by decide)).pad (pad_rep [] (.int 0) 7)
  have fc4 := (V_a1.ext E2)
  obtain ⟨cl5, Ar5, -, S5, M5, -, -⟩ := id fc4
  obtain ⟨_, _, ⟨T6, L6, k6, n6⟩, -, X6, ⟨Lc6, hQ6, l6, y6, z6⟩, st6⟩ := Jvm.LawKit.callS X2 hx (y := (⟨"java/lang/Math", "min", "(II)I"⟩ : MethodName)) hown (mvT hZ (hwi hw 168 rfl)) (mvT hZ (hwi hw 169 rfl)) (mvT hZ (hwi hw 170 rfl)) (mvT hZ (hwi hw 171 rfl)) (by decide) (backOf (W := 4) (rm_min_7 l Z a0 hw []  h2 n0 Z3) hZ (hwi hw 171 rfl) (hwi hw 170 rfl) (by decide) (by decide)) (g := (mkF m 24 #[.val (.ref a1), .val (.int 0), .val (.int 7), .val (.int 7), .val (.ref b2)] [(.int 7), (.int 16), (.int 0), (.ref b2), (.int 0), (.ref a1)])) rfl (by rw [hml]; rfl) (argsL := [(.int 16), (.int 7)]) (rest := [(.int 0), (.ref b2), (.int 0), (.ref a1)]) (lenOf pd_II_I_300 rfl) rfl (by show 2 * 0 + _ ≤ _; exact Nat.le_of_eq rfl) (hb hby d29_24) (fun _ _ => ⟨rfl, e2, (by decide : 1 + 0 ≤ _), (by decide : 7 + 0 ≤ _)⟩)
  dsimp only [Pt.U, Pt.locs, Pt.cells, Pt.slots] at X6 l6 y6 z6 st6 hQ6
  subst l6 y6 z6
  obtain ⟨rfl, N6q, e6⟩ := hQ6
  have N6 := Fr.app N1 N6q
  obtain ⟨T7, h7, L7, X7, e7, N7, Kc7, V7, st7⟩ := cpA X6 hx hZ hown (hwi hw 172 rfl) (hwi hw 126 rfl) (hwi hw 124 rfl) (hwi hw 125 rfl) e6 fc4 V2 (sp := (0 : Int32)) (dp := (0 : Int32)) (nn := (7 : Int32)) (us := (List.range (7 : Int32).toNatClampNeg).map fun i => (vd : List Value).getD ((0 : Int32).toNatClampNeg + i) (.int 0)) (Or.inl ⟨rfl, rfl⟩) (by decide) (by decide) (by decide) (by decide) (by decide) rfl (Nat.le_of_ble_eq_true rfl) N6 (Nat.le_trans Z0 bn_b2) (g := (mkF m 27 #[.val (.ref a1), .val (.int 0), .val (.int 7), .val (.int 7), .val (.ref b2)] [(.int 7), (.int 0), (.ref b2), (.int 0), (.ref a1)])) rfl (by rw [hml]; rfl) rfl (hb hby d29_27) (by decide) (W := 0) (by show 2 * 0 + _ ≤ _; exact Nat.le_of_eq rfl) (by decide)
  have Vd7 : Arv Z h7 b2 k2 .byte (7 : Int32) (own_ap [(.int 0), (.int 0), (.int 0), (.int 0), (.int 0), (.int 0), (.int 0)] vd (0 : Int32) (7 : Int32)) (.int 0) := V7
  have sz8 : h2.size ≤ h7.size := Kc7.1
  have Z8 : n0 ≤ h7.size := Nat.le_trans Z3 sz8
  have O8 := O3.keep Kc7 (allS (Nat.le_trans Z0 bn_b2) all0)
  have K8 : Keep h0 h7 [] := K3.trans Kc7 (allS (Or.inr bn_b2) (all0))
  obtain ⟨fs, hr, hrun, hended, hW, hsame⟩ := X7.leave (v := some (.ref b2)) (fun h => by rw [Bd.returns] at h; cases h)
  refine ⟨_, _, pre0 _ ?_, hrun, hended, _, _, rfl, ?_, ⟨_, rfl⟩, hW, hsame.mono (by decide) (by decide)⟩
  · show St p e below s₁ (mkF m 0 #[.val (.ref a1), .val (.int 0), .val (.int 7), .unset, .unset] []) _
    refine XS.iloadN X0.here hx rfl (hb hby d29_0) rfl ?_
    refine XS.iloadN X0.here hx rfl (hb hby d29_1) rfl ?_
    refine st1 _ ?_
    refine XS.iloadN X1.here hx rfl (hb hby d29_5) rfl ?_
    show St p e below T1 (mkF m 6 #[.val (.ref a1), .val (.int 0), .val (.int 7), .unset, .unset] [(.int 7)]) _
    refine XS.iloadN X1.here hx rfl (hb hby d29_6) rfl ?_
    refine XS.isub X1.here hx rfl (hb hby d29_7) rfl ?_
    show St p e below T1 (mkF m 8 #[.val (.ref a1), .val (.int 0), .val (.int 7), .unset, .unset] [(.int ((7 : Int32) - (0 : Int32)))]) _
    rw [(by decide : ((7 : Int32) - (0 : Int32)) = (7 : Int32))]
    show St p e below T1 (mkF m 8 #[.val (.ref a1), .val (.int 0), .val (.int 7), .unset, .unset] [(.int 7)]) _
    refine XS.istoreN X1.here hx rfl (hb hby d29_8) rfl (l' := #[.val (.ref a1), .val (.int 0), .val (.int 7), .val (.int 7), .unset]) rfl ?_
    refine XS.iloadN X1.here hx rfl (hb hby d29_9) rfl ?_
    refine st2 _ ?_
    refine XS.astore X2.here hx rfl (hb hby d29_12) rfl rfl (l' := #[.val (.ref a1), .val (.int 0), .val (.int 7), .val (.int 7), .val (.ref b2)]) rfl ?_
    show St p e below T2 (mkF m 14 #[.val (.ref a1), .val (.int 0), .val (.int 7), .val (.int 7), .val (.ref b2)] []) _
    refine XS.aloadN X2.here hx rfl (hb hby d29_14) rfl rfl ?_
    refine XS.iloadN X2.here hx rfl (hb hby d29_15) rfl ?_
    refine XS.aload X2.here hx rfl (hb hby d29_16) rfl rfl ?_
    refine XS.iconst X2.here hx rfl (hb hby d29_18) ?_
    show St p e below T2 (mkF m 19 #[.val (.ref a1), .val (.int 0), .val (.int 7), .val (.int 7), .val (.ref b2)] [(.int 0), (.ref b2), (.int 0), (.ref a1)]) _
    refine XS.aloadN X2.here hx rfl (hb hby d29_19) rfl rfl ?_
    refine X2.arraylength hx (by rw [e2]; exact Ar5.1) (State.isArrayOf_alike hZ.alike Ar5.2.1) (g := (mkF m 20 #[.val (.ref a1), .val (.int 0), .val (.int 7), .val (.int 7), .val (.ref b2)] [(.ref a1), (.int 0), (.ref b2), (.int 0), (.ref a1)])) rfl rfl (hb hby d29_20) _ ?_
    rw [len_of S5 M5]
    show St p e below T2 (mkF m 21 #[.val (.ref a1), .val (.int 0), .val (.int 7), .val (.int 7), .val (.ref b2)] [(.int 16), (.int 0), (.ref b2), (.int 0), (.ref a1)]) _
    refine XS.iloadN X2.here hx rfl (hb hby d29_21) rfl ?_
    refine XS.isub X2.here hx rfl (hb hby d29_22) rfl ?_
    show St p e below T2 (mkF m 23 #[.val (.ref a1), .val (.int 0), .val (.int 7), .val (.int 7), .val (.ref b2)] [(.int ((16 : Int32) - (0 : Int32))), (.int 0), (.ref b2), (.int 0), (.ref a1)]) _
    rw [(by decide : ((16 : Int32) - (0 : Int32)) = (16 : Int32))]
    show St p e below T2 (mkF m 23 #[.val (.ref a1), .val (.int 0), .val (.int 7), .val (.int 7), .val (.ref b2)] [(.int 16), (.int 0), (.ref b2), (.int 0), (.ref a1)]) _
    refine XS.iloadN X2.here hx rfl (hb hby d29_23) rfl ?_
    refine st6 _ ?_
    refine st7 _ ?_
    refine XS.aload X7.here hx rfl (hb hby d29_30) rfl rfl ?_
    show St p e below T7 (mkF m 32 #[.val (.ref a1), .val (.int 0), .val (.int 7), .val (.int 7), .val (.ref b2)] [(.ref b2)]) _
    jvm_step X7.here [X7.here.top, hx, (hb hby d29_32), X7.method', Bd.returns, Value.isRef, FieldType.isReference]
    first | (intro acts; rw [hr _ acts rfl rfl rfl]) | rw [hr _ _ rfl rfl rfl]
    exact Steps.refl _
  · show Q_corb_7 Z a1 k_a1 vd h0 n0 _ T7.heap _
    rw [e7]
    exact ⟨b2, k2, rfl, N7, K8, bn_b2, Vd7⟩
def Q_cor_7 (Z : State) (a1 : Addr) (k_a1 : ClassId) (vd : List Value) (h0 : Heap) (n0 : Nat) (v : Option Value) (h : Heap) (L : List Loc) : Prop := ∃ (r : Addr) (kr : ClassId), v = some (.ref r) ∧ Fr n0 L ∧ Keep h0 h [] ∧ h0.size ≤ r ∧ Arv Z h r kr .byte (7 : Int32) (own_ap [(.int 0), (.int 0), (.int 0), (.int 0), (.int 0), (.int 0), (.int 0)] vd (0 : Int32) (7 : Int32)) (.int 0)
set_option maxRecDepth 65536 in
set_option maxHeartbeats 40000000 in
theorem rm_cor_7 (l : Launch) (Z : State) (a0 : Array Value) (hw : ∀ d ∈ tables_1, d.before a0 Z = true) (ws : List Jvm.Cond) (a1 : Addr) (k_a1 : ClassId) (vd : List Value) (h0 : Heap) (n0 : Nat) (Z0 : n0 ≤ h0.size) (V_a1 : Arv Z h0 a1 k_a1 .byte (16 : Int32) vd (.int 0)) (O0 : Old Z n0 h0) :
    MetFree l (⟨"java/util/Arrays", "copyOfRange", "([BII)[B"⟩ : MethodName) (head1 (Jvm.Cond.code (⟨"java/util/Arrays", "copyOfRange", "([BII)[B"⟩ : MethodName) jdk_65_method_132_code 3 (some (.array .byte)) :: ws) ({ frames := 2, cells := 1, slots := 7, locals := 34 } : Room)) (fun a U => a = #[(.ref a1), (.int 0), (.int 7)] ∧ Z.Warmed39 U.vm ∧ U.heap = h0) (fun _ _ _ _ _ => True) (fun _ U o U' => ∃ v L, o = .returned v ∧ Q_cor_7 Z a1 k_a1 vd h0 n0 v U'.heap L ∧ FrameEnd U o U' L ({ frames := 2, cells := 1, slots := 7, locals := 34 } : Room).cells ({ frames := 2, cells := 1, slots := 7, locals := 34 } : Room).slots) := by
  refine MetFree.of_bodySF (plainFor_of_name pn_28) hisR ?_
  intro p e s m args below meth c s₁ Bd hml0 hP hK
  obtain ⟨rfl, hZ, hh⟩ := hP
  have hx := Bd.exec
  have hby := Bd.bytes
  have hml : c.maxLocals = 3 := hml0
  have hown : s.vm.findClass "java/util/Arrays" = some m.cls := findClass_of_methodNamed Bd.named
  have hnm := (name_of_methodNamed Bd.named Bd.method).1
  have X0 : Stand p l e ({ frames := 2, cells := 1, slots := 7, locals := 34 } : Room) s m #[(.ref a1), (.int 0), (.int 7)] below meth c s₁ [] 0 0 := Stand.of_body Bd
  have e0 : s₁.heap = h0 := by rw [← hh, Bd.state]; rfl
  have N0 := Fr.nil n0
  have pre0 : ∀ t, Steps p.tables e below (s₁.setTop (mkF m 0 #[.val (.ref a1), .val (.int 0), .val (.int 7)] [])) t → Steps p.tables e below (s₁.setTop (entryFrame m #[(.ref a1), (.int 0), (.int 7)] 3)) t := fun t k => castTop (ef_28_RII m a1 (0 : Int32) (7 : Int32)) k
  obtain ⟨cl1, Ar1, -, S1, M1, -, -⟩ := id V_a1
  obtain ⟨_, _, ⟨T2, L2, k2, n2⟩, -, X2, ⟨Lc2, hQ2, l2, y2, z2⟩, st2⟩ := Jvm.LawKit.callS X0 hx (y := (⟨"java/util/Arrays", "copyOfRangeByte", "([BII)[B"⟩ : MethodName)) hown (mvT hZ (hwi hw 162 rfl)) (mvT hZ (hwi hw 163 rfl)) (mvT hZ (hwi hw 160 rfl)) (mvT hZ (hwi hw 164 rfl)) (by decide) (backOf (W := 0) (rm_corb_7 l Z a0 hw [] a1 k_a1 vd h0 n0 Z0 V_a1 O0) hZ (hwi hw 164 rfl) (hwi hw 160 rfl) (by decide) (by decide)) (g := (mkF m 13 #[.val (.ref a1), .val (.int 0), .val (.int 7)] [(.int 7), (.int 0), (.ref a1)])) rfl (by rw [hml]; rfl) (argsL := [(.ref a1), (.int 0), (.int 7)]) (rest := []) (lenOf pd_BII__B_541 rfl) rfl (by show 2 * 0 + _ ≤ _; exact Nat.le_of_eq rfl) (hb hby d28_13) (fun _ _ => ⟨rfl, e0, (by decide : 0 + 1 ≤ _), (by decide : 0 + 7 ≤ _)⟩)
  dsimp only [Pt.U, Pt.locs, Pt.cells, Pt.slots] at X2 l2 y2 z2 st2 hQ2
  subst l2 y2 z2
  obtain ⟨r_2, kr_2, rfl, N2q, Kc2, g2_0, g2_1⟩ := hQ2
  have N2 := Fr.app N0 N2q
  have sz3 : h0.size ≤ T2.heap.size := Kc2.1
  have Z3 : n0 ≤ T2.heap.size := Nat.le_trans Z0 sz3
  have O3 := O0.keep Kc2 all0
  have K3 : Keep h0 T2.heap [] := (Keep.refl h0 []).trans Kc2 (all0)
  have bn_r_2 : h0.size ≤ r_2 := g2_0
  obtain ⟨fs, hr, hrun, hended, hW, hsame⟩ := X2.leave (v := some (.ref r_2)) (fun h => by rw [Bd.returns] at h; cases h)
  refine ⟨_, _, pre0 _ ?_, hrun, hended, _, _, rfl, ?_, ⟨_, rfl⟩, hW, hsame.mono (by decide) (by decide)⟩
  · show St p e below s₁ (mkF m 0 #[.val (.ref a1), .val (.int 0), .val (.int 7)] []) _
    refine XS.iloadN X0.here hx rfl (hb hby d28_0) rfl ?_
    refine XS.ifNo X0.here hx rfl (hb hby d28_1) rfl ((if0 _ _).trans (teq (by decide : (0 : Int32) = (0 : Int32))).2) ?_
    refine XS.iloadN X0.here hx rfl (hb hby d28_4) rfl ?_
    refine XS.aloadN X0.here hx rfl (hb hby d28_5) rfl rfl ?_
    show St p e below s₁ (mkF m 6 #[.val (.ref a1), .val (.int 0), .val (.int 7)] [(.ref a1), (.int 7)]) _
    refine X0.arraylength hx (by rw [e0]; exact Ar1.1) (State.isArrayOf_alike hZ.alike Ar1.2.1) (g := (mkF m 6 #[.val (.ref a1), .val (.int 0), .val (.int 7)] [(.ref a1), (.int 7)])) rfl rfl (hb hby d28_6) _ ?_
    rw [len_of S1 M1]
    show St p e below s₁ (mkF m 7 #[.val (.ref a1), .val (.int 0), .val (.int 7)] [(.int 16), (.int 7)]) _
    refine XS.icmpNo X0.here hx rfl (hb hby d28_7) rfl (feq (by decide : ¬ ((7 : Int32) = (16 : Int32)))).1 ?_
    refine XS.aloadN X0.here hx rfl (hb hby d28_10) rfl rfl ?_
    refine XS.iloadN X0.here hx rfl (hb hby d28_11) rfl ?_
    refine XS.iloadN X0.here hx rfl (hb hby d28_12) rfl ?_
    show St p e below s₁ (mkF m 13 #[.val (.ref a1), .val (.int 0), .val (.int 7)] [(.int 7), (.int 0), (.ref a1)]) _
    refine st2 _ ?_
    show St p e below T2 (mkF m 16 #[.val (.ref a1), .val (.int 0), .val (.int 7)] [(.ref r_2)]) _
    jvm_step X2.here [X2.here.top, hx, (hb hby d28_16), X2.method', Bd.returns, Value.isRef, FieldType.isReference]
    first | (intro acts; rw [hr _ acts rfl rfl rfl]) | rw [hr _ _ rfl rfl rfl]
    exact Steps.refl _
  · show Q_cor_7 Z a1 k_a1 vd h0 n0 _ T2.heap _
    exact ⟨r_2, kr_2, rfl, N2, K3, bn_r_2, g2_1⟩
def Q_new2_7 (Z : State) (a1 : Addr) (a2 : Addr) (w_COMPACT_STRINGS : Int32) (t_a2 : Addr) (k_t_a2 : ClassId) (vd : List Value) (u_a1_coder : Value) (u_a1_value : Value) (h0 : Heap) (n0 : Nat) (v : Option Value) (h : Heap) (L : List Loc) : Prop := ∃ (t : Addr) (kt : ClassId), v = none ∧ Fr n0 L ∧ Keep h0 h [a1] ∧ h0.size ≤ t ∧ Exa Z h a1 "java/lang/String" ∧ Fld Z h a1 "java/lang/String" "coder" "B" (.int 0) ∧ Fld Z h a1 "java/lang/String" "value" "[B" (.ref t) ∧ Arv Z h t kt .byte (7 : Int32) (own_ap [(.int 0), (.int 0), (.int 0), (.int 0), (.int 0), (.int 0), (.int 0)] vd (0 : Int32) (7 : Int32)) (.int 0)
set_option maxRecDepth 65536 in
set_option maxHeartbeats 40000000 in
theorem rm_new2_7 (l : Launch) (Z : State) (a0 : Array Value) (hw : ∀ d ∈ tables_1, d.before a0 Z = true) (ws : List Jvm.Cond) (a1 : Addr) (a2 : Addr) (w_COMPACT_STRINGS : Int32) (t_a2 : Addr) (k_t_a2 : ClassId) (vd : List Value) (u_a1_coder : Value) (u_a1_value : Value) (h0 : Heap) (n0 : Nat) (Z0 : n0 ≤ h0.size) (E_a1 : Exa Z h0 a1 "java/lang/String") (S_COMPACT_STRINGS : Sta Z Z.heap "java/lang/String" "COMPACT_STRINGS" "Z" (.int w_COMPACT_STRINGS)) (hcs : ¬ (w_COMPACT_STRINGS = (0 : Int32))) (E_a2 : Exa Z h0 a2 "java/lang/StringBuilder") (F_a2_coder : Fld Z h0 a2 "java/lang/AbstractStringBuilder" "coder" "B" (.int 0)) (F_a2_value : Fld Z h0 a2 "java/lang/AbstractStringBuilder" "value" "[B" (.ref t_a2)) (V_t_a2 : Arv Z h0 t_a2 k_t_a2 .byte (16 : Int32) vd (.int 0)) (F_a2_count : Fld Z h0 a2 "java/lang/AbstractStringBuilder" "count" "I" (.int 7)) (O0 : Old Z n0 h0) (F_a1_coder : Fld Z h0 a1 "java/lang/String" "coder" "B" u_a1_coder) (g_a1 : n0 ≤ a1) (F_a1_value : Fld Z h0 a1 "java/lang/String" "value" "[B" u_a1_value) :
    MetFree l (⟨"java/lang/String", "<init>", "(Ljava/lang/AbstractStringBuilder;Ljava/lang/Void;)V"⟩ : MethodName) (head1 (Jvm.Cond.code (⟨"java/lang/String", "<init>", "(Ljava/lang/AbstractStringBuilder;Ljava/lang/Void;)V"⟩ : MethodName) jdk_42_method_150_code 5 none :: ws) ({ frames := 3, cells := 1, slots := 7, locals := 49 } : Room)) (fun a U => a = #[(.ref a1), (.ref a2), .null] ∧ Z.Warmed39 U.vm ∧ U.heap = h0) (fun _ _ _ _ _ => True) (fun _ U o U' => ∃ v L, o = .returned v ∧ Q_new2_7 Z a1 a2 w_COMPACT_STRINGS t_a2 k_t_a2 vd u_a1_coder u_a1_value h0 n0 v U'.heap L ∧ FrameEnd U o U' L ({ frames := 3, cells := 1, slots := 7, locals := 49 } : Room).cells ({ frames := 3, cells := 1, slots := 7, locals := 49 } : Room).slots) := by
  refine MetFree.of_bodySF (plainFor_of_name pn_23) hisR ?_
  intro p e s m args below meth c s₁ Bd hml0 hP hK
  obtain ⟨rfl, hZ, hh⟩ := hP
  have hx := Bd.exec
  have hby := Bd.bytes
  have hml : c.maxLocals = 5 := hml0
  have hown : s.vm.findClass "java/lang/String" = some m.cls := findClass_of_methodNamed Bd.named
  have hnm := (name_of_methodNamed Bd.named Bd.method).1
  have X0 : Stand p l e ({ frames := 3, cells := 1, slots := 7, locals := 49 } : Room) s m #[(.ref a1), (.ref a2), .null] below meth c s₁ [] 0 0 := Stand.of_body Bd
  have e0 : s₁.heap = h0 := by rw [← hh, Bd.state]; rfl
  have N0 := Fr.nil n0
  have pre0 : ∀ t, Steps p.tables e below (s₁.setTop (mkF m 0 #[.val (.ref a1), .val (.ref a2), .val .null, .unset, .unset] [])) t → Steps p.tables e below (s₁.setTop (entryFrame m #[(.ref a1), (.ref a2), .null] 5)) t := fun t k => castTop (ef_23_RRn m a1 a2) k
  obtain ⟨T1, X1, e1, st1⟩ := initO X0 hx hZ hown (hwi hw 11 rfl) (hwi hw 12 rfl) (hwi hw 13 rfl) e0 (g := (mkF m 1 #[.val (.ref a1), .val (.ref a2), .val .null, .unset, .unset] [(.ref a1)])) rfl (by rw [hml]; rfl) rfl (hb hby d23_1) (by decide) (W := 0) (by show 2 * 0 + _ ≤ _; exact Nat.le_of_eq rfl) (by decide)
  obtain ⟨cq2, kq2, q2a, q2b, q2c⟩ := isOf hZ e1 E_a2
  obtain ⟨_, _, ⟨T2, L2, k2, n2⟩, -, X2, ⟨Lc2, hQ2, l2, y2, z2⟩, st2⟩ := X1.virtualBack hx (y := (⟨"java/lang/AbstractStringBuilder", "getValue", "()[B"⟩ : MethodName)) (z := (⟨"java/lang/AbstractStringBuilder", "getValue", "()[B"⟩ : MethodName)) hown (mvT hZ (hwi hw 140 rfl)) (mvT hZ (hwi hw 141 rfl)) (notFace_of_selects (args := #[]) (mvT hZ (hwi hw 143 rfl))) (mvT hZ (hwi hw 143 rfl)) (mvT hZ (hwi hw 142 rfl)) (by decide) (backOf (W := 0) (rm_getval l Z a0 hw [] a2 t_a2 h0 n0 Z0 F_a2_value) hZ (hwi hw 144 rfl) (hwi hw 70 rfl) (by decide) (by decide)) q2a q2c (g := (mkF m 5 #[.val (.ref a1), .val (.ref a2), .val .null, .unset, .unset] [(.ref a2)])) rfl (by rw [hml]; rfl) (Steps.refl _) (argsL := []) (rest := []) (lenOf pd_B_238 rfl) rfl (by show 2 * 0 + _ ≤ _; exact Nat.le_of_eq rfl) (hb hby d23_5) (fun _ _ => ⟨rfl, e1, (by decide : 0 + 0 ≤ _), (by decide : 0 + 0 ≤ _)⟩)
  dsimp only [Pt.U, Pt.locs, Pt.cells, Pt.slots] at X2 l2 y2 z2 st2 hQ2
  subst l2 y2 z2
  obtain ⟨rfl, N2q, e2⟩ := hQ2
  have N2 := Fr.app N0 N2q
  obtain ⟨cq3, kq3, q3a, q3b, q3c⟩ := isOf hZ e2 E_a2
  obtain ⟨_, _, ⟨T3, L3, k3, n3⟩, -, X3, ⟨Lc3, hQ3, l3, y3, z3⟩, st3⟩ := X2.virtualBack hx (y := (⟨"java/lang/AbstractStringBuilder", "length", "()I"⟩ : MethodName)) (z := (⟨"java/lang/StringBuilder", "length", "()I"⟩ : MethodName)) hown (mvT hZ (hwi hw 145 rfl)) (mvT hZ (hwi hw 146 rfl)) (own_nf (mvT hZ (hwi hw 105 rfl) (args := #[])) rfl) (mvT hZ (hwi hw 148 rfl)) (mvT hZ (hwi hw 149 rfl)) (by decide) (backOf (W := 0) (rm_sblen l Z a0 hw [] a2 (7 : Int32) h0 n0 Z0 E_a2 F_a2_count) hZ (hwi hw 150 rfl) (hwi hw 62 rfl) (by decide) (by decide)) q3a q3c (g := (mkF m 10 #[.val (.ref a1), .val (.ref a2), .val .null, .val (.ref t_a2), .unset] [(.ref a2)])) rfl (by rw [hml]; rfl) (Steps.refl _) (argsL := []) (rest := []) (lenOf pd_I_154 rfl) rfl (by show 2 * 0 + _ ≤ _; exact Nat.le_of_eq rfl) (hb hby d23_10) (fun _ _ => ⟨rfl, e2, (by decide : 0 + 0 ≤ _), (by decide : 0 + 0 ≤ _)⟩)
  dsimp only [Pt.U, Pt.locs, Pt.cells, Pt.slots] at X3 l3 y3 z3 st3 hQ3
  subst l3 y3 z3
  obtain ⟨rfl, N3q, e3⟩ := hQ3
  have N3 := Fr.app N2 N3q
  obtain ⟨cq4, kq4, q4a, q4b, q4c⟩ := isOf hZ e3 E_a2
  obtain ⟨_, _, ⟨T4, L4, k4, n4⟩, -, X4, ⟨Lc4, hQ4, l4, y4, z4⟩, st4⟩ := X3.virtualBack hx (y := (⟨"java/lang/AbstractStringBuilder", "isLatin1", "()Z"⟩ : MethodName)) (z := (⟨"java/lang/AbstractStringBuilder", "isLatin1", "()Z"⟩ : MethodName)) hown (mvT hZ (hwi hw 153 rfl)) (mvT hZ (hwi hw 154 rfl)) (notFace_of_selects (args := #[]) (mvT hZ (hwi hw 156 rfl))) (mvT hZ (hwi hw 156 rfl)) (mvT hZ (hwi hw 155 rfl)) (by decide) (backOf (W := 0) (rm_ablat l Z a0 hw [] a2 w_COMPACT_STRINGS h0 n0 Z0 S_COMPACT_STRINGS hcs F_a2_coder O0) hZ (hwi hw 157 rfl) (hwi hw 70 rfl) (by decide) (by decide)) q4a q4c (g := (mkF m 16 #[.val (.ref a1), .val (.ref a2), .val .null, .val (.ref t_a2), .val (.int 7)] [(.ref a2)])) rfl (by rw [hml]; rfl) (Steps.refl _) (argsL := []) (rest := []) (lenOf pd_Z_171 rfl) rfl (by show 2 * 0 + _ ≤ _; exact Nat.le_of_eq rfl) (hb hby d23_16) (fun _ _ => ⟨rfl, e3, (by decide : 0 + 0 ≤ _), (by decide : 0 + 0 ≤ _)⟩)
  dsimp only [Pt.U, Pt.locs, Pt.cells, Pt.slots] at X4 l4 y4 z4 st4 hQ4
  subst l4 y4 z4
  obtain ⟨rfl, N4q, e4⟩ := hQ4
  have N4 := Fr.app N3 N4q
  obtain ⟨T5, h5, X5, e5, W5, st5⟩ := putFN X4 hx hZ hown (hwi hw 21 rfl) Via.refl e4 F_a1_coder E_a1 (Or.inr ⟨(hwi hw 17 rfl), rfl, hnm⟩) (hwi hw 2 rfl) (ty := .byte) (v' := (.int 0)) (by decide) rfl (by decide) (g := (mkF m 24 #[.val (.ref a1), .val (.ref a2), .val .null, .val (.ref t_a2), .val (.int 7)] [(.int 0), (.ref a1)])) rfl rfl (hb hby d23_24)
  have N5 := Fr.snoc X5 N4 g_a1
  have Fw5 := F_a1_coder.same W5
  have sz6 : h0.size ≤ h5.size := Nat.le_of_eq W5.size.symm
  have Z6 : n0 ≤ h5.size := Nat.le_trans Z0 sz6
  have O6 := O0.wr W5 g_a1
  have K6 : Keep h0 h5 [a1] := (Keep.refl h0 [a1]).wr W5 (Or.inl (List.mem_of_getElem? (i := 0) rfl))
  have fc8 := (V_t_a2.other W5 (Ne.symm (Exa.neArv E_a1 V_t_a2 (hwi hw 2 rfl))))
  obtain ⟨_, _, ⟨T7, L7, k7, n7⟩, -, X7, ⟨Lc7, hQ7, l7, y7, z7⟩, st7⟩ := Jvm.LawKit.callS X5 hx (y := (⟨"java/util/Arrays", "copyOfRange", "([BII)[B"⟩ : MethodName)) hown (mvT hZ (hwi hw 158 rfl)) (mvT hZ (hwi hw 159 rfl)) (mvT hZ (hwi hw 160 rfl)) (mvT hZ (hwi hw 161 rfl)) (by decide) (backOf (W := 1) (rm_cor_7 l Z a0 hw [] t_a2 k_t_a2 vd h5 n0 Z6 fc8 O6) hZ (hwi hw 161 rfl) (hwi hw 160 rfl) (by decide) (by decide)) (g := (mkF m 32 #[.val (.ref a1), .val (.ref a2), .val .null, .val (.ref t_a2), .val (.int 7)] [(.int 7), (.int 0), (.ref t_a2), (.ref a1)])) rfl (by rw [hml]; rfl) (argsL := [(.ref t_a2), (.int 0), (.int 7)]) (rest := [(.ref a1)]) (lenOf pd_BII__B_541 rfl) rfl (by show 2 * 0 + _ ≤ _; exact Nat.le_of_eq rfl) (hb hby d23_32) (fun _ _ => ⟨rfl, e5, (by decide : 0 + 1 ≤ _), (by decide : 0 + 7 ≤ _)⟩)
  dsimp only [Pt.U, Pt.locs, Pt.cells, Pt.slots] at X7 l7 y7 z7 st7 hQ7
  subst l7 y7 z7
  obtain ⟨r_7, kr_7, rfl, N7q, Kc7, g7_0, g7_1⟩ := hQ7
  have N7 := Fr.app N5 N7q
  have sz9 : h5.size ≤ T7.heap.size := Kc7.1
  have Z9 : n0 ≤ T7.heap.size := Nat.le_trans Z6 sz9
  have O9 := O6.keep Kc7 all0
  have K9 : Keep h0 T7.heap [a1] := K6.trans Kc7 (all0)
  have bn_r_7 : h0.size ≤ r_7 := Nat.le_trans K6.1 g7_0
  have fc10 := ((E_a1.wr W5).keep Kc7)
  have fc11 := ((F_a1_value.other W5 (Or.inr (slot_ne (Or.inr (hwi hw 16 rfl)) (Or.inr (hwi hw 17 rfl)) (by decide) (t := (.array .byte)) (t' := .byte) (by decide) (by decide)))).keep Kc7 nin0)
  obtain ⟨T12, h12, X12, e12, W12, st12⟩ := putF X7 hx hZ hown (host := "") (Or.inl (hwi hw 20 rfl)) Via.refl rfl fc11 fc10 (Or.inr ⟨(hwi hw 16 rfl), rfl, hnm⟩) (hwi hw 2 rfl) (ty := (.array .byte)) (by decide) rfl rfl (g := (mkF m 35 #[.val (.ref a1), .val (.ref a2), .val .null, .val (.ref t_a2), .val (.int 7)] [(.ref r_7), (.ref a1)])) rfl rfl (hb hby d23_35)
  have N12 := Fr.snoc X12 N7 g_a1
  have Fw12 := fc11.same W12
  have sz13 : T7.heap.size ≤ h12.size := Nat.le_of_eq W12.size.symm
  have Z13 : n0 ≤ h12.size := Nat.le_trans Z9 sz13
  have O13 := O9.wr W12 g_a1
  have K13 : Keep h0 h12 [a1] := K9.wr W12 (Or.inl (List.mem_of_getElem? (i := 0) rfl))
  have fc14 := (fc10.wr W12)
  have fc15 := ((Fw5.keep Kc7 nin0).other W12 (Or.inr (slot_ne (Or.inr (hwi hw 17 rfl)) (Or.inr (hwi hw 16 rfl)) (by decide) (t := .byte) (t' := (.array .byte)) (by decide) (by decide))))
  have fc16 := (g7_1.other W12 (neN (by have := ltN E_a1.lt; have := ltN g7_1.lt; omega)))
  obtain ⟨fs, hr, hrun, hended, hW, hsame⟩ := X12.leave (v := none) (fun _ => rfl)
  refine ⟨_, _, pre0 _ ?_, hrun, hended, _, _, rfl, ?_, ⟨_, rfl⟩, hW, hsame.mono (by decide) (by decide)⟩
  · show St p e below s₁ (mkF m 0 #[.val (.ref a1), .val (.ref a2), .val .null, .unset, .unset] []) _
    refine XS.aloadN X0.here hx rfl (hb hby d23_0) rfl rfl ?_
    refine st1 _ ?_
    refine XS.aloadN X1.here hx rfl (hb hby d23_4) rfl rfl ?_
    refine st2.trans ?_
    show St p e below T2 (mkF m 8 #[.val (.ref a1), .val (.ref a2), .val .null, .unset, .unset] [(.ref t_a2)]) _
    refine XS.astoreN X2.here hx rfl (hb hby d23_8) rfl rfl (l' := #[.val (.ref a1), .val (.ref a2), .val .null, .val (.ref t_a2), .unset]) rfl ?_
    refine XS.aloadN X2.here hx rfl (hb hby d23_9) rfl rfl ?_
    refine st3.trans ?_
    refine XS.istore X3.here hx rfl (hb hby d23_13) rfl (l' := #[.val (.ref a1), .val (.ref a2), .val .null, .val (.ref t_a2), .val (.int 7)]) rfl ?_
    show St p e below T3 (mkF m 15 #[.val (.ref a1), .val (.ref a2), .val .null, .val (.ref t_a2), .val (.int 7)] []) _
    refine XS.aloadN X3.here hx rfl (hb hby d23_15) rfl rfl ?_
    refine st4.trans ?_
    refine XS.ifNo X4.here hx rfl (hb hby d23_19) rfl ((if0 _ _).trans (feq (by decide : ¬ ((1 : Int32) = (0 : Int32)))).1) ?_
    refine XS.aloadN X4.here hx rfl (hb hby d23_22) rfl rfl ?_
    show St p e below T4 (mkF m 23 #[.val (.ref a1), .val (.ref a2), .val .null, .val (.ref t_a2), .val (.int 7)] [(.ref a1)]) _
    refine XS.iconst X4.here hx rfl (hb hby d23_23) ?_
    refine st5 _ ?_
    refine XS.aloadN X5.here hx rfl (hb hby d23_27) rfl rfl ?_
    refine XS.aloadN X5.here hx rfl (hb hby d23_28) rfl rfl ?_
    show St p e below T5 (mkF m 29 #[.val (.ref a1), .val (.ref a2), .val .null, .val (.ref t_a2), .val (.int 7)] [(.ref t_a2), (.ref a1)]) _
    refine XS.iconst X5.here hx rfl (hb hby d23_29) ?_
    refine XS.iload X5.here hx rfl (hb hby d23_30) rfl ?_
    refine st7 _ ?_
    refine st12 _ ?_
    show St p e below T12 (mkF m 38 #[.val (.ref a1), .val (.ref a2), .val .null, .val (.ref t_a2), .val (.int 7)] []) _
    refine XS.goto X12.here hx rfl (pc0 := 38) (pc' := 97) rfl (hb hby d23_38) (by decide) (by decide) ?_
    show St p e below T12 (mkF m 97 #[.val (.ref a1), .val (.ref a2), .val .null, .val (.ref t_a2), .val (.int 7)] []) _
    exact X12.returnOut hx Bd.returns (hb hby d23_97) hr
  · show Q_new2_7 Z a1 a2 w_COMPACT_STRINGS t_a2 k_t_a2 vd u_a1_coder u_a1_value h0 n0 _ T12.heap _
    rw [e12]
    exact ⟨r_7, kr_7, rfl, N12, K13, bn_r_7, fc14, fc15, Fw12, fc16⟩
def Q_news_7 (Z : State) (a1 : Addr) (a2 : Addr) (w_COMPACT_STRINGS : Int32) (t_a2 : Addr) (k_t_a2 : ClassId) (vd : List Value) (u_a1_coder : Value) (u_a1_value : Value) (h0 : Heap) (n0 : Nat) (v : Option Value) (h : Heap) (L : List Loc) : Prop := ∃ (t : Addr) (kt : ClassId), v = none ∧ Fr n0 L ∧ Keep h0 h [a1] ∧ h0.size ≤ t ∧ Exa Z h a1 "java/lang/String" ∧ Fld Z h a1 "java/lang/String" "coder" "B" (.int 0) ∧ Fld Z h a1 "java/lang/String" "value" "[B" (.ref t) ∧ Arv Z h t kt .byte (7 : Int32) (own_ap [(.int 0), (.int 0), (.int 0), (.int 0), (.int 0), (.int 0), (.int 0)] vd (0 : Int32) (7 : Int32)) (.int 0)
set_option maxRecDepth 65536 in
set_option maxHeartbeats 40000000 in
theorem rm_news_7 (l : Launch) (Z : State) (a0 : Array Value) (hw : ∀ d ∈ tables_1, d.before a0 Z = true) (ws : List Jvm.Cond) (a1 : Addr) (a2 : Addr) (w_COMPACT_STRINGS : Int32) (t_a2 : Addr) (k_t_a2 : ClassId) (vd : List Value) (u_a1_coder : Value) (u_a1_value : Value) (h0 : Heap) (n0 : Nat) (Z0 : n0 ≤ h0.size) (E_a1 : Exa Z h0 a1 "java/lang/String") (S_COMPACT_STRINGS : Sta Z Z.heap "java/lang/String" "COMPACT_STRINGS" "Z" (.int w_COMPACT_STRINGS)) (hcs : ¬ (w_COMPACT_STRINGS = (0 : Int32))) (E_a2 : Exa Z h0 a2 "java/lang/StringBuilder") (F_a2_coder : Fld Z h0 a2 "java/lang/AbstractStringBuilder" "coder" "B" (.int 0)) (F_a2_value : Fld Z h0 a2 "java/lang/AbstractStringBuilder" "value" "[B" (.ref t_a2)) (V_t_a2 : Arv Z h0 t_a2 k_t_a2 .byte (16 : Int32) vd (.int 0)) (F_a2_count : Fld Z h0 a2 "java/lang/AbstractStringBuilder" "count" "I" (.int 7)) (O0 : Old Z n0 h0) (F_a1_coder : Fld Z h0 a1 "java/lang/String" "coder" "B" u_a1_coder) (g_a1 : n0 ≤ a1) (F_a1_value : Fld Z h0 a1 "java/lang/String" "value" "[B" u_a1_value) :
    MetFree l (⟨"java/lang/String", "<init>", "(Ljava/lang/StringBuilder;)V"⟩ : MethodName) (head1 (Jvm.Cond.code (⟨"java/lang/String", "<init>", "(Ljava/lang/StringBuilder;)V"⟩ : MethodName) jdk_42_method_53_code 2 none :: ws) ({ frames := 4, cells := 1, slots := 7, locals := 65 } : Room)) (fun a U => a = #[(.ref a1), (.ref a2)] ∧ Z.Warmed39 U.vm ∧ U.heap = h0) (fun _ _ _ _ _ => True) (fun _ U o U' => ∃ v L, o = .returned v ∧ Q_news_7 Z a1 a2 w_COMPACT_STRINGS t_a2 k_t_a2 vd u_a1_coder u_a1_value h0 n0 v U'.heap L ∧ FrameEnd U o U' L ({ frames := 4, cells := 1, slots := 7, locals := 65 } : Room).cells ({ frames := 4, cells := 1, slots := 7, locals := 65 } : Room).slots) := by
  refine MetFree.of_bodySF (plainFor_of_name pn_22) hisR ?_
  intro p e s m args below meth c s₁ Bd hml0 hP hK
  obtain ⟨rfl, hZ, hh⟩ := hP
  have hx := Bd.exec
  have hby := Bd.bytes
  have hml : c.maxLocals = 2 := hml0
  have hown : s.vm.findClass "java/lang/String" = some m.cls := findClass_of_methodNamed Bd.named
  have hnm := (name_of_methodNamed Bd.named Bd.method).1
  have X0 : Stand p l e ({ frames := 4, cells := 1, slots := 7, locals := 65 } : Room) s m #[(.ref a1), (.ref a2)] below meth c s₁ [] 0 0 := Stand.of_body Bd
  have e0 : s₁.heap = h0 := by rw [← hh, Bd.state]; rfl
  have N0 := Fr.nil n0
  have pre0 : ∀ t, Steps p.tables e below (s₁.setTop (mkF m 0 #[.val (.ref a1), .val (.ref a2)] [])) t → Steps p.tables e below (s₁.setTop (entryFrame m #[(.ref a1), (.ref a2)] 2)) t := fun t k => castTop (ef_22_RR m a1 a2) k
  obtain ⟨_, _, ⟨T1, L1, k1, n1⟩, -, X1, ⟨Lc1, hQ1, l1, y1, z1⟩, st1⟩ := X0.specialBack hx (y := (⟨"java/lang/String", "<init>", "(Ljava/lang/AbstractStringBuilder;Ljava/lang/Void;)V"⟩ : MethodName)) rfl hown (mvT hZ (hwi hw 137 rfl)) (mvT hZ (hwi hw 138 rfl)) (mvT hZ (hwi hw 139 rfl)) (by decide) (backOf (W := 0) (rm_new2_7 l Z a0 hw [] a1 a2 w_COMPACT_STRINGS t_a2 k_t_a2 vd u_a1_coder u_a1_value h0 n0 Z0 E_a1 S_COMPACT_STRINGS hcs E_a2 F_a2_coder F_a2_value V_t_a2 F_a2_count O0 F_a1_coder g_a1 F_a1_value) hZ (hwi hw 139 rfl) (hwi hw 3 rfl) (by decide) (by decide)) (g := (mkF m 3 #[.val (.ref a1), .val (.ref a2)] [.null, (.ref a2), (.ref a1)])) rfl (by rw [hml]; rfl) (Steps.refl _) (a := a1) (argsL := [(.ref a2), .null]) (rest := []) (lenOf pd_Ljava_lang_AbstractStringBuilder_Ljava_lang_Void__V_861 rfl) rfl (by show 2 * 0 + _ ≤ _; exact Nat.le_of_eq rfl) (hb hby d22_3) (fun _ _ => ⟨rfl, e0, (by decide : 0 + 1 ≤ _), (by decide : 0 + 7 ≤ _)⟩)
  dsimp only [Pt.U, Pt.locs, Pt.cells, Pt.slots] at X1 l1 y1 z1 st1 hQ1
  subst l1 y1 z1
  obtain ⟨t_1, kt_1, rfl, N1q, Kc1, g1_0, g1_1, g1_2, g1_3, g1_4⟩ := hQ1
  have N1 := Fr.app N0 N1q
  have sz2 : h0.size ≤ T1.heap.size := Kc1.1
  have Z2 : n0 ≤ T1.heap.size := Nat.le_trans Z0 sz2
  have O2 := O0.keep Kc1 (allS g_a1 all0)
  have K2 : Keep h0 T1.heap [a1] := (Keep.refl h0 [a1]).trans Kc1 (allS (Or.inl (List.mem_of_getElem? (i := 0) rfl)) (all0))
  have bn_t_1 : h0.size ≤ t_1 := g1_0
  obtain ⟨fs, hr, hrun, hended, hW, hsame⟩ := X1.leave (v := none) (fun _ => rfl)
  refine ⟨_, _, pre0 _ ?_, hrun, hended, _, _, rfl, ?_, ⟨_, rfl⟩, hW, hsame.mono (by decide) (by decide)⟩
  · show St p e below s₁ (mkF m 0 #[.val (.ref a1), .val (.ref a2)] []) _
    refine XS.aloadN X0.here hx rfl (hb hby d22_0) rfl rfl ?_
    refine XS.aloadN X0.here hx rfl (hb hby d22_1) rfl rfl ?_
    refine XS.aconstNull X0.here hx rfl (hb hby d22_2) ?_
    refine st1.trans ?_
    show St p e below T1 (mkF m 6 #[.val (.ref a1), .val (.ref a2)] []) _
    exact X1.returnOut hx Bd.returns (hb hby d22_6) hr
  · show Q_news_7 Z a1 a2 w_COMPACT_STRINGS t_a2 k_t_a2 vd u_a1_coder u_a1_value h0 n0 _ T1.heap _
    exact ⟨t_1, kt_1, rfl, N1, K2, bn_t_1, g1_1, g1_2, g1_3, g1_4⟩
def Q_tostr_7 (Z : State) (a1 : Addr) (w_COMPACT_STRINGS : Int32) (t_a1 : Addr) (k_t_a1 : ClassId) (vd : List Value) (h0 : Heap) (n0 : Nat) (v : Option Value) (h : Heap) (L : List Loc) : Prop := ∃ (r : Addr) (t : Addr) (kt : ClassId), v = some (.ref r) ∧ Fr n0 L ∧ Keep h0 h [] ∧ h0.size ≤ r ∧ h0.size ≤ t ∧ Exa Z h r "java/lang/String" ∧ Fld Z h r "java/lang/String" "coder" "B" (.int 0) ∧ Fld Z h r "java/lang/String" "value" "[B" (.ref t) ∧ Arv Z h t kt .byte (7 : Int32) (own_ap [(.int 0), (.int 0), (.int 0), (.int 0), (.int 0), (.int 0), (.int 0)] vd (0 : Int32) (7 : Int32)) (.int 0)
set_option maxRecDepth 65536 in
set_option maxHeartbeats 40000000 in
theorem rm_tostr_7 (l : Launch) (Z : State) (a0 : Array Value) (hw : ∀ d ∈ tables_1, d.before a0 Z = true) (ws : List Jvm.Cond) (a1 : Addr) (w_COMPACT_STRINGS : Int32) (t_a1 : Addr) (k_t_a1 : ClassId) (vd : List Value) (h0 : Heap) (n0 : Nat) (Z0 : n0 ≤ h0.size) (S_COMPACT_STRINGS : Sta Z Z.heap "java/lang/String" "COMPACT_STRINGS" "Z" (.int w_COMPACT_STRINGS)) (hcs : ¬ (w_COMPACT_STRINGS = (0 : Int32))) (E_a1 : Exa Z h0 a1 "java/lang/StringBuilder") (F_a1_coder : Fld Z h0 a1 "java/lang/AbstractStringBuilder" "coder" "B" (.int 0)) (F_a1_value : Fld Z h0 a1 "java/lang/AbstractStringBuilder" "value" "[B" (.ref t_a1)) (V_t_a1 : Arv Z h0 t_a1 k_t_a1 .byte (16 : Int32) vd (.int 0)) (F_a1_count : Fld Z h0 a1 "java/lang/AbstractStringBuilder" "count" "I" (.int 7)) (O0 : Old Z n0 h0) :
    MetFree l (⟨"java/lang/StringBuilder", "toString", "()Ljava/lang/String;"⟩ : MethodName) (head1 (Jvm.Cond.code (⟨"java/lang/StringBuilder", "toString", "()Ljava/lang/String;"⟩ : MethodName) jdk_67_method_42_code 1 (some (.object "java/lang/String")) :: ws) ({ frames := 5, cells := 2, slots := 11, locals := 79 } : Room)) (fun a U => a = #[(.ref a1)] ∧ Z.Warmed39 U.vm ∧ U.heap = h0) (fun _ _ _ _ _ => True) (fun _ U o U' => ∃ v L, o = .returned v ∧ Q_tostr_7 Z a1 w_COMPACT_STRINGS t_a1 k_t_a1 vd h0 n0 v U'.heap L ∧ FrameEnd U o U' L ({ frames := 5, cells := 2, slots := 11, locals := 79 } : Room).cells ({ frames := 5, cells := 2, slots := 11, locals := 79 } : Room).slots) := by
  refine MetFree.of_bodySF (plainFor_of_name pn_21) hisR ?_
  intro p e s m args below meth c s₁ Bd hml0 hP hK
  obtain ⟨rfl, hZ, hh⟩ := hP
  have hx := Bd.exec
  have hby := Bd.bytes
  have hml : c.maxLocals = 1 := hml0
  have hown : s.vm.findClass "java/lang/StringBuilder" = some m.cls := findClass_of_methodNamed Bd.named
  have hnm := (name_of_methodNamed Bd.named Bd.method).1
  have X0 : Stand p l e ({ frames := 5, cells := 2, slots := 11, locals := 79 } : Room) s m #[(.ref a1)] below meth c s₁ [] 0 0 := Stand.of_body Bd
  have e0 : s₁.heap = h0 := by rw [← hh, Bd.state]; rfl
  have N0 := Fr.nil n0
  have pre0 : ∀ t, Steps p.tables e below (s₁.setTop (mkF m 0 #[.val (.ref a1)] [])) t → Steps p.tables e below (s₁.setTop (entryFrame m #[(.ref a1)] 1)) t := fun t k => castTop (ef_21_R m a1) k
  obtain ⟨T1, h1, X1, e1, E1, A1, D1, -, st1⟩ := newO X0 hx hZ hown (hwi hw 133 rfl) (hwi hw 2 rfl) (hwi hw 3 rfl) e0 (g := (mkF m 0 #[.val (.ref a1)] [])) rfl (hb hby d21_0) (by decide) (by decide)
  obtain ⟨b1, g1⟩ : ∃ z, z = h0.size := ⟨_, rfl⟩
  rw [← g1] at A1 D1 st1
  have bn_b1 : h0.size ≤ b1 := Nat.le_of_eq g1.symm
  have sz2 : h0.size ≤ h1.size := E1.1
  have Z2 : n0 ≤ h1.size := Nat.le_trans Z0 sz2
  have O2 := O0.ext E1
  have K2 : Keep h0 h1 [] := (Keep.refl h0 []).ext E1
  have F1_value : Fld Z h1 b1 "java/lang/String" "value" "[B" .null := D1 (Or.inr (hwi hw 16 rfl)) (ty := (.array .byte)) (by decide)
  have F1_coder : Fld Z h1 b1 "java/lang/String" "coder" "B" (.int 0) := D1 (Or.inr (hwi hw 17 rfl)) (ty := .byte) (by decide)
  have fc4 := (E_a1.ext E1)
  have fc5 := (F_a1_coder.ext E1)
  have fc6 := (F_a1_value.ext E1)
  have fc7 := (V_t_a1.ext E1)
  have fc8 := (F_a1_count.ext E1)
  obtain ⟨_, _, ⟨T3, L3, k3, n3⟩, -, X3, ⟨Lc3, hQ3, l3, y3, z3⟩, st3⟩ := X1.specialBack hx (y := (⟨"java/lang/String", "<init>", "(Ljava/lang/StringBuilder;)V"⟩ : MethodName)) rfl hown (mvT hZ (hwi hw 134 rfl)) (mvT hZ (hwi hw 135 rfl)) (mvT hZ (hwi hw 136 rfl)) (by decide) (backOf (W := 1) (rm_news_7 l Z a0 hw [] b1 a1 w_COMPACT_STRINGS t_a1 k_t_a1 vd (.int 0) .null h1 n0 Z2 A1 S_COMPACT_STRINGS hcs fc4 fc5 fc6 fc7 fc8 O2 F1_coder (Nat.le_trans Z0 bn_b1) F1_value) hZ (hwi hw 136 rfl) (hwi hw 3 rfl) (by decide) (by decide)) (g := (mkF m 5 #[.val (.ref a1)] [(.ref a1), (.ref b1), (.ref b1)])) rfl (by rw [hml]; rfl) (Steps.refl _) (a := b1) (argsL := [(.ref a1)]) (rest := [(.ref b1)]) (lenOf pd_Ljava_lang_StringBuilder__V_574 rfl) rfl (by show 2 * 0 + _ ≤ _; exact Nat.le_of_eq rfl) (hb hby d21_5) (fun _ _ => ⟨rfl, e1, (by decide : 1 + 1 ≤ _), (by decide : 4 + 7 ≤ _)⟩)
  dsimp only [Pt.U, Pt.locs, Pt.cells, Pt.slots] at X3 l3 y3 z3 st3 hQ3
  subst l3 y3 z3
  obtain ⟨t_3, kt_3, rfl, N3q, Kc3, g3_0, g3_1, g3_2, g3_3, g3_4⟩ := hQ3
  have N3 := Fr.app N0 N3q
  have sz9 : h1.size ≤ T3.heap.size := Kc3.1
  have Z9 : n0 ≤ T3.heap.size := Nat.le_trans Z2 sz9
  have O9 := O2.keep Kc3 (allS (Nat.le_trans Z0 bn_b1) all0)
  have K9 : Keep h0 T3.heap [] := K2.trans Kc3 (allS (Or.inr bn_b1) (all0))
  have bn_t_3 : h0.size ≤ t_3 := Nat.le_trans K2.1 g3_0
  obtain ⟨fs, hr, hrun, hended, hW, hsame⟩ := X3.leave (v := some (.ref b1)) (fun h => by rw [Bd.returns] at h; cases h)
  refine ⟨_, _, pre0 _ ?_, hrun, hended, _, _, rfl, ?_, ⟨_, rfl⟩, hW, hsame.mono (by decide) (by decide)⟩
  · show St p e below s₁ (mkF m 0 #[.val (.ref a1)] []) _
    refine st1 _ ?_
    refine XS.dup X1.here hx rfl (hb hby d21_3) rfl rfl ?_
    refine XS.aloadN X1.here hx rfl (hb hby d21_4) rfl rfl ?_
    refine st3.trans ?_
    show St p e below T3 (mkF m 8 #[.val (.ref a1)] [(.ref b1)]) _
    jvm_step X3.here [X3.here.top, hx, (hb hby d21_8), X3.method', Bd.returns, Value.isRef, FieldType.isReference]
    first | (intro acts; rw [hr _ acts rfl rfl rfl]) | rw [hr _ _ rfl rfl rfl]
    exact Steps.refl _
  · show Q_tostr_7 Z a1 w_COMPACT_STRINGS t_a1 k_t_a1 vd h0 n0 _ T3.heap _
    exact ⟨b1, t_3, kt_3, rfl, N3, K9, bn_b1, bn_t_3, g3_1, g3_2, g3_3, g3_4⟩
def Q_cklen_8 (Z : State)  (h0 : Heap) (n0 : Nat) (v : Option Value) (h : Heap) (L : List Loc) : Prop := v = none ∧ Fr n0 L ∧ h = h0
set_option maxRecDepth 65536 in
set_option maxHeartbeats 40000000 in
theorem rm_cklen_8 (l : Launch) (Z : State) (a0 : Array Value) (hw : ∀ d ∈ tables_1, d.before a0 Z = true) (ws : List Jvm.Cond)  (h0 : Heap) (n0 : Nat) (Z0 : n0 ≤ h0.size) :
    MetFree l (⟨"java/util/Arrays", "checkLength", "(II)V"⟩ : MethodName) (head1 (Jvm.Cond.code (⟨"java/util/Arrays", "checkLength", "(II)V"⟩ : MethodName) jdk_65_method_131_code 2 none :: ws) ({ frames := 0, cells := 0, slots := 0, locals := 0 } : Room)) (fun a U => a = #[(.int 0), (.int 8)] ∧ Z.Warmed39 U.vm ∧ U.heap = h0) (fun _ _ _ _ _ => True) (fun _ U o U' => ∃ v L, o = .returned v ∧ Q_cklen_8 Z  h0 n0 v U'.heap L ∧ FrameEnd U o U' L ({ frames := 0, cells := 0, slots := 0, locals := 0 } : Room).cells ({ frames := 0, cells := 0, slots := 0, locals := 0 } : Room).slots) := by
  refine MetFree.of_bodySF (plainFor_of_name pn_30) hisR ?_
  intro p e s m args below meth c s₁ Bd hml0 hP hK
  obtain ⟨rfl, hZ, hh⟩ := hP
  have hx := Bd.exec
  have hby := Bd.bytes
  have hml : c.maxLocals = 2 := hml0
  have hown : s.vm.findClass "java/util/Arrays" = some m.cls := findClass_of_methodNamed Bd.named
  have hnm := (name_of_methodNamed Bd.named Bd.method).1
  have X0 : Stand p l e ({ frames := 0, cells := 0, slots := 0, locals := 0 } : Room) s m #[(.int 0), (.int 8)] below meth c s₁ [] 0 0 := Stand.of_body Bd
  have e0 : s₁.heap = h0 := by rw [← hh, Bd.state]; rfl
  have N0 := Fr.nil n0
  have pre0 : ∀ t, Steps p.tables e below (s₁.setTop (mkF m 0 #[.val (.int 0), .val (.int 8)] [])) t → Steps p.tables e below (s₁.setTop (entryFrame m #[(.int 0), (.int 8)] 2)) t := fun t k => castTop (ef_30_II m (0 : Int32) (8 : Int32)) k
  obtain ⟨fs, hr, hrun, hended, hW, hsame⟩ := X0.leave (v := none) (fun _ => rfl)
  refine ⟨_, _, pre0 _ ?_, hrun, hended, _, _, rfl, ?_, ⟨_, rfl⟩, hW, hsame.mono (by decide) (by decide)⟩
  · show St p e below s₁ (mkF m 0 #[.val (.int 0), .val (.int 8)] []) _
    refine XS.iloadN X0.here hx rfl (hb hby d30_0) rfl ?_
    refine XS.iloadN X0.here hx rfl (hb hby d30_1) rfl ?_
    refine XS.icmpYes X0.here hx rfl (pc0 := 2) (pc' := 37) rfl (hb hby d30_2) rfl (flt (by decide : ¬ ((8 : Int32) < (0 : Int32)))).2.1 (by decide) (by decide) ?_
    show St p e below s₁ (mkF m 37 #[.val (.int 0), .val (.int 8)] []) _
    exact X0.returnOut hx Bd.returns (hb hby d30_37) hr
  · show Q_cklen_8 Z  h0 n0 _ s₁.heap _
    rw [e0]
    exact ⟨rfl, N0, rfl⟩
def Q_min_8 (Z : State)  (h0 : Heap) (n0 : Nat) (v : Option Value) (h : Heap) (L : List Loc) : Prop := v = some (.int 8) ∧ Fr n0 L ∧ h = h0
set_option maxRecDepth 65536 in
set_option maxHeartbeats 40000000 in
theorem rm_min_8 (l : Launch) (Z : State) (a0 : Array Value) (hw : ∀ d ∈ tables_1, d.before a0 Z = true) (ws : List Jvm.Cond)  (h0 : Heap) (n0 : Nat) (Z0 : n0 ≤ h0.size) :
    MetFree l (⟨"java/lang/Math", "min", "(II)I"⟩ : MethodName) (head1 (Jvm.Cond.code (⟨"java/lang/Math", "min", "(II)I"⟩ : MethodName) jdk_29_method_69_code 2 (some .int) :: ws) ({ frames := 0, cells := 0, slots := 0, locals := 0 } : Room)) (fun a U => a = #[(.int 16), (.int 8)] ∧ Z.Warmed39 U.vm ∧ U.heap = h0) (fun _ _ _ _ _ => True) (fun _ U o U' => ∃ v L, o = .returned v ∧ Q_min_8 Z  h0 n0 v U'.heap L ∧ FrameEnd U o U' L ({ frames := 0, cells := 0, slots := 0, locals := 0 } : Room).cells ({ frames := 0, cells := 0, slots := 0, locals := 0 } : Room).slots) := by
  refine MetFree.of_bodySF (Jvm.Free.JP.mathPlain rfl (by decide +kernel)) hisR ?_
  intro p e s m args below meth c s₁ Bd hml0 hP hK
  obtain ⟨rfl, hZ, hh⟩ := hP
  have hx := Bd.exec
  have hby := Bd.bytes
  have hml : c.maxLocals = 2 := hml0
  have hown : s.vm.findClass "java/lang/Math" = some m.cls := findClass_of_methodNamed Bd.named
  have hnm := (name_of_methodNamed Bd.named Bd.method).1
  have X0 : Stand p l e ({ frames := 0, cells := 0, slots := 0, locals := 0 } : Room) s m #[(.int 16), (.int 8)] below meth c s₁ [] 0 0 := Stand.of_body Bd
  have e0 : s₁.heap = h0 := by rw [← hh, Bd.state]; rfl
  have N0 := Fr.nil n0
  have pre0 : ∀ t, Steps p.tables e below (s₁.setTop (mkF m 0 #[.val (.int 16), .val (.int 8)] [])) t → Steps p.tables e below (s₁.setTop (entryFrame m #[(.int 16), (.int 8)] 2)) t := fun t k => castTop (ef_31_II m (16 : Int32) (8 : Int32)) k
  obtain ⟨fs, hr, hrun, hended, hW, hsame⟩ := X0.leave (v := some (.int 8)) (fun h => by rw [Bd.returns] at h; cases h)
  refine ⟨_, _, pre0 _ ?_, hrun, hended, _, _, rfl, ?_, ⟨_, rfl⟩, hW, hsame.mono (by decide) (by decide)⟩
  · show St p e below s₁ (mkF m 0 #[.val (.int 16), .val (.int 8)] []) _
    refine XS.iloadN X0.here hx rfl (hb hby d31_0) rfl ?_
    refine XS.iloadN X0.here hx rfl (hb hby d31_1) rfl ?_
    refine XS.icmpYes X0.here hx rfl (pc0 := 2) (pc' := 9) rfl (hb hby d31_2) rfl (tlt (by decide : (8 : Int32) < (16 : Int32))).2.2.1 (by decide) (by decide) ?_
    refine XS.iloadN X0.here hx rfl (hb hby d31_9) rfl ?_
    show St p e below s₁ (mkF m 10 #[.val (.int 16), .val (.int 8)] [(.int 8)]) _
    exact retI X0 hx Bd.returns (hb hby d31_10) hr
  · show Q_min_8 Z  h0 n0 _ s₁.heap _
    rw [e0]
    exact ⟨rfl, N0, rfl⟩
def Q_corb_8 (Z : State) (a1 : Addr) (k_a1 : ClassId) (vd : List Value) (h0 : Heap) (n0 : Nat) (v : Option Value) (h : Heap) (L : List Loc) : Prop := ∃ (r : Addr) (kr : ClassId), v = some (.ref r) ∧ Fr n0 L ∧ Keep h0 h [] ∧ h0.size ≤ r ∧ Arv Z h r kr .byte (8 : Int32) (own_ap [(.int 0), (.int 0), (.int 0), (.int 0), (.int 0), (.int 0), (.int 0), (.int 0)] vd (0 : Int32) (8 : Int32)) (.int 0)
set_option maxRecDepth 65536 in
set_option maxHeartbeats 40000000 in
theorem rm_corb_8 (l : Launch) (Z : State) (a0 : Array Value) (hw : ∀ d ∈ tables_1, d.before a0 Z = true) (ws : List Jvm.Cond) (a1 : Addr) (k_a1 : ClassId) (vd : List Value) (h0 : Heap) (n0 : Nat) (Z0 : n0 ≤ h0.size) (V_a1 : Arv Z h0 a1 k_a1 .byte (16 : Int32) vd (.int 0)) (O0 : Old Z n0 h0) :
    MetFree l (⟨"java/util/Arrays", "copyOfRangeByte", "([BII)[B"⟩ : MethodName) (head1 (Jvm.Cond.code (⟨"java/util/Arrays", "copyOfRangeByte", "([BII)[B"⟩ : MethodName) jdk_65_method_133_code 5 (some (.array .byte)) :: ws) ({ frames := 1, cells := 1, slots := 8, locals := 18 } : Room)) (fun a U => a = #[(.ref a1), (.int 0), (.int 8)] ∧ Z.Warmed39 U.vm ∧ U.heap = h0) (fun _ _ _ _ _ => True) (fun _ U o U' => ∃ v L, o = .returned v ∧ Q_corb_8 Z a1 k_a1 vd h0 n0 v U'.heap L ∧ FrameEnd U o U' L ({ frames := 1, cells := 1, slots := 8, locals := 18 } : Room).cells ({ frames := 1, cells := 1, slots := 8, locals := 18 } : Room).slots) := by
  refine MetFree.of_bodySF (plainFor_of_name pn_29) hisR ?_
  intro p e s m args below meth c s₁ Bd hml0 hP hK
  obtain ⟨rfl, hZ, hh⟩ := hP
  have hx := Bd.exec
  have hby := Bd.bytes
  have hml : c.maxLocals = 5 := hml0
  have hown : s.vm.findClass "java/util/Arrays" = some m.cls := findClass_of_methodNamed Bd.named
  have hnm := (name_of_methodNamed Bd.named Bd.method).1
  have X0 : Stand p l e ({ frames := 1, cells := 1, slots := 8, locals := 18 } : Room) s m #[(.ref a1), (.int 0), (.int 8)] below meth c s₁ [] 0 0 := Stand.of_body Bd
  have e0 : s₁.heap = h0 := by rw [← hh, Bd.state]; rfl
  have N0 := Fr.nil n0
  have pre0 : ∀ t, Steps p.tables e below (s₁.setTop (mkF m 0 #[.val (.ref a1), .val (.int 0), .val (.int 8), .unset, .unset] [])) t → Steps p.tables e below (s₁.setTop (entryFrame m #[(.ref a1), (.int 0), (.int 8)] 5)) t := fun t k => castTop (ef_29_RII m a1 (0 : Int32) (8 : Int32)) k
  obtain ⟨_, _, ⟨T1, L1, k1, n1⟩, -, X1, ⟨Lc1, hQ1, l1, y1, z1⟩, st1⟩ := Jvm.LawKit.callS X0 hx (y := (⟨"java/util/Arrays", "checkLength", "(II)V"⟩ : MethodName)) hown (mvT hZ (hwi hw 165 rfl)) (mvT hZ (hwi hw 166 rfl)) (mvT hZ (hwi hw 160 rfl)) (mvT hZ (hwi hw 167 rfl)) (by decide) (backOf (W := 0) (rm_cklen_8 l Z a0 hw []  h0 n0 Z0) hZ (hwi hw 167 rfl) (hwi hw 160 rfl) (by decide) (by decide)) (g := (mkF m 2 #[.val (.ref a1), .val (.int 0), .val (.int 8), .unset, .unset] [(.int 8), (.int 0)])) rfl (by rw [hml]; rfl) (argsL := [(.int 0), (.int 8)]) (rest := []) (lenOf pd_II_V_313 rfl) rfl (by show 2 * 0 + _ ≤ _; exact Nat.le_of_eq rfl) (hb hby d29_2) (fun _ _ => ⟨rfl, e0, (by decide : 0 + 0 ≤ _), (by decide : 0 + 0 ≤ _)⟩)
  dsimp only [Pt.U, Pt.locs, Pt.cells, Pt.slots] at X1 l1 y1 z1 st1 hQ1
  subst l1 y1 z1
  obtain ⟨rfl, N1q, e1⟩ := hQ1
  have N1 := Fr.app N0 N1q
  obtain ⟨T2, h2, k2, X2, e2, E2, A2, st2⟩ := newP X1 hx hZ (hwi hw 15 rfl) e1 (g := (mkF m 10 #[.val (.ref a1), .val (.int 0), .val (.int 8), .val (.int 8), .unset] [(.int 8)])) rfl (hb hby d29_10) rfl (by decide) (cap := 8) (by decide) (by decide) (by decide) (by decide)
  obtain ⟨b2, g2⟩ : ∃ z, z = h0.size := ⟨_, rfl⟩
  rw [← g2] at A2 st2
  have bn_b2 : h0.size ≤ b2 := Nat.le_of_eq g2.symm
  have sz3 : h0.size ≤ h2.size := E2.1
  have Z3 : n0 ≤ h2.size := Nat.le_trans Z0 sz3
  have O3 := O0.ext E2
  have K3 : Keep h0 h2 [] := (Keep.refl h0 []).ext E2
  have V2 : Arv Z h2 b2 k2 .byte (8 : Int32) [(.int 0), (.int 0), (.int 0), (.int 0), (.int 0), (.int 0), (.int 0), (.int 0)] (.int 0) := (Arv.new A2 (by decide)).pad (pad_rep [] (.int 0) 8)
  have fc4 := (V_a1.ext E2)
  obtain ⟨cl5, Ar5, -, S5, M5, -, -⟩ := id fc4
  obtain ⟨_, _, ⟨T6, L6, k6, n6⟩, -, X6, ⟨Lc6, hQ6, l6, y6, z6⟩, st6⟩ := Jvm.LawKit.callS X2 hx (y := (⟨"java/lang/Math", "min", "(II)I"⟩ : MethodName)) hown (mvT hZ (hwi hw 168 rfl)) (mvT hZ (hwi hw 169 rfl)) (mvT hZ (hwi hw 170 rfl)) (mvT hZ (hwi hw 171 rfl)) (by decide) (backOf (W := 4) (rm_min_8 l Z a0 hw []  h2 n0 Z3) hZ (hwi hw 171 rfl) (hwi hw 170 rfl) (by decide) (by decide)) (g := (mkF m 24 #[.val (.ref a1), .val (.int 0), .val (.int 8), .val (.int 8), .val (.ref b2)] [(.int 8), (.int 16), (.int 0), (.ref b2), (.int 0), (.ref a1)])) rfl (by rw [hml]; rfl) (argsL := [(.int 16), (.int 8)]) (rest := [(.int 0), (.ref b2), (.int 0), (.ref a1)]) (lenOf pd_II_I_300 rfl) rfl (by show 2 * 0 + _ ≤ _; exact Nat.le_of_eq rfl) (hb hby d29_24) (fun _ _ => ⟨rfl, e2, (by decide : 1 + 0 ≤ _), (by decide : 8 + 0 ≤ _)⟩)
  dsimp only [Pt.U, Pt.locs, Pt.cells, Pt.slots] at X6 l6 y6 z6 st6 hQ6
  subst l6 y6 z6
  obtain ⟨rfl, N6q, e6⟩ := hQ6
  have N6 := Fr.app N1 N6q
  obtain ⟨T7, h7, L7, X7, e7, N7, Kc7, V7, st7⟩ := cpA X6 hx hZ hown (hwi hw 172 rfl) (hwi hw 126 rfl) (hwi hw 124 rfl) (hwi hw 125 rfl) e6 fc4 V2 (sp := (0 : Int32)) (dp := (0 : Int32)) (nn := (8 : Int32)) (us := (List.range (8 : Int32).toNatClampNeg).map fun i => (vd : List Value).getD ((0 : Int32).toNatClampNeg + i) (.int 0)) (Or.inl ⟨rfl, rfl⟩) (by decide) (by decide) (by decide) (by decide) (by decide) rfl (Nat.le_of_ble_eq_true rfl) N6 (Nat.le_trans Z0 bn_b2) (g := (mkF m 27 #[.val (.ref a1), .val (.int 0), .val (.int 8), .val (.int 8), .val (.ref b2)] [(.int 8), (.int 0), (.ref b2), (.int 0), (.ref a1)])) rfl (by rw [hml]; rfl) rfl (hb hby d29_27) (by decide) (W := 0) (by show 2 * 0 + _ ≤ _; exact Nat.le_of_eq rfl) (by decide)
  have Vd7 : Arv Z h7 b2 k2 .byte (8 : Int32) (own_ap [(.int 0), (.int 0), (.int 0), (.int 0), (.int 0), (.int 0), (.int 0), (.int 0)] vd (0 : Int32) (8 : Int32)) (.int 0) := V7
  have sz8 : h2.size ≤ h7.size := Kc7.1
  have Z8 : n0 ≤ h7.size := Nat.le_trans Z3 sz8
  have O8 := O3.keep Kc7 (allS (Nat.le_trans Z0 bn_b2) all0)
  have K8 : Keep h0 h7 [] := K3.trans Kc7 (allS (Or.inr bn_b2) (all0))
  obtain ⟨fs, hr, hrun, hended, hW, hsame⟩ := X7.leave (v := some (.ref b2)) (fun h => by rw [Bd.returns] at h; cases h)
  refine ⟨_, _, pre0 _ ?_, hrun, hended, _, _, rfl, ?_, ⟨_, rfl⟩, hW, hsame.mono (by decide) (by decide)⟩
  · show St p e below s₁ (mkF m 0 #[.val (.ref a1), .val (.int 0), .val (.int 8), .unset, .unset] []) _
    refine XS.iloadN X0.here hx rfl (hb hby d29_0) rfl ?_
    refine XS.iloadN X0.here hx rfl (hb hby d29_1) rfl ?_
    refine st1 _ ?_
    refine XS.iloadN X1.here hx rfl (hb hby d29_5) rfl ?_
    show St p e below T1 (mkF m 6 #[.val (.ref a1), .val (.int 0), .val (.int 8), .unset, .unset] [(.int 8)]) _
    refine XS.iloadN X1.here hx rfl (hb hby d29_6) rfl ?_
    refine XS.isub X1.here hx rfl (hb hby d29_7) rfl ?_
    show St p e below T1 (mkF m 8 #[.val (.ref a1), .val (.int 0), .val (.int 8), .unset, .unset] [(.int ((8 : Int32) - (0 : Int32)))]) _
    rw [(by decide : ((8 : Int32) - (0 : Int32)) = (8 : Int32))]
    show St p e below T1 (mkF m 8 #[.val (.ref a1), .val (.int 0), .val (.int 8), .unset, .unset] [(.int 8)]) _
    refine XS.istoreN X1.here hx rfl (hb hby d29_8) rfl (l' := #[.val (.ref a1), .val (.int 0), .val (.int 8), .val (.int 8), .unset]) rfl ?_
    refine XS.iloadN X1.here hx rfl (hb hby d29_9) rfl ?_
    refine st2 _ ?_
    refine XS.astore X2.here hx rfl (hb hby d29_12) rfl rfl (l' := #[.val (.ref a1), .val (.int 0), .val (.int 8), .val (.int 8), .val (.ref b2)]) rfl ?_
    show St p e below T2 (mkF m 14 #[.val (.ref a1), .val (.int 0), .val (.int 8), .val (.int 8), .val (.ref b2)] []) _
    refine XS.aloadN X2.here hx rfl (hb hby d29_14) rfl rfl ?_
    refine XS.iloadN X2.here hx rfl (hb hby d29_15) rfl ?_
    refine XS.aload X2.here hx rfl (hb hby d29_16) rfl rfl ?_
    refine XS.iconst X2.here hx rfl (hb hby d29_18) ?_
    show St p e below T2 (mkF m 19 #[.val (.ref a1), .val (.int 0), .val (.int 8), .val (.int 8), .val (.ref b2)] [(.int 0), (.ref b2), (.int 0), (.ref a1)]) _
    refine XS.aloadN X2.here hx rfl (hb hby d29_19) rfl rfl ?_
    refine X2.arraylength hx (by rw [e2]; exact Ar5.1) (State.isArrayOf_alike hZ.alike Ar5.2.1) (g := (mkF m 20 #[.val (.ref a1), .val (.int 0), .val (.int 8), .val (.int 8), .val (.ref b2)] [(.ref a1), (.int 0), (.ref b2), (.int 0), (.ref a1)])) rfl rfl (hb hby d29_20) _ ?_
    rw [len_of S5 M5]
    show St p e below T2 (mkF m 21 #[.val (.ref a1), .val (.int 0), .val (.int 8), .val (.int 8), .val (.ref b2)] [(.int 16), (.int 0), (.ref b2), (.int 0), (.ref a1)]) _
    refine XS.iloadN X2.here hx rfl (hb hby d29_21) rfl ?_
    refine XS.isub X2.here hx rfl (hb hby d29_22) rfl ?_
    show St p e below T2 (mkF m 23 #[.val (.ref a1), .val (.int 0), .val (.int 8), .val (.int 8), .val (.ref b2)] [(.int ((16 : Int32) - (0 : Int32))), (.int 0), (.ref b2), (.int 0), (.ref a1)]) _
    rw [(by decide : ((16 : Int32) - (0 : Int32)) = (16 : Int32))]
    show St p e below T2 (mkF m 23 #[.val (.ref a1), .val (.int 0), .val (.int 8), .val (.int 8), .val (.ref b2)] [(.int 16), (.int 0), (.ref b2), (.int 0), (.ref a1)]) _
    refine XS.iloadN X2.here hx rfl (hb hby d29_23) rfl ?_
    refine st6 _ ?_
    refine st7 _ ?_
    refine XS.aload X7.here hx rfl (hb hby d29_30) rfl rfl ?_
    show St p e below T7 (mkF m 32 #[.val (.ref a1), .val (.int 0), .val (.int 8), .val (.int 8), .val (.ref b2)] [(.ref b2)]) _
    jvm_step X7.here [X7.here.top, hx, (hb hby d29_32), X7.method', Bd.returns, Value.isRef, FieldType.isReference]
    first | (intro acts; rw [hr _ acts rfl rfl rfl]) | rw [hr _ _ rfl rfl rfl]
    exact Steps.refl _
  · show Q_corb_8 Z a1 k_a1 vd h0 n0 _ T7.heap _
    rw [e7]
    exact ⟨b2, k2, rfl, N7, K8, bn_b2, Vd7⟩
def Q_cor_8 (Z : State) (a1 : Addr) (k_a1 : ClassId) (vd : List Value) (h0 : Heap) (n0 : Nat) (v : Option Value) (h : Heap) (L : List Loc) : Prop := ∃ (r : Addr) (kr : ClassId), v = some (.ref r) ∧ Fr n0 L ∧ Keep h0 h [] ∧ h0.size ≤ r ∧ Arv Z h r kr .byte (8 : Int32) (own_ap [(.int 0), (.int 0), (.int 0), (.int 0), (.int 0), (.int 0), (.int 0), (.int 0)] vd (0 : Int32) (8 : Int32)) (.int 0)
set_option maxRecDepth 65536 in
set_option maxHeartbeats 40000000 in
theorem rm_cor_8 (l : Launch) (Z : State) (a0 : Array Value) (hw : ∀ d ∈ tables_1, d.before a0 Z = true) (ws : List Jvm.Cond) (a1 : Addr) (k_a1 : ClassId) (vd : List Value) (h0 : Heap) (n0 : Nat) (Z0 : n0 ≤ h0.size) (V_a1 : Arv Z h0 a1 k_a1 .byte (16 : Int32) vd (.int 0)) (O0 : Old Z n0 h0) :
    MetFree l (⟨"java/util/Arrays", "copyOfRange", "([BII)[B"⟩ : MethodName) (head1 (Jvm.Cond.code (⟨"java/util/Arrays", "copyOfRange", "([BII)[B"⟩ : MethodName) jdk_65_method_132_code 3 (some (.array .byte)) :: ws) ({ frames := 2, cells := 1, slots := 8, locals := 34 } : Room)) (fun a U => a = #[(.ref a1), (.int 0), (.int 8)] ∧ Z.Warmed39 U.vm ∧ U.heap = h0) (fun _ _ _ _ _ => True) (fun _ U o U' => ∃ v L, o = .returned v ∧ Q_cor_8 Z a1 k_a1 vd h0 n0 v U'.heap L ∧ FrameEnd U o U' L ({ frames := 2, cells := 1, slots := 8, locals := 34 } : Room).cells ({ frames := 2, cells := 1, slots := 8, locals := 34 } : Room).slots) := by
  refine MetFree.of_bodySF (plainFor_of_name pn_28) hisR ?_
  intro p e s m args below meth c s₁ Bd hml0 hP hK
  obtain ⟨rfl, hZ, hh⟩ := hP
  have hx := Bd.exec
  have hby := Bd.bytes
  have hml : c.maxLocals = 3 := hml0
  have hown : s.vm.findClass "java/util/Arrays" = some m.cls := findClass_of_methodNamed Bd.named
  have hnm := (name_of_methodNamed Bd.named Bd.method).1
  have X0 : Stand p l e ({ frames := 2, cells := 1, slots := 8, locals := 34 } : Room) s m #[(.ref a1), (.int 0), (.int 8)] below meth c s₁ [] 0 0 := Stand.of_body Bd
  have e0 : s₁.heap = h0 := by rw [← hh, Bd.state]; rfl
  have N0 := Fr.nil n0
  have pre0 : ∀ t, Steps p.tables e below (s₁.setTop (mkF m 0 #[.val (.ref a1), .val (.int 0), .val (.int 8)] [])) t → Steps p.tables e below (s₁.setTop (entryFrame m #[(.ref a1), (.int 0), (.int 8)] 3)) t := fun t k => castTop (ef_28_RII m a1 (0 : Int32) (8 : Int32)) k
  obtain ⟨cl1, Ar1, -, S1, M1, -, -⟩ := id V_a1
  obtain ⟨_, _, ⟨T2, L2, k2, n2⟩, -, X2, ⟨Lc2, hQ2, l2, y2, z2⟩, st2⟩ := Jvm.LawKit.callS X0 hx (y := (⟨"java/util/Arrays", "copyOfRangeByte", "([BII)[B"⟩ : MethodName)) hown (mvT hZ (hwi hw 162 rfl)) (mvT hZ (hwi hw 163 rfl)) (mvT hZ (hwi hw 160 rfl)) (mvT hZ (hwi hw 164 rfl)) (by decide) (backOf (W := 0) (rm_corb_8 l Z a0 hw [] a1 k_a1 vd h0 n0 Z0 V_a1 O0) hZ (hwi hw 164 rfl) (hwi hw 160 rfl) (by decide) (by decide)) (g := (mkF m 13 #[.val (.ref a1), .val (.int 0), .val (.int 8)] [(.int 8), (.int 0), (.ref a1)])) rfl (by rw [hml]; rfl) (argsL := [(.ref a1), (.int 0), (.int 8)]) (rest := []) (lenOf pd_BII__B_541 rfl) rfl (by show 2 * 0 + _ ≤ _; exact Nat.le_of_eq rfl) (hb hby d28_13) (fun _ _ => ⟨rfl, e0, (by decide : 0 + 1 ≤ _), (by decide : 0 + 8 ≤ _)⟩)
  dsimp only [Pt.U, Pt.locs, Pt.cells, Pt.slots] at X2 l2 y2 z2 st2 hQ2
  subst l2 y2 z2
  obtain ⟨r_2, kr_2, rfl, N2q, Kc2, g2_0, g2_1⟩ := hQ2
  have N2 := Fr.app N0 N2q
  have sz3 : h0.size ≤ T2.heap.size := Kc2.1
  have Z3 : n0 ≤ T2.heap.size := Nat.le_trans Z0 sz3
  have O3 := O0.keep Kc2 all0
  have K3 : Keep h0 T2.heap [] := (Keep.refl h0 []).trans Kc2 (all0)
  have bn_r_2 : h0.size ≤ r_2 := g2_0
  obtain ⟨fs, hr, hrun, hended, hW, hsame⟩ := X2.leave (v := some (.ref r_2)) (fun h => by rw [Bd.returns] at h; cases h)
  refine ⟨_, _, pre0 _ ?_, hrun, hended, _, _, rfl, ?_, ⟨_, rfl⟩, hW, hsame.mono (by decide) (by decide)⟩
  · show St p e below s₁ (mkF m 0 #[.val (.ref a1), .val (.int 0), .val (.int 8)] []) _
    refine XS.iloadN X0.here hx rfl (hb hby d28_0) rfl ?_
    refine XS.ifNo X0.here hx rfl (hb hby d28_1) rfl ((if0 _ _).trans (teq (by decide : (0 : Int32) = (0 : Int32))).2) ?_
    refine XS.iloadN X0.here hx rfl (hb hby d28_4) rfl ?_
    refine XS.aloadN X0.here hx rfl (hb hby d28_5) rfl rfl ?_
    show St p e below s₁ (mkF m 6 #[.val (.ref a1), .val (.int 0), .val (.int 8)] [(.ref a1), (.int 8)]) _
    refine X0.arraylength hx (by rw [e0]; exact Ar1.1) (State.isArrayOf_alike hZ.alike Ar1.2.1) (g := (mkF m 6 #[.val (.ref a1), .val (.int 0), .val (.int 8)] [(.ref a1), (.int 8)])) rfl rfl (hb hby d28_6) _ ?_
    rw [len_of S1 M1]
    show St p e below s₁ (mkF m 7 #[.val (.ref a1), .val (.int 0), .val (.int 8)] [(.int 16), (.int 8)]) _
    refine XS.icmpNo X0.here hx rfl (hb hby d28_7) rfl (feq (by decide : ¬ ((8 : Int32) = (16 : Int32)))).1 ?_
    refine XS.aloadN X0.here hx rfl (hb hby d28_10) rfl rfl ?_
    refine XS.iloadN X0.here hx rfl (hb hby d28_11) rfl ?_
    refine XS.iloadN X0.here hx rfl (hb hby d28_12) rfl ?_
    show St p e below s₁ (mkF m 13 #[.val (.ref a1), .val (.int 0), .val (.int 8)] [(.int 8), (.int 0), (.ref a1)]) _
    refine st2 _ ?_
    show St p e below T2 (mkF m 16 #[.val (.ref a1), .val (.int 0), .val (.int 8)] [(.ref r_2)]) _
    jvm_step X2.here [X2.here.top, hx, (hb hby d28_16), X2.method', Bd.returns, Value.isRef, FieldType.isReference]
    first | (intro acts; rw [hr _ acts rfl rfl rfl]) | rw [hr _ _ rfl rfl rfl]
    exact Steps.refl _
  · show Q_cor_8 Z a1 k_a1 vd h0 n0 _ T2.heap _
    exact ⟨r_2, kr_2, rfl, N2, K3, bn_r_2, g2_1⟩
def Q_new2_8 (Z : State) (a1 : Addr) (a2 : Addr) (w_COMPACT_STRINGS : Int32) (t_a2 : Addr) (k_t_a2 : ClassId) (vd : List Value) (u_a1_coder : Value) (u_a1_value : Value) (h0 : Heap) (n0 : Nat) (v : Option Value) (h : Heap) (L : List Loc) : Prop := ∃ (t : Addr) (kt : ClassId), v = none ∧ Fr n0 L ∧ Keep h0 h [a1] ∧ h0.size ≤ t ∧ Exa Z h a1 "java/lang/String" ∧ Fld Z h a1 "java/lang/String" "coder" "B" (.int 0) ∧ Fld Z h a1 "java/lang/String" "value" "[B" (.ref t) ∧ Arv Z h t kt .byte (8 : Int32) (own_ap [(.int 0), (.int 0), (.int 0), (.int 0), (.int 0), (.int 0), (.int 0), (.int 0)] vd (0 : Int32) (8 : Int32)) (.int 0)
set_option maxRecDepth 65536 in
set_option maxHeartbeats 40000000 in
theorem rm_new2_8 (l : Launch) (Z : State) (a0 : Array Value) (hw : ∀ d ∈ tables_1, d.before a0 Z = true) (ws : List Jvm.Cond) (a1 : Addr) (a2 : Addr) (w_COMPACT_STRINGS : Int32) (t_a2 : Addr) (k_t_a2 : ClassId) (vd : List Value) (u_a1_coder : Value) (u_a1_value : Value) (h0 : Heap) (n0 : Nat) (Z0 : n0 ≤ h0.size) (E_a1 : Exa Z h0 a1 "java/lang/String") (S_COMPACT_STRINGS : Sta Z Z.heap "java/lang/String" "COMPACT_STRINGS" "Z" (.int w_COMPACT_STRINGS)) (hcs : ¬ (w_COMPACT_STRINGS = (0 : Int32))) (E_a2 : Exa Z h0 a2 "java/lang/StringBuilder") (F_a2_coder : Fld Z h0 a2 "java/lang/AbstractStringBuilder" "coder" "B" (.int 0)) (F_a2_value : Fld Z h0 a2 "java/lang/AbstractStringBuilder" "value" "[B" (.ref t_a2)) (V_t_a2 : Arv Z h0 t_a2 k_t_a2 .byte (16 : Int32) vd (.int 0)) (F_a2_count : Fld Z h0 a2 "java/lang/AbstractStringBuilder" "count" "I" (.int 8)) (O0 : Old Z n0 h0) (F_a1_coder : Fld Z h0 a1 "java/lang/String" "coder" "B" u_a1_coder) (g_a1 : n0 ≤ a1) (F_a1_value : Fld Z h0 a1 "java/lang/String" "value" "[B" u_a1_value) :
    MetFree l (⟨"java/lang/String", "<init>", "(Ljava/lang/AbstractStringBuilder;Ljava/lang/Void;)V"⟩ : MethodName) (head1 (Jvm.Cond.code (⟨"java/lang/String", "<init>", "(Ljava/lang/AbstractStringBuilder;Ljava/lang/Void;)V"⟩ : MethodName) jdk_42_method_150_code 5 none :: ws) ({ frames := 3, cells := 1, slots := 8, locals := 49 } : Room)) (fun a U => a = #[(.ref a1), (.ref a2), .null] ∧ Z.Warmed39 U.vm ∧ U.heap = h0) (fun _ _ _ _ _ => True) (fun _ U o U' => ∃ v L, o = .returned v ∧ Q_new2_8 Z a1 a2 w_COMPACT_STRINGS t_a2 k_t_a2 vd u_a1_coder u_a1_value h0 n0 v U'.heap L ∧ FrameEnd U o U' L ({ frames := 3, cells := 1, slots := 8, locals := 49 } : Room).cells ({ frames := 3, cells := 1, slots := 8, locals := 49 } : Room).slots) := by
  refine MetFree.of_bodySF (plainFor_of_name pn_23) hisR ?_
  intro p e s m args below meth c s₁ Bd hml0 hP hK
  obtain ⟨rfl, hZ, hh⟩ := hP
  have hx := Bd.exec
  have hby := Bd.bytes
  have hml : c.maxLocals = 5 := hml0
  have hown : s.vm.findClass "java/lang/String" = some m.cls := findClass_of_methodNamed Bd.named
  have hnm := (name_of_methodNamed Bd.named Bd.method).1
  have X0 : Stand p l e ({ frames := 3, cells := 1, slots := 8, locals := 49 } : Room) s m #[(.ref a1), (.ref a2), .null] below meth c s₁ [] 0 0 := Stand.of_body Bd
  have e0 : s₁.heap = h0 := by rw [← hh, Bd.state]; rfl
  have N0 := Fr.nil n0
  have pre0 : ∀ t, Steps p.tables e below (s₁.setTop (mkF m 0 #[.val (.ref a1), .val (.ref a2), .val .null, .unset, .unset] [])) t → Steps p.tables e below (s₁.setTop (entryFrame m #[(.ref a1), (.ref a2), .null] 5)) t := fun t k => castTop (ef_23_RRn m a1 a2) k
  obtain ⟨T1, X1, e1, st1⟩ := initO X0 hx hZ hown (hwi hw 11 rfl) (hwi hw 12 rfl) (hwi hw 13 rfl) e0 (g := (mkF m 1 #[.val (.ref a1), .val (.ref a2), .val .null, .unset, .unset] [(.ref a1)])) rfl (by rw [hml]; rfl) rfl (hb hby d23_1) (by decide) (W := 0) (by show 2 * 0 + _ ≤ _; exact Nat.le_of_eq rfl) (by decide)
  obtain ⟨cq2, kq2, q2a, q2b, q2c⟩ := isOf hZ e1 E_a2
  obtain ⟨_, _, ⟨T2, L2, k2, n2⟩, -, X2, ⟨Lc2, hQ2, l2, y2, z2⟩, st2⟩ := X1.virtualBack hx (y := (⟨"java/lang/AbstractStringBuilder", "getValue", "()[B"⟩ : MethodName)) (z := (⟨"java/lang/AbstractStringBuilder", "getValue", "()[B"⟩ : MethodName)) hown (mvT hZ (hwi hw 140 rfl)) (mvT hZ (hwi hw 141 rfl)) (notFace_of_selects (args := #[]) (mvT hZ (hwi hw 143 rfl))) (mvT hZ (hwi hw 143 rfl)) (mvT hZ (hwi hw 142 rfl)) (by decide) (backOf (W := 0) (rm_getval l Z a0 hw [] a2 t_a2 h0 n0 Z0 F_a2_value) hZ (hwi hw 144 rfl) (hwi hw 70 rfl) (by decide) (by decide)) q2a q2c (g := (mkF m 5 #[.val (.ref a1), .val (.ref a2), .val .null, .unset, .unset] [(.ref a2)])) rfl (by rw [hml]; rfl) (Steps.refl _) (argsL := []) (rest := []) (lenOf pd_B_238 rfl) rfl (by show 2 * 0 + _ ≤ _; exact Nat.le_of_eq rfl) (hb hby d23_5) (fun _ _ => ⟨rfl, e1, (by decide : 0 + 0 ≤ _), (by decide : 0 + 0 ≤ _)⟩)
  dsimp only [Pt.U, Pt.locs, Pt.cells, Pt.slots] at X2 l2 y2 z2 st2 hQ2
  subst l2 y2 z2
  obtain ⟨rfl, N2q, e2⟩ := hQ2
  have N2 := Fr.app N0 N2q
  obtain ⟨cq3, kq3, q3a, q3b, q3c⟩ := isOf hZ e2 E_a2
  obtain ⟨_, _, ⟨T3, L3, k3, n3⟩, -, X3, ⟨Lc3, hQ3, l3, y3, z3⟩, st3⟩ := X2.virtualBack hx (y := (⟨"java/lang/AbstractStringBuilder", "length", "()I"⟩ : MethodName)) (z := (⟨"java/lang/StringBuilder", "length", "()I"⟩ : MethodName)) hown (mvT hZ (hwi hw 145 rfl)) (mvT hZ (hwi hw 146 rfl)) (own_nf (mvT hZ (hwi hw 105 rfl) (args := #[])) rfl) (mvT hZ (hwi hw 148 rfl)) (mvT hZ (hwi hw 149 rfl)) (by decide) (backOf (W := 0) (rm_sblen l Z a0 hw [] a2 (8 : Int32) h0 n0 Z0 E_a2 F_a2_count) hZ (hwi hw 150 rfl) (hwi hw 62 rfl) (by decide) (by decide)) q3a q3c (g := (mkF m 10 #[.val (.ref a1), .val (.ref a2), .val .null, .val (.ref t_a2), .unset] [(.ref a2)])) rfl (by rw [hml]; rfl) (Steps.refl _) (argsL := []) (rest := []) (lenOf pd_I_154 rfl) rfl (by show 2 * 0 + _ ≤ _; exact Nat.le_of_eq rfl) (hb hby d23_10) (fun _ _ => ⟨rfl, e2, (by decide : 0 + 0 ≤ _), (by decide : 0 + 0 ≤ _)⟩)
  dsimp only [Pt.U, Pt.locs, Pt.cells, Pt.slots] at X3 l3 y3 z3 st3 hQ3
  subst l3 y3 z3
  obtain ⟨rfl, N3q, e3⟩ := hQ3
  have N3 := Fr.app N2 N3q
  obtain ⟨cq4, kq4, q4a, q4b, q4c⟩ := isOf hZ e3 E_a2
  obtain ⟨_, _, ⟨T4, L4, k4, n4⟩, -, X4, ⟨Lc4, hQ4, l4, y4, z4⟩, st4⟩ := X3.virtualBack hx (y := (⟨"java/lang/AbstractStringBuilder", "isLatin1", "()Z"⟩ : MethodName)) (z := (⟨"java/lang/AbstractStringBuilder", "isLatin1", "()Z"⟩ : MethodName)) hown (mvT hZ (hwi hw 153 rfl)) (mvT hZ (hwi hw 154 rfl)) (notFace_of_selects (args := #[]) (mvT hZ (hwi hw 156 rfl))) (mvT hZ (hwi hw 156 rfl)) (mvT hZ (hwi hw 155 rfl)) (by decide) (backOf (W := 0) (rm_ablat l Z a0 hw [] a2 w_COMPACT_STRINGS h0 n0 Z0 S_COMPACT_STRINGS hcs F_a2_coder O0) hZ (hwi hw 157 rfl) (hwi hw 70 rfl) (by decide) (by decide)) q4a q4c (g := (mkF m 16 #[.val (.ref a1), .val (.ref a2), .val .null, .val (.ref t_a2), .val (.int 8)] [(.ref a2)])) rfl (by rw [hml]; rfl) (Steps.refl _) (argsL := []) (rest := []) (lenOf pd_Z_171 rfl) rfl (by show 2 * 0 + _ ≤ _; exact Nat.le_of_eq rfl) (hb hby d23_16) (fun _ _ => ⟨rfl, e3, (by decide : 0 + 0 ≤ _), (by decide : 0 + 0 ≤ _)⟩)
  dsimp only [Pt.U, Pt.locs, Pt.cells, Pt.slots] at X4 l4 y4 z4 st4 hQ4
  subst l4 y4 z4
  obtain ⟨rfl, N4q, e4⟩ := hQ4
  have N4 := Fr.app N3 N4q
  obtain ⟨T5, h5, X5, e5, W5, st5⟩ := putFN X4 hx hZ hown (hwi hw 21 rfl) Via.refl e4 F_a1_coder E_a1 (Or.inr ⟨(hwi hw 17 rfl), rfl, hnm⟩) (hwi hw 2 rfl) (ty := .byte) (v' := (.int 0)) (by decide) rfl (by decide) (g := (mkF m 24 #[.val (.ref a1), .val (.ref a2), .val .null, .val (.ref t_a2), .val (.int 8)] [(.int 0), (.ref a1)])) rfl rfl (hb hby d23_24)
  have N5 := Fr.snoc X5 N4 g_a1
  have Fw5 := F_a1_coder.same W5
  have sz6 : h0.size ≤ h5.size := Nat.le_of_eq W5.size.symm
  have Z6 : n0 ≤ h5.size := Nat.le_trans Z0 sz6
  have O6 := O0.wr W5 g_a1
  have K6 : Keep h0 h5 [a1] := (Keep.refl h0 [a1]).wr W5 (Or.inl (List.mem_of_getElem? (i := 0) rfl))
  have fc8 := (V_t_a2.other W5 (Ne.symm (Exa.neArv E_a1 V_t_a2 (hwi hw 2 rfl))))
  obtain ⟨_, _, ⟨T7, L7, k7, n7⟩, -, X7, ⟨Lc7, hQ7, l7, y7, z7⟩, st7⟩ := Jvm.LawKit.callS X5 hx (y := (⟨"java/util/Arrays", "copyOfRange", "([BII)[B"⟩ : MethodName)) hown (mvT hZ (hwi hw 158 rfl)) (mvT hZ (hwi hw 159 rfl)) (mvT hZ (hwi hw 160 rfl)) (mvT hZ (hwi hw 161 rfl)) (by decide) (backOf (W := 1) (rm_cor_8 l Z a0 hw [] t_a2 k_t_a2 vd h5 n0 Z6 fc8 O6) hZ (hwi hw 161 rfl) (hwi hw 160 rfl) (by decide) (by decide)) (g := (mkF m 32 #[.val (.ref a1), .val (.ref a2), .val .null, .val (.ref t_a2), .val (.int 8)] [(.int 8), (.int 0), (.ref t_a2), (.ref a1)])) rfl (by rw [hml]; rfl) (argsL := [(.ref t_a2), (.int 0), (.int 8)]) (rest := [(.ref a1)]) (lenOf pd_BII__B_541 rfl) rfl (by show 2 * 0 + _ ≤ _; exact Nat.le_of_eq rfl) (hb hby d23_32) (fun _ _ => ⟨rfl, e5, (by decide : 0 + 1 ≤ _), (by decide : 0 + 8 ≤ _)⟩)
  dsimp only [Pt.U, Pt.locs, Pt.cells, Pt.slots] at X7 l7 y7 z7 st7 hQ7
  subst l7 y7 z7
  obtain ⟨r_7, kr_7, rfl, N7q, Kc7, g7_0, g7_1⟩ := hQ7
  have N7 := Fr.app N5 N7q
  have sz9 : h5.size ≤ T7.heap.size := Kc7.1
  have Z9 : n0 ≤ T7.heap.size := Nat.le_trans Z6 sz9
  have O9 := O6.keep Kc7 all0
  have K9 : Keep h0 T7.heap [a1] := K6.trans Kc7 (all0)
  have bn_r_7 : h0.size ≤ r_7 := Nat.le_trans K6.1 g7_0
  have fc10 := ((E_a1.wr W5).keep Kc7)
  have fc11 := ((F_a1_value.other W5 (Or.inr (slot_ne (Or.inr (hwi hw 16 rfl)) (Or.inr (hwi hw 17 rfl)) (by decide) (t := (.array .byte)) (t' := .byte) (by decide) (by decide)))).keep Kc7 nin0)
  obtain ⟨T12, h12, X12, e12, W12, st12⟩ := putF X7 hx hZ hown (host := "") (Or.inl (hwi hw 20 rfl)) Via.refl rfl fc11 fc10 (Or.inr ⟨(hwi hw 16 rfl), rfl, hnm⟩) (hwi hw 2 rfl) (ty := (.array .byte)) (by decide) rfl rfl (g := (mkF m 35 #[.val (.ref a1), .val (.ref a2), .val .null, .val (.ref t_a2), .val (.int 8)] [(.ref r_7), (.ref a1)])) rfl rfl (hb hby d23_35)
  have N12 := Fr.snoc X12 N7 g_a1
  have Fw12 := fc11.same W12
  have sz13 : T7.heap.size ≤ h12.size := Nat.le_of_eq W12.size.symm
  have Z13 : n0 ≤ h12.size := Nat.le_trans Z9 sz13
  have O13 := O9.wr W12 g_a1
  have K13 : Keep h0 h12 [a1] := K9.wr W12 (Or.inl (List.mem_of_getElem? (i := 0) rfl))
  have fc14 := (fc10.wr W12)
  have fc15 := ((Fw5.keep Kc7 nin0).other W12 (Or.inr (slot_ne (Or.inr (hwi hw 17 rfl)) (Or.inr (hwi hw 16 rfl)) (by decide) (t := .byte) (t' := (.array .byte)) (by decide) (by decide))))
  have fc16 := (g7_1.other W12 (neN (by have := ltN E_a1.lt; have := ltN g7_1.lt; omega)))
  obtain ⟨fs, hr, hrun, hended, hW, hsame⟩ := X12.leave (v := none) (fun _ => rfl)
  refine ⟨_, _, pre0 _ ?_, hrun, hended, _, _, rfl, ?_, ⟨_, rfl⟩, hW, hsame.mono (by decide) (by decide)⟩
  · show St p e below s₁ (mkF m 0 #[.val (.ref a1), .val (.ref a2), .val .null, .unset, .unset] []) _
    refine XS.aloadN X0.here hx rfl (hb hby d23_0) rfl rfl ?_
    refine st1 _ ?_
    refine XS.aloadN X1.here hx rfl (hb hby d23_4) rfl rfl ?_
    refine st2.trans ?_
    show St p e below T2 (mkF m 8 #[.val (.ref a1), .val (.ref a2), .val .null, .unset, .unset] [(.ref t_a2)]) _
    refine XS.astoreN X2.here hx rfl (hb hby d23_8) rfl rfl (l' := #[.val (.ref a1), .val (.ref a2), .val .null, .val (.ref t_a2), .unset]) rfl ?_
    refine XS.aloadN X2.here hx rfl (hb hby d23_9) rfl rfl ?_
    refine st3.trans ?_
    refine XS.istore X3.here hx rfl (hb hby d23_13) rfl (l' := #[.val (.ref a1), .val (.ref a2), .val .null, .val (.ref t_a2), .val (.int 8)]) rfl ?_
    show St p e below T3 (mkF m 15 #[.val (.ref a1), .val (.ref a2), .val .null, .val (.ref t_a2), .val (.int 8)] []) _
    refine XS.aloadN X3.here hx rfl (hb hby d23_15) rfl rfl ?_
    refine st4.trans ?_
    refine XS.ifNo X4.here hx rfl (hb hby d23_19) rfl ((if0 _ _).trans (feq (by decide : ¬ ((1 : Int32) = (0 : Int32)))).1) ?_
    refine XS.aloadN X4.here hx rfl (hb hby d23_22) rfl rfl ?_
    show St p e below T4 (mkF m 23 #[.val (.ref a1), .val (.ref a2), .val .null, .val (.ref t_a2), .val (.int 8)] [(.ref a1)]) _
    refine XS.iconst X4.here hx rfl (hb hby d23_23) ?_
    refine st5 _ ?_
    refine XS.aloadN X5.here hx rfl (hb hby d23_27) rfl rfl ?_
    refine XS.aloadN X5.here hx rfl (hb hby d23_28) rfl rfl ?_
    show St p e below T5 (mkF m 29 #[.val (.ref a1), .val (.ref a2), .val .null, .val (.ref t_a2), .val (.int 8)] [(.ref t_a2), (.ref a1)]) _
    refine XS.iconst X5.here hx rfl (hb hby d23_29) ?_
    refine XS.iload X5.here hx rfl (hb hby d23_30) rfl ?_
    refine st7 _ ?_
    refine st12 _ ?_
    show St p e below T12 (mkF m 38 #[.val (.ref a1), .val (.ref a2), .val .null, .val (.ref t_a2), .val (.int 8)] []) _
    refine XS.goto X12.here hx rfl (pc0 := 38) (pc' := 97) rfl (hb hby d23_38) (by decide) (by decide) ?_
    show St p e below T12 (mkF m 97 #[.val (.ref a1), .val (.ref a2), .val .null, .val (.ref t_a2), .val (.int 8)] []) _
    exact X12.returnOut hx Bd.returns (hb hby d23_97) hr
  · show Q_new2_8 Z a1 a2 w_COMPACT_STRINGS t_a2 k_t_a2 vd u_a1_coder u_a1_value h0 n0 _ T12.heap _
    rw [e12]
    exact ⟨r_7, kr_7, rfl, N12, K13, bn_r_7, fc14, fc15, Fw12, fc16⟩
def Q_news_8 (Z : State) (a1 : Addr) (a2 : Addr) (w_COMPACT_STRINGS : Int32) (t_a2 : Addr) (k_t_a2 : ClassId) (vd : List Value) (u_a1_coder : Value) (u_a1_value : Value) (h0 : Heap) (n0 : Nat) (v : Option Value) (h : Heap) (L : List Loc) : Prop := ∃ (t : Addr) (kt : ClassId), v = none ∧ Fr n0 L ∧ Keep h0 h [a1] ∧ h0.size ≤ t ∧ Exa Z h a1 "java/lang/String" ∧ Fld Z h a1 "java/lang/String" "coder" "B" (.int 0) ∧ Fld Z h a1 "java/lang/String" "value" "[B" (.ref t) ∧ Arv Z h t kt .byte (8 : Int32) (own_ap [(.int 0), (.int 0), (.int 0), (.int 0), (.int 0), (.int 0), (.int 0), (.int 0)] vd (0 : Int32) (8 : Int32)) (.int 0)
set_option maxRecDepth 65536 in
set_option maxHeartbeats 40000000 in
theorem rm_news_8 (l : Launch) (Z : State) (a0 : Array Value) (hw : ∀ d ∈ tables_1, d.before a0 Z = true) (ws : List Jvm.Cond) (a1 : Addr) (a2 : Addr) (w_COMPACT_STRINGS : Int32) (t_a2 : Addr) (k_t_a2 : ClassId) (vd : List Value) (u_a1_coder : Value) (u_a1_value : Value) (h0 : Heap) (n0 : Nat) (Z0 : n0 ≤ h0.size) (E_a1 : Exa Z h0 a1 "java/lang/String") (S_COMPACT_STRINGS : Sta Z Z.heap "java/lang/String" "COMPACT_STRINGS" "Z" (.int w_COMPACT_STRINGS)) (hcs : ¬ (w_COMPACT_STRINGS = (0 : Int32))) (E_a2 : Exa Z h0 a2 "java/lang/StringBuilder") (F_a2_coder : Fld Z h0 a2 "java/lang/AbstractStringBuilder" "coder" "B" (.int 0)) (F_a2_value : Fld Z h0 a2 "java/lang/AbstractStringBuilder" "value" "[B" (.ref t_a2)) (V_t_a2 : Arv Z h0 t_a2 k_t_a2 .byte (16 : Int32) vd (.int 0)) (F_a2_count : Fld Z h0 a2 "java/lang/AbstractStringBuilder" "count" "I" (.int 8)) (O0 : Old Z n0 h0) (F_a1_coder : Fld Z h0 a1 "java/lang/String" "coder" "B" u_a1_coder) (g_a1 : n0 ≤ a1) (F_a1_value : Fld Z h0 a1 "java/lang/String" "value" "[B" u_a1_value) :
    MetFree l (⟨"java/lang/String", "<init>", "(Ljava/lang/StringBuilder;)V"⟩ : MethodName) (head1 (Jvm.Cond.code (⟨"java/lang/String", "<init>", "(Ljava/lang/StringBuilder;)V"⟩ : MethodName) jdk_42_method_53_code 2 none :: ws) ({ frames := 4, cells := 1, slots := 8, locals := 65 } : Room)) (fun a U => a = #[(.ref a1), (.ref a2)] ∧ Z.Warmed39 U.vm ∧ U.heap = h0) (fun _ _ _ _ _ => True) (fun _ U o U' => ∃ v L, o = .returned v ∧ Q_news_8 Z a1 a2 w_COMPACT_STRINGS t_a2 k_t_a2 vd u_a1_coder u_a1_value h0 n0 v U'.heap L ∧ FrameEnd U o U' L ({ frames := 4, cells := 1, slots := 8, locals := 65 } : Room).cells ({ frames := 4, cells := 1, slots := 8, locals := 65 } : Room).slots) := by
  refine MetFree.of_bodySF (plainFor_of_name pn_22) hisR ?_
  intro p e s m args below meth c s₁ Bd hml0 hP hK
  obtain ⟨rfl, hZ, hh⟩ := hP
  have hx := Bd.exec
  have hby := Bd.bytes
  have hml : c.maxLocals = 2 := hml0
  have hown : s.vm.findClass "java/lang/String" = some m.cls := findClass_of_methodNamed Bd.named
  have hnm := (name_of_methodNamed Bd.named Bd.method).1
  have X0 : Stand p l e ({ frames := 4, cells := 1, slots := 8, locals := 65 } : Room) s m #[(.ref a1), (.ref a2)] below meth c s₁ [] 0 0 := Stand.of_body Bd
  have e0 : s₁.heap = h0 := by rw [← hh, Bd.state]; rfl
  have N0 := Fr.nil n0
  have pre0 : ∀ t, Steps p.tables e below (s₁.setTop (mkF m 0 #[.val (.ref a1), .val (.ref a2)] [])) t → Steps p.tables e below (s₁.setTop (entryFrame m #[(.ref a1), (.ref a2)] 2)) t := fun t k => castTop (ef_22_RR m a1 a2) k
  obtain ⟨_, _, ⟨T1, L1, k1, n1⟩, -, X1, ⟨Lc1, hQ1, l1, y1, z1⟩, st1⟩ := X0.specialBack hx (y := (⟨"java/lang/String", "<init>", "(Ljava/lang/AbstractStringBuilder;Ljava/lang/Void;)V"⟩ : MethodName)) rfl hown (mvT hZ (hwi hw 137 rfl)) (mvT hZ (hwi hw 138 rfl)) (mvT hZ (hwi hw 139 rfl)) (by decide) (backOf (W := 0) (rm_new2_8 l Z a0 hw [] a1 a2 w_COMPACT_STRINGS t_a2 k_t_a2 vd u_a1_coder u_a1_value h0 n0 Z0 E_a1 S_COMPACT_STRINGS hcs E_a2 F_a2_coder F_a2_value V_t_a2 F_a2_count O0 F_a1_coder g_a1 F_a1_value) hZ (hwi hw 139 rfl) (hwi hw 3 rfl) (by decide) (by decide)) (g := (mkF m 3 #[.val (.ref a1), .val (.ref a2)] [.null, (.ref a2), (.ref a1)])) rfl (by rw [hml]; rfl) (Steps.refl _) (a := a1) (argsL := [(.ref a2), .null]) (rest := []) (lenOf pd_Ljava_lang_AbstractStringBuilder_Ljava_lang_Void__V_861 rfl) rfl (by show 2 * 0 + _ ≤ _; exact Nat.le_of_eq rfl) (hb hby d22_3) (fun _ _ => ⟨rfl, e0, (by decide : 0 + 1 ≤ _), (by decide : 0 + 8 ≤ _)⟩)
  dsimp only [Pt.U, Pt.locs, Pt.cells, Pt.slots] at X1 l1 y1 z1 st1 hQ1
  subst l1 y1 z1
  obtain ⟨t_1, kt_1, rfl, N1q, Kc1, g1_0, g1_1, g1_2, g1_3, g1_4⟩ := hQ1
  have N1 := Fr.app N0 N1q
  have sz2 : h0.size ≤ T1.heap.size := Kc1.1
  have Z2 : n0 ≤ T1.heap.size := Nat.le_trans Z0 sz2
  have O2 := O0.keep Kc1 (allS g_a1 all0)
  have K2 : Keep h0 T1.heap [a1] := (Keep.refl h0 [a1]).trans Kc1 (allS (Or.inl (List.mem_of_getElem? (i := 0) rfl)) (all0))
  have bn_t_1 : h0.size ≤ t_1 := g1_0
  obtain ⟨fs, hr, hrun, hended, hW, hsame⟩ := X1.leave (v := none) (fun _ => rfl)
  refine ⟨_, _, pre0 _ ?_, hrun, hended, _, _, rfl, ?_, ⟨_, rfl⟩, hW, hsame.mono (by decide) (by decide)⟩
  · show St p e below s₁ (mkF m 0 #[.val (.ref a1), .val (.ref a2)] []) _
    refine XS.aloadN X0.here hx rfl (hb hby d22_0) rfl rfl ?_
    refine XS.aloadN X0.here hx rfl (hb hby d22_1) rfl rfl ?_
    refine XS.aconstNull X0.here hx rfl (hb hby d22_2) ?_
    refine st1.trans ?_
    show St p e below T1 (mkF m 6 #[.val (.ref a1), .val (.ref a2)] []) _
    exact X1.returnOut hx Bd.returns (hb hby d22_6) hr
  · show Q_news_8 Z a1 a2 w_COMPACT_STRINGS t_a2 k_t_a2 vd u_a1_coder u_a1_value h0 n0 _ T1.heap _
    exact ⟨t_1, kt_1, rfl, N1, K2, bn_t_1, g1_1, g1_2, g1_3, g1_4⟩
def Q_tostr_8 (Z : State) (a1 : Addr) (w_COMPACT_STRINGS : Int32) (t_a1 : Addr) (k_t_a1 : ClassId) (vd : List Value) (h0 : Heap) (n0 : Nat) (v : Option Value) (h : Heap) (L : List Loc) : Prop := ∃ (r : Addr) (t : Addr) (kt : ClassId), v = some (.ref r) ∧ Fr n0 L ∧ Keep h0 h [] ∧ h0.size ≤ r ∧ h0.size ≤ t ∧ Exa Z h r "java/lang/String" ∧ Fld Z h r "java/lang/String" "coder" "B" (.int 0) ∧ Fld Z h r "java/lang/String" "value" "[B" (.ref t) ∧ Arv Z h t kt .byte (8 : Int32) (own_ap [(.int 0), (.int 0), (.int 0), (.int 0), (.int 0), (.int 0), (.int 0), (.int 0)] vd (0 : Int32) (8 : Int32)) (.int 0)
set_option maxRecDepth 65536 in
set_option maxHeartbeats 40000000 in
theorem rm_tostr_8 (l : Launch) (Z : State) (a0 : Array Value) (hw : ∀ d ∈ tables_1, d.before a0 Z = true) (ws : List Jvm.Cond) (a1 : Addr) (w_COMPACT_STRINGS : Int32) (t_a1 : Addr) (k_t_a1 : ClassId) (vd : List Value) (h0 : Heap) (n0 : Nat) (Z0 : n0 ≤ h0.size) (S_COMPACT_STRINGS : Sta Z Z.heap "java/lang/String" "COMPACT_STRINGS" "Z" (.int w_COMPACT_STRINGS)) (hcs : ¬ (w_COMPACT_STRINGS = (0 : Int32))) (E_a1 : Exa Z h0 a1 "java/lang/StringBuilder") (F_a1_coder : Fld Z h0 a1 "java/lang/AbstractStringBuilder" "coder" "B" (.int 0)) (F_a1_value : Fld Z h0 a1 "java/lang/AbstractStringBuilder" "value" "[B" (.ref t_a1)) (V_t_a1 : Arv Z h0 t_a1 k_t_a1 .byte (16 : Int32) vd (.int 0)) (F_a1_count : Fld Z h0 a1 "java/lang/AbstractStringBuilder" "count" "I" (.int 8)) (O0 : Old Z n0 h0) :
    MetFree l (⟨"java/lang/StringBuilder", "toString", "()Ljava/lang/String;"⟩ : MethodName) (head1 (Jvm.Cond.code (⟨"java/lang/StringBuilder", "toString", "()Ljava/lang/String;"⟩ : MethodName) jdk_67_method_42_code 1 (some (.object "java/lang/String")) :: ws) ({ frames := 5, cells := 2, slots := 12, locals := 79 } : Room)) (fun a U => a = #[(.ref a1)] ∧ Z.Warmed39 U.vm ∧ U.heap = h0) (fun _ _ _ _ _ => True) (fun _ U o U' => ∃ v L, o = .returned v ∧ Q_tostr_8 Z a1 w_COMPACT_STRINGS t_a1 k_t_a1 vd h0 n0 v U'.heap L ∧ FrameEnd U o U' L ({ frames := 5, cells := 2, slots := 12, locals := 79 } : Room).cells ({ frames := 5, cells := 2, slots := 12, locals := 79 } : Room).slots) := by
  refine MetFree.of_bodySF (plainFor_of_name pn_21) hisR ?_
  intro p e s m args below meth c s₁ Bd hml0 hP hK
  obtain ⟨rfl, hZ, hh⟩ := hP
  have hx := Bd.exec
  have hby := Bd.bytes
  have hml : c.maxLocals = 1 := hml0
  have hown : s.vm.findClass "java/lang/StringBuilder" = some m.cls := findClass_of_methodNamed Bd.named
  have hnm := (name_of_methodNamed Bd.named Bd.method).1
  have X0 : Stand p l e ({ frames := 5, cells := 2, slots := 12, locals := 79 } : Room) s m #[(.ref a1)] below meth c s₁ [] 0 0 := Stand.of_body Bd
  have e0 : s₁.heap = h0 := by rw [← hh, Bd.state]; rfl
  have N0 := Fr.nil n0
  have pre0 : ∀ t, Steps p.tables e below (s₁.setTop (mkF m 0 #[.val (.ref a1)] [])) t → Steps p.tables e below (s₁.setTop (entryFrame m #[(.ref a1)] 1)) t := fun t k => castTop (ef_21_R m a1) k
  obtain ⟨T1, h1, X1, e1, E1, A1, D1, -, st1⟩ := newO X0 hx hZ hown (hwi hw 133 rfl) (hwi hw 2 rfl) (hwi hw 3 rfl) e0 (g := (mkF m 0 #[.val (.ref a1)] [])) rfl (hb hby d21_0) (by decide) (by decide)
  obtain ⟨b1, g1⟩ : ∃ z, z = h0.size := ⟨_, rfl⟩
  rw [← g1] at A1 D1 st1
  have bn_b1 : h0.size ≤ b1 := Nat.le_of_eq g1.symm
  have sz2 : h0.size ≤ h1.size := E1.1
  have Z2 : n0 ≤ h1.size := Nat.le_trans Z0 sz2
  have O2 := O0.ext E1
  have K2 : Keep h0 h1 [] := (Keep.refl h0 []).ext E1
  have F1_value : Fld Z h1 b1 "java/lang/String" "value" "[B" .null := D1 (Or.inr (hwi hw 16 rfl)) (ty := (.array .byte)) (by decide)
  have F1_coder : Fld Z h1 b1 "java/lang/String" "coder" "B" (.int 0) := D1 (Or.inr (hwi hw 17 rfl)) (ty := .byte) (by decide)
  have fc4 := (E_a1.ext E1)
  have fc5 := (F_a1_coder.ext E1)
  have fc6 := (F_a1_value.ext E1)
  have fc7 := (V_t_a1.ext E1)
  have fc8 := (F_a1_count.ext E1)
  obtain ⟨_, _, ⟨T3, L3, k3, n3⟩, -, X3, ⟨Lc3, hQ3, l3, y3, z3⟩, st3⟩ := X1.specialBack hx (y := (⟨"java/lang/String", "<init>", "(Ljava/lang/StringBuilder;)V"⟩ : MethodName)) rfl hown (mvT hZ (hwi hw 134 rfl)) (mvT hZ (hwi hw 135 rfl)) (mvT hZ (hwi hw 136 rfl)) (by decide) (backOf (W := 1) (rm_news_8 l Z a0 hw [] b1 a1 w_COMPACT_STRINGS t_a1 k_t_a1 vd (.int 0) .null h1 n0 Z2 A1 S_COMPACT_STRINGS hcs fc4 fc5 fc6 fc7 fc8 O2 F1_coder (Nat.le_trans Z0 bn_b1) F1_value) hZ (hwi hw 136 rfl) (hwi hw 3 rfl) (by decide) (by decide)) (g := (mkF m 5 #[.val (.ref a1)] [(.ref a1), (.ref b1), (.ref b1)])) rfl (by rw [hml]; rfl) (Steps.refl _) (a := b1) (argsL := [(.ref a1)]) (rest := [(.ref b1)]) (lenOf pd_Ljava_lang_StringBuilder__V_574 rfl) rfl (by show 2 * 0 + _ ≤ _; exact Nat.le_of_eq rfl) (hb hby d21_5) (fun _ _ => ⟨rfl, e1, (by decide : 1 + 1 ≤ _), (by decide : 4 + 8 ≤ _)⟩)
  dsimp only [Pt.U, Pt.locs, Pt.cells, Pt.slots] at X3 l3 y3 z3 st3 hQ3
  subst l3 y3 z3
  obtain ⟨t_3, kt_3, rfl, N3q, Kc3, g3_0, g3_1, g3_2, g3_3, g3_4⟩ := hQ3
  have N3 := Fr.app N0 N3q
  have sz9 : h1.size ≤ T3.heap.size := Kc3.1
  have Z9 : n0 ≤ T3.heap.size := Nat.le_trans Z2 sz9
  have O9 := O2.keep Kc3 (allS (Nat.le_trans Z0 bn_b1) all0)
  have K9 : Keep h0 T3.heap [] := K2.trans Kc3 (allS (Or.inr bn_b1) (all0))
  have bn_t_3 : h0.size ≤ t_3 := Nat.le_trans K2.1 g3_0
  obtain ⟨fs, hr, hrun, hended, hW, hsame⟩ := X3.leave (v := some (.ref b1)) (fun h => by rw [Bd.returns] at h; cases h)
  refine ⟨_, _, pre0 _ ?_, hrun, hended, _, _, rfl, ?_, ⟨_, rfl⟩, hW, hsame.mono (by decide) (by decide)⟩
  · show St p e below s₁ (mkF m 0 #[.val (.ref a1)] []) _
    refine st1 _ ?_
    refine XS.dup X1.here hx rfl (hb hby d21_3) rfl rfl ?_
    refine XS.aloadN X1.here hx rfl (hb hby d21_4) rfl rfl ?_
    refine st3.trans ?_
    show St p e below T3 (mkF m 8 #[.val (.ref a1)] [(.ref b1)]) _
    jvm_step X3.here [X3.here.top, hx, (hb hby d21_8), X3.method', Bd.returns, Value.isRef, FieldType.isReference]
    first | (intro acts; rw [hr _ acts rfl rfl rfl]) | rw [hr _ _ rfl rfl rfl]
    exact Steps.refl _
  · show Q_tostr_8 Z a1 w_COMPACT_STRINGS t_a1 k_t_a1 vd h0 n0 _ T3.heap _
    exact ⟨b1, t_3, kt_3, rfl, N3, K9, bn_b1, bn_t_3, g3_1, g3_2, g3_3, g3_4⟩
theorem d5_0 : decode jdk_31_method_11_code 0 = .ok (.aload_n 0, 1) := by decide +kernel
theorem d5_1 : decode jdk_31_method_11_code 1 = .ok (.ifnonnull 12, 3) := by decide +kernel
theorem d5_13 : decode jdk_31_method_11_code 13 = .ok (.aload_n 0, 1) := by decide +kernel
theorem d5_14 : decode jdk_31_method_11_code 14 = .ok (.areturn, 1) := by decide +kernel
theorem pn_5 : plainName "java/util/Objects" = true := by first | (simp [plainName, overriddenIn]; done) | decide +kernel
theorem ef_5_RR (m : MethodId) (x0 : Addr) (x1 : Addr) : entryFrame m #[(.ref x0), (.ref x1)] 2 = mkF m 0 #[.val (.ref x0), .val (.ref x1)] [] := by first | (simp [entryFrame, mkF, argsToLocals, Value.category]; done) | rfl
def Q_rnn (Z : State) (a1 : Addr) (a2 : Addr) (h0 : Heap) (n0 : Nat) (v : Option Value) (h : Heap) (L : List Loc) : Prop := v = some (.ref a1) ∧ Fr n0 L ∧ h = h0
set_option maxRecDepth 65536 in
set_option maxHeartbeats 40000000 in
theorem rm_rnn (l : Launch) (Z : State) (a0 : Array Value) (hw : ∀ d ∈ tables_1, d.before a0 Z = true) (ws : List Jvm.Cond) (a1 : Addr) (a2 : Addr) (h0 : Heap) (n0 : Nat) (Z0 : n0 ≤ h0.size) :
    MetFree l (⟨"java/util/Objects", "requireNonNull", "(Ljava/lang/Object;Ljava/lang/String;)Ljava/lang/Object;"⟩ : MethodName) (head1 (Jvm.Cond.code (⟨"java/util/Objects", "requireNonNull", "(Ljava/lang/Object;Ljava/lang/String;)Ljava/lang/Object;"⟩ : MethodName) jdk_31_method_11_code 2 (some (.object "java/lang/Object")) :: ws) ({ frames := 0, cells := 0, slots := 0, locals := 0 } : Room)) (fun a U => a = #[(.ref a1), (.ref a2)] ∧ Z.Warmed39 U.vm ∧ U.heap = h0) (fun _ _ _ _ _ => True) (fun _ U o U' => ∃ v L, o = .returned v ∧ Q_rnn Z a1 a2 h0 n0 v U'.heap L ∧ FrameEnd U o U' L ({ frames := 0, cells := 0, slots := 0, locals := 0 } : Room).cells ({ frames := 0, cells := 0, slots := 0, locals := 0 } : Room).slots) := by
  refine MetFree.of_bodySF (plainFor_of_name pn_5) hisR ?_
  intro p e s m args below meth c s₁ Bd hml0 hP hK
  obtain ⟨rfl, hZ, hh⟩ := hP
  have hx := Bd.exec
  have hby := Bd.bytes
  have hml : c.maxLocals = 2 := hml0
  have hown : s.vm.findClass "java/util/Objects" = some m.cls := findClass_of_methodNamed Bd.named
  have hnm := (name_of_methodNamed Bd.named Bd.method).1
  have X0 : Stand p l e ({ frames := 0, cells := 0, slots := 0, locals := 0 } : Room) s m #[(.ref a1), (.ref a2)] below meth c s₁ [] 0 0 := Stand.of_body Bd
  have e0 : s₁.heap = h0 := by rw [← hh, Bd.state]; rfl
  have N0 := Fr.nil n0
  have pre0 : ∀ t, Steps p.tables e below (s₁.setTop (mkF m 0 #[.val (.ref a1), .val (.ref a2)] [])) t → Steps p.tables e below (s₁.setTop (entryFrame m #[(.ref a1), (.ref a2)] 2)) t := fun t k => castTop (ef_5_RR m a1 a2) k
  obtain ⟨fs, hr, hrun, hended, hW, hsame⟩ := X0.leave (v := some (.ref a1)) (fun h => by rw [Bd.returns] at h; cases h)
  refine ⟨_, _, pre0 _ ?_, hrun, hended, _, _, rfl, ?_, ⟨_, rfl⟩, hW, hsame.mono (by decide) (by decide)⟩
  · show St p e below s₁ (mkF m 0 #[.val (.ref a1), .val (.ref a2)] []) _
    refine XS.aloadN X0.here hx rfl (hb hby d5_0) rfl rfl ?_
    refine XS.ifnonnullYes X0.here hx rfl (pc0 := 1) (pc' := 13) rfl (hb hby d5_1) rfl (by decide) (by decide) ?_
    refine XS.aloadN X0.here hx rfl (hb hby d5_13) rfl rfl ?_
    show St p e below s₁ (mkF m 14 #[.val (.ref a1), .val (.ref a2)] [(.ref a1)]) _
    jvm_step X0.here [X0.here.top, hx, (hb hby d5_14), X0.method', Bd.returns, Value.isRef, FieldType.isReference]
    first | (intro acts; rw [hr _ acts rfl rfl rfl]) | rw [hr _ _ rfl rfl rfl]
    exact Steps.refl _
  · show Q_rnn Z a1 a2 h0 n0 _ s₁.heap _
    rw [e0]
    exact ⟨rfl, N0, rfl⟩
theorem d6_0 : decode prog_2_method_1_code 0 = .ok (.aload_n 0, 1) := by decide +kernel
theorem d6_1 : decode prog_2_method_1_code 1 = .ok (.invokespecial 1, 3) := by decide +kernel
theorem d6_4 : decode prog_2_method_1_code 4 = .ok (.aload_n 0, 1) := by decide +kernel
theorem d6_5 : decode prog_2_method_1_code 5 = .ok (.aload_n 1, 1) := by decide +kernel
theorem d6_6 : decode prog_2_method_1_code 6 = .ok (.putfield 7, 3) := by decide +kernel
theorem d6_9 : decode prog_2_method_1_code 9 = .ok (.return_, 1) := by decide +kernel
theorem pn_6 : plainName "com/example/sunder/sunder/Aggregate" = true := by first | (simp [plainName, overriddenIn]; done) | decide +kernel
theorem ef_6_RR (m : MethodId) (x0 : Addr) (x1 : Addr) : entryFrame m #[(.ref x0), (.ref x1)] 2 = mkF m 0 #[.val (.ref x0), .val (.ref x1)] [] := by first | (simp [entryFrame, mkF, argsToLocals, Value.category]; done) | rfl
def Q_aginit (Z : State) (a1 : Addr) (a2 : Addr) (u_a1_column : Value) (h0 : Heap) (n0 : Nat) (v : Option Value) (h : Heap) (L : List Loc) : Prop := v = none ∧ Fr n0 L ∧ Keep h0 h [a1] ∧ Exa Z h a1 "com/example/sunder/sunder/Aggregate" ∧ Fld Z h a1 "com/example/sunder/sunder/Aggregate" "column" "Ljava/lang/String;" (.ref a2)
set_option maxRecDepth 65536 in
set_option maxHeartbeats 40000000 in
theorem rm_aginit (l : Launch) (Z : State) (a0 : Array Value) (hw : ∀ d ∈ tables_1, d.before a0 Z = true) (ws : List Jvm.Cond) (a1 : Addr) (a2 : Addr) (u_a1_column : Value) (h0 : Heap) (n0 : Nat) (Z0 : n0 ≤ h0.size) (E_a1 : Exa Z h0 a1 "com/example/sunder/sunder/Aggregate") (F_a1_column : Fld Z h0 a1 "com/example/sunder/sunder/Aggregate" "column" "Ljava/lang/String;" u_a1_column) (g_a1 : n0 ≤ a1) (O0 : Old Z n0 h0) :
    MetFree l (⟨"com/example/sunder/sunder/Aggregate", "<init>", "(Ljava/lang/String;)V"⟩ : MethodName) (head1 (Jvm.Cond.code (⟨"com/example/sunder/sunder/Aggregate", "<init>", "(Ljava/lang/String;)V"⟩ : MethodName) prog_2_method_1_code 2 none :: ws) ({ frames := 1, cells := 0, slots := 0, locals := 12 } : Room)) (fun a U => a = #[(.ref a1), (.ref a2)] ∧ Z.Warmed39 U.vm ∧ U.heap = h0) (fun _ _ _ _ _ => True) (fun _ U o U' => ∃ v L, o = .returned v ∧ Q_aginit Z a1 a2 u_a1_column h0 n0 v U'.heap L ∧ FrameEnd U o U' L ({ frames := 1, cells := 0, slots := 0, locals := 12 } : Room).cells ({ frames := 1, cells := 0, slots := 0, locals := 12 } : Room).slots) := by
  refine MetFree.of_bodySF (plainFor_of_name pn_6) hisR ?_
  intro p e s m args below meth c s₁ Bd hml0 hP hK
  obtain ⟨rfl, hZ, hh⟩ := hP
  have hx := Bd.exec
  have hby := Bd.bytes
  have hml : c.maxLocals = 2 := hml0
  have hown : s.vm.findClass "com/example/sunder/sunder/Aggregate" = some m.cls := findClass_of_methodNamed Bd.named
  have hnm := (name_of_methodNamed Bd.named Bd.method).1
  have X0 : Stand p l e ({ frames := 1, cells := 0, slots := 0, locals := 12 } : Room) s m #[(.ref a1), (.ref a2)] below meth c s₁ [] 0 0 := Stand.of_body Bd
  have e0 : s₁.heap = h0 := by rw [← hh, Bd.state]; rfl
  have N0 := Fr.nil n0
  have pre0 : ∀ t, Steps p.tables e below (s₁.setTop (mkF m 0 #[.val (.ref a1), .val (.ref a2)] [])) t → Steps p.tables e below (s₁.setTop (entryFrame m #[(.ref a1), (.ref a2)] 2)) t := fun t k => castTop (ef_6_RR m a1 a2) k
  obtain ⟨T1, X1, e1, st1⟩ := initO X0 hx hZ hown (hwi hw 37 rfl) (hwi hw 12 rfl) (hwi hw 13 rfl) e0 (g := (mkF m 1 #[.val (.ref a1), .val (.ref a2)] [(.ref a1)])) rfl (by rw [hml]; rfl) rfl (hb hby d6_1) (by decide) (W := 0) (by show 2 * 0 + _ ≤ _; exact Nat.le_of_eq rfl) (by decide)
  obtain ⟨T2, h2, X2, e2, W2, st2⟩ := putF X1 hx hZ hown (host := "") (Or.inl (hwi hw 38 rfl)) Via.refl e1 F_a1_column E_a1 (Or.inr ⟨(hwi hw 39 rfl), rfl, hnm⟩) (hwi hw 27 rfl) (ty := (.object "java/lang/String")) (by decide) rfl rfl (g := (mkF m 6 #[.val (.ref a1), .val (.ref a2)] [(.ref a2), (.ref a1)])) rfl rfl (hb hby d6_6)
  have N2 := Fr.snoc X2 N0 g_a1
  have Fw2 := F_a1_column.same W2
  have sz3 : h0.size ≤ h2.size := Nat.le_of_eq W2.size.symm
  have Z3 : n0 ≤ h2.size := Nat.le_trans Z0 sz3
  have O3 := O0.wr W2 g_a1
  have K3 : Keep h0 h2 [a1] := (Keep.refl h0 [a1]).wr W2 (Or.inl (List.mem_of_getElem? (i := 0) rfl))
  have fc4 := (E_a1.wr W2)
  obtain ⟨fs, hr, hrun, hended, hW, hsame⟩ := X2.leave (v := none) (fun _ => rfl)
  refine ⟨_, _, pre0 _ ?_, hrun, hended, _, _, rfl, ?_, ⟨_, rfl⟩, hW, hsame.mono (by decide) (by decide)⟩
  · show St p e below s₁ (mkF m 0 #[.val (.ref a1), .val (.ref a2)] []) _
    refine XS.aloadN X0.here hx rfl (hb hby d6_0) rfl rfl ?_
    refine st1 _ ?_
    refine XS.aloadN X1.here hx rfl (hb hby d6_4) rfl rfl ?_
    refine XS.aloadN X1.here hx rfl (hb hby d6_5) rfl rfl ?_
    show St p e below T1 (mkF m 6 #[.val (.ref a1), .val (.ref a2)] [(.ref a2), (.ref a1)]) _
    refine st2 _ ?_
    show St p e below T2 (mkF m 9 #[.val (.ref a1), .val (.ref a2)] []) _
    exact X2.returnOut hx Bd.returns (hb hby d6_9) hr
  · show Q_aginit Z a1 a2 u_a1_column h0 n0 _ T2.heap _
    rw [e2]
    exact ⟨rfl, N2, K3, fc4, Fw2⟩
theorem pd_Ljava_lang_Object_Ljava_lang_String__Ljava_lang_Object_105 : parseMethodDescriptor "(Ljava/lang/Object;Ljava/lang/String;)Ljava/lang/Object;" = some ⟨[(.object "java/lang/Object"), (.object "java/lang/String")], some (.object "java/lang/Object")⟩ := by decide +kernel
theorem d4_0 : decode prog_2_method_3_code 0 = .ok (.new 8, 3) := by decide +kernel
theorem d4_3 : decode prog_2_method_3_code 3 = .ok (.dup, 1) := by decide +kernel
theorem d4_4 : decode prog_2_method_3_code 4 = .ok (.aload_n 0, 1) := by decide +kernel
theorem d4_5 : decode prog_2_method_3_code 5 = .ok (.ldc 17, 2) := by decide +kernel
theorem d4_7 : decode prog_2_method_3_code 7 = .ok (.invokestatic 18, 3) := by decide +kernel
theorem d4_10 : decode prog_2_method_3_code 10 = .ok (.checkcast 24, 3) := by decide +kernel
theorem d4_13 : decode prog_2_method_3_code 13 = .ok (.invokespecial 26, 3) := by decide +kernel
theorem d4_16 : decode prog_2_method_3_code 16 = .ok (.areturn, 1) := by decide +kernel
theorem pn_4 : plainName "com/example/sunder/sunder/Aggregate" = true := by first | (simp [plainName, overriddenIn]; done) | decide +kernel
theorem ef_4_R (m : MethodId) (x0 : Addr) : entryFrame m #[(.ref x0)] 1 = mkF m 0 #[.val (.ref x0)] [] := by first | (simp [entryFrame, mkF, argsToLocals, Value.category]; done) | rfl
def Q_sum (Z : State) (a1 : Addr) (h0 : Heap) (n0 : Nat) (v : Option Value) (h : Heap) (L : List Loc) : Prop := ∃ (r : Addr), v = some (.ref r) ∧ Fr n0 L ∧ Keep h0 h [] ∧ h0.size ≤ r ∧ Exa Z h r "com/example/sunder/sunder/Aggregate" ∧ Fld Z h r "com/example/sunder/sunder/Aggregate" "column" "Ljava/lang/String;" (.ref a1)
set_option maxRecDepth 65536 in
set_option maxHeartbeats 40000000 in
theorem rm_sum (l : Launch) (Z : State) (a0 : Array Value) (hw : ∀ d ∈ tables_1, d.before a0 Z = true) (hEL : EW Z a0 consts_1) (ws : List Jvm.Cond) (a1 : Addr) (h0 : Heap) (n0 : Nat) (Z0 : n0 ≤ h0.size) (E_a1 : Exa Z h0 a1 "java/lang/String") (O0 : Old Z n0 h0) :
    MetFree l (⟨"com/example/sunder/sunder/Aggregate", "sum", "(Ljava/lang/String;)Lcom/example/sunder/sunder/Aggregate;"⟩ : MethodName) (head1 (Jvm.Cond.code (⟨"com/example/sunder/sunder/Aggregate", "sum", "(Ljava/lang/String;)Lcom/example/sunder/sunder/Aggregate;"⟩ : MethodName) prog_2_method_3_code 1 (some (.object "com/example/sunder/sunder/Aggregate")) :: ws) ({ frames := 2, cells := 3, slots := 29, locals := 26 } : Room)) (fun a U => a = #[(.ref a1)] ∧ Z.Warmed39 U.vm ∧ U.heap = h0 ∧ CHv Z consts_1 U.vm h0) (fun _ _ _ _ _ => True) (fun _ U o U' => ∃ v L, o = .returned v ∧ Q_sum Z a1 h0 n0 v U'.heap L ∧ CHr Z consts_1 U.vm U.heap U'.vm U'.heap ∧ ReturnedEndW U o U' L ({ frames := 2, cells := 3, slots := 29, locals := 26 } : Room).cells ({ frames := 2, cells := 3, slots := 29, locals := 26 } : Room).slots) := by
  refine MetFree.of_bodySF (plainFor_of_name pn_4) hisR ?_
  intro p e s m args below meth c s₁ Bd hml0 hP hK
  obtain ⟨rfl, hZ, hh, H0c⟩ := hP
  have hx := Bd.exec
  have hby := Bd.bytes
  have hml : c.maxLocals = 1 := hml0
  have hown : s.vm.findClass "com/example/sunder/sunder/Aggregate" = some m.cls := findClass_of_methodNamed Bd.named
  have hnm := (name_of_methodNamed Bd.named Bd.method).1
  have X0 : Stand p l e ({ frames := 2, cells := 3, slots := 29, locals := 26 } : Room) (s.setVm s.vm) m #[(.ref a1)] below meth c s₁ [] 0 0 := Stand.of_body Bd
  have e0 : s₁.heap = h0 := by rw [← hh, Bd.state]; rfl
  have N0 := Fr.nil n0
  have pre0 : ∀ t, Steps p.tables e below (s₁.setTop (mkF m 0 #[.val (.ref a1)] [])) t → Steps p.tables e below (s₁.setTop (entryFrame m #[(.ref a1)] 1)) t := fun t k => castTop (ef_4_R m a1) k
  have hS0 : s.Since s.vm 0 := (State.WarmedH.refl s).since 0
  have hk0 : 0 ≤ h0.size := Nat.zero_le _
  have C0c : CHr Z consts_1 s.vm h0 s.vm h0 := CHr.refl H0c
  obtain ⟨T1, h1, X1, e1, E1, A1, D1, -, st1⟩ := newO X0 hx hZ hown (hwi hw 26 rfl) (hwi hw 27 rfl) (hwi hw 24 rfl) e0 (g := (mkF m 0 #[.val (.ref a1)] [])) rfl (hb hby d4_0) (by decide) (by decide)
  obtain ⟨b1, g1⟩ : ∃ z, z = h0.size := ⟨_, rfl⟩
  rw [← g1] at A1 D1 st1
  have bn_b1 : h0.size ≤ b1 := Nat.le_of_eq g1.symm
  have R2 := CHr.ext E1 H0c
  have CR2 := C0c.trans R2
  have sz3 : h0.size ≤ h1.size := E1.1
  have Z3 : n0 ≤ h1.size := Nat.le_trans Z0 sz3
  have hk3 := Nat.le_trans hk0 sz3
  have O3 := O0.ext E1
  have K3 : Keep h0 h1 [] := (Keep.refl h0 []).ext E1
  have F1_column : Fld Z h1 b1 "com/example/sunder/sunder/Aggregate" "column" "Ljava/lang/String;" .null := D1 (Or.inr (hwi hw 39 rfl)) (ty := (.object "java/lang/String")) (by decide)
  obtain ⟨lit4, T4, h4, j4, X4, e4, E4, hS4, hk4, hZ4, ho4, C4, -, st4⟩ := ldcOH X1 hx hZ hown (hwi hw 28 rfl) (own_wS hw) e1 hS0 hk3 hEL R2.1 (g := (mkF m 5 #[.val (.ref a1)] [(.ref a1), (.ref b1), (.ref b1)])) rfl (hb hby d4_5) (n := 24) (by decide) (by decide) (by decide) (by decide)
  have R5 := C4
  have CR5 := CR2.trans R5
  have sz6 : h1.size ≤ h4.size := E4.1
  have Z6 : n0 ≤ h4.size := Nat.le_trans Z3 sz6
  have O6 := O3.ext E4
  have K6 : Keep h0 h4 [] := K3.ext E4
  obtain ⟨_, _, ⟨T7, L7, k7, n7⟩, -, X7, ⟨Lc7, hQ7, l7, y7, z7⟩, st7⟩ := Jvm.LawKit.callS X4 hx (y := (⟨"java/util/Objects", "requireNonNull", "(Ljava/lang/Object;Ljava/lang/String;)Ljava/lang/Object;"⟩ : MethodName)) ho4 (mvT hZ4 (hwi hw 29 rfl)) (mvT hZ4 (hwi hw 30 rfl)) (mvT hZ4 (hwi hw 31 rfl)) (mvT hZ4 (hwi hw 32 rfl)) (by decide) (backOf (W := 2) (rm_rnn l Z a0 hw [] a1 lit4 h4 n0 Z6) hZ4 (hwi hw 32 rfl) (hwi hw 31 rfl) (by decide) (by decide)) (g := (mkF m 7 #[.val (.ref a1)] [(.ref lit4), (.ref a1), (.ref b1), (.ref b1)])) rfl (by rw [hml]; rfl) (argsL := [(.ref a1), (.ref lit4)]) (rest := [(.ref b1), (.ref b1)]) (lenOf pd_Ljava_lang_Object_Ljava_lang_String__Ljava_lang_Object_105 rfl) rfl (by show 2 * 0 + _ ≤ _; exact Nat.le_of_eq rfl) (hb hby d4_7) (fun _ _ => ⟨rfl, e4, (by decide : 3 + 0 ≤ _), (by decide : 29 + 0 ≤ _)⟩)
  dsimp only [Pt.U, Pt.locs, Pt.cells, Pt.slots] at X7 l7 y7 z7 st7 hQ7
  subst l7 y7 z7
  obtain ⟨rfl, N7q, e7⟩ := hQ7
  have N7 := Fr.app N0 N7q
  have fc8 := ((E_a1.ext E1).ext E4)
  obtain ⟨T9, X9, e9, st9⟩ := castY X7 hx hZ4 ho4 (hwi hw 33 rfl) e7 (Ins.self fc8) (g := (mkF m 10 #[.val (.ref a1)] [(.ref a1), (.ref b1), (.ref b1)])) rfl rfl (hb hby d4_10)
  have fc11 := (A1.ext E4)
  have fc12 := (F1_column.ext E4)
  obtain ⟨_, _, ⟨T10, L10, k10, n10⟩, -, X10, ⟨Lc10, hQ10, l10, y10, z10⟩, st10⟩ := X9.specialBack hx (y := (⟨"com/example/sunder/sunder/Aggregate", "<init>", "(Ljava/lang/String;)V"⟩ : MethodName)) rfl ho4 (mvT hZ4 (hwi hw 34 rfl)) (mvT hZ4 (hwi hw 35 rfl)) (mvT hZ4 (hwi hw 36 rfl)) (by decide) (backOf (W := 1) (rm_aginit l Z a0 hw [] b1 a1 .null h4 n0 Z6 fc11 fc12 (Nat.le_trans Z0 bn_b1) O6) hZ4 (hwi hw 36 rfl) (hwi hw 24 rfl) (by decide) (by decide)) (g := (mkF m 13 #[.val (.ref a1)] [(.ref a1), (.ref b1), (.ref b1)])) rfl (by rw [hml]; rfl) (Steps.refl _) (a := b1) (argsL := [(.ref a1)]) (rest := [(.ref b1)]) (lenOf pd_Ljava_lang_String__V_863 rfl) rfl (by show 2 * 0 + _ ≤ _; exact Nat.le_of_eq rfl) (hb hby d4_13) (fun _ _ => ⟨rfl, e9, (by decide : 3 + 0 ≤ _), (by decide : 29 + 0 ≤ _)⟩)
  dsimp only [Pt.U, Pt.locs, Pt.cells, Pt.slots] at X10 l10 y10 z10 st10 hQ10
  subst l10 y10 z10
  obtain ⟨rfl, N10q, Kc10, g10_0, g10_1⟩ := hQ10
  have N10 := Fr.app N7 N10q
  have R13 := CHr.keep Kc10 (sfS (Safe.exa hZ4.alike fc11 (by decide) (by decide)) sf0) R5.1
  have CR13 := CR5.trans R13
  have sz14 : h4.size ≤ T10.heap.size := Kc10.1
  have Z14 : n0 ≤ T10.heap.size := Nat.le_trans Z6 sz14
  have hk14 := Nat.le_trans hk4 sz14
  have O14 := O6.keep Kc10 (allS (Nat.le_trans Z0 bn_b1) all0)
  have K14 : Keep h0 T10.heap [] := K6.trans Kc10 (allS (Or.inr bn_b1) (all0))
  have CRe := CR13.trans (CHv.at X10 hZ4 hEL R13.1)
  obtain ⟨fs, hr, hrun, hended, hRE⟩ := X10.leaveW hS4 hk14 (v := some (.ref b1)) (fun h => by rw [Bd.returns] at h; cases h)
  refine ⟨_, _, pre0 _ ?_, hrun, hended, _, _, rfl, ?_, ?_, ⟨hRE.1, hRE.2.1, hRE.2.2.1, hRE.2.2.2.mono (by decide) (by decide)⟩⟩
  · show St p e below s₁ (mkF m 0 #[.val (.ref a1)] []) _
    refine st1 _ ?_
    refine XS.dup X1.here hx rfl (hb hby d4_3) rfl rfl ?_
    refine XS.aloadN X1.here hx rfl (hb hby d4_4) rfl rfl ?_
    refine st4 _ ?_
    show St p e below T4 (mkF m 7 #[.val (.ref a1)] [(.ref lit4), (.ref a1), (.ref b1), (.ref b1)]) _
    refine st7 _ ?_
    refine st9 _ ?_
    refine st10.trans ?_
    show St p e below T10 (mkF m 16 #[.val (.ref a1)] [(.ref b1)]) _
    jvm_step X10.here [X10.here.top, hx, (hb hby d4_16), X10.method', Bd.returns, Value.isRef, FieldType.isReference]
    first | (intro acts; rw [hr _ acts rfl rfl rfl]) | rw [hr _ _ rfl rfl rfl]
    exact Steps.refl _
  · show Q_sum Z a1 h0 n0 _ T10.heap _
    exact ⟨b1, rfl, N10, K14, bn_b1, g10_0, g10_1⟩
  · show CHr Z consts_1 s.vm s.heap T10.vm T10.heap
    rw [hh]
    exact CRe
theorem d7_0 : decode prog_2_method_4_code 0 = .ok (.aload_n 0, 1) := by decide +kernel
theorem d7_1 : decode prog_2_method_4_code 1 = .ok (.getfield 7, 3) := by decide +kernel
theorem d7_4 : decode prog_2_method_4_code 4 = .ok (.areturn, 1) := by decide +kernel
theorem pn_7 : plainName "com/example/sunder/sunder/Aggregate" = true := by first | (simp [plainName, overriddenIn]; done) | decide +kernel
theorem ef_7_R (m : MethodId) (x0 : Addr) : entryFrame m #[(.ref x0)] 1 = mkF m 0 #[.val (.ref x0)] [] := by first | (simp [entryFrame, mkF, argsToLocals, Value.category]; done) | rfl
def Q_column (Z : State) (a1 : Addr) (v_a1_column : Addr) (h0 : Heap) (n0 : Nat) (v : Option Value) (h : Heap) (L : List Loc) : Prop := v = some (.ref v_a1_column) ∧ Fr n0 L ∧ h = h0
set_option maxRecDepth 65536 in
set_option maxHeartbeats 40000000 in
theorem rm_column (l : Launch) (Z : State) (a0 : Array Value) (hw : ∀ d ∈ tables_1, d.before a0 Z = true) (ws : List Jvm.Cond) (a1 : Addr) (v_a1_column : Addr) (h0 : Heap) (n0 : Nat) (Z0 : n0 ≤ h0.size) (F_a1_column : Fld Z h0 a1 "com/example/sunder/sunder/Aggregate" "column" "Ljava/lang/String;" (.ref v_a1_column)) :
    MetFree l (⟨"com/example/sunder/sunder/Aggregate", "column", "()Ljava/lang/String;"⟩ : MethodName) (head1 (Jvm.Cond.code (⟨"com/example/sunder/sunder/Aggregate", "column", "()Ljava/lang/String;"⟩ : MethodName) prog_2_method_4_code 1 (some (.object "java/lang/String")) :: ws) ({ frames := 0, cells := 0, slots := 0, locals := 0 } : Room)) (fun a U => a = #[(.ref a1)] ∧ Z.Warmed39 U.vm ∧ U.heap = h0) (fun _ _ _ _ _ => True) (fun _ U o U' => ∃ v L, o = .returned v ∧ Q_column Z a1 v_a1_column h0 n0 v U'.heap L ∧ FrameEnd U o U' L ({ frames := 0, cells := 0, slots := 0, locals := 0 } : Room).cells ({ frames := 0, cells := 0, slots := 0, locals := 0 } : Room).slots) := by
  refine MetFree.of_bodySF (plainFor_of_name pn_7) hisR ?_
  intro p e s m args below meth c s₁ Bd hml0 hP hK
  obtain ⟨rfl, hZ, hh⟩ := hP
  have hx := Bd.exec
  have hby := Bd.bytes
  have hml : c.maxLocals = 1 := hml0
  have hown : s.vm.findClass "com/example/sunder/sunder/Aggregate" = some m.cls := findClass_of_methodNamed Bd.named
  have hnm := (name_of_methodNamed Bd.named Bd.method).1
  have X0 : Stand p l e ({ frames := 0, cells := 0, slots := 0, locals := 0 } : Room) s m #[(.ref a1)] below meth c s₁ [] 0 0 := Stand.of_body Bd
  have e0 : s₁.heap = h0 := by rw [← hh, Bd.state]; rfl
  have N0 := Fr.nil n0
  have pre0 : ∀ t, Steps p.tables e below (s₁.setTop (mkF m 0 #[.val (.ref a1)] [])) t → Steps p.tables e below (s₁.setTop (entryFrame m #[(.ref a1)] 1)) t := fun t k => castTop (ef_7_R m a1) k
  obtain ⟨T1, X1, e1, st1⟩ := getF X0 hx hZ hown (host := "") (Or.inl (hwi hw 38 rfl)) Via.refl e0 F_a1_column (g := (mkF m 1 #[.val (.ref a1)] [(.ref a1)])) rfl rfl (hb hby d7_1)
  obtain ⟨fs, hr, hrun, hended, hW, hsame⟩ := X1.leave (v := some (.ref v_a1_column)) (fun h => by rw [Bd.returns] at h; cases h)
  refine ⟨_, _, pre0 _ ?_, hrun, hended, _, _, rfl, ?_, ⟨_, rfl⟩, hW, hsame.mono (by decide) (by decide)⟩
  · show St p e below s₁ (mkF m 0 #[.val (.ref a1)] []) _
    refine XS.aloadN X0.here hx rfl (hb hby d7_0) rfl rfl ?_
    refine st1 _ ?_
    show St p e below T1 (mkF m 4 #[.val (.ref a1)] [(.ref v_a1_column)]) _
    jvm_step X1.here [X1.here.top, hx, (hb hby d7_4), X1.method', Bd.returns, Value.isRef, FieldType.isReference]
    first | (intro acts; rw [hr _ acts rfl rfl rfl]) | rw [hr _ _ rfl rfl rfl]
    exact Steps.refl _
  · show Q_column Z a1 v_a1_column h0 n0 _ T1.heap _
    rw [e1]
    exact ⟨rfl, N0, rfl⟩
theorem d8_0 : decode jdk_42_method_66_code 0 = .ok (.aload_n 0, 1) := by decide +kernel
theorem d8_1 : decode jdk_42_method_66_code 1 = .ok (.aload_n 1, 1) := by decide +kernel
theorem d8_2 : decode jdk_42_method_66_code 2 = .ok (.if_acmp .ne 5, 3) := by decide +kernel
theorem d8_5 : decode jdk_42_method_66_code 5 = .ok (.iconst 1, 1) := by decide +kernel
theorem d8_6 : decode jdk_42_method_66_code 6 = .ok (.ireturn, 1) := by decide +kernel
theorem pn_8 : plainName "java/lang/String" = true := by first | (simp [plainName, overriddenIn]; done) | decide +kernel
theorem ef_8_RR (m : MethodId) (x0 : Addr) (x1 : Addr) : entryFrame m #[(.ref x0), (.ref x1)] 3 = mkF m 0 #[.val (.ref x0), .val (.ref x1), .unset] [] := by first | (simp [entryFrame, mkF, argsToLocals, Value.category]; done) | rfl
def Q_eqsame (Z : State) (a1 : Addr) (h0 : Heap) (n0 : Nat) (v : Option Value) (h : Heap) (L : List Loc) : Prop := v = some (.int 1) ∧ Fr n0 L ∧ h = h0
set_option maxRecDepth 65536 in
set_option maxHeartbeats 40000000 in
theorem rm_eqsame (l : Launch) (Z : State) (a0 : Array Value) (hw : ∀ d ∈ tables_1, d.before a0 Z = true) (ws : List Jvm.Cond) (a1 : Addr) (h0 : Heap) (n0 : Nat) (Z0 : n0 ≤ h0.size) :
    MetFree l (⟨"java/lang/String", "equals", "(Ljava/lang/Object;)Z"⟩ : MethodName) (head1 (Jvm.Cond.code (⟨"java/lang/String", "equals", "(Ljava/lang/Object;)Z"⟩ : MethodName) jdk_42_method_66_code 3 (some .boolean) :: ws) ({ frames := 0, cells := 0, slots := 0, locals := 0 } : Room)) (fun a U => a = #[(.ref a1), (.ref a1)] ∧ Z.Warmed39 U.vm ∧ U.heap = h0) (fun _ _ _ _ _ => True) (fun _ U o U' => ∃ v L, o = .returned v ∧ Q_eqsame Z a1 h0 n0 v U'.heap L ∧ FrameEnd U o U' L ({ frames := 0, cells := 0, slots := 0, locals := 0 } : Room).cells ({ frames := 0, cells := 0, slots := 0, locals := 0 } : Room).slots) := by
  refine MetFree.of_bodySF (plainFor_of_name pn_8) hisR ?_
  intro p e s m args below meth c s₁ Bd hml0 hP hK
  obtain ⟨rfl, hZ, hh⟩ := hP
  have hx := Bd.exec
  have hby := Bd.bytes
  have hml : c.maxLocals = 3 := hml0
  have hown : s.vm.findClass "java/lang/String" = some m.cls := findClass_of_methodNamed Bd.named
  have hnm := (name_of_methodNamed Bd.named Bd.method).1
  have X0 : Stand p l e ({ frames := 0, cells := 0, slots := 0, locals := 0 } : Room) s m #[(.ref a1), (.ref a1)] below meth c s₁ [] 0 0 := Stand.of_body Bd
  have e0 : s₁.heap = h0 := by rw [← hh, Bd.state]; rfl
  have N0 := Fr.nil n0
  have pre0 : ∀ t, Steps p.tables e below (s₁.setTop (mkF m 0 #[.val (.ref a1), .val (.ref a1), .unset] [])) t → Steps p.tables e below (s₁.setTop (entryFrame m #[(.ref a1), (.ref a1)] 3)) t := fun t k => castTop (ef_8_RR m a1 a1) k
  obtain ⟨fs, hr, hrun, hended, hW, hsame⟩ := X0.leave (v := some (.int 1)) (fun h => by rw [Bd.returns] at h; cases h)
  refine ⟨_, _, pre0 _ ?_, hrun, hended, _, _, rfl, ?_, ⟨_, rfl⟩, hW, hsame.mono (by decide) (by decide)⟩
  · show St p e below s₁ (mkF m 0 #[.val (.ref a1), .val (.ref a1), .unset] []) _
    refine XS.aloadN X0.here hx rfl (hb hby d8_0) rfl rfl ?_
    refine XS.aloadN X0.here hx rfl (hb hby d8_1) rfl rfl ?_
    refine Jvm.RoadKit.acmp (g := (mkF m 2 #[.val (.ref a1), .val (.ref a1), .unset] [(.ref a1), (.ref a1)])) X0 hx rfl rfl rfl (pc0 := 2) (pc' := 5) (same := true) rfl (hb hby d8_2) rfl (decide_eq_true rfl) (by decide) (by decide) ?_
    refine XS.iconst X0.here hx rfl (hb hby d8_5) ?_
    show St p e below s₁ (mkF m 6 #[.val (.ref a1), .val (.ref a1), .unset] [(.int 1)]) _
    exact retN X0 hx (t := .boolean) Bd.returns (by simp) (hb hby d8_6) hr
  · show Q_eqsame Z a1 h0 n0 _ s₁.heap _
    rw [e0]
    exact ⟨rfl, N0, rfl⟩
theorem d9_0 : decode prog_2_method_2_code 0 = .ok (.getstatic 13, 3) := by decide +kernel
theorem d9_3 : decode prog_2_method_2_code 3 = .ok (.areturn, 1) := by decide +kernel
theorem pn_9 : plainName "com/example/sunder/sunder/Aggregate" = true := by first | (simp [plainName, overriddenIn]; done) | decide +kernel
theorem ef_9_ (m : MethodId)  : entryFrame m #[] 0 = mkF m 0 #[] [] := by first | (simp [entryFrame, mkF, argsToLocals, Value.category]; done) | rfl
def Q_count (Z : State) (w_COUNT : Addr) (h0 : Heap) (n0 : Nat) (v : Option Value) (h : Heap) (L : List Loc) : Prop := v = some (.ref w_COUNT) ∧ Fr n0 L ∧ h = h0
set_option maxRecDepth 65536 in
set_option maxHeartbeats 40000000 in
theorem rm_count (l : Launch) (Z : State) (a0 : Array Value) (hw : ∀ d ∈ tables_1, d.before a0 Z = true) (ws : List Jvm.Cond) (w_COUNT : Addr) (h0 : Heap) (n0 : Nat) (Z0 : n0 ≤ h0.size) (S_COUNT : Sta Z Z.heap "com/example/sunder/sunder/Aggregate" "COUNT" "Lcom/example/sunder/sunder/Aggregate;" (.ref w_COUNT)) (O0 : Old Z n0 h0) :
    MetFree l (⟨"com/example/sunder/sunder/Aggregate", "count", "()Lcom/example/sunder/sunder/Aggregate;"⟩ : MethodName) (head1 (Jvm.Cond.code (⟨"com/example/sunder/sunder/Aggregate", "count", "()Lcom/example/sunder/sunder/Aggregate;"⟩ : MethodName) prog_2_method_2_code 0 (some (.object "com/example/sunder/sunder/Aggregate")) :: ws) ({ frames := 0, cells := 0, slots := 0, locals := 0 } : Room)) (fun a U => a = #[] ∧ Z.Warmed39 U.vm ∧ U.heap = h0) (fun _ _ _ _ _ => True) (fun _ U o U' => ∃ v L, o = .returned v ∧ Q_count Z w_COUNT h0 n0 v U'.heap L ∧ FrameEnd U o U' L ({ frames := 0, cells := 0, slots := 0, locals := 0 } : Room).cells ({ frames := 0, cells := 0, slots := 0, locals := 0 } : Room).slots) := by
  refine MetFree.of_bodySF (plainFor_of_name pn_9) hisR ?_
  intro p e s m args below meth c s₁ Bd hml0 hP hK
  obtain ⟨rfl, hZ, hh⟩ := hP
  have hx := Bd.exec
  have hby := Bd.bytes
  have hml : c.maxLocals = 0 := hml0
  have hown : s.vm.findClass "com/example/sunder/sunder/Aggregate" = some m.cls := findClass_of_methodNamed Bd.named
  have hnm := (name_of_methodNamed Bd.named Bd.method).1
  have X0 : Stand p l e ({ frames := 0, cells := 0, slots := 0, locals := 0 } : Room) s m #[] below meth c s₁ [] 0 0 := Stand.of_body Bd
  have e0 : s₁.heap = h0 := by rw [← hh, Bd.state]; rfl
  have N0 := Fr.nil n0
  have pre0 : ∀ t, Steps p.tables e below (s₁.setTop (mkF m 0 #[] [])) t → Steps p.tables e below (s₁.setTop (entryFrame m #[] 0)) t := fun t k => castTop (ef_9_ m ) k
  obtain ⟨T1, X1, e1, st1⟩ := getS2 X0 hx hZ hown (host := "") (Or.inl (hwi hw 53 rfl)) Via.refl e0 (S_COUNT.ext O0.2) (g := (mkF m 0 #[] [])) rfl (hb hby d9_0)
  obtain ⟨fs, hr, hrun, hended, hW, hsame⟩ := X1.leave (v := some (.ref w_COUNT)) (fun h => by rw [Bd.returns] at h; cases h)
  refine ⟨_, _, pre0 _ ?_, hrun, hended, _, _, rfl, ?_, ⟨_, rfl⟩, hW, hsame.mono (by decide) (by decide)⟩
  · show St p e below s₁ (mkF m 0 #[] []) _
    refine st1 _ ?_
    show St p e below T1 (mkF m 3 #[] [(.ref w_COUNT)]) _
    jvm_step X1.here [X1.here.top, hx, (hb hby d9_3), X1.method', Bd.returns, Value.isRef, FieldType.isReference]
    first | (intro acts; rw [hr _ acts rfl rfl rfl]) | rw [hr _ _ rfl rfl rfl]
    exact Steps.refl _
  · show Q_count Z w_COUNT h0 n0 _ T1.heap _
    rw [e1]
    exact ⟨rfl, N0, rfl⟩
theorem pd_V_167 : parseMethodDescriptor "()V" = some ⟨[], none⟩ := by decide +kernel
theorem own_text_1 : (∀ c ∈ ("sum(" : String).toList, c.toNat < 256) ∧ ("sum(" : String).toList.map (fun c => Value.int (Jvm.Lit.byteI c.toNat.toUInt16)) = [(.int 115), (.int 117), (.int 109), (.int 40)] := by decide +kernel
theorem pd_Ljava_lang_String__Ljava_lang_StringBuilder_184 : parseMethodDescriptor "(Ljava/lang/String;)Ljava/lang/StringBuilder;" = some ⟨[(.object "java/lang/String")], some (.object "java/lang/StringBuilder")⟩ := by decide +kernel
theorem own_text_2 : (∀ c ∈ (")" : String).toList, c.toNat < 256) ∧ (")" : String).toList.map (fun c => Value.int (Jvm.Lit.byteI c.toNat.toUInt16)) = [(.int 41)] := by decide +kernel
theorem pd_Ljava_lang_String_777 : parseMethodDescriptor "()Ljava/lang/String;" = some ⟨[], some (.object "java/lang/String")⟩ := by decide +kernel
theorem d10_0 : decode prog_2_method_5_code 0 = .ok (.aload_n 0, 1) := by decide +kernel
theorem d10_1 : decode prog_2_method_5_code 1 = .ok (.getfield 7, 3) := by decide +kernel
theorem d10_4 : decode prog_2_method_5_code 4 = .ok (.ifnonnull 8, 3) := by decide +kernel
theorem d10_12 : decode prog_2_method_5_code 12 = .ok (.new 31, 3) := by decide +kernel
theorem d10_15 : decode prog_2_method_5_code 15 = .ok (.dup, 1) := by decide +kernel
theorem d10_16 : decode prog_2_method_5_code 16 = .ok (.invokespecial 33, 3) := by decide +kernel
theorem d10_19 : decode prog_2_method_5_code 19 = .ok (.ldc 34, 2) := by decide +kernel
theorem d10_21 : decode prog_2_method_5_code 21 = .ok (.invokevirtual 36, 3) := by decide +kernel
theorem d10_24 : decode prog_2_method_5_code 24 = .ok (.aload_n 0, 1) := by decide +kernel
theorem d10_25 : decode prog_2_method_5_code 25 = .ok (.getfield 7, 3) := by decide +kernel
theorem d10_28 : decode prog_2_method_5_code 28 = .ok (.invokevirtual 36, 3) := by decide +kernel
theorem d10_31 : decode prog_2_method_5_code 31 = .ok (.ldc 40, 2) := by decide +kernel
theorem d10_33 : decode prog_2_method_5_code 33 = .ok (.invokevirtual 36, 3) := by decide +kernel
theorem d10_36 : decode prog_2_method_5_code 36 = .ok (.invokevirtual 42, 3) := by decide +kernel
theorem d10_39 : decode prog_2_method_5_code 39 = .ok (.areturn, 1) := by decide +kernel
theorem pn_10 : plainName "com/example/sunder/sunder/Aggregate" = true := by first | (simp [plainName, overriddenIn]; done) | decide +kernel
theorem ef_10_R (m : MethodId) (x0 : Addr) : entryFrame m #[(.ref x0)] 1 = mkF m 0 #[.val (.ref x0)] [] := by first | (simp [entryFrame, mkF, argsToLocals, Value.category]; done) | rfl
def Q_agstr_0 (Z : State) (a1 : Addr) (w_COMPACT_STRINGS : Int32) (cl_ : Addr) (t_cl_ : Addr) (k_t_cl_ : ClassId) (h0 : Heap) (n0 : Nat) (v : Option Value) (h : Heap) (L : List Loc) : Prop := ∃ (r : Addr) (t : Addr) (kt : ClassId), v = some (.ref r) ∧ Fr n0 L ∧ Keep h0 h [] ∧ h0.size ≤ r ∧ h0.size ≤ t ∧ Exa Z h r "java/lang/String" ∧ Fld Z h r "java/lang/String" "coder" "B" (.int 0) ∧ Fld Z h r "java/lang/String" "value" "[B" (.ref t) ∧ Arv Z h t kt .byte (5 : Int32) [(.int 115), (.int 117), (.int 109), (.int 40), (.int 41)] (.int 0)
set_option maxRecDepth 65536 in
set_option maxHeartbeats 40000000 in
theorem rm_agstr_0 (l : Launch) (Z : State) (a0 : Array Value) (hw : ∀ d ∈ tables_1, d.before a0 Z = true) (hEL : EW Z a0 consts_1) (ws : List Jvm.Cond) (a1 : Addr) (w_COMPACT_STRINGS : Int32) (cl_ : Addr) (t_cl_ : Addr) (k_t_cl_ : ClassId) (h0 : Heap) (n0 : Nat) (Z0 : n0 ≤ h0.size) (S_COMPACT_STRINGS : Sta Z Z.heap "java/lang/String" "COMPACT_STRINGS" "Z" (.int w_COMPACT_STRINGS)) (hcs : ¬ (w_COMPACT_STRINGS = (0 : Int32))) (F_a1_column : Fld Z h0 a1 "com/example/sunder/sunder/Aggregate" "column" "Ljava/lang/String;" (.ref cl_)) (E_cl_ : Exa Z h0 cl_ "java/lang/String") (F_cl__coder : Fld Z h0 cl_ "java/lang/String" "coder" "B" (.int 0)) (F_cl__value : Fld Z h0 cl_ "java/lang/String" "value" "[B" (.ref t_cl_)) (V_t_cl_ : Arv Z h0 t_cl_ k_t_cl_ .byte (0 : Int32) [] (.int 0)) (O0 : Old Z n0 h0) :
    MetFree l (⟨"com/example/sunder/sunder/Aggregate", "toString", "()Ljava/lang/String;"⟩ : MethodName) (head1 (Jvm.Cond.code (⟨"com/example/sunder/sunder/Aggregate", "toString", "()Ljava/lang/String;"⟩ : MethodName) prog_2_method_5_code 1 (some (.object "java/lang/String")) :: ws) ({ frames := 6, cells := 8, slots := 57, locals := 91 } : Room)) (fun a U => a = #[(.ref a1)] ∧ Z.Warmed39 U.vm ∧ U.heap = h0 ∧ CHv Z consts_1 U.vm h0) (fun _ _ _ _ _ => True) (fun _ U o U' => ∃ v L, o = .returned v ∧ Q_agstr_0 Z a1 w_COMPACT_STRINGS cl_ t_cl_ k_t_cl_ h0 n0 v U'.heap L ∧ CHr Z consts_1 U.vm U.heap U'.vm U'.heap ∧ ReturnedEndW U o U' L ({ frames := 6, cells := 8, slots := 57, locals := 91 } : Room).cells ({ frames := 6, cells := 8, slots := 57, locals := 91 } : Room).slots) := by
  refine MetFree.of_bodySF (plainFor_of_name pn_10) hisR ?_
  intro p e s m args below meth c s₁ Bd hml0 hP hK
  obtain ⟨rfl, hZ, hh, H0c⟩ := hP
  have hx := Bd.exec
  have hby := Bd.bytes
  have hml : c.maxLocals = 1 := hml0
  have hown : s.vm.findClass "com/example/sunder/sunder/Aggregate" = some m.cls := findClass_of_methodNamed Bd.named
  have hnm := (name_of_methodNamed Bd.named Bd.method).1
  have X0 : Stand p l e ({ frames := 6, cells := 8, slots := 57, locals := 91 } : Room) (s.setVm s.vm) m #[(.ref a1)] below meth c s₁ [] 0 0 := Stand.of_body Bd
  have e0 : s₁.heap = h0 := by rw [← hh, Bd.state]; rfl
  have N0 := Fr.nil n0
  have pre0 : ∀ t, Steps p.tables e below (s₁.setTop (mkF m 0 #[.val (.ref a1)] [])) t → Steps p.tables e below (s₁.setTop (entryFrame m #[(.ref a1)] 1)) t := fun t k => castTop (ef_10_R m a1) k
  have hS0 : s.Since s.vm 0 := (State.WarmedH.refl s).since 0
  have hk0 : 0 ≤ h0.size := Nat.zero_le _
  have C0c : CHr Z consts_1 s.vm h0 s.vm h0 := CHr.refl H0c
  obtain ⟨T1, X1, e1, st1⟩ := getF X0 hx hZ hown (host := "") (Or.inl (hwi hw 38 rfl)) Via.refl e0 F_a1_column (g := (mkF m 1 #[.val (.ref a1)] [(.ref a1)])) rfl rfl (hb hby d10_1)
  obtain ⟨T2, h2, X2, e2, E2, A2, D2, -, st2⟩ := newO X1 hx hZ hown (hwi hw 60 rfl) (hwi hw 61 rfl) (hwi hw 62 rfl) e1 (g := (mkF m 12 #[.val (.ref a1)] [])) rfl (hb hby d10_12) (by decide) (by decide)
  obtain ⟨b2, g2⟩ : ∃ z, z = h0.size := ⟨_, rfl⟩
  rw [← g2] at A2 D2 st2
  have bn_b2 : h0.size ≤ b2 := Nat.le_of_eq g2.symm
  have R3 := CHr.ext E2 H0c
  have CR3 := C0c.trans R3
  have sz4 : h0.size ≤ h2.size := E2.1
  have Z4 : n0 ≤ h2.size := Nat.le_trans Z0 sz4
  have hk4 := Nat.le_trans hk0 sz4
  have O4 := O0.ext E2
  have K4 : Keep h0 h2 [] := (Keep.refl h0 []).ext E2
  have F2_value : Fld Z h2 b2 "java/lang/AbstractStringBuilder" "value" "[B" .null := D2 (Or.inl (hwi hw 75 rfl)) (ty := (.array .byte)) (by decide)
  have F2_coder : Fld Z h2 b2 "java/lang/AbstractStringBuilder" "coder" "B" (.int 0) := D2 (Or.inl (hwi hw 77 rfl)) (ty := .byte) (by decide)
  have F2_count : Fld Z h2 b2 "java/lang/AbstractStringBuilder" "count" "I" (.int 0) := D2 (Or.inl (hwi hw 101 rfl)) (ty := .int) (by decide)
  obtain ⟨_, _, ⟨T5, L5, k5, n5⟩, -, X5, ⟨Lc5, hQ5, l5, y5, z5⟩, st5⟩ := X2.specialBack hx (y := (⟨"java/lang/StringBuilder", "<init>", "()V"⟩ : MethodName)) rfl hown (mvT hZ (hwi hw 63 rfl)) (mvT hZ (hwi hw 64 rfl)) (mvT hZ (hwi hw 65 rfl)) (by decide) (backOf (W := 1) (rm_sbinit l Z a0 hw [] b2 w_COMPACT_STRINGS .null (.int 0) h2 n0 Z4 S_COMPACT_STRINGS hcs A2 F2_count O4 F2_value (Nat.le_trans Z0 bn_b2) F2_coder) hZ (hwi hw 65 rfl) (hwi hw 62 rfl) (by decide) (by decide)) (g := (mkF m 16 #[.val (.ref a1)] [(.ref b2), (.ref b2)])) rfl (by rw [hml]; rfl) (Steps.refl _) (a := b2) (argsL := []) (rest := [(.ref b2)]) (lenOf pd_V_167 rfl) rfl (by show 2 * 0 + _ ≤ _; exact Nat.le_of_eq rfl) (hb hby d10_16) (fun _ _ => ⟨rfl, e2, (by decide : 1 + 1 ≤ _), (by decide : 4 + 16 ≤ _)⟩)
  dsimp only [Pt.U, Pt.locs, Pt.cells, Pt.slots] at X5 l5 y5 z5 st5 hQ5
  subst l5 y5 z5
  obtain ⟨t_5, kt_5, rfl, N5q, Kc5, g5_0, g5_1, g5_2, g5_3, g5_4, g5_5⟩ := hQ5
  have N5 := Fr.app N0 N5q
  have sfb5_0 : Safe Z consts_1 s.vm h2 t_5 := Safe.new g5_0
  have R6 := CHr.keep Kc5 (sfS (Safe.exa hZ.alike A2 (by decide) (by decide)) sf0) R3.1
  have sf_t_5_6 := Safe.keep Kc5 (sfS (Safe.exa hZ.alike A2 (by decide) (by decide)) sf0) R3.1 sfb5_0
  have CR6 := CR3.trans R6
  have sz7 : h2.size ≤ T5.heap.size := Kc5.1
  have Z7 : n0 ≤ T5.heap.size := Nat.le_trans Z4 sz7
  have hk7 := Nat.le_trans hk4 sz7
  have O7 := O4.keep Kc5 (allS (Nat.le_trans Z0 bn_b2) all0)
  have K7 : Keep h0 T5.heap [] := K4.trans Kc5 (allS (Or.inr bn_b2) (all0))
  have bn_t_5 : h0.size ≤ t_5 := Nat.le_trans K4.1 g5_0
  obtain ⟨lit8, T8, h8, j8, ltb8, k8, X8, e8, E8, hS8, hk8, hZ8, ho8, Ex8, Fc8, Fv8, Av8, la8, lb8, C8, -, Sn8, st8⟩ := ldcCH X5 hx hZ hown (hwi hw 78 rfl) (own_wS hw) rfl hS0 hk7 hEL (by decide) R6.1 (vs := [(.int 115), (.int 117), (.int 109), (.int 40)]) (z := (4 : Int32)) (own_text_1) (by decide) (by rfl) (g := (mkF m 19 #[.val (.ref a1)] [(.ref b2)])) rfl (hb hby d10_19) (n := 16) (by decide) (by decide) (by decide) (by decide)
  have sf_t_5_9 := CHr.safe C8 (show t_5 < T5.heap.size from ltN (by have := ltN g5_5.lt; omega)) sf_t_5_6
  have R9 := C8
  have CR9 := CR6.trans R9
  have sz10 : T5.heap.size ≤ h8.size := E8.1
  have Z10 : n0 ≤ h8.size := Nat.le_trans Z7 sz10
  have O10 := O7.ext E8
  have K10 : Keep h0 h8 [] := K7.ext E8
  have nq_t_5_8 := Sn8 _ sf_t_5_9
  have fc12 := (g5_1.ext E8)
  have fc13 := (g5_3.ext E8)
  have fc14 := (g5_2.ext E8)
  have fc15 := (g5_5.ext E8)
  have fc16 := (g5_4.ext E8)
  obtain ⟨cq11, kq11, q11a, q11b, q11c⟩ := isOf hZ8 e8 fc12
  obtain ⟨_, _, ⟨T11, L11, k11, n11⟩, -, X11, ⟨Lc11, hQ11, l11, y11, z11⟩, st11⟩ := X8.virtualBack hx (y := (⟨"java/lang/StringBuilder", "append", "(Ljava/lang/String;)Ljava/lang/StringBuilder;"⟩ : MethodName)) (z := (⟨"java/lang/StringBuilder", "append", "(Ljava/lang/String;)Ljava/lang/StringBuilder;"⟩ : MethodName)) ho8 (mvT hZ8 (hwi hw 79 rfl)) (mvT hZ8 (hwi hw 80 rfl)) (notFace_of_selects (args := #[]) (mvT hZ8 (hwi hw 82 rfl))) (mvT hZ8 (hwi hw 82 rfl)) (mvT hZ8 (hwi hw 81 rfl)) (by decide) (backOf (W := 0) (rm_sbapp l Z a0 hw [] b2 lit8 w_COMPACT_STRINGS t_5 kt_5 [(.int 0), (.int 0), (.int 0), (.int 0), (.int 0), (.int 0), (.int 0), (.int 0), (.int 0), (.int 0), (.int 0), (.int 0), (.int 0), (.int 0), (.int 0), (.int 0)] (0 : Int32) ltb8 k8 [(.int 115), (.int 117), (.int 109), (.int 40)] (4 : Int32) h8 n0 Z10 S_COMPACT_STRINGS hcs fc12 fc13 fc14 fc15 fc16 Ex8 Fc8 Fv8 Av8 (by decide : ¬ ((0 : Int32) < (0 : Int32))) (by decide : (0 : Int32).toNatClampNeg + (4 : Int32).toNatClampNeg ≤ (16 : Int32).toNatClampNeg) (Nat.le_of_ble_eq_true rfl) (by decide : ¬ ((4 : Int32) < (0 : Int32))) (by decide : ¬ ((0 : Int32) < (((0 : Int32) + (4 : Int32)) - (16 : Int32)))) (fun q => nq_t_5_8.2 q.symm) (Exa.ne Ex8 fc12 (by decide)) (Nat.le_trans Z0 bn_t_5) O10 (Nat.le_trans Z0 bn_b2) (by decide : ((4 : Int32) >>> ((0 : Int32) &&& 31)) = (4 : Int32)) (by decide : ((0 : Int32) <<< ((0 : Int32) &&& 31)) = (0 : Int32))) hZ8 (hwi hw 83 rfl) (hwi hw 62 rfl) (by decide) (by decide)) q11a q11c (g := (mkF m 21 #[.val (.ref a1)] [(.ref lit8), (.ref b2)])) rfl (by rw [hml]; rfl) (Steps.refl _) (argsL := [(.ref lit8)]) (rest := []) (lenOf pd_Ljava_lang_String__Ljava_lang_StringBuilder_184 rfl) rfl (by show 2 * 0 + _ ≤ _; exact Nat.le_of_eq rfl) (hb hby d10_21) (fun _ _ => ⟨rfl, e8, (by decide : 4 + 0 ≤ _), (by decide : 40 + 0 ≤ _)⟩)
  dsimp only [Pt.U, Pt.locs, Pt.cells, Pt.slots] at X11 l11 y11 z11 st11 hQ11
  subst l11 y11 z11
  obtain ⟨rfl, N11q, Kc11, g11_0, g11_1, g11_2, g11_3, g11_4⟩ := hQ11
  have N11 := Fr.app N5 N11q
  have R17 := CHr.keep Kc11 (sfS (Safe.exa hZ8.alike fc12 (by decide) (by decide)) (sfS sf_t_5_9 sf0)) R9.1
  have sf_t_5_17 := Safe.keep Kc11 (sfS (Safe.exa hZ8.alike fc12 (by decide) (by decide)) (sfS sf_t_5_9 sf0)) R9.1 sf_t_5_9
  have CR17 := CR9.trans R17
  have sz18 : h8.size ≤ T11.heap.size := Kc11.1
  have Z18 : n0 ≤ T11.heap.size := Nat.le_trans Z10 sz18
  have hk18 := Nat.le_trans hk8 sz18
  have O18 := O10.keep Kc11 (allS (Nat.le_trans Z0 bn_b2) (allS (Nat.le_trans Z0 bn_t_5) all0))
  have K18 : Keep h0 T11.heap [] := K10.trans Kc11 (allS (Or.inr bn_b2) (allS (Or.inr bn_t_5) (all0)))
  have Feg11_3 : Fld Z T11.heap b2 "java/lang/AbstractStringBuilder" "count" "I" (.int 4) := by have q := g11_3; rw [(by decide : ((0 : Int32) + (4 : Int32)) = (4 : Int32))] at q; exact q
  have Veg11_4 : Arv Z T11.heap t_5 kt_5 .byte (16 : Int32) [(.int 115), (.int 117), (.int 109), (.int 40), (.int 0), (.int 0), (.int 0), (.int 0), (.int 0), (.int 0), (.int 0), (.int 0), (.int 0), (.int 0), (.int 0), (.int 0)] (.int 0) := g11_4
  have fc19 := ((((F_a1_column.ext E2).keep Kc5 (ninS (neN (by have := ltN F_a1_column.lt; have := ltN A2.lt; omega)) nin0)).ext E8).keep Kc11 (ninS (neN (by have := ltN F_a1_column.lt; have := ltN A2.lt; omega)) (ninS (neN (by have := ltN F_a1_column.lt; have := ltN g5_5.lt; omega)) nin0)))
  obtain ⟨T20, X20, e20, st20⟩ := getF X11 hx hZ8 ho8 (host := "") (Or.inl (hwi hw 38 rfl)) Via.refl rfl fc19 (g := (mkF m 25 #[.val (.ref a1)] [(.ref a1), (.ref b2)])) rfl rfl (hb hby d10_25)
  have fc22 := ((((E_cl_.ext E2).keep Kc5).ext E8).keep Kc11)
  have fc23 := ((((F_cl__coder.ext E2).keep Kc5 (ninS (neN (by have := ltN E_cl_.lt; have := ltN A2.lt; omega)) nin0)).ext E8).keep Kc11 (ninS (neN (by have := ltN E_cl_.lt; have := ltN A2.lt; omega)) (ninS (neN (by have := ltN E_cl_.lt; have := ltN g5_5.lt; omega)) nin0)))
  have fc24 := ((((F_cl__value.ext E2).keep Kc5 (ninS (neN (by have := ltN E_cl_.lt; have := ltN A2.lt; omega)) nin0)).ext E8).keep Kc11 (ninS (neN (by have := ltN E_cl_.lt; have := ltN A2.lt; omega)) (ninS (neN (by have := ltN E_cl_.lt; have := ltN g5_5.lt; omega)) nin0)))
  have fc25 := ((((V_t_cl_.ext E2).keep Kc5 (ninS (neN (by have := ltN V_t_cl_.lt; have := ltN A2.lt; omega)) nin0)).ext E8).keep Kc11 (ninS (neN (by have := ltN V_t_cl_.lt; have := ltN A2.lt; omega)) (ninS (neN (by have := ltN V_t_cl_.lt; have := ltN g5_5.lt; omega)) nin0)))
  obtain ⟨cq21, kq21, q21a, q21b, q21c⟩ := isOf hZ8 e20 g11_0
  obtain ⟨_, _, ⟨T21, L21, k21, n21⟩, -, X21, ⟨Lc21, hQ21, l21, y21, z21⟩, st21⟩ := X20.virtualBack hx (y := (⟨"java/lang/StringBuilder", "append", "(Ljava/lang/String;)Ljava/lang/StringBuilder;"⟩ : MethodName)) (z := (⟨"java/lang/StringBuilder", "append", "(Ljava/lang/String;)Ljava/lang/StringBuilder;"⟩ : MethodName)) ho8 (mvT hZ8 (hwi hw 79 rfl)) (mvT hZ8 (hwi hw 80 rfl)) (notFace_of_selects (args := #[]) (mvT hZ8 (hwi hw 82 rfl))) (mvT hZ8 (hwi hw 82 rfl)) (mvT hZ8 (hwi hw 81 rfl)) (by decide) (backOf (W := 0) (rm_sbapp l Z a0 hw [] b2 cl_ w_COMPACT_STRINGS t_5 kt_5 [(.int 115), (.int 117), (.int 109), (.int 40), (.int 0), (.int 0), (.int 0), (.int 0), (.int 0), (.int 0), (.int 0), (.int 0), (.int 0), (.int 0), (.int 0), (.int 0)] (4 : Int32) t_cl_ k_t_cl_ [] (0 : Int32) T11.heap n0 Z18 S_COMPACT_STRINGS hcs g11_0 g11_2 g11_1 Veg11_4 Feg11_3 fc22 fc23 fc24 fc25 (by decide : ¬ ((4 : Int32) < (0 : Int32))) (by decide : (4 : Int32).toNatClampNeg + (0 : Int32).toNatClampNeg ≤ (16 : Int32).toNatClampNeg) (Nat.le_of_ble_eq_true rfl) (by decide : ¬ ((0 : Int32) < (0 : Int32))) (by decide : ¬ ((0 : Int32) < (((4 : Int32) + (0 : Int32)) - (16 : Int32)))) (neN (by have := ltN V_t_cl_.lt; have := ltN g5_5.lt; omega)) (neN (by have := ltN E_cl_.lt; have := ltN A2.lt; omega)) (Nat.le_trans Z0 bn_t_5) O18 (Nat.le_trans Z0 bn_b2) (by decide : ((0 : Int32) >>> ((0 : Int32) &&& 31)) = (0 : Int32)) (by decide : ((4 : Int32) <<< ((0 : Int32) &&& 31)) = (4 : Int32))) hZ8 (hwi hw 83 rfl) (hwi hw 62 rfl) (by decide) (by decide)) q21a q21c (g := (mkF m 28 #[.val (.ref a1)] [(.ref cl_), (.ref b2)])) rfl (by rw [hml]; rfl) (Steps.refl _) (argsL := [(.ref cl_)]) (rest := []) (lenOf pd_Ljava_lang_String__Ljava_lang_StringBuilder_184 rfl) rfl (by show 2 * 0 + _ ≤ _; exact Nat.le_of_eq rfl) (hb hby d10_28) (fun _ _ => ⟨rfl, e20, (by decide : 4 + 0 ≤ _), (by decide : 40 + 0 ≤ _)⟩)
  dsimp only [Pt.U, Pt.locs, Pt.cells, Pt.slots] at X21 l21 y21 z21 st21 hQ21
  subst l21 y21 z21
  obtain ⟨rfl, N21q, Kc21, g21_0, g21_1, g21_2, g21_3, g21_4⟩ := hQ21
  have N21 := Fr.app N11 N21q
  have R26 := CHr.keep Kc21 (sfS (Safe.exa hZ8.alike g11_0 (by decide) (by decide)) (sfS sf_t_5_17 sf0)) R17.1
  have sf_t_5_26 := Safe.keep Kc21 (sfS (Safe.exa hZ8.alike g11_0 (by decide) (by decide)) (sfS sf_t_5_17 sf0)) R17.1 sf_t_5_17
  have CR26 := CR17.trans R26
  have sz27 : T11.heap.size ≤ T21.heap.size := Kc21.1
  have Z27 : n0 ≤ T21.heap.size := Nat.le_trans Z18 sz27
  have hk27 := Nat.le_trans hk18 sz27
  have O27 := O18.keep Kc21 (allS (Nat.le_trans Z0 bn_b2) (allS (Nat.le_trans Z0 bn_t_5) all0))
  have K27 : Keep h0 T21.heap [] := K18.trans Kc21 (allS (Or.inr bn_b2) (allS (Or.inr bn_t_5) (all0)))
  have Feg21_3 : Fld Z T21.heap b2 "java/lang/AbstractStringBuilder" "count" "I" (.int 4) := by have q := g21_3; rw [(by decide : ((4 : Int32) + (0 : Int32)) = (4 : Int32))] at q; exact q
  have Veg21_4 : Arv Z T21.heap t_5 kt_5 .byte (16 : Int32) [(.int 115), (.int 117), (.int 109), (.int 40), (.int 0), (.int 0), (.int 0), (.int 0), (.int 0), (.int 0), (.int 0), (.int 0), (.int 0), (.int 0), (.int 0), (.int 0)] (.int 0) := g21_4
  obtain ⟨lit28, T28, h28, j28, ltb28, k28, X28, e28, E28, hS28, hk28, hZ28, ho28, Ex28, Fc28, Fv28, Av28, la28, lb28, C28, -, Sn28, st28⟩ := ldcCH X21 hx hZ8 ho8 (hwi hw 127 rfl) (own_wS hw) rfl hS8 hk27 hEL (by decide) R26.1 (vs := [(.int 41)]) (z := (1 : Int32)) (own_text_2) (by decide) (by rfl) (g := (mkF m 31 #[.val (.ref a1)] [(.ref b2)])) rfl (hb hby d10_31) (n := 4) (by decide) (by decide) (by decide) (by decide)
  have sf_t_5_29 := CHr.safe C28 (show t_5 < T21.heap.size from ltN (by have := ltN g5_5.lt; omega)) sf_t_5_26
  have R29 := C28
  have CR29 := CR26.trans R29
  have sz30 : T21.heap.size ≤ h28.size := E28.1
  have Z30 : n0 ≤ h28.size := Nat.le_trans Z27 sz30
  have O30 := O27.ext E28
  have K30 : Keep h0 h28 [] := K27.ext E28
  have nq_t_5_28 := Sn28 _ sf_t_5_29
  have fc32 := (g21_0.ext E28)
  have fc33 := (g21_2.ext E28)
  have fc34 := (g21_1.ext E28)
  have fc35 := (Veg21_4.ext E28)
  have fc36 := (Feg21_3.ext E28)
  obtain ⟨cq31, kq31, q31a, q31b, q31c⟩ := isOf hZ28 e28 fc32
  obtain ⟨_, _, ⟨T31, L31, k31, n31⟩, -, X31, ⟨Lc31, hQ31, l31, y31, z31⟩, st31⟩ := X28.virtualBack hx (y := (⟨"java/lang/StringBuilder", "append", "(Ljava/lang/String;)Ljava/lang/StringBuilder;"⟩ : MethodName)) (z := (⟨"java/lang/StringBuilder", "append", "(Ljava/lang/String;)Ljava/lang/StringBuilder;"⟩ : MethodName)) ho28 (mvT hZ28 (hwi hw 79 rfl)) (mvT hZ28 (hwi hw 80 rfl)) (notFace_of_selects (args := #[]) (mvT hZ28 (hwi hw 82 rfl))) (mvT hZ28 (hwi hw 82 rfl)) (mvT hZ28 (hwi hw 81 rfl)) (by decide) (backOf (W := 0) (rm_sbapp l Z a0 hw [] b2 lit28 w_COMPACT_STRINGS t_5 kt_5 [(.int 115), (.int 117), (.int 109), (.int 40), (.int 0), (.int 0), (.int 0), (.int 0), (.int 0), (.int 0), (.int 0), (.int 0), (.int 0), (.int 0), (.int 0), (.int 0)] (4 : Int32) ltb28 k28 [(.int 41)] (1 : Int32) h28 n0 Z30 S_COMPACT_STRINGS hcs fc32 fc33 fc34 fc35 fc36 Ex28 Fc28 Fv28 Av28 (by decide : ¬ ((4 : Int32) < (0 : Int32))) (by decide : (4 : Int32).toNatClampNeg + (1 : Int32).toNatClampNeg ≤ (16 : Int32).toNatClampNeg) (Nat.le_of_ble_eq_true rfl) (by decide : ¬ ((1 : Int32) < (0 : Int32))) (by decide : ¬ ((0 : Int32) < (((4 : Int32) + (1 : Int32)) - (16 : Int32)))) (fun q => nq_t_5_28.2 q.symm) (Exa.ne Ex28 fc32 (by decide)) (Nat.le_trans Z0 bn_t_5) O30 (Nat.le_trans Z0 bn_b2) (by decide : ((1 : Int32) >>> ((0 : Int32) &&& 31)) = (1 : Int32)) (by decide : ((4 : Int32) <<< ((0 : Int32) &&& 31)) = (4 : Int32))) hZ28 (hwi hw 83 rfl) (hwi hw 62 rfl) (by decide) (by decide)) q31a q31c (g := (mkF m 33 #[.val (.ref a1)] [(.ref lit28), (.ref b2)])) rfl (by rw [hml]; rfl) (Steps.refl _) (argsL := [(.ref lit28)]) (rest := []) (lenOf pd_Ljava_lang_String__Ljava_lang_StringBuilder_184 rfl) rfl (by show 2 * 0 + _ ≤ _; exact Nat.le_of_eq rfl) (hb hby d10_33) (fun _ _ => ⟨rfl, e28, (by decide : 6 + 0 ≤ _), (by decide : 48 + 0 ≤ _)⟩)
  dsimp only [Pt.U, Pt.locs, Pt.cells, Pt.slots] at X31 l31 y31 z31 st31 hQ31
  subst l31 y31 z31
  obtain ⟨rfl, N31q, Kc31, g31_0, g31_1, g31_2, g31_3, g31_4⟩ := hQ31
  have N31 := Fr.app N21 N31q
  have R37 := CHr.keep Kc31 (sfS (Safe.exa hZ28.alike fc32 (by decide) (by decide)) (sfS sf_t_5_29 sf0)) R29.1
  have sf_t_5_37 := Safe.keep Kc31 (sfS (Safe.exa hZ28.alike fc32 (by decide) (by decide)) (sfS sf_t_5_29 sf0)) R29.1 sf_t_5_29
  have CR37 := CR29.trans R37
  have sz38 : h28.size ≤ T31.heap.size := Kc31.1
  have Z38 : n0 ≤ T31.heap.size := Nat.le_trans Z30 sz38
  have hk38 := Nat.le_trans hk28 sz38
  have O38 := O30.keep Kc31 (allS (Nat.le_trans Z0 bn_b2) (allS (Nat.le_trans Z0 bn_t_5) all0))
  have K38 : Keep h0 T31.heap [] := K30.trans Kc31 (allS (Or.inr bn_b2) (allS (Or.inr bn_t_5) (all0)))
  have Feg31_3 : Fld Z T31.heap b2 "java/lang/AbstractStringBuilder" "count" "I" (.int 5) := by have q := g31_3; rw [(by decide : ((4 : Int32) + (1 : Int32)) = (5 : Int32))] at q; exact q
  have Veg31_4 : Arv Z T31.heap t_5 kt_5 .byte (16 : Int32) [(.int 115), (.int 117), (.int 109), (.int 40), (.int 41), (.int 0), (.int 0), (.int 0), (.int 0), (.int 0), (.int 0), (.int 0), (.int 0), (.int 0), (.int 0), (.int 0)] (.int 0) := g31_4
  obtain ⟨cq39, kq39, q39a, q39b, q39c⟩ := isOf hZ28 rfl g31_0
  obtain ⟨_, _, ⟨T39, L39, k39, n39⟩, -, X39, ⟨Lc39, hQ39, l39, y39, z39⟩, st39⟩ := X31.virtualBack hx (y := (⟨"java/lang/StringBuilder", "toString", "()Ljava/lang/String;"⟩ : MethodName)) (z := (⟨"java/lang/StringBuilder", "toString", "()Ljava/lang/String;"⟩ : MethodName)) ho28 (mvT hZ28 (hwi hw 128 rfl)) (mvT hZ28 (hwi hw 129 rfl)) (notFace_of_selects (args := #[]) (mvT hZ28 (hwi hw 131 rfl))) (mvT hZ28 (hwi hw 131 rfl)) (mvT hZ28 (hwi hw 130 rfl)) (by decide) (backOf (W := 0) (rm_tostr_5 l Z a0 hw [] b2 w_COMPACT_STRINGS t_5 kt_5 [(.int 115), (.int 117), (.int 109), (.int 40), (.int 41), (.int 0), (.int 0), (.int 0), (.int 0), (.int 0), (.int 0), (.int 0), (.int 0), (.int 0), (.int 0), (.int 0)] T31.heap n0 Z38 S_COMPACT_STRINGS hcs g31_0 g31_2 g31_1 Veg31_4 Feg31_3 O38) hZ28 (hwi hw 132 rfl) (hwi hw 62 rfl) (by decide) (by decide)) q39a q39c (g := (mkF m 36 #[.val (.ref a1)] [(.ref b2)])) rfl (by rw [hml]; rfl) (Steps.refl _) (argsL := []) (rest := []) (lenOf pd_Ljava_lang_String_777 rfl) rfl (by show 2 * 0 + _ ≤ _; exact Nat.le_of_eq rfl) (hb hby d10_36) (fun _ _ => ⟨rfl, rfl, (by decide : 6 + 2 ≤ _), (by decide : 48 + 9 ≤ _)⟩)
  dsimp only [Pt.U, Pt.locs, Pt.cells, Pt.slots] at X39 l39 y39 z39 st39 hQ39
  subst l39 y39 z39
  obtain ⟨r_39, t_39, kt_39, rfl, N39q, Kc39, g39_0, g39_1, g39_2, g39_3, g39_4, g39_5⟩ := hQ39
  have N39 := Fr.app N31 N39q
  have sfb39_0 : Safe Z consts_1 T28.vm T31.heap r_39 := Safe.new g39_0
  have sfb39_1 : Safe Z consts_1 T28.vm T31.heap t_39 := Safe.new g39_1
  have R40 := CHr.keep Kc39 sf0 R37.1
  have sf_t_5_40 := Safe.keep Kc39 sf0 R37.1 sf_t_5_37
  have sf_r_39_40 := Safe.keep Kc39 sf0 R37.1 sfb39_0
  have sf_t_39_40 := Safe.keep Kc39 sf0 R37.1 sfb39_1
  have CR40 := CR37.trans R40
  have sz41 : T31.heap.size ≤ T39.heap.size := Kc39.1
  have Z41 : n0 ≤ T39.heap.size := Nat.le_trans Z38 sz41
  have hk41 := Nat.le_trans hk38 sz41
  have O41 := O38.keep Kc39 all0
  have K41 : Keep h0 T39.heap [] := K38.trans Kc39 (all0)
  have bn_r_39 : h0.size ≤ r_39 := Nat.le_trans K38.1 g39_0
  have bn_t_39 : h0.size ≤ t_39 := Nat.le_trans K38.1 g39_1
  have Veg39_5 : Arv Z T39.heap t_39 kt_39 .byte (5 : Int32) [(.int 115), (.int 117), (.int 109), (.int 40), (.int 41)] (.int 0) := g39_5
  have CRe := CR40.trans (CHv.at X39 hZ28 hEL R40.1)
  obtain ⟨fs, hr, hrun, hended, hRE⟩ := X39.leaveW hS28 hk41 (v := some (.ref r_39)) (fun h => by rw [Bd.returns] at h; cases h)
  refine ⟨_, _, pre0 _ ?_, hrun, hended, _, _, rfl, ?_, ?_, ⟨hRE.1, hRE.2.1, hRE.2.2.1, hRE.2.2.2.mono (by decide) (by decide)⟩⟩
  · show St p e below s₁ (mkF m 0 #[.val (.ref a1)] []) _
    refine XS.aloadN X0.here hx rfl (hb hby d10_0) rfl rfl ?_
    refine st1 _ ?_
    refine XS.ifnonnullYes X1.here hx rfl (pc0 := 4) (pc' := 12) rfl (hb hby d10_4) rfl (by decide) (by decide) ?_
    refine st2 _ ?_
    show St p e below T2 (mkF m 15 #[.val (.ref a1)] [(.ref b2)]) _
    refine XS.dup X2.here hx rfl (hb hby d10_15) rfl rfl ?_
    refine st5.trans ?_
    refine st8 _ ?_
    refine st11.trans ?_
    show St p e below T11 (mkF m 24 #[.val (.ref a1)] [(.ref b2)]) _
    refine XS.aloadN X11.here hx rfl (hb hby d10_24) rfl rfl ?_
    refine st20 _ ?_
    refine st21.trans ?_
    refine st28 _ ?_
    show St p e below T28 (mkF m 33 #[.val (.ref a1)] [(.ref lit28), (.ref b2)]) _
    refine st31.trans ?_
    refine st39.trans ?_
    show St p e below T39 (mkF m 39 #[.val (.ref a1)] [(.ref r_39)]) _
    jvm_step X39.here [X39.here.top, hx, (hb hby d10_39), X39.method', Bd.returns, Value.isRef, FieldType.isReference]
    first | (intro acts; rw [hr _ acts rfl rfl rfl]) | rw [hr _ _ rfl rfl rfl]
    exact Steps.refl _
  · show Q_agstr_0 Z a1 w_COMPACT_STRINGS cl_ t_cl_ k_t_cl_ h0 n0 _ T39.heap _
    exact ⟨r_39, t_39, kt_39, rfl, N39, K41, bn_r_39, bn_t_39, g39_2, g39_3, g39_4, Veg39_5⟩
  · show CHr Z consts_1 s.vm s.heap T39.vm T39.heap
    rw [hh]
    exact CRe
def Q_agstr_1 (Z : State) (a1 : Addr) (w_COMPACT_STRINGS : Int32) (cl_ : Addr) (c0 : Int32) (t_cl_ : Addr) (k_t_cl_ : ClassId) (h0 : Heap) (n0 : Nat) (v : Option Value) (h : Heap) (L : List Loc) : Prop := ∃ (r : Addr) (t : Addr) (kt : ClassId), v = some (.ref r) ∧ Fr n0 L ∧ Keep h0 h [] ∧ h0.size ≤ r ∧ h0.size ≤ t ∧ Exa Z h r "java/lang/String" ∧ Fld Z h r "java/lang/String" "coder" "B" (.int 0) ∧ Fld Z h r "java/lang/String" "value" "[B" (.ref t) ∧ Arv Z h t kt .byte (6 : Int32) [(.int 115), (.int 117), (.int 109), (.int 40), (.int (c0.toInt8.toInt32)), (.int 41)] (.int 0)
set_option maxRecDepth 65536 in
set_option maxHeartbeats 40000000 in
theorem rm_agstr_1 (l : Launch) (Z : State) (a0 : Array Value) (hw : ∀ d ∈ tables_1, d.before a0 Z = true) (hEL : EW Z a0 consts_1) (ws : List Jvm.Cond) (a1 : Addr) (w_COMPACT_STRINGS : Int32) (cl_ : Addr) (c0 : Int32) (t_cl_ : Addr) (k_t_cl_ : ClassId) (h0 : Heap) (n0 : Nat) (Z0 : n0 ≤ h0.size) (S_COMPACT_STRINGS : Sta Z Z.heap "java/lang/String" "COMPACT_STRINGS" "Z" (.int w_COMPACT_STRINGS)) (hcs : ¬ (w_COMPACT_STRINGS = (0 : Int32))) (F_a1_column : Fld Z h0 a1 "com/example/sunder/sunder/Aggregate" "column" "Ljava/lang/String;" (.ref cl_)) (E_cl_ : Exa Z h0 cl_ "java/lang/String") (F_cl__coder : Fld Z h0 cl_ "java/lang/String" "coder" "B" (.int 0)) (F_cl__value : Fld Z h0 cl_ "java/lang/String" "value" "[B" (.ref t_cl_)) (V_t_cl_ : Arv Z h0 t_cl_ k_t_cl_ .byte (1 : Int32) [(.int (c0.toInt8.toInt32))] (.int 0)) (O0 : Old Z n0 h0) :
    MetFree l (⟨"com/example/sunder/sunder/Aggregate", "toString", "()Ljava/lang/String;"⟩ : MethodName) (head1 (Jvm.Cond.code (⟨"com/example/sunder/sunder/Aggregate", "toString", "()Ljava/lang/String;"⟩ : MethodName) prog_2_method_5_code 1 (some (.object "java/lang/String")) :: ws) ({ frames := 6, cells := 8, slots := 58, locals := 91 } : Room)) (fun a U => a = #[(.ref a1)] ∧ Z.Warmed39 U.vm ∧ U.heap = h0 ∧ CHv Z consts_1 U.vm h0) (fun _ _ _ _ _ => True) (fun _ U o U' => ∃ v L, o = .returned v ∧ Q_agstr_1 Z a1 w_COMPACT_STRINGS cl_ c0 t_cl_ k_t_cl_ h0 n0 v U'.heap L ∧ CHr Z consts_1 U.vm U.heap U'.vm U'.heap ∧ ReturnedEndW U o U' L ({ frames := 6, cells := 8, slots := 58, locals := 91 } : Room).cells ({ frames := 6, cells := 8, slots := 58, locals := 91 } : Room).slots) := by
  refine MetFree.of_bodySF (plainFor_of_name pn_10) hisR ?_
  intro p e s m args below meth c s₁ Bd hml0 hP hK
  obtain ⟨rfl, hZ, hh, H0c⟩ := hP
  have hx := Bd.exec
  have hby := Bd.bytes
  have hml : c.maxLocals = 1 := hml0
  have hown : s.vm.findClass "com/example/sunder/sunder/Aggregate" = some m.cls := findClass_of_methodNamed Bd.named
  have hnm := (name_of_methodNamed Bd.named Bd.method).1
  have X0 : Stand p l e ({ frames := 6, cells := 8, slots := 58, locals := 91 } : Room) (s.setVm s.vm) m #[(.ref a1)] below meth c s₁ [] 0 0 := Stand.of_body Bd
  have e0 : s₁.heap = h0 := by rw [← hh, Bd.state]; rfl
  have N0 := Fr.nil n0
  have pre0 : ∀ t, Steps p.tables e below (s₁.setTop (mkF m 0 #[.val (.ref a1)] [])) t → Steps p.tables e below (s₁.setTop (entryFrame m #[(.ref a1)] 1)) t := fun t k => castTop (ef_10_R m a1) k
  have hS0 : s.Since s.vm 0 := (State.WarmedH.refl s).since 0
  have hk0 : 0 ≤ h0.size := Nat.zero_le _
  have C0c : CHr Z consts_1 s.vm h0 s.vm h0 := CHr.refl H0c
  obtain ⟨T1, X1, e1, st1⟩ := getF X0 hx hZ hown (host := "") (Or.inl (hwi hw 38 rfl)) Via.refl e0 F_a1_column (g := (mkF m 1 #[.val (.ref a1)] [(.ref a1)])) rfl rfl (hb hby d10_1)
  obtain ⟨T2, h2, X2, e2, E2, A2, D2, -, st2⟩ := newO X1 hx hZ hown (hwi hw 60 rfl) (hwi hw 61 rfl) (hwi hw 62 rfl) e1 (g := (mkF m 12 #[.val (.ref a1)] [])) rfl (hb hby d10_12) (by decide) (by decide)
  obtain ⟨b2, g2⟩ : ∃ z, z = h0.size := ⟨_, rfl⟩
  rw [← g2] at A2 D2 st2
  have bn_b2 : h0.size ≤ b2 := Nat.le_of_eq g2.symm
  have R3 := CHr.ext E2 H0c
  have CR3 := C0c.trans R3
  have sz4 : h0.size ≤ h2.size := E2.1
  have Z4 : n0 ≤ h2.size := Nat.le_trans Z0 sz4
  have hk4 := Nat.le_trans hk0 sz4
  have O4 := O0.ext E2
  have K4 : Keep h0 h2 [] := (Keep.refl h0 []).ext E2
  have F2_value : Fld Z h2 b2 "java/lang/AbstractStringBuilder" "value" "[B" .null := D2 (Or.inl (hwi hw 75 rfl)) (ty := (.array .byte)) (by decide)
  have F2_coder : Fld Z h2 b2 "java/lang/AbstractStringBuilder" "coder" "B" (.int 0) := D2 (Or.inl (hwi hw 77 rfl)) (ty := .byte) (by decide)
  have F2_count : Fld Z h2 b2 "java/lang/AbstractStringBuilder" "count" "I" (.int 0) := D2 (Or.inl (hwi hw 101 rfl)) (ty := .int) (by decide)
  obtain ⟨_, _, ⟨T5, L5, k5, n5⟩, -, X5, ⟨Lc5, hQ5, l5, y5, z5⟩, st5⟩ := X2.specialBack hx (y := (⟨"java/lang/StringBuilder", "<init>", "()V"⟩ : MethodName)) rfl hown (mvT hZ (hwi hw 63 rfl)) (mvT hZ (hwi hw 64 rfl)) (mvT hZ (hwi hw 65 rfl)) (by decide) (backOf (W := 1) (rm_sbinit l Z a0 hw [] b2 w_COMPACT_STRINGS .null (.int 0) h2 n0 Z4 S_COMPACT_STRINGS hcs A2 F2_count O4 F2_value (Nat.le_trans Z0 bn_b2) F2_coder) hZ (hwi hw 65 rfl) (hwi hw 62 rfl) (by decide) (by decide)) (g := (mkF m 16 #[.val (.ref a1)] [(.ref b2), (.ref b2)])) rfl (by rw [hml]; rfl) (Steps.refl _) (a := b2) (argsL := []) (rest := [(.ref b2)]) (lenOf pd_V_167 rfl) rfl (by show 2 * 0 + _ ≤ _; exact Nat.le_of_eq rfl) (hb hby d10_16) (fun _ _ => ⟨rfl, e2, (by decide : 1 + 1 ≤ _), (by decide : 4 + 16 ≤ _)⟩)
  dsimp only [Pt.U, Pt.locs, Pt.cells, Pt.slots] at X5 l5 y5 z5 st5 hQ5
  subst l5 y5 z5
  obtain ⟨t_5, kt_5, rfl, N5q, Kc5, g5_0, g5_1, g5_2, g5_3, g5_4, g5_5⟩ := hQ5
  have N5 := Fr.app N0 N5q
  have sfb5_0 : Safe Z consts_1 s.vm h2 t_5 := Safe.new g5_0
  have R6 := CHr.keep Kc5 (sfS (Safe.exa hZ.alike A2 (by decide) (by decide)) sf0) R3.1
  have sf_t_5_6 := Safe.keep Kc5 (sfS (Safe.exa hZ.alike A2 (by decide) (by decide)) sf0) R3.1 sfb5_0
  have CR6 := CR3.trans R6
  have sz7 : h2.size ≤ T5.heap.size := Kc5.1
  have Z7 : n0 ≤ T5.heap.size := Nat.le_trans Z4 sz7
  have hk7 := Nat.le_trans hk4 sz7
  have O7 := O4.keep Kc5 (allS (Nat.le_trans Z0 bn_b2) all0)
  have K7 : Keep h0 T5.heap [] := K4.trans Kc5 (allS (Or.inr bn_b2) (all0))
  have bn_t_5 : h0.size ≤ t_5 := Nat.le_trans K4.1 g5_0
  obtain ⟨lit8, T8, h8, j8, ltb8, k8, X8, e8, E8, hS8, hk8, hZ8, ho8, Ex8, Fc8, Fv8, Av8, la8, lb8, C8, -, Sn8, st8⟩ := ldcCH X5 hx hZ hown (hwi hw 78 rfl) (own_wS hw) rfl hS0 hk7 hEL (by decide) R6.1 (vs := [(.int 115), (.int 117), (.int 109), (.int 40)]) (z := (4 : Int32)) (own_text_1) (by decide) (by rfl) (g := (mkF m 19 #[.val (.ref a1)] [(.ref b2)])) rfl (hb hby d10_19) (n := 16) (by decide) (by decide) (by decide) (by decide)
  have sf_t_5_9 := CHr.safe C8 (show t_5 < T5.heap.size from ltN (by have := ltN g5_5.lt; omega)) sf_t_5_6
  have R9 := C8
  have CR9 := CR6.trans R9
  have sz10 : T5.heap.size ≤ h8.size := E8.1
  have Z10 : n0 ≤ h8.size := Nat.le_trans Z7 sz10
  have O10 := O7.ext E8
  have K10 : Keep h0 h8 [] := K7.ext E8
  have nq_t_5_8 := Sn8 _ sf_t_5_9
  have fc12 := (g5_1.ext E8)
  have fc13 := (g5_3.ext E8)
  have fc14 := (g5_2.ext E8)
  have fc15 := (g5_5.ext E8)
  have fc16 := (g5_4.ext E8)
  obtain ⟨cq11, kq11, q11a, q11b, q11c⟩ := isOf hZ8 e8 fc12
  obtain ⟨_, _, ⟨T11, L11, k11, n11⟩, -, X11, ⟨Lc11, hQ11, l11, y11, z11⟩, st11⟩ := X8.virtualBack hx (y := (⟨"java/lang/StringBuilder", "append", "(Ljava/lang/String;)Ljava/lang/StringBuilder;"⟩ : MethodName)) (z := (⟨"java/lang/StringBuilder", "append", "(Ljava/lang/String;)Ljava/lang/StringBuilder;"⟩ : MethodName)) ho8 (mvT hZ8 (hwi hw 79 rfl)) (mvT hZ8 (hwi hw 80 rfl)) (notFace_of_selects (args := #[]) (mvT hZ8 (hwi hw 82 rfl))) (mvT hZ8 (hwi hw 82 rfl)) (mvT hZ8 (hwi hw 81 rfl)) (by decide) (backOf (W := 0) (rm_sbapp l Z a0 hw [] b2 lit8 w_COMPACT_STRINGS t_5 kt_5 [(.int 0), (.int 0), (.int 0), (.int 0), (.int 0), (.int 0), (.int 0), (.int 0), (.int 0), (.int 0), (.int 0), (.int 0), (.int 0), (.int 0), (.int 0), (.int 0)] (0 : Int32) ltb8 k8 [(.int 115), (.int 117), (.int 109), (.int 40)] (4 : Int32) h8 n0 Z10 S_COMPACT_STRINGS hcs fc12 fc13 fc14 fc15 fc16 Ex8 Fc8 Fv8 Av8 (by decide : ¬ ((0 : Int32) < (0 : Int32))) (by decide : (0 : Int32).toNatClampNeg + (4 : Int32).toNatClampNeg ≤ (16 : Int32).toNatClampNeg) (Nat.le_of_ble_eq_true rfl) (by decide : ¬ ((4 : Int32) < (0 : Int32))) (by decide : ¬ ((0 : Int32) < (((0 : Int32) + (4 : Int32)) - (16 : Int32)))) (fun q => nq_t_5_8.2 q.symm) (Exa.ne Ex8 fc12 (by decide)) (Nat.le_trans Z0 bn_t_5) O10 (Nat.le_trans Z0 bn_b2) (by decide : ((4 : Int32) >>> ((0 : Int32) &&& 31)) = (4 : Int32)) (by decide : ((0 : Int32) <<< ((0 : Int32) &&& 31)) = (0 : Int32))) hZ8 (hwi hw 83 rfl) (hwi hw 62 rfl) (by decide) (by decide)) q11a q11c (g := (mkF m 21 #[.val (.ref a1)] [(.ref lit8), (.ref b2)])) rfl (by rw [hml]; rfl) (Steps.refl _) (argsL := [(.ref lit8)]) (rest := []) (lenOf pd_Ljava_lang_String__Ljava_lang_StringBuilder_184 rfl) rfl (by show 2 * 0 + _ ≤ _; exact Nat.le_of_eq rfl) (hb hby d10_21) (fun _ _ => ⟨rfl, e8, (by decide : 4 + 0 ≤ _), (by decide : 40 + 0 ≤ _)⟩)
  dsimp only [Pt.U, Pt.locs, Pt.cells, Pt.slots] at X11 l11 y11 z11 st11 hQ11
  subst l11 y11 z11
  obtain ⟨rfl, N11q, Kc11, g11_0, g11_1, g11_2, g11_3, g11_4⟩ := hQ11
  have N11 := Fr.app N5 N11q
  have R17 := CHr.keep Kc11 (sfS (Safe.exa hZ8.alike fc12 (by decide) (by decide)) (sfS sf_t_5_9 sf0)) R9.1
  have sf_t_5_17 := Safe.keep Kc11 (sfS (Safe.exa hZ8.alike fc12 (by decide) (by decide)) (sfS sf_t_5_9 sf0)) R9.1 sf_t_5_9
  have CR17 := CR9.trans R17
  have sz18 : h8.size ≤ T11.heap.size := Kc11.1
  have Z18 : n0 ≤ T11.heap.size := Nat.le_trans Z10 sz18
  have hk18 := Nat.le_trans hk8 sz18
  have O18 := O10.keep Kc11 (allS (Nat.le_trans Z0 bn_b2) (allS (Nat.le_trans Z0 bn_t_5) all0))
  have K18 : Keep h0 T11.heap [] := K10.trans Kc11 (allS (Or.inr bn_b2) (allS (Or.inr bn_t_5) (all0)))
  have Feg11_3 : Fld Z T11.heap b2 "java/lang/AbstractStringBuilder" "count" "I" (.int 4) := by have q := g11_3; rw [(by decide : ((0 : Int32) + (4 : Int32)) = (4 : Int32))] at q; exact q
  have Veg11_4 : Arv Z T11.heap t_5 kt_5 .byte (16 : Int32) [(.int 115), (.int 117), (.int 109), (.int 40), (.int 0), (.int 0), (.int 0), (.int 0), (.int 0), (.int 0), (.int 0), (.int 0), (.int 0), (.int 0), (.int 0), (.int 0)] (.int 0) := g11_4
  have fc19 := ((((F_a1_column.ext E2).keep Kc5 (ninS (neN (by have := ltN F_a1_column.lt; have := ltN A2.lt; omega)) nin0)).ext E8).keep Kc11 (ninS (neN (by have := ltN F_a1_column.lt; have := ltN A2.lt; omega)) (ninS (neN (by have := ltN F_a1_column.lt; have := ltN g5_5.lt; omega)) nin0)))
  obtain ⟨T20, X20, e20, st20⟩ := getF X11 hx hZ8 ho8 (host := "") (Or.inl (hwi hw 38 rfl)) Via.refl rfl fc19 (g := (mkF m 25 #[.val (.ref a1)] [(.ref a1), (.ref b2)])) rfl rfl (hb hby d10_25)
  have fc22 := ((((E_cl_.ext E2).keep Kc5).ext E8).keep Kc11)
  have fc23 := ((((F_cl__coder.ext E2).keep Kc5 (ninS (neN (by have := ltN E_cl_.lt; have := ltN A2.lt; omega)) nin0)).ext E8).keep Kc11 (ninS (neN (by have := ltN E_cl_.lt; have := ltN A2.lt; omega)) (ninS (neN (by have := ltN E_cl_.lt; have := ltN g5_5.lt; omega)) nin0)))
  have fc24 := ((((F_cl__value.ext E2).keep Kc5 (ninS (neN (by have := ltN E_cl_.lt; have := ltN A2.lt; omega)) nin0)).ext E8).keep Kc11 (ninS (neN (by have := ltN E_cl_.lt; have := ltN A2.lt; omega)) (ninS (neN (by have := ltN E_cl_.lt; have := ltN g5_5.lt; omega)) nin0)))
  have fc25 := ((((V_t_cl_.ext E2).keep Kc5 (ninS (neN (by have := ltN V_t_cl_.lt; have := ltN A2.lt; omega)) nin0)).ext E8).keep Kc11 (ninS (neN (by have := ltN V_t_cl_.lt; have := ltN A2.lt; omega)) (ninS (neN (by have := ltN V_t_cl_.lt; have := ltN g5_5.lt; omega)) nin0)))
  obtain ⟨cq21, kq21, q21a, q21b, q21c⟩ := isOf hZ8 e20 g11_0
  obtain ⟨_, _, ⟨T21, L21, k21, n21⟩, -, X21, ⟨Lc21, hQ21, l21, y21, z21⟩, st21⟩ := X20.virtualBack hx (y := (⟨"java/lang/StringBuilder", "append", "(Ljava/lang/String;)Ljava/lang/StringBuilder;"⟩ : MethodName)) (z := (⟨"java/lang/StringBuilder", "append", "(Ljava/lang/String;)Ljava/lang/StringBuilder;"⟩ : MethodName)) ho8 (mvT hZ8 (hwi hw 79 rfl)) (mvT hZ8 (hwi hw 80 rfl)) (notFace_of_selects (args := #[]) (mvT hZ8 (hwi hw 82 rfl))) (mvT hZ8 (hwi hw 82 rfl)) (mvT hZ8 (hwi hw 81 rfl)) (by decide) (backOf (W := 0) (rm_sbapp l Z a0 hw [] b2 cl_ w_COMPACT_STRINGS t_5 kt_5 [(.int 115), (.int 117), (.int 109), (.int 40), (.int 0), (.int 0), (.int 0), (.int 0), (.int 0), (.int 0), (.int 0), (.int 0), (.int 0), (.int 0), (.int 0), (.int 0)] (4 : Int32) t_cl_ k_t_cl_ [(.int (c0.toInt8.toInt32))] (1 : Int32) T11.heap n0 Z18 S_COMPACT_STRINGS hcs g11_0 g11_2 g11_1 Veg11_4 Feg11_3 fc22 fc23 fc24 fc25 (by decide : ¬ ((4 : Int32) < (0 : Int32))) (by decide : (4 : Int32).toNatClampNeg + (1 : Int32).toNatClampNeg ≤ (16 : Int32).toNatClampNeg) (Nat.le_of_ble_eq_true rfl) (by decide : ¬ ((1 : Int32) < (0 : Int32))) (by decide : ¬ ((0 : Int32) < (((4 : Int32) + (1 : Int32)) - (16 : Int32)))) (neN (by have := ltN V_t_cl_.lt; have := ltN g5_5.lt; omega)) (neN (by have := ltN E_cl_.lt; have := ltN A2.lt; omega)) (Nat.le_trans Z0 bn_t_5) O18 (Nat.le_trans Z0 bn_b2) (by decide : ((1 : Int32) >>> ((0 : Int32) &&& 31)) = (1 : Int32)) (by decide : ((4 : Int32) <<< ((0 : Int32) &&& 31)) = (4 : Int32))) hZ8 (hwi hw 83 rfl) (hwi hw 62 rfl) (by decide) (by decide)) q21a q21c (g := (mkF m 28 #[.val (.ref a1)] [(.ref cl_), (.ref b2)])) rfl (by rw [hml]; rfl) (Steps.refl _) (argsL := [(.ref cl_)]) (rest := []) (lenOf pd_Ljava_lang_String__Ljava_lang_StringBuilder_184 rfl) rfl (by show 2 * 0 + _ ≤ _; exact Nat.le_of_eq rfl) (hb hby d10_28) (fun _ _ => ⟨rfl, e20, (by decide : 4 + 0 ≤ _), (by decide : 40 + 0 ≤ _)⟩)
  dsimp only [Pt.U, Pt.locs, Pt.cells, Pt.slots] at X21 l21 y21 z21 st21 hQ21
  subst l21 y21 z21
  obtain ⟨rfl, N21q, Kc21, g21_0, g21_1, g21_2, g21_3, g21_4⟩ := hQ21
  have N21 := Fr.app N11 N21q
  have R26 := CHr.keep Kc21 (sfS (Safe.exa hZ8.alike g11_0 (by decide) (by decide)) (sfS sf_t_5_17 sf0)) R17.1
  have sf_t_5_26 := Safe.keep Kc21 (sfS (Safe.exa hZ8.alike g11_0 (by decide) (by decide)) (sfS sf_t_5_17 sf0)) R17.1 sf_t_5_17
  have CR26 := CR17.trans R26
  have sz27 : T11.heap.size ≤ T21.heap.size := Kc21.1
  have Z27 : n0 ≤ T21.heap.size := Nat.le_trans Z18 sz27
  have hk27 := Nat.le_trans hk18 sz27
  have O27 := O18.keep Kc21 (allS (Nat.le_trans Z0 bn_b2) (allS (Nat.le_trans Z0 bn_t_5) all0))
  have K27 : Keep h0 T21.heap [] := K18.trans Kc21 (allS (Or.inr bn_b2) (allS (Or.inr bn_t_5) (all0)))
  have Feg21_3 : Fld Z T21.heap b2 "java/lang/AbstractStringBuilder" "count" "I" (.int 5) := by have q := g21_3; rw [(by decide : ((4 : Int32) + (1 : Int32)) = (5 : Int32))] at q; exact q
  have Veg21_4 : Arv Z T21.heap t_5 kt_5 .byte (16 : Int32) [(.int 115), (.int 117), (.int 109), (.int 40), (.int (c0.toInt8.toInt32)), (.int 0), (.int 0), (.int 0), (.int 0), (.int 0), (.int 0), (.int 0), (.int 0), (.int 0), (.int 0), (.int 0)] (.int 0) := g21_4
  obtain ⟨lit28, T28, h28, j28, ltb28, k28, X28, e28, E28, hS28, hk28, hZ28, ho28, Ex28, Fc28, Fv28, Av28, la28, lb28, C28, -, Sn28, st28⟩ := ldcCH X21 hx hZ8 ho8 (hwi hw 127 rfl) (own_wS hw) rfl hS8 hk27 hEL (by decide) R26.1 (vs := [(.int 41)]) (z := (1 : Int32)) (own_text_2) (by decide) (by rfl) (g := (mkF m 31 #[.val (.ref a1)] [(.ref b2)])) rfl (hb hby d10_31) (n := 4) (by decide) (by decide) (by decide) (by decide)
  have sf_t_5_29 := CHr.safe C28 (show t_5 < T21.heap.size from ltN (by have := ltN g5_5.lt; omega)) sf_t_5_26
  have R29 := C28
  have CR29 := CR26.trans R29
  have sz30 : T21.heap.size ≤ h28.size := E28.1
  have Z30 : n0 ≤ h28.size := Nat.le_trans Z27 sz30
  have O30 := O27.ext E28
  have K30 : Keep h0 h28 [] := K27.ext E28
  have nq_t_5_28 := Sn28 _ sf_t_5_29
  have fc32 := (g21_0.ext E28)
  have fc33 := (g21_2.ext E28)
  have fc34 := (g21_1.ext E28)
  have fc35 := (Veg21_4.ext E28)
  have fc36 := (Feg21_3.ext E28)
  obtain ⟨cq31, kq31, q31a, q31b, q31c⟩ := isOf hZ28 e28 fc32
  obtain ⟨_, _, ⟨T31, L31, k31, n31⟩, -, X31, ⟨Lc31, hQ31, l31, y31, z31⟩, st31⟩ := X28.virtualBack hx (y := (⟨"java/lang/StringBuilder", "append", "(Ljava/lang/String;)Ljava/lang/StringBuilder;"⟩ : MethodName)) (z := (⟨"java/lang/StringBuilder", "append", "(Ljava/lang/String;)Ljava/lang/StringBuilder;"⟩ : MethodName)) ho28 (mvT hZ28 (hwi hw 79 rfl)) (mvT hZ28 (hwi hw 80 rfl)) (notFace_of_selects (args := #[]) (mvT hZ28 (hwi hw 82 rfl))) (mvT hZ28 (hwi hw 82 rfl)) (mvT hZ28 (hwi hw 81 rfl)) (by decide) (backOf (W := 0) (rm_sbapp l Z a0 hw [] b2 lit28 w_COMPACT_STRINGS t_5 kt_5 [(.int 115), (.int 117), (.int 109), (.int 40), (.int (c0.toInt8.toInt32)), (.int 0), (.int 0), (.int 0), (.int 0), (.int 0), (.int 0), (.int 0), (.int 0), (.int 0), (.int 0), (.int 0)] (5 : Int32) ltb28 k28 [(.int 41)] (1 : Int32) h28 n0 Z30 S_COMPACT_STRINGS hcs fc32 fc33 fc34 fc35 fc36 Ex28 Fc28 Fv28 Av28 (by decide : ¬ ((5 : Int32) < (0 : Int32))) (by decide : (5 : Int32).toNatClampNeg + (1 : Int32).toNatClampNeg ≤ (16 : Int32).toNatClampNeg) (Nat.le_of_ble_eq_true rfl) (by decide : ¬ ((1 : Int32) < (0 : Int32))) (by decide : ¬ ((0 : Int32) < (((5 : Int32) + (1 : Int32)) - (16 : Int32)))) (fun q => nq_t_5_28.2 q.symm) (Exa.ne Ex28 fc32 (by decide)) (Nat.le_trans Z0 bn_t_5) O30 (Nat.le_trans Z0 bn_b2) (by decide : ((1 : Int32) >>> ((0 : Int32) &&& 31)) = (1 : Int32)) (by decide : ((5 : Int32) <<< ((0 : Int32) &&& 31)) = (5 : Int32))) hZ28 (hwi hw 83 rfl) (hwi hw 62 rfl) (by decide) (by decide)) q31a q31c (g := (mkF m 33 #[.val (.ref a1)] [(.ref lit28), (.ref b2)])) rfl (by rw [hml]; rfl) (Steps.refl _) (argsL := [(.ref lit28)]) (rest := []) (lenOf pd_Ljava_lang_String__Ljava_lang_StringBuilder_184 rfl) rfl (by show 2 * 0 + _ ≤ _; exact Nat.le_of_eq rfl) (hb hby d10_33) (fun _ _ => ⟨rfl, e28, (by decide : 6 + 0 ≤ _), (by decide : 48 + 0 ≤ _)⟩)
  dsimp only [Pt.U, Pt.locs, Pt.cells, Pt.slots] at X31 l31 y31 z31 st31 hQ31
  subst l31 y31 z31
  obtain ⟨rfl, N31q, Kc31, g31_0, g31_1, g31_2, g31_3, g31_4⟩ := hQ31
  have N31 := Fr.app N21 N31q
  have R37 := CHr.keep Kc31 (sfS (Safe.exa hZ28.alike fc32 (by decide) (by decide)) (sfS sf_t_5_29 sf0)) R29.1
  have sf_t_5_37 := Safe.keep Kc31 (sfS (Safe.exa hZ28.alike fc32 (by decide) (by decide)) (sfS sf_t_5_29 sf0)) R29.1 sf_t_5_29
  have CR37 := CR29.trans R37
  have sz38 : h28.size ≤ T31.heap.size := Kc31.1
  have Z38 : n0 ≤ T31.heap.size := Nat.le_trans Z30 sz38
  have hk38 := Nat.le_trans hk28 sz38
  have O38 := O30.keep Kc31 (allS (Nat.le_trans Z0 bn_b2) (allS (Nat.le_trans Z0 bn_t_5) all0))
  have K38 : Keep h0 T31.heap [] := K30.trans Kc31 (allS (Or.inr bn_b2) (allS (Or.inr bn_t_5) (all0)))
  have Feg31_3 : Fld Z T31.heap b2 "java/lang/AbstractStringBuilder" "count" "I" (.int 6) := by have q := g31_3; rw [(by decide : ((5 : Int32) + (1 : Int32)) = (6 : Int32))] at q; exact q
  have Veg31_4 : Arv Z T31.heap t_5 kt_5 .byte (16 : Int32) [(.int 115), (.int 117), (.int 109), (.int 40), (.int (c0.toInt8.toInt32)), (.int 41), (.int 0), (.int 0), (.int 0), (.int 0), (.int 0), (.int 0), (.int 0), (.int 0), (.int 0), (.int 0)] (.int 0) := g31_4
  obtain ⟨cq39, kq39, q39a, q39b, q39c⟩ := isOf hZ28 rfl g31_0
  obtain ⟨_, _, ⟨T39, L39, k39, n39⟩, -, X39, ⟨Lc39, hQ39, l39, y39, z39⟩, st39⟩ := X31.virtualBack hx (y := (⟨"java/lang/StringBuilder", "toString", "()Ljava/lang/String;"⟩ : MethodName)) (z := (⟨"java/lang/StringBuilder", "toString", "()Ljava/lang/String;"⟩ : MethodName)) ho28 (mvT hZ28 (hwi hw 128 rfl)) (mvT hZ28 (hwi hw 129 rfl)) (notFace_of_selects (args := #[]) (mvT hZ28 (hwi hw 131 rfl))) (mvT hZ28 (hwi hw 131 rfl)) (mvT hZ28 (hwi hw 130 rfl)) (by decide) (backOf (W := 0) (rm_tostr_6 l Z a0 hw [] b2 w_COMPACT_STRINGS t_5 kt_5 [(.int 115), (.int 117), (.int 109), (.int 40), (.int (c0.toInt8.toInt32)), (.int 41), (.int 0), (.int 0), (.int 0), (.int 0), (.int 0), (.int 0), (.int 0), (.int 0), (.int 0), (.int 0)] T31.heap n0 Z38 S_COMPACT_STRINGS hcs g31_0 g31_2 g31_1 Veg31_4 Feg31_3 O38) hZ28 (hwi hw 132 rfl) (hwi hw 62 rfl) (by decide) (by decide)) q39a q39c (g := (mkF m 36 #[.val (.ref a1)] [(.ref b2)])) rfl (by rw [hml]; rfl) (Steps.refl _) (argsL := []) (rest := []) (lenOf pd_Ljava_lang_String_777 rfl) rfl (by show 2 * 0 + _ ≤ _; exact Nat.le_of_eq rfl) (hb hby d10_36) (fun _ _ => ⟨rfl, rfl, (by decide : 6 + 2 ≤ _), (by decide : 48 + 10 ≤ _)⟩)
  dsimp only [Pt.U, Pt.locs, Pt.cells, Pt.slots] at X39 l39 y39 z39 st39 hQ39
  subst l39 y39 z39
  obtain ⟨r_39, t_39, kt_39, rfl, N39q, Kc39, g39_0, g39_1, g39_2, g39_3, g39_4, g39_5⟩ := hQ39
  have N39 := Fr.app N31 N39q
  have sfb39_0 : Safe Z consts_1 T28.vm T31.heap r_39 := Safe.new g39_0
  have sfb39_1 : Safe Z consts_1 T28.vm T31.heap t_39 := Safe.new g39_1
  have R40 := CHr.keep Kc39 sf0 R37.1
  have sf_t_5_40 := Safe.keep Kc39 sf0 R37.1 sf_t_5_37
  have sf_r_39_40 := Safe.keep Kc39 sf0 R37.1 sfb39_0
  have sf_t_39_40 := Safe.keep Kc39 sf0 R37.1 sfb39_1
  have CR40 := CR37.trans R40
  have sz41 : T31.heap.size ≤ T39.heap.size := Kc39.1
  have Z41 : n0 ≤ T39.heap.size := Nat.le_trans Z38 sz41
  have hk41 := Nat.le_trans hk38 sz41
  have O41 := O38.keep Kc39 all0
  have K41 : Keep h0 T39.heap [] := K38.trans Kc39 (all0)
  have bn_r_39 : h0.size ≤ r_39 := Nat.le_trans K38.1 g39_0
  have bn_t_39 : h0.size ≤ t_39 := Nat.le_trans K38.1 g39_1
  have Veg39_5 : Arv Z T39.heap t_39 kt_39 .byte (6 : Int32) [(.int 115), (.int 117), (.int 109), (.int 40), (.int (c0.toInt8.toInt32)), (.int 41)] (.int 0) := g39_5
  have CRe := CR40.trans (CHv.at X39 hZ28 hEL R40.1)
  obtain ⟨fs, hr, hrun, hended, hRE⟩ := X39.leaveW hS28 hk41 (v := some (.ref r_39)) (fun h => by rw [Bd.returns] at h; cases h)
  refine ⟨_, _, pre0 _ ?_, hrun, hended, _, _, rfl, ?_, ?_, ⟨hRE.1, hRE.2.1, hRE.2.2.1, hRE.2.2.2.mono (by decide) (by decide)⟩⟩
  · show St p e below s₁ (mkF m 0 #[.val (.ref a1)] []) _
    refine XS.aloadN X0.here hx rfl (hb hby d10_0) rfl rfl ?_
    refine st1 _ ?_
    refine XS.ifnonnullYes X1.here hx rfl (pc0 := 4) (pc' := 12) rfl (hb hby d10_4) rfl (by decide) (by decide) ?_
    refine st2 _ ?_
    show St p e below T2 (mkF m 15 #[.val (.ref a1)] [(.ref b2)]) _
    refine XS.dup X2.here hx rfl (hb hby d10_15) rfl rfl ?_
    refine st5.trans ?_
    refine st8 _ ?_
    refine st11.trans ?_
    show St p e below T11 (mkF m 24 #[.val (.ref a1)] [(.ref b2)]) _
    refine XS.aloadN X11.here hx rfl (hb hby d10_24) rfl rfl ?_
    refine st20 _ ?_
    refine st21.trans ?_
    refine st28 _ ?_
    show St p e below T28 (mkF m 33 #[.val (.ref a1)] [(.ref lit28), (.ref b2)]) _
    refine st31.trans ?_
    refine st39.trans ?_
    show St p e below T39 (mkF m 39 #[.val (.ref a1)] [(.ref r_39)]) _
    jvm_step X39.here [X39.here.top, hx, (hb hby d10_39), X39.method', Bd.returns, Value.isRef, FieldType.isReference]
    first | (intro acts; rw [hr _ acts rfl rfl rfl]) | rw [hr _ _ rfl rfl rfl]
    exact Steps.refl _
  · show Q_agstr_1 Z a1 w_COMPACT_STRINGS cl_ c0 t_cl_ k_t_cl_ h0 n0 _ T39.heap _
    exact ⟨r_39, t_39, kt_39, rfl, N39, K41, bn_r_39, bn_t_39, g39_2, g39_3, g39_4, Veg39_5⟩
  · show CHr Z consts_1 s.vm s.heap T39.vm T39.heap
    rw [hh]
    exact CRe
def Q_agstr_2 (Z : State) (a1 : Addr) (w_COMPACT_STRINGS : Int32) (cl_ : Addr) (c0 : Int32) (c1 : Int32) (t_cl_ : Addr) (k_t_cl_ : ClassId) (h0 : Heap) (n0 : Nat) (v : Option Value) (h : Heap) (L : List Loc) : Prop := ∃ (r : Addr) (t : Addr) (kt : ClassId), v = some (.ref r) ∧ Fr n0 L ∧ Keep h0 h [] ∧ h0.size ≤ r ∧ h0.size ≤ t ∧ Exa Z h r "java/lang/String" ∧ Fld Z h r "java/lang/String" "coder" "B" (.int 0) ∧ Fld Z h r "java/lang/String" "value" "[B" (.ref t) ∧ Arv Z h t kt .byte (7 : Int32) [(.int 115), (.int 117), (.int 109), (.int 40), (.int (c0.toInt8.toInt32)), (.int (c1.toInt8.toInt32)), (.int 41)] (.int 0)
set_option maxRecDepth 65536 in
set_option maxHeartbeats 40000000 in
theorem rm_agstr_2 (l : Launch) (Z : State) (a0 : Array Value) (hw : ∀ d ∈ tables_1, d.before a0 Z = true) (hEL : EW Z a0 consts_1) (ws : List Jvm.Cond) (a1 : Addr) (w_COMPACT_STRINGS : Int32) (cl_ : Addr) (c0 : Int32) (c1 : Int32) (t_cl_ : Addr) (k_t_cl_ : ClassId) (h0 : Heap) (n0 : Nat) (Z0 : n0 ≤ h0.size) (S_COMPACT_STRINGS : Sta Z Z.heap "java/lang/String" "COMPACT_STRINGS" "Z" (.int w_COMPACT_STRINGS)) (hcs : ¬ (w_COMPACT_STRINGS = (0 : Int32))) (F_a1_column : Fld Z h0 a1 "com/example/sunder/sunder/Aggregate" "column" "Ljava/lang/String;" (.ref cl_)) (E_cl_ : Exa Z h0 cl_ "java/lang/String") (F_cl__coder : Fld Z h0 cl_ "java/lang/String" "coder" "B" (.int 0)) (F_cl__value : Fld Z h0 cl_ "java/lang/String" "value" "[B" (.ref t_cl_)) (V_t_cl_ : Arv Z h0 t_cl_ k_t_cl_ .byte (2 : Int32) [(.int (c0.toInt8.toInt32)), (.int (c1.toInt8.toInt32))] (.int 0)) (O0 : Old Z n0 h0) :
    MetFree l (⟨"com/example/sunder/sunder/Aggregate", "toString", "()Ljava/lang/String;"⟩ : MethodName) (head1 (Jvm.Cond.code (⟨"com/example/sunder/sunder/Aggregate", "toString", "()Ljava/lang/String;"⟩ : MethodName) prog_2_method_5_code 1 (some (.object "java/lang/String")) :: ws) ({ frames := 6, cells := 8, slots := 59, locals := 91 } : Room)) (fun a U => a = #[(.ref a1)] ∧ Z.Warmed39 U.vm ∧ U.heap = h0 ∧ CHv Z consts_1 U.vm h0) (fun _ _ _ _ _ => True) (fun _ U o U' => ∃ v L, o = .returned v ∧ Q_agstr_2 Z a1 w_COMPACT_STRINGS cl_ c0 c1 t_cl_ k_t_cl_ h0 n0 v U'.heap L ∧ CHr Z consts_1 U.vm U.heap U'.vm U'.heap ∧ ReturnedEndW U o U' L ({ frames := 6, cells := 8, slots := 59, locals := 91 } : Room).cells ({ frames := 6, cells := 8, slots := 59, locals := 91 } : Room).slots) := by
  refine MetFree.of_bodySF (plainFor_of_name pn_10) hisR ?_
  intro p e s m args below meth c s₁ Bd hml0 hP hK
  obtain ⟨rfl, hZ, hh, H0c⟩ := hP
  have hx := Bd.exec
  have hby := Bd.bytes
  have hml : c.maxLocals = 1 := hml0
  have hown : s.vm.findClass "com/example/sunder/sunder/Aggregate" = some m.cls := findClass_of_methodNamed Bd.named
  have hnm := (name_of_methodNamed Bd.named Bd.method).1
  have X0 : Stand p l e ({ frames := 6, cells := 8, slots := 59, locals := 91 } : Room) (s.setVm s.vm) m #[(.ref a1)] below meth c s₁ [] 0 0 := Stand.of_body Bd
  have e0 : s₁.heap = h0 := by rw [← hh, Bd.state]; rfl
  have N0 := Fr.nil n0
  have pre0 : ∀ t, Steps p.tables e below (s₁.setTop (mkF m 0 #[.val (.ref a1)] [])) t → Steps p.tables e below (s₁.setTop (entryFrame m #[(.ref a1)] 1)) t := fun t k => castTop (ef_10_R m a1) k
  have hS0 : s.Since s.vm 0 := (State.WarmedH.refl s).since 0
  have hk0 : 0 ≤ h0.size := Nat.zero_le _
  have C0c : CHr Z consts_1 s.vm h0 s.vm h0 := CHr.refl H0c
  obtain ⟨T1, X1, e1, st1⟩ := getF X0 hx hZ hown (host := "") (Or.inl (hwi hw 38 rfl)) Via.refl e0 F_a1_column (g := (mkF m 1 #[.val (.ref a1)] [(.ref a1)])) rfl rfl (hb hby d10_1)
  obtain ⟨T2, h2, X2, e2, E2, A2, D2, -, st2⟩ := newO X1 hx hZ hown (hwi hw 60 rfl) (hwi hw 61 rfl) (hwi hw 62 rfl) e1 (g := (mkF m 12 #[.val (.ref a1)] [])) rfl (hb hby d10_12) (by decide) (by decide)
  obtain ⟨b2, g2⟩ : ∃ z, z = h0.size := ⟨_, rfl⟩
  rw [← g2] at A2 D2 st2
  have bn_b2 : h0.size ≤ b2 := Nat.le_of_eq g2.symm
  have R3 := CHr.ext E2 H0c
  have CR3 := C0c.trans R3
  have sz4 : h0.size ≤ h2.size := E2.1
  have Z4 : n0 ≤ h2.size := Nat.le_trans Z0 sz4
  have hk4 := Nat.le_trans hk0 sz4
  have O4 := O0.ext E2
  have K4 : Keep h0 h2 [] := (Keep.refl h0 []).ext E2
  have F2_value : Fld Z h2 b2 "java/lang/AbstractStringBuilder" "value" "[B" .null := D2 (Or.inl (hwi hw 75 rfl)) (ty := (.array .byte)) (by decide)
  have F2_coder : Fld Z h2 b2 "java/lang/AbstractStringBuilder" "coder" "B" (.int 0) := D2 (Or.inl (hwi hw 77 rfl)) (ty := .byte) (by decide)
  have F2_count : Fld Z h2 b2 "java/lang/AbstractStringBuilder" "count" "I" (.int 0) := D2 (Or.inl (hwi hw 101 rfl)) (ty := .int) (by decide)
  obtain ⟨_, _, ⟨T5, L5, k5, n5⟩, -, X5, ⟨Lc5, hQ5, l5, y5, z5⟩, st5⟩ := X2.specialBack hx (y := (⟨"java/lang/StringBuilder", "<init>", "()V"⟩ : MethodName)) rfl hown (mvT hZ (hwi hw 63 rfl)) (mvT hZ (hwi hw 64 rfl)) (mvT hZ (hwi hw 65 rfl)) (by decide) (backOf (W := 1) (rm_sbinit l Z a0 hw [] b2 w_COMPACT_STRINGS .null (.int 0) h2 n0 Z4 S_COMPACT_STRINGS hcs A2 F2_count O4 F2_value (Nat.le_trans Z0 bn_b2) F2_coder) hZ (hwi hw 65 rfl) (hwi hw 62 rfl) (by decide) (by decide)) (g := (mkF m 16 #[.val (.ref a1)] [(.ref b2), (.ref b2)])) rfl (by rw [hml]; rfl) (Steps.refl _) (a := b2) (argsL := []) (rest := [(.ref b2)]) (lenOf pd_V_167 rfl) rfl (by show 2 * 0 + _ ≤ _; exact Nat.le_of_eq rfl) (hb hby d10_16) (fun _ _ => ⟨rfl, e2, (by decide : 1 + 1 ≤ _), (by decide : 4 + 16 ≤ _)⟩)
  dsimp only [Pt.U, Pt.locs, Pt.cells, Pt.slots] at X5 l5 y5 z5 st5 hQ5
  subst l5 y5 z5
  obtain ⟨t_5, kt_5, rfl, N5q, Kc5, g5_0, g5_1, g5_2, g5_3, g5_4, g5_5⟩ := hQ5
  have N5 := Fr.app N0 N5q
  have sfb5_0 : Safe Z consts_1 s.vm h2 t_5 := Safe.new g5_0
  have R6 := CHr.keep Kc5 (sfS (Safe.exa hZ.alike A2 (by decide) (by decide)) sf0) R3.1
  have sf_t_5_6 := Safe.keep Kc5 (sfS (Safe.exa hZ.alike A2 (by decide) (by decide)) sf0) R3.1 sfb5_0
  have CR6 := CR3.trans R6
  have sz7 : h2.size ≤ T5.heap.size := Kc5.1
  have Z7 : n0 ≤ T5.heap.size := Nat.le_trans Z4 sz7
  have hk7 := Nat.le_trans hk4 sz7
  have O7 := O4.keep Kc5 (allS (Nat.le_trans Z0 bn_b2) all0)
  have K7 : Keep h0 T5.heap [] := K4.trans Kc5 (allS (Or.inr bn_b2) (all0))
  have bn_t_5 : h0.size ≤ t_5 := Nat.le_trans K4.1 g5_0
  obtain ⟨lit8, T8, h8, j8, ltb8, k8, X8, e8, E8, hS8, hk8, hZ8, ho8, Ex8, Fc8, Fv8, Av8, la8, lb8, C8, -, Sn8, st8⟩ := ldcCH X5 hx hZ hown (hwi hw 78 rfl) (own_wS hw) rfl hS0 hk7 hEL (by decide) R6.1 (vs := [(.int 115), (.int 117), (.int 109), (.int 40)]) (z := (4 : Int32)) (own_text_1) (by decide) (by rfl) (g := (mkF m 19 #[.val (.ref a1)] [(.ref b2)])) rfl (hb hby d10_19) (n := 16) (by decide) (by decide) (by decide) (by decide)
  have sf_t_5_9 := CHr.safe C8 (show t_5 < T5.heap.size from ltN (by have := ltN g5_5.lt; omega)) sf_t_5_6
  have R9 := C8
  have CR9 := CR6.trans R9
  have sz10 : T5.heap.size ≤ h8.size := E8.1
  have Z10 : n0 ≤ h8.size := Nat.le_trans Z7 sz10
  have O10 := O7.ext E8
  have K10 : Keep h0 h8 [] := K7.ext E8
  have nq_t_5_8 := Sn8 _ sf_t_5_9
  have fc12 := (g5_1.ext E8)
  have fc13 := (g5_3.ext E8)
  have fc14 := (g5_2.ext E8)
  have fc15 := (g5_5.ext E8)
  have fc16 := (g5_4.ext E8)
  obtain ⟨cq11, kq11, q11a, q11b, q11c⟩ := isOf hZ8 e8 fc12
  obtain ⟨_, _, ⟨T11, L11, k11, n11⟩, -, X11, ⟨Lc11, hQ11, l11, y11, z11⟩, st11⟩ := X8.virtualBack hx (y := (⟨"java/lang/StringBuilder", "append", "(Ljava/lang/String;)Ljava/lang/StringBuilder;"⟩ : MethodName)) (z := (⟨"java/lang/StringBuilder", "append", "(Ljava/lang/String;)Ljava/lang/StringBuilder;"⟩ : MethodName)) ho8 (mvT hZ8 (hwi hw 79 rfl)) (mvT hZ8 (hwi hw 80 rfl)) (notFace_of_selects (args := #[]) (mvT hZ8 (hwi hw 82 rfl))) (mvT hZ8 (hwi hw 82 rfl)) (mvT hZ8 (hwi hw 81 rfl)) (by decide) (backOf (W := 0) (rm_sbapp l Z a0 hw [] b2 lit8 w_COMPACT_STRINGS t_5 kt_5 [(.int 0), (.int 0), (.int 0), (.int 0), (.int 0), (.int 0), (.int 0), (.int 0), (.int 0), (.int 0), (.int 0), (.int 0), (.int 0), (.int 0), (.int 0), (.int 0)] (0 : Int32) ltb8 k8 [(.int 115), (.int 117), (.int 109), (.int 40)] (4 : Int32) h8 n0 Z10 S_COMPACT_STRINGS hcs fc12 fc13 fc14 fc15 fc16 Ex8 Fc8 Fv8 Av8 (by decide : ¬ ((0 : Int32) < (0 : Int32))) (by decide : (0 : Int32).toNatClampNeg + (4 : Int32).toNatClampNeg ≤ (16 : Int32).toNatClampNeg) (Nat.le_of_ble_eq_true rfl) (by decide : ¬ ((4 : Int32) < (0 : Int32))) (by decide : ¬ ((0 : Int32) < (((0 : Int32) + (4 : Int32)) - (16 : Int32)))) (fun q => nq_t_5_8.2 q.symm) (Exa.ne Ex8 fc12 (by decide)) (Nat.le_trans Z0 bn_t_5) O10 (Nat.le_trans Z0 bn_b2) (by decide : ((4 : Int32) >>> ((0 : Int32) &&& 31)) = (4 : Int32)) (by decide : ((0 : Int32) <<< ((0 : Int32) &&& 31)) = (0 : Int32))) hZ8 (hwi hw 83 rfl) (hwi hw 62 rfl) (by decide) (by decide)) q11a q11c (g := (mkF m 21 #[.val (.ref a1)] [(.ref lit8), (.ref b2)])) rfl (by rw [hml]; rfl) (Steps.refl _) (argsL := [(.ref lit8)]) (rest := []) (lenOf pd_Ljava_lang_String__Ljava_lang_StringBuilder_184 rfl) rfl (by show 2 * 0 + _ ≤ _; exact Nat.le_of_eq rfl) (hb hby d10_21) (fun _ _ => ⟨rfl, e8, (by decide : 4 + 0 ≤ _), (by decide : 40 + 0 ≤ _)⟩)
  dsimp only [Pt.U, Pt.locs, Pt.cells, Pt.slots] at X11 l11 y11 z11 st11 hQ11
  subst l11 y11 z11
  obtain ⟨rfl, N11q, Kc11, g11_0, g11_1, g11_2, g11_3, g11_4⟩ := hQ11
  have N11 := Fr.app N5 N11q
  have R17 := CHr.keep Kc11 (sfS (Safe.exa hZ8.alike fc12 (by decide) (by decide)) (sfS sf_t_5_9 sf0)) R9.1
  have sf_t_5_17 := Safe.keep Kc11 (sfS (Safe.exa hZ8.alike fc12 (by decide) (by decide)) (sfS sf_t_5_9 sf0)) R9.1 sf_t_5_9
  have CR17 := CR9.trans R17
  have sz18 : h8.size ≤ T11.heap.size := Kc11.1
  have Z18 : n0 ≤ T11.heap.size := Nat.le_trans Z10 sz18
  have hk18 := Nat.le_trans hk8 sz18
  have O18 := O10.keep Kc11 (allS (Nat.le_trans Z0 bn_b2) (allS (Nat.le_trans Z0 bn_t_5) all0))
  have K18 : Keep h0 T11.heap [] := K10.trans Kc11 (allS (Or.inr bn_b2) (allS (Or.inr bn_t_5) (all0)))
  have Feg11_3 : Fld Z T11.heap b2 "java/lang/AbstractStringBuilder" "count" "I" (.int 4) := by have q := g11_3; rw [(by decide : ((0 : Int32) + (4 : Int32)) = (4 : Int32))] at q; exact q
  have Veg11_4 : Arv Z T11.heap t_5 kt_5 .byte (16 : Int32) [(.int 115), (.int 117), (.int 109), (.int 40), (.int 0), (.int 0), (.int 0), (.int 0), (.int 0), (.int 0), (.int 0), (.int 0), (.int 0), (.int 0), (.int 0), (.int 0)] (.int 0) := g11_4
  have fc19 := ((((F_a1_column.ext E2).keep Kc5 (ninS (neN (by have := ltN F_a1_column.lt; have := ltN A2.lt; omega)) nin0)).ext E8).keep Kc11 (ninS (neN (by have := ltN F_a1_column.lt; have := ltN A2.lt; omega)) (ninS (neN (by have := ltN F_a1_column.lt; have := ltN g5_5.lt; omega)) nin0)))
  obtain ⟨T20, X20, e20, st20⟩ := getF X11 hx hZ8 ho8 (host := "") (Or.inl (hwi hw 38 rfl)) Via.refl rfl fc19 (g := (mkF m 25 #[.val (.ref a1)] [(.ref a1), (.ref b2)])) rfl rfl (hb hby d10_25)
  have fc22 := ((((E_cl_.ext E2).keep Kc5).ext E8).keep Kc11)
  have fc23 := ((((F_cl__coder.ext E2).keep Kc5 (ninS (neN (by have := ltN E_cl_.lt; have := ltN A2.lt; omega)) nin0)).ext E8).keep Kc11 (ninS (neN (by have := ltN E_cl_.lt; have := ltN A2.lt; omega)) (ninS (neN (by have := ltN E_cl_.lt; have := ltN g5_5.lt; omega)) nin0)))
  have fc24 := ((((F_cl__value.ext E2).keep Kc5 (ninS (neN (by have := ltN E_cl_.lt; have := ltN A2.lt; omega)) nin0)).ext E8).keep Kc11 (ninS (neN (by have := ltN E_cl_.lt; have := ltN A2.lt; omega)) (ninS (neN (by have := ltN E_cl_.lt; have := ltN g5_5.lt; omega)) nin0)))
  have fc25 := ((((V_t_cl_.ext E2).keep Kc5 (ninS (neN (by have := ltN V_t_cl_.lt; have := ltN A2.lt; omega)) nin0)).ext E8).keep Kc11 (ninS (neN (by have := ltN V_t_cl_.lt; have := ltN A2.lt; omega)) (ninS (neN (by have := ltN V_t_cl_.lt; have := ltN g5_5.lt; omega)) nin0)))
  obtain ⟨cq21, kq21, q21a, q21b, q21c⟩ := isOf hZ8 e20 g11_0
  obtain ⟨_, _, ⟨T21, L21, k21, n21⟩, -, X21, ⟨Lc21, hQ21, l21, y21, z21⟩, st21⟩ := X20.virtualBack hx (y := (⟨"java/lang/StringBuilder", "append", "(Ljava/lang/String;)Ljava/lang/StringBuilder;"⟩ : MethodName)) (z := (⟨"java/lang/StringBuilder", "append", "(Ljava/lang/String;)Ljava/lang/StringBuilder;"⟩ : MethodName)) ho8 (mvT hZ8 (hwi hw 79 rfl)) (mvT hZ8 (hwi hw 80 rfl)) (notFace_of_selects (args := #[]) (mvT hZ8 (hwi hw 82 rfl))) (mvT hZ8 (hwi hw 82 rfl)) (mvT hZ8 (hwi hw 81 rfl)) (by decide) (backOf (W := 0) (rm_sbapp l Z a0 hw [] b2 cl_ w_COMPACT_STRINGS t_5 kt_5 [(.int 115), (.int 117), (.int 109), (.int 40), (.int 0), (.int 0), (.int 0), (.int 0), (.int 0), (.int 0), (.int 0), (.int 0), (.int 0), (.int 0), (.int 0), (.int 0)] (4 : Int32) t_cl_ k_t_cl_ [(.int (c0.toInt8.toInt32)), (.int (c1.toInt8.toInt32))] (2 : Int32) T11.heap n0 Z18 S_COMPACT_STRINGS hcs g11_0 g11_2 g11_1 Veg11_4 Feg11_3 fc22 fc23 fc24 fc25 (by decide : ¬ ((4 : Int32) < (0 : Int32))) (by decide : (4 : Int32).toNatClampNeg + (2 : Int32).toNatClampNeg ≤ (16 : Int32).toNatClampNeg) (Nat.le_of_ble_eq_true rfl) (by decide : ¬ ((2 : Int32) < (0 : Int32))) (by decide : ¬ ((0 : Int32) < (((4 : Int32) + (2 : Int32)) - (16 : Int32)))) (neN (by have := ltN V_t_cl_.lt; have := ltN g5_5.lt; omega)) (neN (by have := ltN E_cl_.lt; have := ltN A2.lt; omega)) (Nat.le_trans Z0 bn_t_5) O18 (Nat.le_trans Z0 bn_b2) (by decide : ((2 : Int32) >>> ((0 : Int32) &&& 31)) = (2 : Int32)) (by decide : ((4 : Int32) <<< ((0 : Int32) &&& 31)) = (4 : Int32))) hZ8 (hwi hw 83 rfl) (hwi hw 62 rfl) (by decide) (by decide)) q21a q21c (g := (mkF m 28 #[.val (.ref a1)] [(.ref cl_), (.ref b2)])) rfl (by rw [hml]; rfl) (Steps.refl _) (argsL := [(.ref cl_)]) (rest := []) (lenOf pd_Ljava_lang_String__Ljava_lang_StringBuilder_184 rfl) rfl (by show 2 * 0 + _ ≤ _; exact Nat.le_of_eq rfl) (hb hby d10_28) (fun _ _ => ⟨rfl, e20, (by decide : 4 + 0 ≤ _), (by decide : 40 + 0 ≤ _)⟩)
  dsimp only [Pt.U, Pt.locs, Pt.cells, Pt.slots] at X21 l21 y21 z21 st21 hQ21
  subst l21 y21 z21
  obtain ⟨rfl, N21q, Kc21, g21_0, g21_1, g21_2, g21_3, g21_4⟩ := hQ21
  have N21 := Fr.app N11 N21q
  have R26 := CHr.keep Kc21 (sfS (Safe.exa hZ8.alike g11_0 (by decide) (by decide)) (sfS sf_t_5_17 sf0)) R17.1
  have sf_t_5_26 := Safe.keep Kc21 (sfS (Safe.exa hZ8.alike g11_0 (by decide) (by decide)) (sfS sf_t_5_17 sf0)) R17.1 sf_t_5_17
  have CR26 := CR17.trans R26
  have sz27 : T11.heap.size ≤ T21.heap.size := Kc21.1
  have Z27 : n0 ≤ T21.heap.size := Nat.le_trans Z18 sz27
  have hk27 := Nat.le_trans hk18 sz27
  have O27 := O18.keep Kc21 (allS (Nat.le_trans Z0 bn_b2) (allS (Nat.le_trans Z0 bn_t_5) all0))
  have K27 : Keep h0 T21.heap [] := K18.trans Kc21 (allS (Or.inr bn_b2) (allS (Or.inr bn_t_5) (all0)))
  have Feg21_3 : Fld Z T21.heap b2 "java/lang/AbstractStringBuilder" "count" "I" (.int 6) := by have q := g21_3; rw [(by decide : ((4 : Int32) + (2 : Int32)) = (6 : Int32))] at q; exact q
  have Veg21_4 : Arv Z T21.heap t_5 kt_5 .byte (16 : Int32) [(.int 115), (.int 117), (.int 109), (.int 40), (.int (c0.toInt8.toInt32)), (.int (c1.toInt8.toInt32)), (.int 0), (.int 0), (.int 0), (.int 0), (.int 0), (.int 0), (.int 0), (.int 0), (.int 0), (.int 0)] (.int 0) := g21_4
  obtain ⟨lit28, T28, h28, j28, ltb28, k28, X28, e28, E28, hS28, hk28, hZ28, ho28, Ex28, Fc28, Fv28, Av28, la28, lb28, C28, -, Sn28, st28⟩ := ldcCH X21 hx hZ8 ho8 (hwi hw 127 rfl) (own_wS hw) rfl hS8 hk27 hEL (by decide) R26.1 (vs := [(.int 41)]) (z := (1 : Int32)) (own_text_2) (by decide) (by rfl) (g := (mkF m 31 #[.val (.ref a1)] [(.ref b2)])) rfl (hb hby d10_31) (n := 4) (by decide) (by decide) (by decide) (by decide)
  have sf_t_5_29 := CHr.safe C28 (show t_5 < T21.heap.size from ltN (by have := ltN g5_5.lt; omega)) sf_t_5_26
  have R29 := C28
  have CR29 := CR26.trans R29
  have sz30 : T21.heap.size ≤ h28.size := E28.1
  have Z30 : n0 ≤ h28.size := Nat.le_trans Z27 sz30
  have O30 := O27.ext E28
  have K30 : Keep h0 h28 [] := K27.ext E28
  have nq_t_5_28 := Sn28 _ sf_t_5_29
  have fc32 := (g21_0.ext E28)
  have fc33 := (g21_2.ext E28)
  have fc34 := (g21_1.ext E28)
  have fc35 := (Veg21_4.ext E28)
  have fc36 := (Feg21_3.ext E28)
  obtain ⟨cq31, kq31, q31a, q31b, q31c⟩ := isOf hZ28 e28 fc32
  obtain ⟨_, _, ⟨T31, L31, k31, n31⟩, -, X31, ⟨Lc31, hQ31, l31, y31, z31⟩, st31⟩ := X28.virtualBack hx (y := (⟨"java/lang/StringBuilder", "append", "(Ljava/lang/String;)Ljava/lang/StringBuilder;"⟩ : MethodName)) (z := (⟨"java/lang/StringBuilder", "append", "(Ljava/lang/String;)Ljava/lang/StringBuilder;"⟩ : MethodName)) ho28 (mvT hZ28 (hwi hw 79 rfl)) (mvT hZ28 (hwi hw 80 rfl)) (notFace_of_selects (args := #[]) (mvT hZ28 (hwi hw 82 rfl))) (mvT hZ28 (hwi hw 82 rfl)) (mvT hZ28 (hwi hw 81 rfl)) (by decide) (backOf (W := 0) (rm_sbapp l Z a0 hw [] b2 lit28 w_COMPACT_STRINGS t_5 kt_5 [(.int 115), (.int 117), (.int 109), (.int 40), (.int (c0.toInt8.toInt32)), (.int (c1.toInt8.toInt32)), (.int 0), (.int 0), (.int 0), (.int 0), (.int 0), (.int 0), (.int 0), (.int 0), (.int 0), (.int 0)] (6 : Int32) ltb28 k28 [(.int 41)] (1 : Int32) h28 n0 Z30 S_COMPACT_STRINGS hcs fc32 fc33 fc34 fc35 fc36 Ex28 Fc28 Fv28 Av28 (by decide : ¬ ((6 : Int32) < (0 : Int32))) (by decide : (6 : Int32).toNatClampNeg + (1 : Int32).toNatClampNeg ≤ (16 : Int32).toNatClampNeg) (Nat.le_of_ble_eq_true rfl) (by decide : ¬ ((1 : Int32) < (0 : Int32))) (by decide : ¬ ((0 : Int32) < (((6 : Int32) + (1 : Int32)) - (16 : Int32)))) (fun q => nq_t_5_28.2 q.symm) (Exa.ne Ex28 fc32 (by decide)) (Nat.le_trans Z0 bn_t_5) O30 (Nat.le_trans Z0 bn_b2) (by decide : ((1 : Int32) >>> ((0 : Int32) &&& 31)) = (1 : Int32)) (by decide : ((6 : Int32) <<< ((0 : Int32) &&& 31)) = (6 : Int32))) hZ28 (hwi hw 83 rfl) (hwi hw 62 rfl) (by decide) (by decide)) q31a q31c (g := (mkF m 33 #[.val (.ref a1)] [(.ref lit28), (.ref b2)])) rfl (by rw [hml]; rfl) (Steps.refl _) (argsL := [(.ref lit28)]) (rest := []) (lenOf pd_Ljava_lang_String__Ljava_lang_StringBuilder_184 rfl) rfl (by show 2 * 0 + _ ≤ _; exact Nat.le_of_eq rfl) (hb hby d10_33) (fun _ _ => ⟨rfl, e28, (by decide : 6 + 0 ≤ _), (by decide : 48 + 0 ≤ _)⟩)
  dsimp only [Pt.U, Pt.locs, Pt.cells, Pt.slots] at X31 l31 y31 z31 st31 hQ31
  subst l31 y31 z31
  obtain ⟨rfl, N31q, Kc31, g31_0, g31_1, g31_2, g31_3, g31_4⟩ := hQ31
  have N31 := Fr.app N21 N31q
  have R37 := CHr.keep Kc31 (sfS (Safe.exa hZ28.alike fc32 (by decide) (by decide)) (sfS sf_t_5_29 sf0)) R29.1
  have sf_t_5_37 := Safe.keep Kc31 (sfS (Safe.exa hZ28.alike fc32 (by decide) (by decide)) (sfS sf_t_5_29 sf0)) R29.1 sf_t_5_29
  have CR37 := CR29.trans R37
  have sz38 : h28.size ≤ T31.heap.size := Kc31.1
  have Z38 : n0 ≤ T31.heap.size := Nat.le_trans Z30 sz38
  have hk38 := Nat.le_trans hk28 sz38
  have O38 := O30.keep Kc31 (allS (Nat.le_trans Z0 bn_b2) (allS (Nat.le_trans Z0 bn_t_5) all0))
  have K38 : Keep h0 T31.heap [] := K30.trans Kc31 (allS (Or.inr bn_b2) (allS (Or.inr bn_t_5) (all0)))
  have Feg31_3 : Fld Z T31.heap b2 "java/lang/AbstractStringBuilder" "count" "I" (.int 7) := by have q := g31_3; rw [(by decide : ((6 : Int32) + (1 : Int32)) = (7 : Int32))] at q; exact q
  have Veg31_4 : Arv Z T31.heap t_5 kt_5 .byte (16 : Int32) [(.int 115), (.int 117), (.int 109), (.int 40), (.int (c0.toInt8.toInt32)), (.int (c1.toInt8.toInt32)), (.int 41), (.int 0), (.int 0), (.int 0), (.int 0), (.int 0), (.int 0), (.int 0), (.int 0), (.int 0)] (.int 0) := g31_4
  obtain ⟨cq39, kq39, q39a, q39b, q39c⟩ := isOf hZ28 rfl g31_0
  obtain ⟨_, _, ⟨T39, L39, k39, n39⟩, -, X39, ⟨Lc39, hQ39, l39, y39, z39⟩, st39⟩ := X31.virtualBack hx (y := (⟨"java/lang/StringBuilder", "toString", "()Ljava/lang/String;"⟩ : MethodName)) (z := (⟨"java/lang/StringBuilder", "toString", "()Ljava/lang/String;"⟩ : MethodName)) ho28 (mvT hZ28 (hwi hw 128 rfl)) (mvT hZ28 (hwi hw 129 rfl)) (notFace_of_selects (args := #[]) (mvT hZ28 (hwi hw 131 rfl))) (mvT hZ28 (hwi hw 131 rfl)) (mvT hZ28 (hwi hw 130 rfl)) (by decide) (backOf (W := 0) (rm_tostr_7 l Z a0 hw [] b2 w_COMPACT_STRINGS t_5 kt_5 [(.int 115), (.int 117), (.int 109), (.int 40), (.int (c0.toInt8.toInt32)), (.int (c1.toInt8.toInt32)), (.int 41), (.int 0), (.int 0), (.int 0), (.int 0), (.int 0), (.int 0), (.int 0), (.int 0), (.int 0)] T31.heap n0 Z38 S_COMPACT_STRINGS hcs g31_0 g31_2 g31_1 Veg31_4 Feg31_3 O38) hZ28 (hwi hw 132 rfl) (hwi hw 62 rfl) (by decide) (by decide)) q39a q39c (g := (mkF m 36 #[.val (.ref a1)] [(.ref b2)])) rfl (by rw [hml]; rfl) (Steps.refl _) (argsL := []) (rest := []) (lenOf pd_Ljava_lang_String_777 rfl) rfl (by show 2 * 0 + _ ≤ _; exact Nat.le_of_eq rfl) (hb hby d10_36) (fun _ _ => ⟨rfl, rfl, (by decide : 6 + 2 ≤ _), (by decide : 48 + 11 ≤ _)⟩)
  dsimp only [Pt.U, Pt.locs, Pt.cells, Pt.slots] at X39 l39 y39 z39 st39 hQ39
  subst l39 y39 z39
  obtain ⟨r_39, t_39, kt_39, rfl, N39q, Kc39, g39_0, g39_1, g39_2, g39_3, g39_4, g39_5⟩ := hQ39
  have N39 := Fr.app N31 N39q
  have sfb39_0 : Safe Z consts_1 T28.vm T31.heap r_39 := Safe.new g39_0
  have sfb39_1 : Safe Z consts_1 T28.vm T31.heap t_39 := Safe.new g39_1
  have R40 := CHr.keep Kc39 sf0 R37.1
  have sf_t_5_40 := Safe.keep Kc39 sf0 R37.1 sf_t_5_37
  have sf_r_39_40 := Safe.keep Kc39 sf0 R37.1 sfb39_0
  have sf_t_39_40 := Safe.keep Kc39 sf0 R37.1 sfb39_1
  have CR40 := CR37.trans R40
  have sz41 : T31.heap.size ≤ T39.heap.size := Kc39.1
  have Z41 : n0 ≤ T39.heap.size := Nat.le_trans Z38 sz41
  have hk41 := Nat.le_trans hk38 sz41
  have O41 := O38.keep Kc39 all0
  have K41 : Keep h0 T39.heap [] := K38.trans Kc39 (all0)
  have bn_r_39 : h0.size ≤ r_39 := Nat.le_trans K38.1 g39_0
  have bn_t_39 : h0.size ≤ t_39 := Nat.le_trans K38.1 g39_1
  have Veg39_5 : Arv Z T39.heap t_39 kt_39 .byte (7 : Int32) [(.int 115), (.int 117), (.int 109), (.int 40), (.int (c0.toInt8.toInt32)), (.int (c1.toInt8.toInt32)), (.int 41)] (.int 0) := g39_5
  have CRe := CR40.trans (CHv.at X39 hZ28 hEL R40.1)
  obtain ⟨fs, hr, hrun, hended, hRE⟩ := X39.leaveW hS28 hk41 (v := some (.ref r_39)) (fun h => by rw [Bd.returns] at h; cases h)
  refine ⟨_, _, pre0 _ ?_, hrun, hended, _, _, rfl, ?_, ?_, ⟨hRE.1, hRE.2.1, hRE.2.2.1, hRE.2.2.2.mono (by decide) (by decide)⟩⟩
  · show St p e below s₁ (mkF m 0 #[.val (.ref a1)] []) _
    refine XS.aloadN X0.here hx rfl (hb hby d10_0) rfl rfl ?_
    refine st1 _ ?_
    refine XS.ifnonnullYes X1.here hx rfl (pc0 := 4) (pc' := 12) rfl (hb hby d10_4) rfl (by decide) (by decide) ?_
    refine st2 _ ?_
    show St p e below T2 (mkF m 15 #[.val (.ref a1)] [(.ref b2)]) _
    refine XS.dup X2.here hx rfl (hb hby d10_15) rfl rfl ?_
    refine st5.trans ?_
    refine st8 _ ?_
    refine st11.trans ?_
    show St p e below T11 (mkF m 24 #[.val (.ref a1)] [(.ref b2)]) _
    refine XS.aloadN X11.here hx rfl (hb hby d10_24) rfl rfl ?_
    refine st20 _ ?_
    refine st21.trans ?_
    refine st28 _ ?_
    show St p e below T28 (mkF m 33 #[.val (.ref a1)] [(.ref lit28), (.ref b2)]) _
    refine st31.trans ?_
    refine st39.trans ?_
    show St p e below T39 (mkF m 39 #[.val (.ref a1)] [(.ref r_39)]) _
    jvm_step X39.here [X39.here.top, hx, (hb hby d10_39), X39.method', Bd.returns, Value.isRef, FieldType.isReference]
    first | (intro acts; rw [hr _ acts rfl rfl rfl]) | rw [hr _ _ rfl rfl rfl]
    exact Steps.refl _
  · show Q_agstr_2 Z a1 w_COMPACT_STRINGS cl_ c0 c1 t_cl_ k_t_cl_ h0 n0 _ T39.heap _
    exact ⟨r_39, t_39, kt_39, rfl, N39, K41, bn_r_39, bn_t_39, g39_2, g39_3, g39_4, Veg39_5⟩
  · show CHr Z consts_1 s.vm s.heap T39.vm T39.heap
    rw [hh]
    exact CRe
def Q_agstr_3 (Z : State) (a1 : Addr) (w_COMPACT_STRINGS : Int32) (cl_ : Addr) (c0 : Int32) (c1 : Int32) (c2 : Int32) (t_cl_ : Addr) (k_t_cl_ : ClassId) (h0 : Heap) (n0 : Nat) (v : Option Value) (h : Heap) (L : List Loc) : Prop := ∃ (r : Addr) (t : Addr) (kt : ClassId), v = some (.ref r) ∧ Fr n0 L ∧ Keep h0 h [] ∧ h0.size ≤ r ∧ h0.size ≤ t ∧ Exa Z h r "java/lang/String" ∧ Fld Z h r "java/lang/String" "coder" "B" (.int 0) ∧ Fld Z h r "java/lang/String" "value" "[B" (.ref t) ∧ Arv Z h t kt .byte (8 : Int32) [(.int 115), (.int 117), (.int 109), (.int 40), (.int (c0.toInt8.toInt32)), (.int (c1.toInt8.toInt32)), (.int (c2.toInt8.toInt32)), (.int 41)] (.int 0)
set_option maxRecDepth 65536 in
set_option maxHeartbeats 40000000 in
theorem rm_agstr_3 (l : Launch) (Z : State) (a0 : Array Value) (hw : ∀ d ∈ tables_1, d.before a0 Z = true) (hEL : EW Z a0 consts_1) (ws : List Jvm.Cond) (a1 : Addr) (w_COMPACT_STRINGS : Int32) (cl_ : Addr) (c0 : Int32) (c1 : Int32) (c2 : Int32) (t_cl_ : Addr) (k_t_cl_ : ClassId) (h0 : Heap) (n0 : Nat) (Z0 : n0 ≤ h0.size) (S_COMPACT_STRINGS : Sta Z Z.heap "java/lang/String" "COMPACT_STRINGS" "Z" (.int w_COMPACT_STRINGS)) (hcs : ¬ (w_COMPACT_STRINGS = (0 : Int32))) (F_a1_column : Fld Z h0 a1 "com/example/sunder/sunder/Aggregate" "column" "Ljava/lang/String;" (.ref cl_)) (E_cl_ : Exa Z h0 cl_ "java/lang/String") (F_cl__coder : Fld Z h0 cl_ "java/lang/String" "coder" "B" (.int 0)) (F_cl__value : Fld Z h0 cl_ "java/lang/String" "value" "[B" (.ref t_cl_)) (V_t_cl_ : Arv Z h0 t_cl_ k_t_cl_ .byte (3 : Int32) [(.int (c0.toInt8.toInt32)), (.int (c1.toInt8.toInt32)), (.int (c2.toInt8.toInt32))] (.int 0)) (O0 : Old Z n0 h0) :
    MetFree l (⟨"com/example/sunder/sunder/Aggregate", "toString", "()Ljava/lang/String;"⟩ : MethodName) (head1 (Jvm.Cond.code (⟨"com/example/sunder/sunder/Aggregate", "toString", "()Ljava/lang/String;"⟩ : MethodName) prog_2_method_5_code 1 (some (.object "java/lang/String")) :: ws) ({ frames := 6, cells := 8, slots := 60, locals := 91 } : Room)) (fun a U => a = #[(.ref a1)] ∧ Z.Warmed39 U.vm ∧ U.heap = h0 ∧ CHv Z consts_1 U.vm h0) (fun _ _ _ _ _ => True) (fun _ U o U' => ∃ v L, o = .returned v ∧ Q_agstr_3 Z a1 w_COMPACT_STRINGS cl_ c0 c1 c2 t_cl_ k_t_cl_ h0 n0 v U'.heap L ∧ CHr Z consts_1 U.vm U.heap U'.vm U'.heap ∧ ReturnedEndW U o U' L ({ frames := 6, cells := 8, slots := 60, locals := 91 } : Room).cells ({ frames := 6, cells := 8, slots := 60, locals := 91 } : Room).slots) := by
  refine MetFree.of_bodySF (plainFor_of_name pn_10) hisR ?_
  intro p e s m args below meth c s₁ Bd hml0 hP hK
  obtain ⟨rfl, hZ, hh, H0c⟩ := hP
  have hx := Bd.exec
  have hby := Bd.bytes
  have hml : c.maxLocals = 1 := hml0
  have hown : s.vm.findClass "com/example/sunder/sunder/Aggregate" = some m.cls := findClass_of_methodNamed Bd.named
  have hnm := (name_of_methodNamed Bd.named Bd.method).1
  have X0 : Stand p l e ({ frames := 6, cells := 8, slots := 60, locals := 91 } : Room) (s.setVm s.vm) m #[(.ref a1)] below meth c s₁ [] 0 0 := Stand.of_body Bd
  have e0 : s₁.heap = h0 := by rw [← hh, Bd.state]; rfl
  have N0 := Fr.nil n0
  have pre0 : ∀ t, Steps p.tables e below (s₁.setTop (mkF m 0 #[.val (.ref a1)] [])) t → Steps p.tables e below (s₁.setTop (entryFrame m #[(.ref a1)] 1)) t := fun t k => castTop (ef_10_R m a1) k
  have hS0 : s.Since s.vm 0 := (State.WarmedH.refl s).since 0
  have hk0 : 0 ≤ h0.size := Nat.zero_le _
  have C0c : CHr Z consts_1 s.vm h0 s.vm h0 := CHr.refl H0c
  obtain ⟨T1, X1, e1, st1⟩ := getF X0 hx hZ hown (host := "") (Or.inl (hwi hw 38 rfl)) Via.refl e0 F_a1_column (g := (mkF m 1 #[.val (.ref a1)] [(.ref a1)])) rfl rfl (hb hby d10_1)
  obtain ⟨T2, h2, X2, e2, E2, A2, D2, -, st2⟩ := newO X1 hx hZ hown (hwi hw 60 rfl) (hwi hw 61 rfl) (hwi hw 62 rfl) e1 (g := (mkF m 12 #[.val (.ref a1)] [])) rfl (hb hby d10_12) (by decide) (by decide)
  obtain ⟨b2, g2⟩ : ∃ z, z = h0.size := ⟨_, rfl⟩
  rw [← g2] at A2 D2 st2
  have bn_b2 : h0.size ≤ b2 := Nat.le_of_eq g2.symm
  have R3 := CHr.ext E2 H0c
  have CR3 := C0c.trans R3
  have sz4 : h0.size ≤ h2.size := E2.1
  have Z4 : n0 ≤ h2.size := Nat.le_trans Z0 sz4
  have hk4 := Nat.le_trans hk0 sz4
  have O4 := O0.ext E2
  have K4 : Keep h0 h2 [] := (Keep.refl h0 []).ext E2
  have F2_value : Fld Z h2 b2 "java/lang/AbstractStringBuilder" "value" "[B" .null := D2 (Or.inl (hwi hw 75 rfl)) (ty := (.array .byte)) (by decide)
  have F2_coder : Fld Z h2 b2 "java/lang/AbstractStringBuilder" "coder" "B" (.int 0) := D2 (Or.inl (hwi hw 77 rfl)) (ty := .byte) (by decide)
  have F2_count : Fld Z h2 b2 "java/lang/AbstractStringBuilder" "count" "I" (.int 0) := D2 (Or.inl (hwi hw 101 rfl)) (ty := .int) (by decide)
  obtain ⟨_, _, ⟨T5, L5, k5, n5⟩, -, X5, ⟨Lc5, hQ5, l5, y5, z5⟩, st5⟩ := X2.specialBack hx (y := (⟨"java/lang/StringBuilder", "<init>", "()V"⟩ : MethodName)) rfl hown (mvT hZ (hwi hw 63 rfl)) (mvT hZ (hwi hw 64 rfl)) (mvT hZ (hwi hw 65 rfl)) (by decide) (backOf (W := 1) (rm_sbinit l Z a0 hw [] b2 w_COMPACT_STRINGS .null (.int 0) h2 n0 Z4 S_COMPACT_STRINGS hcs A2 F2_count O4 F2_value (Nat.le_trans Z0 bn_b2) F2_coder) hZ (hwi hw 65 rfl) (hwi hw 62 rfl) (by decide) (by decide)) (g := (mkF m 16 #[.val (.ref a1)] [(.ref b2), (.ref b2)])) rfl (by rw [hml]; rfl) (Steps.refl _) (a := b2) (argsL := []) (rest := [(.ref b2)]) (lenOf pd_V_167 rfl) rfl (by show 2 * 0 + _ ≤ _; exact Nat.le_of_eq rfl) (hb hby d10_16) (fun _ _ => ⟨rfl, e2, (by decide : 1 + 1 ≤ _), (by decide : 4 + 16 ≤ _)⟩)
  dsimp only [Pt.U, Pt.locs, Pt.cells, Pt.slots] at X5 l5 y5 z5 st5 hQ5
  subst l5 y5 z5
  obtain ⟨t_5, kt_5, rfl, N5q, Kc5, g5_0, g5_1, g5_2, g5_3, g5_4, g5_5⟩ := hQ5
  have N5 := Fr.app N0 N5q
  have sfb5_0 : Safe Z consts_1 s.vm h2 t_5 := Safe.new g5_0
  have R6 := CHr.keep Kc5 (sfS (Safe.exa hZ.alike A2 (by decide) (by decide)) sf0) R3.1
  have sf_t_5_6 := Safe.keep Kc5 (sfS (Safe.exa hZ.alike A2 (by decide) (by decide)) sf0) R3.1 sfb5_0
  have CR6 := CR3.trans R6
  have sz7 : h2.size ≤ T5.heap.size := Kc5.1
  have Z7 : n0 ≤ T5.heap.size := Nat.le_trans Z4 sz7
  have hk7 := Nat.le_trans hk4 sz7
  have O7 := O4.keep Kc5 (allS (Nat.le_trans Z0 bn_b2) all0)
  have K7 : Keep h0 T5.heap [] := K4.trans Kc5 (allS (Or.inr bn_b2) (all0))
  have bn_t_5 : h0.size ≤ t_5 := Nat.le_trans K4.1 g5_0
  obtain ⟨lit8, T8, h8, j8, ltb8, k8, X8, e8, E8, hS8, hk8, hZ8, ho8, Ex8, Fc8, Fv8, Av8, la8, lb8, C8, -, Sn8, st8⟩ := ldcCH X5 hx hZ hown (hwi hw 78 rfl) (own_wS hw) rfl hS0 hk7 hEL (by decide) R6.1 (vs := [(.int 115), (.int 117), (.int 109), (.int 40)]) (z := (4 : Int32)) (own_text_1) (by decide) (by rfl) (g := (mkF m 19 #[.val (.ref a1)] [(.ref b2)])) rfl (hb hby d10_19) (n := 16) (by decide) (by decide) (by decide) (by decide)
  have sf_t_5_9 := CHr.safe C8 (show t_5 < T5.heap.size from ltN (by have := ltN g5_5.lt; omega)) sf_t_5_6
  have R9 := C8
  have CR9 := CR6.trans R9
  have sz10 : T5.heap.size ≤ h8.size := E8.1
  have Z10 : n0 ≤ h8.size := Nat.le_trans Z7 sz10
  have O10 := O7.ext E8
  have K10 : Keep h0 h8 [] := K7.ext E8
  have nq_t_5_8 := Sn8 _ sf_t_5_9
  have fc12 := (g5_1.ext E8)
  have fc13 := (g5_3.ext E8)
  have fc14 := (g5_2.ext E8)
  have fc15 := (g5_5.ext E8)
  have fc16 := (g5_4.ext E8)
  obtain ⟨cq11, kq11, q11a, q11b, q11c⟩ := isOf hZ8 e8 fc12
  obtain ⟨_, _, ⟨T11, L11, k11, n11⟩, -, X11, ⟨Lc11, hQ11, l11, y11, z11⟩, st11⟩ := X8.virtualBack hx (y := (⟨"java/lang/StringBuilder", "append", "(Ljava/lang/String;)Ljava/lang/StringBuilder;"⟩ : MethodName)) (z := (⟨"java/lang/StringBuilder", "append", "(Ljava/lang/String;)Ljava/lang/StringBuilder;"⟩ : MethodName)) ho8 (mvT hZ8 (hwi hw 79 rfl)) (mvT hZ8 (hwi hw 80 rfl)) (notFace_of_selects (args := #[]) (mvT hZ8 (hwi hw 82 rfl))) (mvT hZ8 (hwi hw 82 rfl)) (mvT hZ8 (hwi hw 81 rfl)) (by decide) (backOf (W := 0) (rm_sbapp l Z a0 hw [] b2 lit8 w_COMPACT_STRINGS t_5 kt_5 [(.int 0), (.int 0), (.int 0), (.int 0), (.int 0), (.int 0), (.int 0), (.int 0), (.int 0), (.int 0), (.int 0), (.int 0), (.int 0), (.int 0), (.int 0), (.int 0)] (0 : Int32) ltb8 k8 [(.int 115), (.int 117), (.int 109), (.int 40)] (4 : Int32) h8 n0 Z10 S_COMPACT_STRINGS hcs fc12 fc13 fc14 fc15 fc16 Ex8 Fc8 Fv8 Av8 (by decide : ¬ ((0 : Int32) < (0 : Int32))) (by decide : (0 : Int32).toNatClampNeg + (4 : Int32).toNatClampNeg ≤ (16 : Int32).toNatClampNeg) (Nat.le_of_ble_eq_true rfl) (by decide : ¬ ((4 : Int32) < (0 : Int32))) (by decide : ¬ ((0 : Int32) < (((0 : Int32) + (4 : Int32)) - (16 : Int32)))) (fun q => nq_t_5_8.2 q.symm) (Exa.ne Ex8 fc12 (by decide)) (Nat.le_trans Z0 bn_t_5) O10 (Nat.le_trans Z0 bn_b2) (by decide : ((4 : Int32) >>> ((0 : Int32) &&& 31)) = (4 : Int32)) (by decide : ((0 : Int32) <<< ((0 : Int32) &&& 31)) = (0 : Int32))) hZ8 (hwi hw 83 rfl) (hwi hw 62 rfl) (by decide) (by decide)) q11a q11c (g := (mkF m 21 #[.val (.ref a1)] [(.ref lit8), (.ref b2)])) rfl (by rw [hml]; rfl) (Steps.refl _) (argsL := [(.ref lit8)]) (rest := []) (lenOf pd_Ljava_lang_String__Ljava_lang_StringBuilder_184 rfl) rfl (by show 2 * 0 + _ ≤ _; exact Nat.le_of_eq rfl) (hb hby d10_21) (fun _ _ => ⟨rfl, e8, (by decide : 4 + 0 ≤ _), (by decide : 40 + 0 ≤ _)⟩)
  dsimp only [Pt.U, Pt.locs, Pt.cells, Pt.slots] at X11 l11 y11 z11 st11 hQ11
  subst l11 y11 z11
  obtain ⟨rfl, N11q, Kc11, g11_0, g11_1, g11_2, g11_3, g11_4⟩ := hQ11
  have N11 := Fr.app N5 N11q
  have R17 := CHr.keep Kc11 (sfS (Safe.exa hZ8.alike fc12 (by decide) (by decide)) (sfS sf_t_5_9 sf0)) R9.1
  have sf_t_5_17 := Safe.keep Kc11 (sfS (Safe.exa hZ8.alike fc12 (by decide) (by decide)) (sfS sf_t_5_9 sf0)) R9.1 sf_t_5_9
  have CR17 := CR9.trans R17
  have sz18 : h8.size ≤ T11.heap.size := Kc11.1
  have Z18 : n0 ≤ T11.heap.size := Nat.le_trans Z10 sz18
  have hk18 := Nat.le_trans hk8 sz18
  have O18 := O10.keep Kc11 (allS (Nat.le_trans Z0 bn_b2) (allS (Nat.le_trans Z0 bn_t_5) all0))
  have K18 : Keep h0 T11.heap [] := K10.trans Kc11 (allS (Or.inr bn_b2) (allS (Or.inr bn_t_5) (all0)))
  have Feg11_3 : Fld Z T11.heap b2 "java/lang/AbstractStringBuilder" "count" "I" (.int 4) := by have q := g11_3; rw [(by decide : ((0 : Int32) + (4 : Int32)) = (4 : Int32))] at q; exact q
  have Veg11_4 : Arv Z T11.heap t_5 kt_5 .byte (16 : Int32) [(.int 115), (.int 117), (.int 109), (.int 40), (.int 0), (.int 0), (.int 0), (.int 0), (.int 0), (.int 0), (.int 0), (.int 0), (.int 0), (.int 0), (.int 0), (.int 0)] (.int 0) := g11_4
  have fc19 := ((((F_a1_column.ext E2).keep Kc5 (ninS (neN (by have := ltN F_a1_column.lt; have := ltN A2.lt; omega)) nin0)).ext E8).keep Kc11 (ninS (neN (by have := ltN F_a1_column.lt; have := ltN A2.lt; omega)) (ninS (neN (by have := ltN F_a1_column.lt; have := ltN g5_5.lt; omega)) nin0)))
  obtain ⟨T20, X20, e20, st20⟩ := getF X11 hx hZ8 ho8 (host := "") (Or.inl (hwi hw 38 rfl)) Via.refl rfl fc19 (g := (mkF m 25 #[.val (.ref a1)] [(.ref a1), (.ref b2)])) rfl rfl (hb hby d10_25)
  have fc22 := ((((E_cl_.ext E2).keep Kc5).ext E8).keep Kc11)
  have fc23 := ((((F_cl__coder.ext E2).keep Kc5 (ninS (neN (by have := ltN E_cl_.lt; have := ltN A2.lt; omega)) nin0)).ext E8).keep Kc11 (ninS (neN (by have := ltN E_cl_.lt; have := ltN A2.lt; omega)) (ninS (neN (by have := ltN E_cl_.lt; have := ltN g5_5.lt; omega)) nin0)))
  have fc24 := ((((F_cl__value.ext E2).keep Kc5 (ninS (neN (by have := ltN E_cl_.lt; have := ltN A2.lt; omega)) nin0)).ext E8).keep Kc11 (ninS (neN (by have := ltN E_cl_.lt; have := ltN A2.lt; omega)) (ninS (neN (by have := ltN E_cl_.lt; have := ltN g5_5.lt; omega)) nin0)))
  have fc25 := ((((V_t_cl_.ext E2).keep Kc5 (ninS (neN (by have := ltN V_t_cl_.lt; have := ltN A2.lt; omega)) nin0)).ext E8).keep Kc11 (ninS (neN (by have := ltN V_t_cl_.lt; have := ltN A2.lt; omega)) (ninS (neN (by have := ltN V_t_cl_.lt; have := ltN g5_5.lt; omega)) nin0)))
  obtain ⟨cq21, kq21, q21a, q21b, q21c⟩ := isOf hZ8 e20 g11_0
  obtain ⟨_, _, ⟨T21, L21, k21, n21⟩, -, X21, ⟨Lc21, hQ21, l21, y21, z21⟩, st21⟩ := X20.virtualBack hx (y := (⟨"java/lang/StringBuilder", "append", "(Ljava/lang/String;)Ljava/lang/StringBuilder;"⟩ : MethodName)) (z := (⟨"java/lang/StringBuilder", "append", "(Ljava/lang/String;)Ljava/lang/StringBuilder;"⟩ : MethodName)) ho8 (mvT hZ8 (hwi hw 79 rfl)) (mvT hZ8 (hwi hw 80 rfl)) (notFace_of_selects (args := #[]) (mvT hZ8 (hwi hw 82 rfl))) (mvT hZ8 (hwi hw 82 rfl)) (mvT hZ8 (hwi hw 81 rfl)) (by decide) (backOf (W := 0) (rm_sbapp l Z a0 hw [] b2 cl_ w_COMPACT_STRINGS t_5 kt_5 [(.int 115), (.int 117), (.int 109), (.int 40), (.int 0), (.int 0), (.int 0), (.int 0), (.int 0), (.int 0), (.int 0), (.int 0), (.int 0), (.int 0), (.int 0), (.int 0)] (4 : Int32) t_cl_ k_t_cl_ [(.int (c0.toInt8.toInt32)), (.int (c1.toInt8.toInt32)), (.int (c2.toInt8.toInt32))] (3 : Int32) T11.heap n0 Z18 S_COMPACT_STRINGS hcs g11_0 g11_2 g11_1 Veg11_4 Feg11_3 fc22 fc23 fc24 fc25 (by decide : ¬ ((4 : Int32) < (0 : Int32))) (by decide : (4 : Int32).toNatClampNeg + (3 : Int32).toNatClampNeg ≤ (16 : Int32).toNatClampNeg) (Nat.le_of_ble_eq_true rfl) (by decide : ¬ ((3 : Int32) < (0 : Int32))) (by decide : ¬ ((0 : Int32) < (((4 : Int32) + (3 : Int32)) - (16 : Int32)))) (neN (by have := ltN V_t_cl_.lt; have := ltN g5_5.lt; omega)) (neN (by have := ltN E_cl_.lt; have := ltN A2.lt; omega)) (Nat.le_trans Z0 bn_t_5) O18 (Nat.le_trans Z0 bn_b2) (by decide : ((3 : Int32) >>> ((0 : Int32) &&& 31)) = (3 : Int32)) (by decide : ((4 : Int32) <<< ((0 : Int32) &&& 31)) = (4 : Int32))) hZ8 (hwi hw 83 rfl) (hwi hw 62 rfl) (by decide) (by decide)) q21a q21c (g := (mkF m 28 #[.val (.ref a1)] [(.ref cl_), (.ref b2)])) rfl (by rw [hml]; rfl) (Steps.refl _) (argsL := [(.ref cl_)]) (rest := []) (lenOf pd_Ljava_lang_String__Ljava_lang_StringBuilder_184 rfl) rfl (by show 2 * 0 + _ ≤ _; exact Nat.le_of_eq rfl) (hb hby d10_28) (fun _ _ => ⟨rfl, e20, (by decide : 4 + 0 ≤ _), (by decide : 40 + 0 ≤ _)⟩)
  dsimp only [Pt.U, Pt.locs, Pt.cells, Pt.slots] at X21 l21 y21 z21 st21 hQ21
  subst l21 y21 z21
  obtain ⟨rfl, N21q, Kc21, g21_0, g21_1, g21_2, g21_3, g21_4⟩ := hQ21
  have N21 := Fr.app N11 N21q
  have R26 := CHr.keep Kc21 (sfS (Safe.exa hZ8.alike g11_0 (by decide) (by decide)) (sfS sf_t_5_17 sf0)) R17.1
  have sf_t_5_26 := Safe.keep Kc21 (sfS (Safe.exa hZ8.alike g11_0 (by decide) (by decide)) (sfS sf_t_5_17 sf0)) R17.1 sf_t_5_17
  have CR26 := CR17.trans R26
  have sz27 : T11.heap.size ≤ T21.heap.size := Kc21.1
  have Z27 : n0 ≤ T21.heap.size := Nat.le_trans Z18 sz27
  have hk27 := Nat.le_trans hk18 sz27
  have O27 := O18.keep Kc21 (allS (Nat.le_trans Z0 bn_b2) (allS (Nat.le_trans Z0 bn_t_5) all0))
  have K27 : Keep h0 T21.heap [] := K18.trans Kc21 (allS (Or.inr bn_b2) (allS (Or.inr bn_t_5) (all0)))
  have Feg21_3 : Fld Z T21.heap b2 "java/lang/AbstractStringBuilder" "count" "I" (.int 7) := by have q := g21_3; rw [(by decide : ((4 : Int32) + (3 : Int32)) = (7 : Int32))] at q; exact q
  have Veg21_4 : Arv Z T21.heap t_5 kt_5 .byte (16 : Int32) [(.int 115), (.int 117), (.int 109), (.int 40), (.int (c0.toInt8.toInt32)), (.int (c1.toInt8.toInt32)), (.int (c2.toInt8.toInt32)), (.int 0), (.int 0), (.int 0), (.int 0), (.int 0), (.int 0), (.int 0), (.int 0), (.int 0)] (.int 0) := g21_4
  obtain ⟨lit28, T28, h28, j28, ltb28, k28, X28, e28, E28, hS28, hk28, hZ28, ho28, Ex28, Fc28, Fv28, Av28, la28, lb28, C28, -, Sn28, st28⟩ := ldcCH X21 hx hZ8 ho8 (hwi hw 127 rfl) (own_wS hw) rfl hS8 hk27 hEL (by decide) R26.1 (vs := [(.int 41)]) (z := (1 : Int32)) (own_text_2) (by decide) (by rfl) (g := (mkF m 31 #[.val (.ref a1)] [(.ref b2)])) rfl (hb hby d10_31) (n := 4) (by decide) (by decide) (by decide) (by decide)
  have sf_t_5_29 := CHr.safe C28 (show t_5 < T21.heap.size from ltN (by have := ltN g5_5.lt; omega)) sf_t_5_26
  have R29 := C28
  have CR29 := CR26.trans R29
  have sz30 : T21.heap.size ≤ h28.size := E28.1
  have Z30 : n0 ≤ h28.size := Nat.le_trans Z27 sz30
  have O30 := O27.ext E28
  have K30 : Keep h0 h28 [] := K27.ext E28
  have nq_t_5_28 := Sn28 _ sf_t_5_29
  have fc32 := (g21_0.ext E28)
  have fc33 := (g21_2.ext E28)
  have fc34 := (g21_1.ext E28)
  have fc35 := (Veg21_4.ext E28)
  have fc36 := (Feg21_3.ext E28)
  obtain ⟨cq31, kq31, q31a, q31b, q31c⟩ := isOf hZ28 e28 fc32
  obtain ⟨_, _, ⟨T31, L31, k31, n31⟩, -, X31, ⟨Lc31, hQ31, l31, y31, z31⟩, st31⟩ := X28.virtualBack hx (y := (⟨"java/lang/StringBuilder", "append", "(Ljava/lang/String;)Ljava/lang/StringBuilder;"⟩ : MethodName)) (z := (⟨"java/lang/StringBuilder", "append", "(Ljava/lang/String;)Ljava/lang/StringBuilder;"⟩ : MethodName)) ho28 (mvT hZ28 (hwi hw 79 rfl)) (mvT hZ28 (hwi hw 80 rfl)) (notFace_of_selects (args := #[]) (mvT hZ28 (hwi hw 82 rfl))) (mvT hZ28 (hwi hw 82 rfl)) (mvT hZ28 (hwi hw 81 rfl)) (by decide) (backOf (W := 0) (rm_sbapp l Z a0 hw [] b2 lit28 w_COMPACT_STRINGS t_5 kt_5 [(.int 115), (.int 117), (.int 109), (.int 40), (.int (c0.toInt8.toInt32)), (.int (c1.toInt8.toInt32)), (.int (c2.toInt8.toInt32)), (.int 0), (.int 0), (.int 0), (.int 0), (.int 0), (.int 0), (.int 0), (.int 0), (.int 0)] (7 : Int32) ltb28 k28 [(.int 41)] (1 : Int32) h28 n0 Z30 S_COMPACT_STRINGS hcs fc32 fc33 fc34 fc35 fc36 Ex28 Fc28 Fv28 Av28 (by decide : ¬ ((7 : Int32) < (0 : Int32))) (by decide : (7 : Int32).toNatClampNeg + (1 : Int32).toNatClampNeg ≤ (16 : Int32).toNatClampNeg) (Nat.le_of_ble_eq_true rfl) (by decide : ¬ ((1 : Int32) < (0 : Int32))) (by decide : ¬ ((0 : Int32) < (((7 : Int32) + (1 : Int32)) - (16 : Int32)))) (fun q => nq_t_5_28.2 q.symm) (Exa.ne Ex28 fc32 (by decide)) (Nat.le_trans Z0 bn_t_5) O30 (Nat.le_trans Z0 bn_b2) (by decide : ((1 : Int32) >>> ((0 : Int32) &&& 31)) = (1 : Int32)) (by decide : ((7 : Int32) <<< ((0 : Int32) &&& 31)) = (7 : Int32))) hZ28 (hwi hw 83 rfl) (hwi hw 62 rfl) (by decide) (by decide)) q31a q31c (g := (mkF m 33 #[.val (.ref a1)] [(.ref lit28), (.ref b2)])) rfl (by rw [hml]; rfl) (Steps.refl _) (argsL := [(.ref lit28)]) (rest := []) (lenOf pd_Ljava_lang_String__Ljava_lang_StringBuilder_184 rfl) rfl (by show 2 * 0 + _ ≤ _; exact Nat.le_of_eq rfl) (hb hby d10_33) (fun _ _ => ⟨rfl, e28, (by decide : 6 + 0 ≤ _), (by decide : 48 + 0 ≤ _)⟩)
  dsimp only [Pt.U, Pt.locs, Pt.cells, Pt.slots] at X31 l31 y31 z31 st31 hQ31
  subst l31 y31 z31
  obtain ⟨rfl, N31q, Kc31, g31_0, g31_1, g31_2, g31_3, g31_4⟩ := hQ31
  have N31 := Fr.app N21 N31q
  have R37 := CHr.keep Kc31 (sfS (Safe.exa hZ28.alike fc32 (by decide) (by decide)) (sfS sf_t_5_29 sf0)) R29.1
  have sf_t_5_37 := Safe.keep Kc31 (sfS (Safe.exa hZ28.alike fc32 (by decide) (by decide)) (sfS sf_t_5_29 sf0)) R29.1 sf_t_5_29
  have CR37 := CR29.trans R37
  have sz38 : h28.size ≤ T31.heap.size := Kc31.1
  have Z38 : n0 ≤ T31.heap.size := Nat.le_trans Z30 sz38
  have hk38 := Nat.le_trans hk28 sz38
  have O38 := O30.keep Kc31 (allS (Nat.le_trans Z0 bn_b2) (allS (Nat.le_trans Z0 bn_t_5) all0))
  have K38 : Keep h0 T31.heap [] := K30.trans Kc31 (allS (Or.inr bn_b2) (allS (Or.inr bn_t_5) (all0)))
  have Feg31_3 : Fld Z T31.heap b2 "java/lang/AbstractStringBuilder" "count" "I" (.int 8) := by have q := g31_3; rw [(by decide : ((7 : Int32) + (1 : Int32)) = (8 : Int32))] at q; exact q
  have Veg31_4 : Arv Z T31.heap t_5 kt_5 .byte (16 : Int32) [(.int 115), (.int 117), (.int 109), (.int 40), (.int (c0.toInt8.toInt32)), (.int (c1.toInt8.toInt32)), (.int (c2.toInt8.toInt32)), (.int 41), (.int 0), (.int 0), (.int 0), (.int 0), (.int 0), (.int 0), (.int 0), (.int 0)] (.int 0) := g31_4
  obtain ⟨cq39, kq39, q39a, q39b, q39c⟩ := isOf hZ28 rfl g31_0
  obtain ⟨_, _, ⟨T39, L39, k39, n39⟩, -, X39, ⟨Lc39, hQ39, l39, y39, z39⟩, st39⟩ := X31.virtualBack hx (y := (⟨"java/lang/StringBuilder", "toString", "()Ljava/lang/String;"⟩ : MethodName)) (z := (⟨"java/lang/StringBuilder", "toString", "()Ljava/lang/String;"⟩ : MethodName)) ho28 (mvT hZ28 (hwi hw 128 rfl)) (mvT hZ28 (hwi hw 129 rfl)) (notFace_of_selects (args := #[]) (mvT hZ28 (hwi hw 131 rfl))) (mvT hZ28 (hwi hw 131 rfl)) (mvT hZ28 (hwi hw 130 rfl)) (by decide) (backOf (W := 0) (rm_tostr_8 l Z a0 hw [] b2 w_COMPACT_STRINGS t_5 kt_5 [(.int 115), (.int 117), (.int 109), (.int 40), (.int (c0.toInt8.toInt32)), (.int (c1.toInt8.toInt32)), (.int (c2.toInt8.toInt32)), (.int 41), (.int 0), (.int 0), (.int 0), (.int 0), (.int 0), (.int 0), (.int 0), (.int 0)] T31.heap n0 Z38 S_COMPACT_STRINGS hcs g31_0 g31_2 g31_1 Veg31_4 Feg31_3 O38) hZ28 (hwi hw 132 rfl) (hwi hw 62 rfl) (by decide) (by decide)) q39a q39c (g := (mkF m 36 #[.val (.ref a1)] [(.ref b2)])) rfl (by rw [hml]; rfl) (Steps.refl _) (argsL := []) (rest := []) (lenOf pd_Ljava_lang_String_777 rfl) rfl (by show 2 * 0 + _ ≤ _; exact Nat.le_of_eq rfl) (hb hby d10_36) (fun _ _ => ⟨rfl, rfl, (by decide : 6 + 2 ≤ _), (by decide : 48 + 12 ≤ _)⟩)
  dsimp only [Pt.U, Pt.locs, Pt.cells, Pt.slots] at X39 l39 y39 z39 st39 hQ39
  subst l39 y39 z39
  obtain ⟨r_39, t_39, kt_39, rfl, N39q, Kc39, g39_0, g39_1, g39_2, g39_3, g39_4, g39_5⟩ := hQ39
  have N39 := Fr.app N31 N39q
  have sfb39_0 : Safe Z consts_1 T28.vm T31.heap r_39 := Safe.new g39_0
  have sfb39_1 : Safe Z consts_1 T28.vm T31.heap t_39 := Safe.new g39_1
  have R40 := CHr.keep Kc39 sf0 R37.1
  have sf_t_5_40 := Safe.keep Kc39 sf0 R37.1 sf_t_5_37
  have sf_r_39_40 := Safe.keep Kc39 sf0 R37.1 sfb39_0
  have sf_t_39_40 := Safe.keep Kc39 sf0 R37.1 sfb39_1
  have CR40 := CR37.trans R40
  have sz41 : T31.heap.size ≤ T39.heap.size := Kc39.1
  have Z41 : n0 ≤ T39.heap.size := Nat.le_trans Z38 sz41
  have hk41 := Nat.le_trans hk38 sz41
  have O41 := O38.keep Kc39 all0
  have K41 : Keep h0 T39.heap [] := K38.trans Kc39 (all0)
  have bn_r_39 : h0.size ≤ r_39 := Nat.le_trans K38.1 g39_0
  have bn_t_39 : h0.size ≤ t_39 := Nat.le_trans K38.1 g39_1
  have Veg39_5 : Arv Z T39.heap t_39 kt_39 .byte (8 : Int32) [(.int 115), (.int 117), (.int 109), (.int 40), (.int (c0.toInt8.toInt32)), (.int (c1.toInt8.toInt32)), (.int (c2.toInt8.toInt32)), (.int 41)] (.int 0) := g39_5
  have CRe := CR40.trans (CHv.at X39 hZ28 hEL R40.1)
  obtain ⟨fs, hr, hrun, hended, hRE⟩ := X39.leaveW hS28 hk41 (v := some (.ref r_39)) (fun h => by rw [Bd.returns] at h; cases h)
  refine ⟨_, _, pre0 _ ?_, hrun, hended, _, _, rfl, ?_, ?_, ⟨hRE.1, hRE.2.1, hRE.2.2.1, hRE.2.2.2.mono (by decide) (by decide)⟩⟩
  · show St p e below s₁ (mkF m 0 #[.val (.ref a1)] []) _
    refine XS.aloadN X0.here hx rfl (hb hby d10_0) rfl rfl ?_
    refine st1 _ ?_
    refine XS.ifnonnullYes X1.here hx rfl (pc0 := 4) (pc' := 12) rfl (hb hby d10_4) rfl (by decide) (by decide) ?_
    refine st2 _ ?_
    show St p e below T2 (mkF m 15 #[.val (.ref a1)] [(.ref b2)]) _
    refine XS.dup X2.here hx rfl (hb hby d10_15) rfl rfl ?_
    refine st5.trans ?_
    refine st8 _ ?_
    refine st11.trans ?_
    show St p e below T11 (mkF m 24 #[.val (.ref a1)] [(.ref b2)]) _
    refine XS.aloadN X11.here hx rfl (hb hby d10_24) rfl rfl ?_
    refine st20 _ ?_
    refine st21.trans ?_
    refine st28 _ ?_
    show St p e below T28 (mkF m 33 #[.val (.ref a1)] [(.ref lit28), (.ref b2)]) _
    refine st31.trans ?_
    refine st39.trans ?_
    show St p e below T39 (mkF m 39 #[.val (.ref a1)] [(.ref r_39)]) _
    jvm_step X39.here [X39.here.top, hx, (hb hby d10_39), X39.method', Bd.returns, Value.isRef, FieldType.isReference]
    first | (intro acts; rw [hr _ acts rfl rfl rfl]) | rw [hr _ _ rfl rfl rfl]
    exact Steps.refl _
  · show Q_agstr_3 Z a1 w_COMPACT_STRINGS cl_ c0 c1 c2 t_cl_ k_t_cl_ h0 n0 _ T39.heap _
    exact ⟨r_39, t_39, kt_39, rfl, N39, K41, bn_r_39, bn_t_39, g39_2, g39_3, g39_4, Veg39_5⟩
  · show CHr Z consts_1 s.vm s.heap T39.vm T39.heap
    rw [hh]
    exact CRe
theorem pd_C_V_325 : parseMethodDescriptor "([C)V" = some ⟨[(.array .char)], none⟩ := by decide +kernel
theorem pd_Ljava_lang_String__Lcom_example_sunder_sunder_Aggregate_384 : parseMethodDescriptor "(Ljava/lang/String;)Lcom/example/sunder/sunder/Aggregate;" = some ⟨[(.object "java/lang/String")], some (.object "com/example/sunder/sunder/Aggregate")⟩ := by decide +kernel
theorem pd_Ljava_lang_Object__Z_835 : parseMethodDescriptor "(Ljava/lang/Object;)Z" = some ⟨[(.object "java/lang/Object")], some .boolean⟩ := by decide +kernel
theorem pd_Lcom_example_sunder_sunder_Aggregate_688 : parseMethodDescriptor "()Lcom/example/sunder/sunder/Aggregate;" = some ⟨[], some (.object "com/example/sunder/sunder/Aggregate")⟩ := by decide +kernel
theorem pd_I_C_221 : parseMethodDescriptor "(I)C" = some ⟨[.int], some .char⟩ := by decide +kernel
theorem pn_0 : plainName "com/example/sunder/sunder/AggregateSumPinLaw" = true := by first | (simp [plainName, overriddenIn]; done) | decide +kernel
theorem ef_0_IIII (m : MethodId) (x0 : Int32) (x1 : Int32) (x2 : Int32) (x3 : Int32) : entryFrame m #[(.int x0), (.int x1), (.int x2), (.int x3)] maxLocals = mkF m 0 #[.val (.int x0), .val (.int x1), .val (.int x2), .val (.int x3), .unset, .unset, .unset, .unset, .unset, .unset] [] := by first | (simp [entryFrame, mkF, argsToLocals, Value.category, maxLocals]; done) | rfl
def Q_law (n0 : Nat) (v : Option Value) (L : List Loc) : Prop := v = some (.int 1) ∧ Fr n0 L
set_option maxRecDepth 65536 in
set_option maxHeartbeats 40000000 in
theorem rm_law_0 (l : Launch) (Z : State) (a0 : Array Value) (hw : ∀ d ∈ tables_1, d.before a0 Z = true) (hEL : EW Z a0 consts_1) (ws : List Jvm.Cond) (p1 : Int32) (p2 : Int32) (p3 : Int32) (p4 : Int32) (w_COMPACT_STRINGS : Int32) (w_COUNT : Addr) (w_SIOOBE_FORMATTER : Value) (h0 : Heap) (n0 : Nat) (Z0 : n0 ≤ h0.size) (S_COMPACT_STRINGS : Sta Z Z.heap "java/lang/String" "COMPACT_STRINGS" "Z" (.int w_COMPACT_STRINGS)) (hcs : ¬ (w_COMPACT_STRINGS = (0 : Int32))) (S_COUNT : Sta Z Z.heap "com/example/sunder/sunder/Aggregate" "COUNT" "Lcom/example/sunder/sunder/Aggregate;" (.ref w_COUNT)) (O0 : Old Z n0 h0) (E_w_COUNT : Exa Z Z.heap w_COUNT "com/example/sunder/sunder/Aggregate") (hk : (p1 &&& (3 : Int32)) = (0 : Int32)) (hr_SIOOBE_FORMATTER : w_SIOOBE_FORMATTER.isRef = true) (S_SIOOBE_FORMATTER : Sta Z Z.heap "jdk/internal/util/Preconditions" "SIOOBE_FORMATTER" "Ljava/util/function/BiFunction;" w_SIOOBE_FORMATTER) :
    MetFree l x (head1 (Jvm.Cond.code x code maxLocals ret :: ws) room_1) (fun a U => a = #[(.int p1), (.int p2), (.int p3), (.int p4)] ∧ Z.Warmed39 U.vm ∧ U.heap = h0 ∧ CHv Z consts_1 U.vm h0) (fun _ _ _ _ _ => True) (fun _ U o U' => ∃ v L, o = .returned v ∧ Q_law n0 v L ∧ CHr Z consts_1 U.vm U.heap U'.vm U'.heap ∧ ReturnedEndW U o U' L room_1.cells room_1.slots) := by
  refine MetFree.of_bodySF (plainFor_of_name pn_0) hisR ?_
  intro p e s m args below meth c s₁ Bd hml0 hP hK
  obtain ⟨rfl, hZ, hh, H0c⟩ := hP
  have hx := Bd.exec
  have hby := Bd.bytes
  have hml : c.maxLocals = 10 := hml0
  have hown : s.vm.findClass "com/example/sunder/sunder/AggregateSumPinLaw" = some m.cls := findClass_of_methodNamed Bd.named
  have hnm := (name_of_methodNamed Bd.named Bd.method).1
  have X0 : Stand p l e room_1 (s.setVm s.vm) m #[(.int p1), (.int p2), (.int p3), (.int p4)] below meth c s₁ [] 0 0 := Stand.of_body Bd
  have e0 : s₁.heap = h0 := by rw [← hh, Bd.state]; rfl
  have N0 := Fr.nil n0
  have pre0 : ∀ t, Steps p.tables e below (s₁.setTop (mkF m 0 #[.val (.int p1), .val (.int p2), .val (.int p3), .val (.int p4), .unset, .unset, .unset, .unset, .unset, .unset] [])) t → Steps p.tables e below (s₁.setTop (entryFrame m #[(.int p1), (.int p2), (.int p3), (.int p4)] maxLocals)) t := fun t k => castTop (ef_0_IIII m p1 p2 p3 p4) k
  have hS0 : s.Since s.vm 0 := (State.WarmedH.refl s).since 0
  have hk0 : 0 ≤ h0.size := Nat.zero_le _
  have C0c : CHr Z consts_1 s.vm h0 s.vm h0 := CHr.refl H0c
  obtain ⟨T1, h1, k1, X1, e1, E1, A1, st1⟩ := newP X0 hx hZ (hwi hw 0 rfl) e0 (g := (mkF m 7 #[.val (.int p1), .val (.int p2), .val (.int p3), .val (.int p4), .val (.int 0), .unset, .unset, .unset, .unset, .unset] [(.int 0)])) rfl (hb hby at_7) rfl (by decide) (cap := 0) (by decide) (by decide) (by decide) (by decide)
  obtain ⟨b1, g1⟩ : ∃ z, z = h0.size := ⟨_, rfl⟩
  rw [← g1] at A1 st1
  have bn_b1 : h0.size ≤ b1 := Nat.le_of_eq g1.symm
  have R2 := CHr.ext E1 H0c
  have CR2 := C0c.trans R2
  have sz3 : h0.size ≤ h1.size := E1.1
  have Z3 : n0 ≤ h1.size := Nat.le_trans Z0 sz3
  have hk3 := Nat.le_trans hk0 sz3
  have O3 := O0.ext E1
  have K3 : Keep h0 h1 [] := (Keep.refl h0 []).ext E1
  have V1 : Arv Z h1 b1 k1 .char (0 : Int32) [] (.int 0) := (Arv.new A1 (by decide)).pad (pad_rep [] (.int 0) 0)
  obtain ⟨T4, h4, X4, e4, E4, A4, D4, -, st4⟩ := newO X1 hx hZ hown (hwi hw 1 rfl) (hwi hw 2 rfl) (hwi hw 3 rfl) e1 (g := (mkF m 58 #[.val (.int p1), .val (.int p2), .val (.int p3), .val (.int p4), .val (.int 0), .val (.ref b1), .unset, .unset, .unset, .unset] [])) rfl (hb hby at_58) (by decide) (by decide)
  obtain ⟨b4, g4⟩ : ∃ z, z = h1.size := ⟨_, rfl⟩
  rw [← g4] at A4 D4 st4
  have bn_b4 : h0.size ≤ b4 := Nat.le_trans K3.1 (Nat.le_of_eq g4.symm)
  have sfb4 : Safe Z consts_1 s.vm h1 b4 := Safe.new (Nat.le_of_eq g4.symm)
  have R5 := CHr.ext E4 R2.1
  have sf_b4_5 := Safe.ext E4 R2.1 sfb4
  have CR5 := CR2.trans R5
  have sz6 : h1.size ≤ h4.size := E4.1
  have Z6 : n0 ≤ h4.size := Nat.le_trans Z3 sz6
  have hk6 := Nat.le_trans hk3 sz6
  have O6 := O3.ext E4
  have K6 : Keep h0 h4 [] := K3.ext E4
  have F4_value : Fld Z h4 b4 "java/lang/String" "value" "[B" .null := D4 (Or.inr (hwi hw 16 rfl)) (ty := (.array .byte)) (by decide)
  have F4_coder : Fld Z h4 b4 "java/lang/String" "coder" "B" (.int 0) := D4 (Or.inr (hwi hw 17 rfl)) (ty := .byte) (by decide)
  have fc8 := (V1.ext E4)
  obtain ⟨_, _, ⟨T7, L7, k7, n7⟩, -, X7, hS7, gr7, ⟨Lc7, hQ7, l7, y7, z7, C7⟩, st7⟩ := X4.specialBackS hx (y := (⟨"java/lang/String", "<init>", "([C)V"⟩ : MethodName)) rfl hown (mvT hZ (hwi hw 4 rfl)) (mvT hZ (hwi hw 5 rfl)) (mvT hZ (hwi hw 6 rfl)) (by decide) (backOfSH (s := s) (vm0 := s.vm) (EL := consts_1) (W := 1) (rm_new1_0 l Z a0 hw hEL [] b4 b1 k1 h4 n0 Z6 A4 F4_value F4_coder fc8 O6 (Nat.le_trans Z0 bn_b4)) hZ (hwi hw 6 rfl) (hwi hw 3 rfl) (by decide) (by decide) hEL R5.1) (g := (mkF m 64 #[.val (.int p1), .val (.int p2), .val (.int p3), .val (.int p4), .val (.int 0), .val (.ref b1), .unset, .unset, .unset, .unset] [(.ref b1), (.ref b4), (.ref b4)])) rfl (by rw [hml]; rfl) (Steps.refl _) (a := b4) (argsL := [(.ref b1)]) (rest := [(.ref b4)]) (lenOf pd_C_V_325 rfl) rfl (by show 2 * 0 + _ ≤ _; exact Nat.le_of_eq rfl) (hb hby at_64) (fun _ _ => ⟨rfl, e4, (by decide : 2 + 4 ≤ _), (by decide : 4 + 8 ≤ _)⟩)
  dsimp only [Pt.U, Pt.locs, Pt.cells, Pt.slots] at X7 l7 y7 z7 st7 hQ7 hS7 gr7 C7
  subst l7 y7 z7
  obtain ⟨X7, hS7, hZ7, ho7⟩ := rebS hS0 (by rw [e4]; exact hk6) X7 hS7 gr7 hZ hown
  obtain ⟨t_7, kt_7, rfl, N7q, Kc7, g7_0, g7_1, g7_2, g7_3⟩ := hQ7
  have N7 := Fr.app N0 N7q
  have sf_b4_9 := CHr.safe C7 (show b4 < h4.size from ltN (by have := ltN A4.lt; omega)) sf_b4_5
  have R9 := C7
  have CR9 := CR5.trans R9
  have sz10 : h4.size ≤ T7.heap.size := Kc7.1
  have Z10 : n0 ≤ T7.heap.size := Nat.le_trans Z6 sz10
  have O10 := O6.keep Kc7 (allS (Nat.le_trans Z0 bn_b4) all0)
  have K10 : Keep h0 T7.heap [] := K6.trans Kc7 (allS (Or.inr bn_b4) (all0))
  obtain ⟨_, _, ⟨T11, L11, k11, n11⟩, -, X11, hS11, gr11, ⟨Lc11, hQ11, l11, y11, z11, C11⟩, st11⟩ := callSS X7 hx (y := (⟨"com/example/sunder/sunder/Aggregate", "sum", "(Ljava/lang/String;)Lcom/example/sunder/sunder/Aggregate;"⟩ : MethodName)) ho7 (mvT hZ7 (hwi hw 22 rfl)) (mvT hZ7 (hwi hw 23 rfl)) (mvT hZ7 (hwi hw 24 rfl)) (mvT hZ7 (hwi hw 25 rfl)) (by decide) (backOfSH (s := s) (vm0 := T7.vm) (EL := consts_1) (W := 0) (rm_sum l Z a0 hw hEL [] b4 T7.heap n0 Z10 g7_0 O10) hZ7 (hwi hw 25 rfl) (hwi hw 24 rfl) (by decide) (by decide) hEL R9.1) (g := (mkF m 71 #[.val (.int p1), .val (.int p2), .val (.int p3), .val (.int p4), .val (.int 0), .val (.ref b1), .val (.ref b4), .unset, .unset, .unset] [(.ref b4)])) rfl (by rw [hml]; rfl) (argsL := [(.ref b4)]) (rest := []) (lenOf pd_Ljava_lang_String__Lcom_example_sunder_sunder_Aggregate_384 rfl) rfl (by show 2 * 0 + _ ≤ _; exact Nat.le_of_eq rfl) (hb hby at_71) (fun _ _ => ⟨rfl, rfl, (by decide : 6 + 3 ≤ _), (by decide : 12 + 29 ≤ _)⟩)
  dsimp only [Pt.U, Pt.locs, Pt.cells, Pt.slots] at X11 l11 y11 z11 st11 hQ11 hS11 gr11 C11
  subst l11 y11 z11
  obtain ⟨X11, hS11, hZ11, ho11⟩ := rebS hS7 (Nat.le_refl T7.heap.size) X11 hS11 gr11 hZ7 ho7
  obtain ⟨r_11, rfl, N11q, Kc11, g11_0, g11_1, g11_2⟩ := hQ11
  have N11 := Fr.app N7 N11q
  have sf_b4_12 := CHr.safe C11 (show b4 < T7.heap.size from ltN (by have := ltN A4.lt; omega)) sf_b4_9
  have R12 := C11
  have CR12 := CR9.trans R12
  have sz13 : T7.heap.size ≤ T11.heap.size := Kc11.1
  have Z13 : n0 ≤ T11.heap.size := Nat.le_trans Z10 sz13
  have O13 := O10.keep Kc11 all0
  have K13 : Keep h0 T11.heap [] := K10.trans Kc11 (all0)
  have bn_r_11 : h0.size ≤ r_11 := Nat.le_trans K10.1 g11_0
  obtain ⟨cq14, kq14, q14a, q14b, q14c⟩ := isOf hZ11 rfl g11_1
  obtain ⟨_, _, ⟨T14, L14, k14, n14⟩, -, X14, ⟨Lc14, hQ14, l14, y14, z14⟩, st14⟩ := X11.virtualBack hx (y := (⟨"com/example/sunder/sunder/Aggregate", "column", "()Ljava/lang/String;"⟩ : MethodName)) (z := (⟨"com/example/sunder/sunder/Aggregate", "column", "()Ljava/lang/String;"⟩ : MethodName)) ho11 (mvT hZ11 (hwi hw 40 rfl)) (mvT hZ11 (hwi hw 41 rfl)) (notFace_of_selects (args := #[]) (mvT hZ11 (hwi hw 43 rfl))) (mvT hZ11 (hwi hw 43 rfl)) (mvT hZ11 (hwi hw 42 rfl)) (by decide) (backOf (W := 0) (rm_column l Z a0 hw [] r_11 b4 T11.heap n0 Z13 g11_2) hZ11 (hwi hw 44 rfl) (hwi hw 24 rfl) (by decide) (by decide)) q14a q14c (g := (mkF m 85 #[.val (.int p1), .val (.int p2), .val (.int p3), .val (.int p4), .val (.int 0), .val (.ref b1), .val (.ref b4), .val (.ref r_11), .unset, .unset] [(.ref r_11)])) rfl (by rw [hml]; rfl) (Steps.refl _) (argsL := []) (rest := []) (lenOf pd_Ljava_lang_String_777 rfl) rfl (by show 2 * 0 + _ ≤ _; exact Nat.le_of_eq rfl) (hb hby at_85) (fun _ _ => ⟨rfl, rfl, (by decide : 9 + 0 ≤ _), (by decide : 41 + 0 ≤ _)⟩)
  dsimp only [Pt.U, Pt.locs, Pt.cells, Pt.slots] at X14 l14 y14 z14 st14 hQ14
  subst l14 y14 z14
  obtain ⟨rfl, N14q, e14⟩ := hQ14
  have N14 := Fr.app N11 N14q
  have fc16 := (g7_0.keep Kc11)
  obtain ⟨cq15, kq15, q15a, q15b, q15c⟩ := isOf hZ11 e14 fc16
  obtain ⟨_, _, ⟨T15, L15, k15, n15⟩, -, X15, ⟨Lc15, hQ15, l15, y15, z15⟩, st15⟩ := X14.virtualBack hx (y := (⟨"java/lang/String", "equals", "(Ljava/lang/Object;)Z"⟩ : MethodName)) (z := (⟨"java/lang/String", "equals", "(Ljava/lang/Object;)Z"⟩ : MethodName)) ho11 (mvT hZ11 (hwi hw 45 rfl)) (mvT hZ11 (hwi hw 46 rfl)) (notFace_of_selects (args := #[]) (mvT hZ11 (hwi hw 48 rfl))) (mvT hZ11 (hwi hw 48 rfl)) (mvT hZ11 (hwi hw 47 rfl)) (by decide) (backOf (W := 0) (rm_eqsame l Z a0 hw [] b4 T11.heap n0 Z13) hZ11 (hwi hw 49 rfl) (hwi hw 3 rfl) (by decide) (by decide)) q15a q15c (g := (mkF m 99 #[.val (.int p1), .val (.int p2), .val (.int p3), .val (.int p4), .val (.int 0), .val (.ref b1), .val (.ref b4), .val (.ref r_11), .val (.ref b4), .unset] [(.ref b4), (.ref b4)])) rfl (by rw [hml]; rfl) (Steps.refl _) (argsL := [(.ref b4)]) (rest := []) (lenOf pd_Ljava_lang_Object__Z_835 rfl) rfl (by show 2 * 0 + _ ≤ _; exact Nat.le_of_eq rfl) (hb hby at_99) (fun _ _ => ⟨rfl, e14, (by decide : 9 + 0 ≤ _), (by decide : 41 + 0 ≤ _)⟩)
  dsimp only [Pt.U, Pt.locs, Pt.cells, Pt.slots] at X15 l15 y15 z15 st15 hQ15
  subst l15 y15 z15
  obtain ⟨rfl, N15q, e15⟩ := hQ15
  have N15 := Fr.app N14 N15q
  obtain ⟨_, _, ⟨T17, L17, k17, n17⟩, -, X17, ⟨Lc17, hQ17, l17, y17, z17⟩, st17⟩ := Jvm.LawKit.callS X15 hx (y := (⟨"com/example/sunder/sunder/Aggregate", "count", "()Lcom/example/sunder/sunder/Aggregate;"⟩ : MethodName)) ho11 (mvT hZ11 (hwi hw 50 rfl)) (mvT hZ11 (hwi hw 51 rfl)) (mvT hZ11 (hwi hw 24 rfl)) (mvT hZ11 (hwi hw 52 rfl)) (by decide) (backOf (W := 1) (rm_count l Z a0 hw [] w_COUNT T11.heap n0 Z13 S_COUNT O13) hZ11 (hwi hw 52 rfl) (hwi hw 24 rfl) (by decide) (by decide)) (g := (mkF m 109 #[.val (.int p1), .val (.int p2), .val (.int p3), .val (.int p4), .val (.int 0), .val (.ref b1), .val (.ref b4), .val (.ref r_11), .val (.ref b4), .unset] [(.ref r_11)])) rfl (by rw [hml]; rfl) (argsL := []) (rest := [(.ref r_11)]) (lenOf pd_Lcom_example_sunder_sunder_Aggregate_688 rfl) rfl (by show 2 * 0 + _ ≤ _; exact Nat.le_of_eq rfl) (hb hby at_109) (fun _ _ => ⟨rfl, e15, (by decide : 9 + 0 ≤ _), (by decide : 41 + 0 ≤ _)⟩)
  dsimp only [Pt.U, Pt.locs, Pt.cells, Pt.slots] at X17 l17 y17 z17 st17 hQ17
  subst l17 y17 z17
  obtain ⟨rfl, N17q, e17⟩ := hQ17
  have N17 := Fr.app N15 N17q
  have fc19 := (g7_1.keep Kc11 nin0)
  have fc20 := (g7_2.keep Kc11 nin0)
  have fc21 := (g7_3.keep Kc11 nin0)
  obtain ⟨cq18, kq18, q18a, q18b, q18c⟩ := isOf hZ11 e17 g11_1
  obtain ⟨_, _, ⟨T18, L18, k18, n18⟩, -, X18, hS18, gr18, ⟨Lc18, hQ18, l18, y18, z18, C18⟩, st18⟩ := X17.virtualBackS hx (y := (⟨"com/example/sunder/sunder/Aggregate", "toString", "()Ljava/lang/String;"⟩ : MethodName)) (z := (⟨"com/example/sunder/sunder/Aggregate", "toString", "()Ljava/lang/String;"⟩ : MethodName)) ho11 (mvT hZ11 (hwi hw 55 rfl)) (mvT hZ11 (hwi hw 56 rfl)) (notFace_of_selects (args := #[]) (mvT hZ11 (hwi hw 58 rfl))) (mvT hZ11 (hwi hw 58 rfl)) (mvT hZ11 (hwi hw 57 rfl)) (by decide) (backOfSH (s := s) (vm0 := T11.vm) (EL := consts_1) (W := 0) (rm_agstr_0 l Z a0 hw hEL [] r_11 w_COMPACT_STRINGS b4 t_7 kt_7 T11.heap n0 Z13 S_COMPACT_STRINGS hcs g11_2 fc16 fc19 fc20 fc21 O13) hZ11 (hwi hw 59 rfl) (hwi hw 24 rfl) (by decide) (by decide) hEL R12.1) q18a q18c (g := (mkF m 119 #[.val (.int p1), .val (.int p2), .val (.int p3), .val (.int p4), .val (.int 0), .val (.ref b1), .val (.ref b4), .val (.ref r_11), .val (.ref b4), .unset] [(.ref r_11)])) rfl (by rw [hml]; rfl) (Steps.refl _) (argsL := []) (rest := []) (lenOf pd_Ljava_lang_String_777 rfl) rfl (by show 2 * 0 + _ ≤ _; exact Nat.le_of_eq rfl) (hb hby at_119) (fun _ _ => ⟨rfl, e17, (by decide : 9 + 8 ≤ _), (by decide : 41 + 57 ≤ _)⟩)
  dsimp only [Pt.U, Pt.locs, Pt.cells, Pt.slots] at X18 l18 y18 z18 st18 hQ18 hS18 gr18 C18
  subst l18 y18 z18
  obtain ⟨X18, hS18, hZ18, ho18⟩ := rebS hS11 (by rw [e17]; exact (Nat.le_refl T11.heap.size)) X18 hS18 gr18 hZ11 ho11
  obtain ⟨r_18, t_18, kt_18, rfl, N18q, Kc18, g18_0, g18_1, g18_2, g18_3, g18_4, g18_5⟩ := hQ18
  have N18 := Fr.app N17 N18q
  have sf_b4_22 := CHr.safe C18 (show b4 < T11.heap.size from ltN (by have := ltN A4.lt; omega)) sf_b4_12
  have R22 := C18
  have CR22 := CR12.trans R22
  have sz23 : T11.heap.size ≤ T18.heap.size := Kc18.1
  have Z23 : n0 ≤ T18.heap.size := Nat.le_trans Z13 sz23
  have O23 := O13.keep Kc18 all0
  have K23 : Keep h0 T18.heap [] := K13.trans Kc18 (all0)
  have bn_r_18 : h0.size ≤ r_18 := Nat.le_trans K13.1 g18_0
  have bn_t_18 : h0.size ≤ t_18 := Nat.le_trans K13.1 g18_1
  obtain ⟨cq24, kq24, q24a, q24b, q24c⟩ := isOf hZ18 rfl g18_2
  obtain ⟨_, _, ⟨T24, L24, k24, n24⟩, -, X24, ⟨Lc24, hQ24, l24, y24, z24⟩, st24⟩ := X18.virtualBack hx (y := (⟨"java/lang/String", "length", "()I"⟩ : MethodName)) (z := (⟨"java/lang/String", "length", "()I"⟩ : MethodName)) ho18 (mvT hZ18 (hwi hw 173 rfl)) (mvT hZ18 (hwi hw 90 rfl)) (notFace_of_selects (args := #[]) (mvT hZ18 (hwi hw 92 rfl))) (mvT hZ18 (hwi hw 92 rfl)) (mvT hZ18 (hwi hw 91 rfl)) (by decide) (backOf (W := 0) (rm_slen l Z a0 hw [] r_18 w_COMPACT_STRINGS t_18 kt_18 [(.int 115), (.int 117), (.int 109), (.int 40), (.int 41)] (5 : Int32) T18.heap n0 Z23 S_COMPACT_STRINGS hcs g18_2 g18_3 g18_4 g18_5 O23 (by decide : ((5 : Int32) >>> ((0 : Int32) &&& 31)) = (5 : Int32))) hZ18 (hwi hw 93 rfl) (hwi hw 3 rfl) (by decide) (by decide)) q24a q24c (g := (mkF m 131 #[.val (.int p1), .val (.int p2), .val (.int p3), .val (.int p4), .val (.int 0), .val (.ref b1), .val (.ref b4), .val (.ref r_11), .val (.ref b4), .val (.ref r_18)] [(.ref r_18)])) rfl (by rw [hml]; rfl) (Steps.refl _) (argsL := []) (rest := []) (lenOf pd_I_154 rfl) rfl (by show 2 * 0 + _ ≤ _; exact Nat.le_of_eq rfl) (hb hby at_131) (fun _ _ => ⟨rfl, rfl, (by decide : 17 + 0 ≤ _), (by decide : 98 + 0 ≤ _)⟩)
  dsimp only [Pt.U, Pt.locs, Pt.cells, Pt.slots] at X24 l24 y24 z24 st24 hQ24
  subst l24 y24 z24
  obtain ⟨rfl, N24q, e24⟩ := hQ24
  have N24 := Fr.app N18 N24q
  obtain ⟨cq25, kq25, q25a, q25b, q25c⟩ := isOf hZ18 e24 g18_2
  obtain ⟨_, _, ⟨T25, L25, k25, n25⟩, -, X25, ⟨Lc25, hQ25, l25, y25, z25⟩, st25⟩ := X24.virtualBack hx (y := (⟨"java/lang/String", "charAt", "(I)C"⟩ : MethodName)) (z := (⟨"java/lang/String", "charAt", "(I)C"⟩ : MethodName)) ho18 (mvT hZ18 (hwi hw 174 rfl)) (mvT hZ18 (hwi hw 175 rfl)) (notFace_of_selects (args := #[]) (mvT hZ18 (hwi hw 177 rfl))) (mvT hZ18 (hwi hw 177 rfl)) (mvT hZ18 (hwi hw 176 rfl)) (by decide) (backOf (W := 0) (rm_schr l Z a0 hw [] r_18 (0 : Int32) w_COMPACT_STRINGS t_18 kt_18 [(.int 115), (.int 117), (.int 109), (.int 40), (.int 41)] (5 : Int32) (115 : Int32) (115 : Int32) w_SIOOBE_FORMATTER T18.heap n0 Z23 S_COMPACT_STRINGS hcs g18_2 g18_3 g18_4 g18_5 (by decide : ¬ ((0 : Int32) < (0 : Int32))) (by decide : (0 : Int32) < (5 : Int32)) rfl O23 hr_SIOOBE_FORMATTER S_SIOOBE_FORMATTER (by decide : (((115 : Int32) &&& (255 : Int32)).toUInt32.toUInt16.toUInt32.toInt32) = (115 : Int32)) (by decide : ((115 : Int32).toUInt32.toUInt16.toUInt32.toInt32) = (115 : Int32))) hZ18 (hwi hw 178 rfl) (hwi hw 3 rfl) (by decide) (by decide)) q25a q25c (g := (mkF m 146 #[.val (.int p1), .val (.int p2), .val (.int p3), .val (.int p4), .val (.int 0), .val (.ref b1), .val (.ref b4), .val (.ref r_11), .val (.ref b4), .val (.ref r_18)] [(.int 0), (.ref r_18)])) rfl (by rw [hml]; rfl) (Steps.refl _) (argsL := [(.int 0)]) (rest := []) (lenOf pd_I_C_221 rfl) rfl (by show 2 * 0 + _ ≤ _; exact Nat.le_of_eq rfl) (hb hby at_146) (fun _ _ => ⟨rfl, e24, (by decide : 17 + 0 ≤ _), (by decide : 98 + 0 ≤ _)⟩)
  dsimp only [Pt.U, Pt.locs, Pt.cells, Pt.slots] at X25 l25 y25 z25 st25 hQ25
  subst l25 y25 z25
  obtain ⟨rfl, N25q, e25⟩ := hQ25
  have N25 := Fr.app N24 N25q
  obtain ⟨cq26, kq26, q26a, q26b, q26c⟩ := isOf hZ18 e25 g18_2
  obtain ⟨_, _, ⟨T26, L26, k26, n26⟩, -, X26, ⟨Lc26, hQ26, l26, y26, z26⟩, st26⟩ := X25.virtualBack hx (y := (⟨"java/lang/String", "charAt", "(I)C"⟩ : MethodName)) (z := (⟨"java/lang/String", "charAt", "(I)C"⟩ : MethodName)) ho18 (mvT hZ18 (hwi hw 174 rfl)) (mvT hZ18 (hwi hw 175 rfl)) (notFace_of_selects (args := #[]) (mvT hZ18 (hwi hw 177 rfl))) (mvT hZ18 (hwi hw 177 rfl)) (mvT hZ18 (hwi hw 176 rfl)) (by decide) (backOf (W := 0) (rm_schr l Z a0 hw [] r_18 (1 : Int32) w_COMPACT_STRINGS t_18 kt_18 [(.int 115), (.int 117), (.int 109), (.int 40), (.int 41)] (5 : Int32) (117 : Int32) (117 : Int32) w_SIOOBE_FORMATTER T18.heap n0 Z23 S_COMPACT_STRINGS hcs g18_2 g18_3 g18_4 g18_5 (by decide : ¬ ((1 : Int32) < (0 : Int32))) (by decide : (1 : Int32) < (5 : Int32)) rfl O23 hr_SIOOBE_FORMATTER S_SIOOBE_FORMATTER (by decide : (((117 : Int32) &&& (255 : Int32)).toUInt32.toUInt16.toUInt32.toInt32) = (117 : Int32)) (by decide : ((117 : Int32).toUInt32.toUInt16.toUInt32.toInt32) = (117 : Int32))) hZ18 (hwi hw 178 rfl) (hwi hw 3 rfl) (by decide) (by decide)) q26a q26c (g := (mkF m 157 #[.val (.int p1), .val (.int p2), .val (.int p3), .val (.int p4), .val (.int 0), .val (.ref b1), .val (.ref b4), .val (.ref r_11), .val (.ref b4), .val (.ref r_18)] [(.int 1), (.ref r_18)])) rfl (by rw [hml]; rfl) (Steps.refl _) (argsL := [(.int 1)]) (rest := []) (lenOf pd_I_C_221 rfl) rfl (by show 2 * 0 + _ ≤ _; exact Nat.le_of_eq rfl) (hb hby at_157) (fun _ _ => ⟨rfl, e25, (by decide : 17 + 0 ≤ _), (by decide : 98 + 0 ≤ _)⟩)
  dsimp only [Pt.U, Pt.locs, Pt.cells, Pt.slots] at X26 l26 y26 z26 st26 hQ26
  subst l26 y26 z26
  obtain ⟨rfl, N26q, e26⟩ := hQ26
  have N26 := Fr.app N25 N26q
  obtain ⟨cq27, kq27, q27a, q27b, q27c⟩ := isOf hZ18 e26 g18_2
  obtain ⟨_, _, ⟨T27, L27, k27, n27⟩, -, X27, ⟨Lc27, hQ27, l27, y27, z27⟩, st27⟩ := X26.virtualBack hx (y := (⟨"java/lang/String", "charAt", "(I)C"⟩ : MethodName)) (z := (⟨"java/lang/String", "charAt", "(I)C"⟩ : MethodName)) ho18 (mvT hZ18 (hwi hw 174 rfl)) (mvT hZ18 (hwi hw 175 rfl)) (notFace_of_selects (args := #[]) (mvT hZ18 (hwi hw 177 rfl))) (mvT hZ18 (hwi hw 177 rfl)) (mvT hZ18 (hwi hw 176 rfl)) (by decide) (backOf (W := 0) (rm_schr l Z a0 hw [] r_18 (2 : Int32) w_COMPACT_STRINGS t_18 kt_18 [(.int 115), (.int 117), (.int 109), (.int 40), (.int 41)] (5 : Int32) (109 : Int32) (109 : Int32) w_SIOOBE_FORMATTER T18.heap n0 Z23 S_COMPACT_STRINGS hcs g18_2 g18_3 g18_4 g18_5 (by decide : ¬ ((2 : Int32) < (0 : Int32))) (by decide : (2 : Int32) < (5 : Int32)) rfl O23 hr_SIOOBE_FORMATTER S_SIOOBE_FORMATTER (by decide : (((109 : Int32) &&& (255 : Int32)).toUInt32.toUInt16.toUInt32.toInt32) = (109 : Int32)) (by decide : ((109 : Int32).toUInt32.toUInt16.toUInt32.toInt32) = (109 : Int32))) hZ18 (hwi hw 178 rfl) (hwi hw 3 rfl) (by decide) (by decide)) q27a q27c (g := (mkF m 168 #[.val (.int p1), .val (.int p2), .val (.int p3), .val (.int p4), .val (.int 0), .val (.ref b1), .val (.ref b4), .val (.ref r_11), .val (.ref b4), .val (.ref r_18)] [(.int 2), (.ref r_18)])) rfl (by rw [hml]; rfl) (Steps.refl _) (argsL := [(.int 2)]) (rest := []) (lenOf pd_I_C_221 rfl) rfl (by show 2 * 0 + _ ≤ _; exact Nat.le_of_eq rfl) (hb hby at_168) (fun _ _ => ⟨rfl, e26, (by decide : 17 + 0 ≤ _), (by decide : 98 + 0 ≤ _)⟩)
  dsimp only [Pt.U, Pt.locs, Pt.cells, Pt.slots] at X27 l27 y27 z27 st27 hQ27
  subst l27 y27 z27
  obtain ⟨rfl, N27q, e27⟩ := hQ27
  have N27 := Fr.app N26 N27q
  obtain ⟨cq28, kq28, q28a, q28b, q28c⟩ := isOf hZ18 e27 g18_2
  obtain ⟨_, _, ⟨T28, L28, k28, n28⟩, -, X28, ⟨Lc28, hQ28, l28, y28, z28⟩, st28⟩ := X27.virtualBack hx (y := (⟨"java/lang/String", "charAt", "(I)C"⟩ : MethodName)) (z := (⟨"java/lang/String", "charAt", "(I)C"⟩ : MethodName)) ho18 (mvT hZ18 (hwi hw 174 rfl)) (mvT hZ18 (hwi hw 175 rfl)) (notFace_of_selects (args := #[]) (mvT hZ18 (hwi hw 177 rfl))) (mvT hZ18 (hwi hw 177 rfl)) (mvT hZ18 (hwi hw 176 rfl)) (by decide) (backOf (W := 0) (rm_schr l Z a0 hw [] r_18 (3 : Int32) w_COMPACT_STRINGS t_18 kt_18 [(.int 115), (.int 117), (.int 109), (.int 40), (.int 41)] (5 : Int32) (40 : Int32) (40 : Int32) w_SIOOBE_FORMATTER T18.heap n0 Z23 S_COMPACT_STRINGS hcs g18_2 g18_3 g18_4 g18_5 (by decide : ¬ ((3 : Int32) < (0 : Int32))) (by decide : (3 : Int32) < (5 : Int32)) rfl O23 hr_SIOOBE_FORMATTER S_SIOOBE_FORMATTER (by decide : (((40 : Int32) &&& (255 : Int32)).toUInt32.toUInt16.toUInt32.toInt32) = (40 : Int32)) (by decide : ((40 : Int32).toUInt32.toUInt16.toUInt32.toInt32) = (40 : Int32))) hZ18 (hwi hw 178 rfl) (hwi hw 3 rfl) (by decide) (by decide)) q28a q28c (g := (mkF m 179 #[.val (.int p1), .val (.int p2), .val (.int p3), .val (.int p4), .val (.int 0), .val (.ref b1), .val (.ref b4), .val (.ref r_11), .val (.ref b4), .val (.ref r_18)] [(.int 3), (.ref r_18)])) rfl (by rw [hml]; rfl) (Steps.refl _) (argsL := [(.int 3)]) (rest := []) (lenOf pd_I_C_221 rfl) rfl (by show 2 * 0 + _ ≤ _; exact Nat.le_of_eq rfl) (hb hby at_179) (fun _ _ => ⟨rfl, e27, (by decide : 17 + 0 ≤ _), (by decide : 98 + 0 ≤ _)⟩)
  dsimp only [Pt.U, Pt.locs, Pt.cells, Pt.slots] at X28 l28 y28 z28 st28 hQ28
  subst l28 y28 z28
  obtain ⟨rfl, N28q, e28⟩ := hQ28
  have N28 := Fr.app N27 N28q
  obtain ⟨cq29, kq29, q29a, q29b, q29c⟩ := isOf hZ18 e28 g18_2
  obtain ⟨_, _, ⟨T29, L29, k29, n29⟩, -, X29, ⟨Lc29, hQ29, l29, y29, z29⟩, st29⟩ := X28.virtualBack hx (y := (⟨"java/lang/String", "charAt", "(I)C"⟩ : MethodName)) (z := (⟨"java/lang/String", "charAt", "(I)C"⟩ : MethodName)) ho18 (mvT hZ18 (hwi hw 174 rfl)) (mvT hZ18 (hwi hw 175 rfl)) (notFace_of_selects (args := #[]) (mvT hZ18 (hwi hw 177 rfl))) (mvT hZ18 (hwi hw 177 rfl)) (mvT hZ18 (hwi hw 176 rfl)) (by decide) (backOf (W := 0) (rm_schr l Z a0 hw [] r_18 (4 : Int32) w_COMPACT_STRINGS t_18 kt_18 [(.int 115), (.int 117), (.int 109), (.int 40), (.int 41)] (5 : Int32) (41 : Int32) (41 : Int32) w_SIOOBE_FORMATTER T18.heap n0 Z23 S_COMPACT_STRINGS hcs g18_2 g18_3 g18_4 g18_5 (by decide : ¬ ((4 : Int32) < (0 : Int32))) (by decide : (4 : Int32) < (5 : Int32)) rfl O23 hr_SIOOBE_FORMATTER S_SIOOBE_FORMATTER (by decide : (((41 : Int32) &&& (255 : Int32)).toUInt32.toUInt16.toUInt32.toInt32) = (41 : Int32)) (by decide : ((41 : Int32).toUInt32.toUInt16.toUInt32.toInt32) = (41 : Int32))) hZ18 (hwi hw 178 rfl) (hwi hw 3 rfl) (by decide) (by decide)) q29a q29c (g := (mkF m 258 #[.val (.int p1), .val (.int p2), .val (.int p3), .val (.int p4), .val (.int 0), .val (.ref b1), .val (.ref b4), .val (.ref r_11), .val (.ref b4), .val (.ref r_18)] [(.int 4), (.ref r_18)])) rfl (by rw [hml]; rfl) (Steps.refl _) (argsL := [(.int 4)]) (rest := []) (lenOf pd_I_C_221 rfl) rfl (by show 2 * 0 + _ ≤ _; exact Nat.le_of_eq rfl) (hb hby at_258) (fun _ _ => ⟨rfl, e28, (by decide : 17 + 0 ≤ _), (by decide : 98 + 0 ≤ _)⟩)
  dsimp only [Pt.U, Pt.locs, Pt.cells, Pt.slots] at X29 l29 y29 z29 st29 hQ29
  subst l29 y29 z29
  obtain ⟨rfl, N29q, e29⟩ := hQ29
  have N29 := Fr.app N28 N29q
  have CRe := CR22.trans (CHv.at X29 hZ18 hEL R22.1)
  obtain ⟨fs, hr, hrun, hended, hRE⟩ := X29.leaveW hS18 (by rw [e29]; exact (Nat.le_refl T18.heap.size)) (v := some (.int 1)) (fun h => by rw [Bd.returns] at h; cases h)
  refine ⟨_, _, pre0 _ ?_, hrun, hended, _, _, rfl, ?_, ?_, ⟨hRE.1, hRE.2.1, hRE.2.2.1, hRE.2.2.2.mono (by decide) (by decide)⟩⟩
  · show St p e below s₁ (mkF m 0 #[.val (.int p1), .val (.int p2), .val (.int p3), .val (.int p4), .unset, .unset, .unset, .unset, .unset, .unset] []) _
    refine XS.iloadN X0.here hx rfl (hb hby at_0) rfl ?_
    refine XS.iconst X0.here hx rfl (hb hby at_1) ?_
    refine XS.iand X0.here hx rfl (hb hby at_2) rfl ?_
    show St p e below s₁ (mkF m 3 #[.val (.int p1), .val (.int p2), .val (.int p3), .val (.int p4), .unset, .unset, .unset, .unset, .unset, .unset] [(.int (p1 &&& (3 : Int32)))]) _
    rw [hk]
    show St p e below s₁ (mkF m 3 #[.val (.int p1), .val (.int p2), .val (.int p3), .val (.int p4), .unset, .unset, .unset, .unset, .unset, .unset] [(.int 0)]) _
    refine XS.istore X0.here hx rfl (hb hby at_3) rfl (l' := #[.val (.int p1), .val (.int p2), .val (.int p3), .val (.int p4), .val (.int 0), .unset, .unset, .unset, .unset, .unset]) rfl ?_
    refine XS.iload X0.here hx rfl (hb hby at_5) rfl ?_
    refine st1 _ ?_
    refine XS.astore X1.here hx rfl (hb hby at_9) rfl rfl (l' := #[.val (.int p1), .val (.int p2), .val (.int p3), .val (.int p4), .val (.int 0), .val (.ref b1), .unset, .unset, .unset, .unset]) rfl ?_
    show St p e below T1 (mkF m 11 #[.val (.int p1), .val (.int p2), .val (.int p3), .val (.int p4), .val (.int 0), .val (.ref b1), .unset, .unset, .unset, .unset] []) _
    refine XS.iload X1.here hx rfl (hb hby at_11) rfl ?_
    refine XS.ifYes X1.here hx rfl (pc0 := 13) (pc' := 26) rfl (hb hby at_13) rfl ((if0 _ _).trans (flt (by decide : ¬ ((0 : Int32) < (0 : Int32)))).2.2.2) (by decide) (by decide) ?_
    refine XS.iload X1.here hx rfl (hb hby at_26) rfl ?_
    refine XS.iconst X1.here hx rfl (hb hby at_28) ?_
    show St p e below T1 (mkF m 29 #[.val (.int p1), .val (.int p2), .val (.int p3), .val (.int p4), .val (.int 0), .val (.ref b1), .unset, .unset, .unset, .unset] [(.int 1), (.int 0)]) _
    refine XS.icmpYes X1.here hx rfl (pc0 := 29) (pc' := 42) rfl (hb hby at_29) rfl (flt (by decide : ¬ ((1 : Int32) < (0 : Int32)))).2.2.2 (by decide) (by decide) ?_
    refine XS.iload X1.here hx rfl (hb hby at_42) rfl ?_
    refine XS.iconst X1.here hx rfl (hb hby at_44) ?_
    refine XS.icmpYes X1.here hx rfl (pc0 := 45) (pc' := 58) rfl (hb hby at_45) rfl (flt (by decide : ¬ ((2 : Int32) < (0 : Int32)))).2.2.2 (by decide) (by decide) ?_
    show St p e below T1 (mkF m 58 #[.val (.int p1), .val (.int p2), .val (.int p3), .val (.int p4), .val (.int 0), .val (.ref b1), .unset, .unset, .unset, .unset] []) _
    refine st4 _ ?_
    refine XS.dup X4.here hx rfl (hb hby at_61) rfl rfl ?_
    refine XS.aload X4.here hx rfl (hb hby at_62) rfl rfl ?_
    refine st7.trans ?_
    show St p e below T7 (mkF m 67 #[.val (.int p1), .val (.int p2), .val (.int p3), .val (.int p4), .val (.int 0), .val (.ref b1), .unset, .unset, .unset, .unset] [(.ref b4)]) _
    refine XS.astore X7.here hx rfl (hb hby at_67) rfl rfl (l' := #[.val (.int p1), .val (.int p2), .val (.int p3), .val (.int p4), .val (.int 0), .val (.ref b1), .val (.ref b4), .unset, .unset, .unset]) rfl ?_
    refine XS.aload X7.here hx rfl (hb hby at_69) rfl rfl ?_
    refine st11.trans ?_
    refine XS.astore X11.here hx rfl (hb hby at_74) rfl rfl (l' := #[.val (.int p1), .val (.int p2), .val (.int p3), .val (.int p4), .val (.int 0), .val (.ref b1), .val (.ref b4), .val (.ref r_11), .unset, .unset]) rfl ?_
    show St p e below T11 (mkF m 76 #[.val (.int p1), .val (.int p2), .val (.int p3), .val (.int p4), .val (.int 0), .val (.ref b1), .val (.ref b4), .val (.ref r_11), .unset, .unset] []) _
    refine XS.aload X11.here hx rfl (hb hby at_76) rfl rfl ?_
    refine XS.ifnonnullYes X11.here hx rfl (pc0 := 78) (pc' := 83) rfl (hb hby at_78) rfl (by decide) (by decide) ?_
    refine XS.aload X11.here hx rfl (hb hby at_83) rfl rfl ?_
    refine st14.trans ?_
    show St p e below T14 (mkF m 88 #[.val (.int p1), .val (.int p2), .val (.int p3), .val (.int p4), .val (.int 0), .val (.ref b1), .val (.ref b4), .val (.ref r_11), .unset, .unset] [(.ref b4)]) _
    refine XS.astore X14.here hx rfl (hb hby at_88) rfl rfl (l' := #[.val (.int p1), .val (.int p2), .val (.int p3), .val (.int p4), .val (.int 0), .val (.ref b1), .val (.ref b4), .val (.ref r_11), .val (.ref b4), .unset]) rfl ?_
    refine XS.aload X14.here hx rfl (hb hby at_90) rfl rfl ?_
    refine XS.ifnullNo X14.here hx rfl (hb hby at_92) rfl ?_
    refine XS.aload X14.here hx rfl (hb hby at_95) rfl rfl ?_
    show St p e below T14 (mkF m 97 #[.val (.int p1), .val (.int p2), .val (.int p3), .val (.int p4), .val (.int 0), .val (.ref b1), .val (.ref b4), .val (.ref r_11), .val (.ref b4), .unset] [(.ref b4)]) _
    refine XS.aload X14.here hx rfl (hb hby at_97) rfl rfl ?_
    refine st15.trans ?_
    refine XS.ifYes X15.here hx rfl (pc0 := 102) (pc' := 107) rfl (hb hby at_102) rfl ((if0 _ _).trans (feq (by decide : ¬ ((1 : Int32) = (0 : Int32)))).2) (by decide) (by decide) ?_
    refine XS.aload X15.here hx rfl (hb hby at_107) rfl rfl ?_
    show St p e below T15 (mkF m 109 #[.val (.int p1), .val (.int p2), .val (.int p3), .val (.int p4), .val (.int 0), .val (.ref b1), .val (.ref b4), .val (.ref r_11), .val (.ref b4), .unset] [(.ref r_11)]) _
    refine st17 _ ?_
    refine Jvm.RoadKit.acmp (g := (mkF m 112 #[.val (.int p1), .val (.int p2), .val (.int p3), .val (.int p4), .val (.int 0), .val (.ref b1), .val (.ref b4), .val (.ref r_11), .val (.ref b4), .unset] [(.ref w_COUNT), (.ref r_11)])) X17 hx rfl rfl rfl (pc0 := 112) (pc' := 117) (same := false) rfl (hb hby at_112) rfl (decide_eq_false fun q => (neN (by have := ltN E_w_COUNT.lt; have := O13.1; have := ltN g11_1.lt; omega)) (Value.ref.inj q)) (by decide) (by decide) ?_
    refine XS.aload X17.here hx rfl (hb hby at_117) rfl rfl ?_
    refine st18.trans ?_
    show St p e below T18 (mkF m 122 #[.val (.int p1), .val (.int p2), .val (.int p3), .val (.int p4), .val (.int 0), .val (.ref b1), .val (.ref b4), .val (.ref r_11), .val (.ref b4), .unset] [(.ref r_18)]) _
    refine XS.astore X18.here hx rfl (hb hby at_122) rfl rfl (l' := #[.val (.int p1), .val (.int p2), .val (.int p3), .val (.int p4), .val (.int 0), .val (.ref b1), .val (.ref b4), .val (.ref r_11), .val (.ref b4), .val (.ref r_18)]) rfl ?_
    refine XS.aload X18.here hx rfl (hb hby at_124) rfl rfl ?_
    refine XS.ifnullNo X18.here hx rfl (hb hby at_126) rfl ?_
    refine XS.aload X18.here hx rfl (hb hby at_129) rfl rfl ?_
    show St p e below T18 (mkF m 131 #[.val (.int p1), .val (.int p2), .val (.int p3), .val (.int p4), .val (.int 0), .val (.ref b1), .val (.ref b4), .val (.ref r_11), .val (.ref b4), .val (.ref r_18)] [(.ref r_18)]) _
    refine st24.trans ?_
    refine XS.iload X24.here hx rfl (hb hby at_134) rfl ?_
    refine XS.iconst X24.here hx rfl (hb hby at_136) ?_
    refine XS.iadd X24.here hx rfl (hb hby at_137) rfl ?_
    show St p e below T24 (mkF m 138 #[.val (.int p1), .val (.int p2), .val (.int p3), .val (.int p4), .val (.int 0), .val (.ref b1), .val (.ref b4), .val (.ref r_11), .val (.ref b4), .val (.ref r_18)] [(.int ((0 : Int32) + (5 : Int32))), (.int 5)]) _
    rw [(by decide : ((0 : Int32) + (5 : Int32)) = (5 : Int32))]
    show St p e below T24 (mkF m 138 #[.val (.int p1), .val (.int p2), .val (.int p3), .val (.int p4), .val (.int 0), .val (.ref b1), .val (.ref b4), .val (.ref r_11), .val (.ref b4), .val (.ref r_18)] [(.int 5), (.int 5)]) _
    refine XS.icmpYes X24.here hx rfl (pc0 := 138) (pc' := 143) rfl (hb hby at_138) rfl (teq (by decide : (5 : Int32) = (5 : Int32))).1 (by decide) (by decide) ?_
    refine XS.aload X24.here hx rfl (hb hby at_143) rfl rfl ?_
    refine XS.iconst X24.here hx rfl (hb hby at_145) ?_
    refine st25.trans ?_
    show St p e below T25 (mkF m 149 #[.val (.int p1), .val (.int p2), .val (.int p3), .val (.int p4), .val (.int 0), .val (.ref b1), .val (.ref b4), .val (.ref r_11), .val (.ref b4), .val (.ref r_18)] [(.int 115)]) _
    refine XS.bipush X25.here hx rfl (hb hby at_149) ?_
    refine XS.icmpNo X25.here hx rfl (hb hby at_151) rfl (teq (by decide : (115 : Int32) = (115 : Int32))).2 ?_
    refine XS.aload X25.here hx rfl (hb hby at_154) rfl rfl ?_
    refine XS.iconst X25.here hx rfl (hb hby at_156) ?_
    show St p e below T25 (mkF m 157 #[.val (.int p1), .val (.int p2), .val (.int p3), .val (.int p4), .val (.int 0), .val (.ref b1), .val (.ref b4), .val (.ref r_11), .val (.ref b4), .val (.ref r_18)] [(.int 1), (.ref r_18)]) _
    refine st26.trans ?_
    refine XS.bipush X26.here hx rfl (hb hby at_160) ?_
    refine XS.icmpNo X26.here hx rfl (hb hby at_162) rfl (teq (by decide : (117 : Int32) = (117 : Int32))).2 ?_
    refine XS.aload X26.here hx rfl (hb hby at_165) rfl rfl ?_
    show St p e below T26 (mkF m 167 #[.val (.int p1), .val (.int p2), .val (.int p3), .val (.int p4), .val (.int 0), .val (.ref b1), .val (.ref b4), .val (.ref r_11), .val (.ref b4), .val (.ref r_18)] [(.ref r_18)]) _
    refine XS.iconst X26.here hx rfl (hb hby at_167) ?_
    refine st27.trans ?_
    refine XS.bipush X27.here hx rfl (hb hby at_171) ?_
    refine XS.icmpNo X27.here hx rfl (hb hby at_173) rfl (teq (by decide : (109 : Int32) = (109 : Int32))).2 ?_
    show St p e below T27 (mkF m 176 #[.val (.int p1), .val (.int p2), .val (.int p3), .val (.int p4), .val (.int 0), .val (.ref b1), .val (.ref b4), .val (.ref r_11), .val (.ref b4), .val (.ref r_18)] []) _
    refine XS.aload X27.here hx rfl (hb hby at_176) rfl rfl ?_
    refine XS.iconst X27.here hx rfl (hb hby at_178) ?_
    refine st28.trans ?_
    refine XS.bipush X28.here hx rfl (hb hby at_182) ?_
    show St p e below T28 (mkF m 184 #[.val (.int p1), .val (.int p2), .val (.int p3), .val (.int p4), .val (.int 0), .val (.ref b1), .val (.ref b4), .val (.ref r_11), .val (.ref b4), .val (.ref r_18)] [(.int 40), (.int 40)]) _
    refine XS.icmpYes X28.here hx rfl (pc0 := 184) (pc' := 189) rfl (hb hby at_184) rfl (teq (by decide : (40 : Int32) = (40 : Int32))).1 (by decide) (by decide) ?_
    refine XS.iload X28.here hx rfl (hb hby at_189) rfl ?_
    refine XS.ifYes X28.here hx rfl (pc0 := 191) (pc' := 209) rfl (hb hby at_191) rfl ((if0 _ _).trans (flt (by decide : ¬ ((0 : Int32) < (0 : Int32)))).2.2.2) (by decide) (by decide) ?_
    refine XS.iload X28.here hx rfl (hb hby at_209) rfl ?_
    show St p e below T28 (mkF m 211 #[.val (.int p1), .val (.int p2), .val (.int p3), .val (.int p4), .val (.int 0), .val (.ref b1), .val (.ref b4), .val (.ref r_11), .val (.ref b4), .val (.ref r_18)] [(.int 0)]) _
    refine XS.iconst X28.here hx rfl (hb hby at_211) ?_
    refine XS.icmpYes X28.here hx rfl (pc0 := 212) (pc' := 230) rfl (hb hby at_212) rfl (flt (by decide : ¬ ((1 : Int32) < (0 : Int32)))).2.2.2 (by decide) (by decide) ?_
    refine XS.iload X28.here hx rfl (hb hby at_230) rfl ?_
    refine XS.iconst X28.here hx rfl (hb hby at_232) ?_
    show St p e below T28 (mkF m 233 #[.val (.int p1), .val (.int p2), .val (.int p3), .val (.int p4), .val (.int 0), .val (.ref b1), .val (.ref b4), .val (.ref r_11), .val (.ref b4), .val (.ref r_18)] [(.int 2), (.int 0)]) _
    refine XS.icmpYes X28.here hx rfl (pc0 := 233) (pc' := 252) rfl (hb hby at_233) rfl (flt (by decide : ¬ ((2 : Int32) < (0 : Int32)))).2.2.2 (by decide) (by decide) ?_
    refine XS.aload X28.here hx rfl (hb hby at_252) rfl rfl ?_
    refine XS.iload X28.here hx rfl (hb hby at_254) rfl ?_
    refine XS.iconst X28.here hx rfl (hb hby at_256) ?_
    show St p e below T28 (mkF m 257 #[.val (.int p1), .val (.int p2), .val (.int p3), .val (.int p4), .val (.int 0), .val (.ref b1), .val (.ref b4), .val (.ref r_11), .val (.ref b4), .val (.ref r_18)] [(.int 4), (.int 0), (.ref r_18)]) _
    refine XS.iadd X28.here hx rfl (hb hby at_257) rfl ?_
    show St p e below T28 (mkF m 258 #[.val (.int p1), .val (.int p2), .val (.int p3), .val (.int p4), .val (.int 0), .val (.ref b1), .val (.ref b4), .val (.ref r_11), .val (.ref b4), .val (.ref r_18)] [(.int ((0 : Int32) + (4 : Int32))), (.ref r_18)]) _
    rw [(by decide : ((0 : Int32) + (4 : Int32)) = (4 : Int32))]
    show St p e below T28 (mkF m 258 #[.val (.int p1), .val (.int p2), .val (.int p3), .val (.int p4), .val (.int 0), .val (.ref b1), .val (.ref b4), .val (.ref r_11), .val (.ref b4), .val (.ref r_18)] [(.int 4), (.ref r_18)]) _
    refine st29.trans ?_
    refine XS.bipush X29.here hx rfl (hb hby at_261) ?_
    refine XS.icmpNo X29.here hx rfl (hb hby at_263) rfl (teq (by decide : (41 : Int32) = (41 : Int32))).2 ?_
    refine XS.iconst X29.here hx rfl (hb hby at_266) ?_
    show St p e below T29 (mkF m 267 #[.val (.int p1), .val (.int p2), .val (.int p3), .val (.int p4), .val (.int 0), .val (.ref b1), .val (.ref b4), .val (.ref r_11), .val (.ref b4), .val (.ref r_18)] [(.int 1)]) _
    refine XS.goto X29.here hx rfl (pc0 := 267) (pc' := 271) rfl (hb hby at_267) (by decide) (by decide) ?_
    show St p e below T29 (mkF m 271 #[.val (.int p1), .val (.int p2), .val (.int p3), .val (.int p4), .val (.int 0), .val (.ref b1), .val (.ref b4), .val (.ref r_11), .val (.ref b4), .val (.ref r_18)] [(.int 1)]) _
    exact retN X29 hx (t := .boolean) Bd.returns (by simp) (hb hby at_271) hr
  · exact ⟨rfl, N29⟩
  · show CHr Z consts_1 s.vm s.heap T29.vm T29.heap
    rw [hh, e29]
    exact CRe
set_option maxRecDepth 65536 in
set_option maxHeartbeats 40000000 in
theorem rm_law_1 (l : Launch) (Z : State) (a0 : Array Value) (hw : ∀ d ∈ tables_1, d.before a0 Z = true) (hEL : EW Z a0 consts_1) (ws : List Jvm.Cond) (p1 : Int32) (p2 : Int32) (p3 : Int32) (p4 : Int32) (w_COMPACT_STRINGS : Int32) (w_COUNT : Addr) (cA : Int32) (w_SIOOBE_FORMATTER : Value) (h0 : Heap) (n0 : Nat) (Z0 : n0 ≤ h0.size) (S_COMPACT_STRINGS : Sta Z Z.heap "java/lang/String" "COMPACT_STRINGS" "Z" (.int w_COMPACT_STRINGS)) (hcs : ¬ (w_COMPACT_STRINGS = (0 : Int32))) (S_COUNT : Sta Z Z.heap "com/example/sunder/sunder/Aggregate" "COUNT" "Lcom/example/sunder/sunder/Aggregate;" (.ref w_COUNT)) (O0 : Old Z n0 h0) (E_w_COUNT : Exa Z Z.heap w_COUNT "com/example/sunder/sunder/Aggregate") (hbcA : ¬ ((255 : Int32) < cA)) (hkcA : (((cA.toInt8.toInt32) &&& (255 : Int32)).toUInt32.toUInt16.toUInt32.toInt32) = cA) (hk : (p1 &&& (3 : Int32)) = (1 : Int32)) (hcA : ((p2 &&& (255 : Int32)).toUInt32.toUInt16.toUInt32.toInt32) = cA) (hncA : (cA.toUInt32.toUInt16.toUInt32.toInt32) = cA) (hr_SIOOBE_FORMATTER : w_SIOOBE_FORMATTER.isRef = true) (S_SIOOBE_FORMATTER : Sta Z Z.heap "jdk/internal/util/Preconditions" "SIOOBE_FORMATTER" "Ljava/util/function/BiFunction;" w_SIOOBE_FORMATTER) :
    MetFree l x (head1 (Jvm.Cond.code x code maxLocals ret :: ws) room_1) (fun a U => a = #[(.int p1), (.int p2), (.int p3), (.int p4)] ∧ Z.Warmed39 U.vm ∧ U.heap = h0 ∧ CHv Z consts_1 U.vm h0) (fun _ _ _ _ _ => True) (fun _ U o U' => ∃ v L, o = .returned v ∧ Q_law n0 v L ∧ CHr Z consts_1 U.vm U.heap U'.vm U'.heap ∧ ReturnedEndW U o U' L room_1.cells room_1.slots) := by
  refine MetFree.of_bodySF (plainFor_of_name pn_0) hisR ?_
  intro p e s m args below meth c s₁ Bd hml0 hP hK
  obtain ⟨rfl, hZ, hh, H0c⟩ := hP
  have hx := Bd.exec
  have hby := Bd.bytes
  have hml : c.maxLocals = 10 := hml0
  have hown : s.vm.findClass "com/example/sunder/sunder/AggregateSumPinLaw" = some m.cls := findClass_of_methodNamed Bd.named
  have hnm := (name_of_methodNamed Bd.named Bd.method).1
  have X0 : Stand p l e room_1 (s.setVm s.vm) m #[(.int p1), (.int p2), (.int p3), (.int p4)] below meth c s₁ [] 0 0 := Stand.of_body Bd
  have e0 : s₁.heap = h0 := by rw [← hh, Bd.state]; rfl
  have N0 := Fr.nil n0
  have pre0 : ∀ t, Steps p.tables e below (s₁.setTop (mkF m 0 #[.val (.int p1), .val (.int p2), .val (.int p3), .val (.int p4), .unset, .unset, .unset, .unset, .unset, .unset] [])) t → Steps p.tables e below (s₁.setTop (entryFrame m #[(.int p1), (.int p2), (.int p3), (.int p4)] maxLocals)) t := fun t k => castTop (ef_0_IIII m p1 p2 p3 p4) k
  have hS0 : s.Since s.vm 0 := (State.WarmedH.refl s).since 0
  have hk0 : 0 ≤ h0.size := Nat.zero_le _
  have C0c : CHr Z consts_1 s.vm h0 s.vm h0 := CHr.refl H0c
  obtain ⟨T1, h1, k1, X1, e1, E1, A1, st1⟩ := newP X0 hx hZ (hwi hw 0 rfl) e0 (g := (mkF m 7 #[.val (.int p1), .val (.int p2), .val (.int p3), .val (.int p4), .val (.int 1), .unset, .unset, .unset, .unset, .unset] [(.int 1)])) rfl (hb hby at_7) rfl (by decide) (cap := 1) (by decide) (by decide) (by decide) (by decide)
  obtain ⟨b1, g1⟩ : ∃ z, z = h0.size := ⟨_, rfl⟩
  rw [← g1] at A1 st1
  have bn_b1 : h0.size ≤ b1 := Nat.le_of_eq g1.symm
  have R2 := CHr.ext E1 H0c
  have CR2 := C0c.trans R2
  have sz3 : h0.size ≤ h1.size := E1.1
  have Z3 : n0 ≤ h1.size := Nat.le_trans Z0 sz3
  have hk3 := Nat.le_trans hk0 sz3
  have O3 := O0.ext E1
  have K3 : Keep h0 h1 [] := (Keep.refl h0 []).ext E1
  have V1 : Arv Z h1 b1 k1 .char (1 : Int32) [(.int 0)] (.int 0) := (Arv.new A1 (by decide)).pad (pad_rep [] (.int 0) 1)
  obtain ⟨cl4, Ar4, q4, S4, M4, H4, G4⟩ := id V1
  have hin4 : ¬ ((0 : Int32) < 0 ∨ cl4.slots.size ≤ ((0 : Int32)).toNatClampNeg) := inb_of S4 ⟨by decide, by decide⟩
  obtain ⟨T5, h5, X5, e5, W5, st5⟩ := stC X1 hx hZ e1 Ar4 (j := (0 : Int32)) hin4 (g := (mkF m 25 #[.val (.int p1), .val (.int p2), .val (.int p3), .val (.int p4), .val (.int 1), .val (.ref b1), .unset, .unset, .unset, .unset] [(.int cA), (.int 0), (.ref b1)])) rfl rfl (hb hby at_25)
  have N5 := Fr.snoc X5 N0 (Nat.le_trans Z0 bn_b1)
  have V5 : Arv Z h5 b1 k1 .char (1 : Int32) [(.int (cA.toUInt32.toUInt16.toUInt32.toInt32))] (.int 0) := Arv.set Ar4 q4 S4 M4 H4 G4 (fits_nar_char _) W5 0 rfl (Nat.le_of_ble_eq_true rfl)
  rw [hncA] at V5
  have R6 := CHr.wr W5 (Safe.arv hZ.alike V1 (by decide)) R2.1
  have CR6 := CR2.trans R6
  have sz7 : h1.size ≤ h5.size := Nat.le_of_eq W5.size.symm
  have Z7 : n0 ≤ h5.size := Nat.le_trans Z3 sz7
  have hk7 := Nat.le_trans hk3 sz7
  have O7 := O3.wr W5 (Nat.le_trans Z0 bn_b1)
  have K7 : Keep h0 h5 [] := K3.wr W5 (Or.inr bn_b1)
  obtain ⟨T8, h8, X8, e8, E8, A8, D8, -, st8⟩ := newO X5 hx hZ hown (hwi hw 1 rfl) (hwi hw 2 rfl) (hwi hw 3 rfl) e5 (g := (mkF m 58 #[.val (.int p1), .val (.int p2), .val (.int p3), .val (.int p4), .val (.int 1), .val (.ref b1), .unset, .unset, .unset, .unset] [])) rfl (hb hby at_58) (by decide) (by decide)
  obtain ⟨b8, g8⟩ : ∃ z, z = h5.size := ⟨_, rfl⟩
  rw [← g8] at A8 D8 st8
  have bn_b8 : h0.size ≤ b8 := Nat.le_trans K7.1 (Nat.le_of_eq g8.symm)
  have sfb8 : Safe Z consts_1 s.vm h5 b8 := Safe.new (Nat.le_of_eq g8.symm)
  have R9 := CHr.ext E8 R6.1
  have sf_b8_9 := Safe.ext E8 R6.1 sfb8
  have CR9 := CR6.trans R9
  have sz10 : h5.size ≤ h8.size := E8.1
  have Z10 : n0 ≤ h8.size := Nat.le_trans Z7 sz10
  have hk10 := Nat.le_trans hk7 sz10
  have O10 := O7.ext E8
  have K10 : Keep h0 h8 [] := K7.ext E8
  have F8_value : Fld Z h8 b8 "java/lang/String" "value" "[B" .null := D8 (Or.inr (hwi hw 16 rfl)) (ty := (.array .byte)) (by decide)
  have F8_coder : Fld Z h8 b8 "java/lang/String" "coder" "B" (.int 0) := D8 (Or.inr (hwi hw 17 rfl)) (ty := .byte) (by decide)
  have fc12 := (V5.ext E8)
  obtain ⟨_, _, ⟨T11, L11, k11, n11⟩, -, X11, ⟨Lc11, hQ11, l11, y11, z11⟩, st11⟩ := X8.specialBack hx (y := (⟨"java/lang/String", "<init>", "([C)V"⟩ : MethodName)) rfl hown (mvT hZ (hwi hw 4 rfl)) (mvT hZ (hwi hw 5 rfl)) (mvT hZ (hwi hw 6 rfl)) (by decide) (backOf (W := 1) (rm_new1_1 l Z a0 hw [] b8 b1 w_COMPACT_STRINGS k1 cA (.int 0) .null h8 n0 Z10 S_COMPACT_STRINGS hcs fc12 hbcA O10 A8 F8_coder (Nat.le_trans Z0 bn_b8) F8_value) hZ (hwi hw 6 rfl) (hwi hw 3 rfl) (by decide) (by decide)) (g := (mkF m 64 #[.val (.int p1), .val (.int p2), .val (.int p3), .val (.int p4), .val (.int 1), .val (.ref b1), .unset, .unset, .unset, .unset] [(.ref b1), (.ref b8), (.ref b8)])) rfl (by rw [hml]; rfl) (Steps.refl _) (a := b8) (argsL := [(.ref b1)]) (rest := [(.ref b8)]) (lenOf pd_C_V_325 rfl) rfl (by show 2 * 0 + _ ≤ _; exact Nat.le_of_eq rfl) (hb hby at_64) (fun _ _ => ⟨rfl, e8, (by decide : 2 + 1 ≤ _), (by decide : 5 + 1 ≤ _)⟩)
  dsimp only [Pt.U, Pt.locs, Pt.cells, Pt.slots] at X11 l11 y11 z11 st11 hQ11
  subst l11 y11 z11
  obtain ⟨t_11, kt_11, rfl, N11q, Kc11, g11_0, g11_1, g11_2, g11_3, g11_4⟩ := hQ11
  have N11 := Fr.app N5 N11q
  have sfb11_3 : Safe Z consts_1 s.vm h8 t_11 := Safe.new g11_3
  have R13 := CHr.keep Kc11 (sfS sf_b8_9 sf0) R9.1
  have sf_b8_13 := Safe.keep Kc11 (sfS sf_b8_9 sf0) R9.1 sf_b8_9
  have sf_t_11_13 := Safe.keep Kc11 (sfS sf_b8_9 sf0) R9.1 sfb11_3
  have CR13 := CR9.trans R13
  have sz14 : h8.size ≤ T11.heap.size := Kc11.1
  have Z14 : n0 ≤ T11.heap.size := Nat.le_trans Z10 sz14
  have hk14 := Nat.le_trans hk10 sz14
  have O14 := O10.keep Kc11 (allS (Nat.le_trans Z0 bn_b8) all0)
  have K14 : Keep h0 T11.heap [] := K10.trans Kc11 (allS (Or.inr bn_b8) (all0))
  have bn_t_11 : h0.size ≤ t_11 := Nat.le_trans K10.1 g11_3
  obtain ⟨_, _, ⟨T15, L15, k15, n15⟩, -, X15, hS15, gr15, ⟨Lc15, hQ15, l15, y15, z15, C15⟩, st15⟩ := callSS X11 hx (y := (⟨"com/example/sunder/sunder/Aggregate", "sum", "(Ljava/lang/String;)Lcom/example/sunder/sunder/Aggregate;"⟩ : MethodName)) hown (mvT hZ (hwi hw 22 rfl)) (mvT hZ (hwi hw 23 rfl)) (mvT hZ (hwi hw 24 rfl)) (mvT hZ (hwi hw 25 rfl)) (by decide) (backOfSH (s := s) (vm0 := s.vm) (EL := consts_1) (W := 0) (rm_sum l Z a0 hw hEL [] b8 T11.heap n0 Z14 g11_0 O14) hZ (hwi hw 25 rfl) (hwi hw 24 rfl) (by decide) (by decide) hEL R13.1) (g := (mkF m 71 #[.val (.int p1), .val (.int p2), .val (.int p3), .val (.int p4), .val (.int 1), .val (.ref b1), .val (.ref b8), .unset, .unset, .unset] [(.ref b8)])) rfl (by rw [hml]; rfl) (argsL := [(.ref b8)]) (rest := []) (lenOf pd_Ljava_lang_String__Lcom_example_sunder_sunder_Aggregate_384 rfl) rfl (by show 2 * 0 + _ ≤ _; exact Nat.le_of_eq rfl) (hb hby at_71) (fun _ _ => ⟨rfl, rfl, (by decide : 3 + 3 ≤ _), (by decide : 6 + 29 ≤ _)⟩)
  dsimp only [Pt.U, Pt.locs, Pt.cells, Pt.slots] at X15 l15 y15 z15 st15 hQ15 hS15 gr15 C15
  subst l15 y15 z15
  obtain ⟨X15, hS15, hZ15, ho15⟩ := rebS hS0 hk14 X15 hS15 gr15 hZ hown
  obtain ⟨r_15, rfl, N15q, Kc15, g15_0, g15_1, g15_2⟩ := hQ15
  have N15 := Fr.app N11 N15q
  have sf_b8_16 := CHr.safe C15 (show b8 < T11.heap.size from ltN (by have := ltN A8.lt; omega)) sf_b8_13
  have sf_t_11_16 := CHr.safe C15 (show t_11 < T11.heap.size from ltN (by have := ltN g11_4.lt; omega)) sf_t_11_13
  have R16 := C15
  have CR16 := CR13.trans R16
  have sz17 : T11.heap.size ≤ T15.heap.size := Kc15.1
  have Z17 : n0 ≤ T15.heap.size := Nat.le_trans Z14 sz17
  have O17 := O14.keep Kc15 all0
  have K17 : Keep h0 T15.heap [] := K14.trans Kc15 (all0)
  have bn_r_15 : h0.size ≤ r_15 := Nat.le_trans K14.1 g15_0
  obtain ⟨cq18, kq18, q18a, q18b, q18c⟩ := isOf hZ15 rfl g15_1
  obtain ⟨_, _, ⟨T18, L18, k18, n18⟩, -, X18, ⟨Lc18, hQ18, l18, y18, z18⟩, st18⟩ := X15.virtualBack hx (y := (⟨"com/example/sunder/sunder/Aggregate", "column", "()Ljava/lang/String;"⟩ : MethodName)) (z := (⟨"com/example/sunder/sunder/Aggregate", "column", "()Ljava/lang/String;"⟩ : MethodName)) ho15 (mvT hZ15 (hwi hw 40 rfl)) (mvT hZ15 (hwi hw 41 rfl)) (notFace_of_selects (args := #[]) (mvT hZ15 (hwi hw 43 rfl))) (mvT hZ15 (hwi hw 43 rfl)) (mvT hZ15 (hwi hw 42 rfl)) (by decide) (backOf (W := 0) (rm_column l Z a0 hw [] r_15 b8 T15.heap n0 Z17 g15_2) hZ15 (hwi hw 44 rfl) (hwi hw 24 rfl) (by decide) (by decide)) q18a q18c (g := (mkF m 85 #[.val (.int p1), .val (.int p2), .val (.int p3), .val (.int p4), .val (.int 1), .val (.ref b1), .val (.ref b8), .val (.ref r_15), .unset, .unset] [(.ref r_15)])) rfl (by rw [hml]; rfl) (Steps.refl _) (argsL := []) (rest := []) (lenOf pd_Ljava_lang_String_777 rfl) rfl (by show 2 * 0 + _ ≤ _; exact Nat.le_of_eq rfl) (hb hby at_85) (fun _ _ => ⟨rfl, rfl, (by decide : 6 + 0 ≤ _), (by decide : 35 + 0 ≤ _)⟩)
  dsimp only [Pt.U, Pt.locs, Pt.cells, Pt.slots] at X18 l18 y18 z18 st18 hQ18
  subst l18 y18 z18
  obtain ⟨rfl, N18q, e18⟩ := hQ18
  have N18 := Fr.app N15 N18q
  have fc20 := (g11_0.keep Kc15)
  obtain ⟨cq19, kq19, q19a, q19b, q19c⟩ := isOf hZ15 e18 fc20
  obtain ⟨_, _, ⟨T19, L19, k19, n19⟩, -, X19, ⟨Lc19, hQ19, l19, y19, z19⟩, st19⟩ := X18.virtualBack hx (y := (⟨"java/lang/String", "equals", "(Ljava/lang/Object;)Z"⟩ : MethodName)) (z := (⟨"java/lang/String", "equals", "(Ljava/lang/Object;)Z"⟩ : MethodName)) ho15 (mvT hZ15 (hwi hw 45 rfl)) (mvT hZ15 (hwi hw 46 rfl)) (notFace_of_selects (args := #[]) (mvT hZ15 (hwi hw 48 rfl))) (mvT hZ15 (hwi hw 48 rfl)) (mvT hZ15 (hwi hw 47 rfl)) (by decide) (backOf (W := 0) (rm_eqsame l Z a0 hw [] b8 T15.heap n0 Z17) hZ15 (hwi hw 49 rfl) (hwi hw 3 rfl) (by decide) (by decide)) q19a q19c (g := (mkF m 99 #[.val (.int p1), .val (.int p2), .val (.int p3), .val (.int p4), .val (.int 1), .val (.ref b1), .val (.ref b8), .val (.ref r_15), .val (.ref b8), .unset] [(.ref b8), (.ref b8)])) rfl (by rw [hml]; rfl) (Steps.refl _) (argsL := [(.ref b8)]) (rest := []) (lenOf pd_Ljava_lang_Object__Z_835 rfl) rfl (by show 2 * 0 + _ ≤ _; exact Nat.le_of_eq rfl) (hb hby at_99) (fun _ _ => ⟨rfl, e18, (by decide : 6 + 0 ≤ _), (by decide : 35 + 0 ≤ _)⟩)
  dsimp only [Pt.U, Pt.locs, Pt.cells, Pt.slots] at X19 l19 y19 z19 st19 hQ19
  subst l19 y19 z19
  obtain ⟨rfl, N19q, e19⟩ := hQ19
  have N19 := Fr.app N18 N19q
  obtain ⟨_, _, ⟨T21, L21, k21, n21⟩, -, X21, ⟨Lc21, hQ21, l21, y21, z21⟩, st21⟩ := Jvm.LawKit.callS X19 hx (y := (⟨"com/example/sunder/sunder/Aggregate", "count", "()Lcom/example/sunder/sunder/Aggregate;"⟩ : MethodName)) ho15 (mvT hZ15 (hwi hw 50 rfl)) (mvT hZ15 (hwi hw 51 rfl)) (mvT hZ15 (hwi hw 24 rfl)) (mvT hZ15 (hwi hw 52 rfl)) (by decide) (backOf (W := 1) (rm_count l Z a0 hw [] w_COUNT T15.heap n0 Z17 S_COUNT O17) hZ15 (hwi hw 52 rfl) (hwi hw 24 rfl) (by decide) (by decide)) (g := (mkF m 109 #[.val (.int p1), .val (.int p2), .val (.int p3), .val (.int p4), .val (.int 1), .val (.ref b1), .val (.ref b8), .val (.ref r_15), .val (.ref b8), .unset] [(.ref r_15)])) rfl (by rw [hml]; rfl) (argsL := []) (rest := [(.ref r_15)]) (lenOf pd_Lcom_example_sunder_sunder_Aggregate_688 rfl) rfl (by show 2 * 0 + _ ≤ _; exact Nat.le_of_eq rfl) (hb hby at_109) (fun _ _ => ⟨rfl, e19, (by decide : 6 + 0 ≤ _), (by decide : 35 + 0 ≤ _)⟩)
  dsimp only [Pt.U, Pt.locs, Pt.cells, Pt.slots] at X21 l21 y21 z21 st21 hQ21
  subst l21 y21 z21
  obtain ⟨rfl, N21q, e21⟩ := hQ21
  have N21 := Fr.app N19 N21q
  have fc23 := (g11_1.keep Kc15 nin0)
  have fc24 := (g11_2.keep Kc15 nin0)
  have fc25 := (g11_4.keep Kc15 nin0)
  obtain ⟨cq22, kq22, q22a, q22b, q22c⟩ := isOf hZ15 e21 g15_1
  obtain ⟨_, _, ⟨T22, L22, k22, n22⟩, -, X22, hS22, gr22, ⟨Lc22, hQ22, l22, y22, z22, C22⟩, st22⟩ := X21.virtualBackS hx (y := (⟨"com/example/sunder/sunder/Aggregate", "toString", "()Ljava/lang/String;"⟩ : MethodName)) (z := (⟨"com/example/sunder/sunder/Aggregate", "toString", "()Ljava/lang/String;"⟩ : MethodName)) ho15 (mvT hZ15 (hwi hw 55 rfl)) (mvT hZ15 (hwi hw 56 rfl)) (notFace_of_selects (args := #[]) (mvT hZ15 (hwi hw 58 rfl))) (mvT hZ15 (hwi hw 58 rfl)) (mvT hZ15 (hwi hw 57 rfl)) (by decide) (backOfSH (s := s) (vm0 := T15.vm) (EL := consts_1) (W := 0) (rm_agstr_1 l Z a0 hw hEL [] r_15 w_COMPACT_STRINGS b8 cA t_11 kt_11 T15.heap n0 Z17 S_COMPACT_STRINGS hcs g15_2 fc20 fc23 fc24 fc25 O17) hZ15 (hwi hw 59 rfl) (hwi hw 24 rfl) (by decide) (by decide) hEL R16.1) q22a q22c (g := (mkF m 119 #[.val (.int p1), .val (.int p2), .val (.int p3), .val (.int p4), .val (.int 1), .val (.ref b1), .val (.ref b8), .val (.ref r_15), .val (.ref b8), .unset] [(.ref r_15)])) rfl (by rw [hml]; rfl) (Steps.refl _) (argsL := []) (rest := []) (lenOf pd_Ljava_lang_String_777 rfl) rfl (by show 2 * 0 + _ ≤ _; exact Nat.le_of_eq rfl) (hb hby at_119) (fun _ _ => ⟨rfl, e21, (by decide : 6 + 8 ≤ _), (by decide : 35 + 58 ≤ _)⟩)
  dsimp only [Pt.U, Pt.locs, Pt.cells, Pt.slots] at X22 l22 y22 z22 st22 hQ22 hS22 gr22 C22
  subst l22 y22 z22
  obtain ⟨X22, hS22, hZ22, ho22⟩ := rebS hS15 (by rw [e21]; exact (Nat.le_refl T15.heap.size)) X22 hS22 gr22 hZ15 ho15
  obtain ⟨r_22, t_22, kt_22, rfl, N22q, Kc22, g22_0, g22_1, g22_2, g22_3, g22_4, g22_5⟩ := hQ22
  have N22 := Fr.app N21 N22q
  have sf_b8_26 := CHr.safe C22 (show b8 < T15.heap.size from ltN (by have := ltN A8.lt; omega)) sf_b8_16
  have sf_t_11_26 := CHr.safe C22 (show t_11 < T15.heap.size from ltN (by have := ltN g11_4.lt; omega)) sf_t_11_16
  have R26 := C22
  have CR26 := CR16.trans R26
  have sz27 : T15.heap.size ≤ T22.heap.size := Kc22.1
  have Z27 : n0 ≤ T22.heap.size := Nat.le_trans Z17 sz27
  have O27 := O17.keep Kc22 all0
  have K27 : Keep h0 T22.heap [] := K17.trans Kc22 (all0)
  have bn_r_22 : h0.size ≤ r_22 := Nat.le_trans K17.1 g22_0
  have bn_t_22 : h0.size ≤ t_22 := Nat.le_trans K17.1 g22_1
  obtain ⟨cq28, kq28, q28a, q28b, q28c⟩ := isOf hZ22 rfl g22_2
  obtain ⟨_, _, ⟨T28, L28, k28, n28⟩, -, X28, ⟨Lc28, hQ28, l28, y28, z28⟩, st28⟩ := X22.virtualBack hx (y := (⟨"java/lang/String", "length", "()I"⟩ : MethodName)) (z := (⟨"java/lang/String", "length", "()I"⟩ : MethodName)) ho22 (mvT hZ22 (hwi hw 173 rfl)) (mvT hZ22 (hwi hw 90 rfl)) (notFace_of_selects (args := #[]) (mvT hZ22 (hwi hw 92 rfl))) (mvT hZ22 (hwi hw 92 rfl)) (mvT hZ22 (hwi hw 91 rfl)) (by decide) (backOf (W := 0) (rm_slen l Z a0 hw [] r_22 w_COMPACT_STRINGS t_22 kt_22 [(.int 115), (.int 117), (.int 109), (.int 40), (.int (cA.toInt8.toInt32)), (.int 41)] (6 : Int32) T22.heap n0 Z27 S_COMPACT_STRINGS hcs g22_2 g22_3 g22_4 g22_5 O27 (by decide : ((6 : Int32) >>> ((0 : Int32) &&& 31)) = (6 : Int32))) hZ22 (hwi hw 93 rfl) (hwi hw 3 rfl) (by decide) (by decide)) q28a q28c (g := (mkF m 131 #[.val (.int p1), .val (.int p2), .val (.int p3), .val (.int p4), .val (.int 1), .val (.ref b1), .val (.ref b8), .val (.ref r_15), .val (.ref b8), .val (.ref r_22)] [(.ref r_22)])) rfl (by rw [hml]; rfl) (Steps.refl _) (argsL := []) (rest := []) (lenOf pd_I_154 rfl) rfl (by show 2 * 0 + _ ≤ _; exact Nat.le_of_eq rfl) (hb hby at_131) (fun _ _ => ⟨rfl, rfl, (by decide : 14 + 0 ≤ _), (by decide : 93 + 0 ≤ _)⟩)
  dsimp only [Pt.U, Pt.locs, Pt.cells, Pt.slots] at X28 l28 y28 z28 st28 hQ28
  subst l28 y28 z28
  obtain ⟨rfl, N28q, e28⟩ := hQ28
  have N28 := Fr.app N22 N28q
  obtain ⟨cq29, kq29, q29a, q29b, q29c⟩ := isOf hZ22 e28 g22_2
  obtain ⟨_, _, ⟨T29, L29, k29, n29⟩, -, X29, ⟨Lc29, hQ29, l29, y29, z29⟩, st29⟩ := X28.virtualBack hx (y := (⟨"java/lang/String", "charAt", "(I)C"⟩ : MethodName)) (z := (⟨"java/lang/String", "charAt", "(I)C"⟩ : MethodName)) ho22 (mvT hZ22 (hwi hw 174 rfl)) (mvT hZ22 (hwi hw 175 rfl)) (notFace_of_selects (args := #[]) (mvT hZ22 (hwi hw 177 rfl))) (mvT hZ22 (hwi hw 177 rfl)) (mvT hZ22 (hwi hw 176 rfl)) (by decide) (backOf (W := 0) (rm_schr l Z a0 hw [] r_22 (0 : Int32) w_COMPACT_STRINGS t_22 kt_22 [(.int 115), (.int 117), (.int 109), (.int 40), (.int (cA.toInt8.toInt32)), (.int 41)] (6 : Int32) (115 : Int32) (115 : Int32) w_SIOOBE_FORMATTER T22.heap n0 Z27 S_COMPACT_STRINGS hcs g22_2 g22_3 g22_4 g22_5 (by decide : ¬ ((0 : Int32) < (0 : Int32))) (by decide : (0 : Int32) < (6 : Int32)) rfl O27 hr_SIOOBE_FORMATTER S_SIOOBE_FORMATTER (by decide : (((115 : Int32) &&& (255 : Int32)).toUInt32.toUInt16.toUInt32.toInt32) = (115 : Int32)) (by decide : ((115 : Int32).toUInt32.toUInt16.toUInt32.toInt32) = (115 : Int32))) hZ22 (hwi hw 178 rfl) (hwi hw 3 rfl) (by decide) (by decide)) q29a q29c (g := (mkF m 146 #[.val (.int p1), .val (.int p2), .val (.int p3), .val (.int p4), .val (.int 1), .val (.ref b1), .val (.ref b8), .val (.ref r_15), .val (.ref b8), .val (.ref r_22)] [(.int 0), (.ref r_22)])) rfl (by rw [hml]; rfl) (Steps.refl _) (argsL := [(.int 0)]) (rest := []) (lenOf pd_I_C_221 rfl) rfl (by show 2 * 0 + _ ≤ _; exact Nat.le_of_eq rfl) (hb hby at_146) (fun _ _ => ⟨rfl, e28, (by decide : 14 + 0 ≤ _), (by decide : 93 + 0 ≤ _)⟩)
  dsimp only [Pt.U, Pt.locs, Pt.cells, Pt.slots] at X29 l29 y29 z29 st29 hQ29
  subst l29 y29 z29
  obtain ⟨rfl, N29q, e29⟩ := hQ29
  have N29 := Fr.app N28 N29q
  obtain ⟨cq30, kq30, q30a, q30b, q30c⟩ := isOf hZ22 e29 g22_2
  obtain ⟨_, _, ⟨T30, L30, k30, n30⟩, -, X30, ⟨Lc30, hQ30, l30, y30, z30⟩, st30⟩ := X29.virtualBack hx (y := (⟨"java/lang/String", "charAt", "(I)C"⟩ : MethodName)) (z := (⟨"java/lang/String", "charAt", "(I)C"⟩ : MethodName)) ho22 (mvT hZ22 (hwi hw 174 rfl)) (mvT hZ22 (hwi hw 175 rfl)) (notFace_of_selects (args := #[]) (mvT hZ22 (hwi hw 177 rfl))) (mvT hZ22 (hwi hw 177 rfl)) (mvT hZ22 (hwi hw 176 rfl)) (by decide) (backOf (W := 0) (rm_schr l Z a0 hw [] r_22 (1 : Int32) w_COMPACT_STRINGS t_22 kt_22 [(.int 115), (.int 117), (.int 109), (.int 40), (.int (cA.toInt8.toInt32)), (.int 41)] (6 : Int32) (117 : Int32) (117 : Int32) w_SIOOBE_FORMATTER T22.heap n0 Z27 S_COMPACT_STRINGS hcs g22_2 g22_3 g22_4 g22_5 (by decide : ¬ ((1 : Int32) < (0 : Int32))) (by decide : (1 : Int32) < (6 : Int32)) rfl O27 hr_SIOOBE_FORMATTER S_SIOOBE_FORMATTER (by decide : (((117 : Int32) &&& (255 : Int32)).toUInt32.toUInt16.toUInt32.toInt32) = (117 : Int32)) (by decide : ((117 : Int32).toUInt32.toUInt16.toUInt32.toInt32) = (117 : Int32))) hZ22 (hwi hw 178 rfl) (hwi hw 3 rfl) (by decide) (by decide)) q30a q30c (g := (mkF m 157 #[.val (.int p1), .val (.int p2), .val (.int p3), .val (.int p4), .val (.int 1), .val (.ref b1), .val (.ref b8), .val (.ref r_15), .val (.ref b8), .val (.ref r_22)] [(.int 1), (.ref r_22)])) rfl (by rw [hml]; rfl) (Steps.refl _) (argsL := [(.int 1)]) (rest := []) (lenOf pd_I_C_221 rfl) rfl (by show 2 * 0 + _ ≤ _; exact Nat.le_of_eq rfl) (hb hby at_157) (fun _ _ => ⟨rfl, e29, (by decide : 14 + 0 ≤ _), (by decide : 93 + 0 ≤ _)⟩)
  dsimp only [Pt.U, Pt.locs, Pt.cells, Pt.slots] at X30 l30 y30 z30 st30 hQ30
  subst l30 y30 z30
  obtain ⟨rfl, N30q, e30⟩ := hQ30
  have N30 := Fr.app N29 N30q
  obtain ⟨cq31, kq31, q31a, q31b, q31c⟩ := isOf hZ22 e30 g22_2
  obtain ⟨_, _, ⟨T31, L31, k31, n31⟩, -, X31, ⟨Lc31, hQ31, l31, y31, z31⟩, st31⟩ := X30.virtualBack hx (y := (⟨"java/lang/String", "charAt", "(I)C"⟩ : MethodName)) (z := (⟨"java/lang/String", "charAt", "(I)C"⟩ : MethodName)) ho22 (mvT hZ22 (hwi hw 174 rfl)) (mvT hZ22 (hwi hw 175 rfl)) (notFace_of_selects (args := #[]) (mvT hZ22 (hwi hw 177 rfl))) (mvT hZ22 (hwi hw 177 rfl)) (mvT hZ22 (hwi hw 176 rfl)) (by decide) (backOf (W := 0) (rm_schr l Z a0 hw [] r_22 (2 : Int32) w_COMPACT_STRINGS t_22 kt_22 [(.int 115), (.int 117), (.int 109), (.int 40), (.int (cA.toInt8.toInt32)), (.int 41)] (6 : Int32) (109 : Int32) (109 : Int32) w_SIOOBE_FORMATTER T22.heap n0 Z27 S_COMPACT_STRINGS hcs g22_2 g22_3 g22_4 g22_5 (by decide : ¬ ((2 : Int32) < (0 : Int32))) (by decide : (2 : Int32) < (6 : Int32)) rfl O27 hr_SIOOBE_FORMATTER S_SIOOBE_FORMATTER (by decide : (((109 : Int32) &&& (255 : Int32)).toUInt32.toUInt16.toUInt32.toInt32) = (109 : Int32)) (by decide : ((109 : Int32).toUInt32.toUInt16.toUInt32.toInt32) = (109 : Int32))) hZ22 (hwi hw 178 rfl) (hwi hw 3 rfl) (by decide) (by decide)) q31a q31c (g := (mkF m 168 #[.val (.int p1), .val (.int p2), .val (.int p3), .val (.int p4), .val (.int 1), .val (.ref b1), .val (.ref b8), .val (.ref r_15), .val (.ref b8), .val (.ref r_22)] [(.int 2), (.ref r_22)])) rfl (by rw [hml]; rfl) (Steps.refl _) (argsL := [(.int 2)]) (rest := []) (lenOf pd_I_C_221 rfl) rfl (by show 2 * 0 + _ ≤ _; exact Nat.le_of_eq rfl) (hb hby at_168) (fun _ _ => ⟨rfl, e30, (by decide : 14 + 0 ≤ _), (by decide : 93 + 0 ≤ _)⟩)
  dsimp only [Pt.U, Pt.locs, Pt.cells, Pt.slots] at X31 l31 y31 z31 st31 hQ31
  subst l31 y31 z31
  obtain ⟨rfl, N31q, e31⟩ := hQ31
  have N31 := Fr.app N30 N31q
  obtain ⟨cq32, kq32, q32a, q32b, q32c⟩ := isOf hZ22 e31 g22_2
  obtain ⟨_, _, ⟨T32, L32, k32, n32⟩, -, X32, ⟨Lc32, hQ32, l32, y32, z32⟩, st32⟩ := X31.virtualBack hx (y := (⟨"java/lang/String", "charAt", "(I)C"⟩ : MethodName)) (z := (⟨"java/lang/String", "charAt", "(I)C"⟩ : MethodName)) ho22 (mvT hZ22 (hwi hw 174 rfl)) (mvT hZ22 (hwi hw 175 rfl)) (notFace_of_selects (args := #[]) (mvT hZ22 (hwi hw 177 rfl))) (mvT hZ22 (hwi hw 177 rfl)) (mvT hZ22 (hwi hw 176 rfl)) (by decide) (backOf (W := 0) (rm_schr l Z a0 hw [] r_22 (3 : Int32) w_COMPACT_STRINGS t_22 kt_22 [(.int 115), (.int 117), (.int 109), (.int 40), (.int (cA.toInt8.toInt32)), (.int 41)] (6 : Int32) (40 : Int32) (40 : Int32) w_SIOOBE_FORMATTER T22.heap n0 Z27 S_COMPACT_STRINGS hcs g22_2 g22_3 g22_4 g22_5 (by decide : ¬ ((3 : Int32) < (0 : Int32))) (by decide : (3 : Int32) < (6 : Int32)) rfl O27 hr_SIOOBE_FORMATTER S_SIOOBE_FORMATTER (by decide : (((40 : Int32) &&& (255 : Int32)).toUInt32.toUInt16.toUInt32.toInt32) = (40 : Int32)) (by decide : ((40 : Int32).toUInt32.toUInt16.toUInt32.toInt32) = (40 : Int32))) hZ22 (hwi hw 178 rfl) (hwi hw 3 rfl) (by decide) (by decide)) q32a q32c (g := (mkF m 179 #[.val (.int p1), .val (.int p2), .val (.int p3), .val (.int p4), .val (.int 1), .val (.ref b1), .val (.ref b8), .val (.ref r_15), .val (.ref b8), .val (.ref r_22)] [(.int 3), (.ref r_22)])) rfl (by rw [hml]; rfl) (Steps.refl _) (argsL := [(.int 3)]) (rest := []) (lenOf pd_I_C_221 rfl) rfl (by show 2 * 0 + _ ≤ _; exact Nat.le_of_eq rfl) (hb hby at_179) (fun _ _ => ⟨rfl, e31, (by decide : 14 + 0 ≤ _), (by decide : 93 + 0 ≤ _)⟩)
  dsimp only [Pt.U, Pt.locs, Pt.cells, Pt.slots] at X32 l32 y32 z32 st32 hQ32
  subst l32 y32 z32
  obtain ⟨rfl, N32q, e32⟩ := hQ32
  have N32 := Fr.app N31 N32q
  obtain ⟨cq33, kq33, q33a, q33b, q33c⟩ := isOf hZ22 e32 g22_2
  obtain ⟨_, _, ⟨T33, L33, k33, n33⟩, -, X33, ⟨Lc33, hQ33, l33, y33, z33⟩, st33⟩ := X32.virtualBack hx (y := (⟨"java/lang/String", "charAt", "(I)C"⟩ : MethodName)) (z := (⟨"java/lang/String", "charAt", "(I)C"⟩ : MethodName)) ho22 (mvT hZ22 (hwi hw 174 rfl)) (mvT hZ22 (hwi hw 175 rfl)) (notFace_of_selects (args := #[]) (mvT hZ22 (hwi hw 177 rfl))) (mvT hZ22 (hwi hw 177 rfl)) (mvT hZ22 (hwi hw 176 rfl)) (by decide) (backOf (W := 0) (rm_schr l Z a0 hw [] r_22 (4 : Int32) w_COMPACT_STRINGS t_22 kt_22 [(.int 115), (.int 117), (.int 109), (.int 40), (.int (cA.toInt8.toInt32)), (.int 41)] (6 : Int32) (cA.toInt8.toInt32) cA w_SIOOBE_FORMATTER T22.heap n0 Z27 S_COMPACT_STRINGS hcs g22_2 g22_3 g22_4 g22_5 (by decide : ¬ ((4 : Int32) < (0 : Int32))) (by decide : (4 : Int32) < (6 : Int32)) rfl O27 hr_SIOOBE_FORMATTER S_SIOOBE_FORMATTER hkcA hncA) hZ22 (hwi hw 178 rfl) (hwi hw 3 rfl) (by decide) (by decide)) q33a q33c (g := (mkF m 197 #[.val (.int p1), .val (.int p2), .val (.int p3), .val (.int p4), .val (.int 1), .val (.ref b1), .val (.ref b8), .val (.ref r_15), .val (.ref b8), .val (.ref r_22)] [(.int 4), (.ref r_22)])) rfl (by rw [hml]; rfl) (Steps.refl _) (argsL := [(.int 4)]) (rest := []) (lenOf pd_I_C_221 rfl) rfl (by show 2 * 0 + _ ≤ _; exact Nat.le_of_eq rfl) (hb hby at_197) (fun _ _ => ⟨rfl, e32, (by decide : 14 + 0 ≤ _), (by decide : 93 + 0 ≤ _)⟩)
  dsimp only [Pt.U, Pt.locs, Pt.cells, Pt.slots] at X33 l33 y33 z33 st33 hQ33
  subst l33 y33 z33
  obtain ⟨rfl, N33q, e33⟩ := hQ33
  have N33 := Fr.app N32 N33q
  have fc34 := (((fc12.keep Kc11 (ninS (neN (by have := ltN V1.lt; have := ltN A8.lt; omega)) nin0)).keep Kc15 nin0).keep Kc22 nin0)
  obtain ⟨cl35, Ar35, q35, S35, M35, H35, G35⟩ := id fc34
  have hin35 : ¬ ((0 : Int32) < 0 ∨ cl35.slots.size ≤ ((0 : Int32)).toNatClampNeg) := inb_of S35 ⟨by decide, by decide⟩
  have hat35 : cl35.slots[((0 : Int32)).toNatClampNeg]? = some (.int cA) := H35.at hin35 rfl
  obtain ⟨cq36, kq36, q36a, q36b, q36c⟩ := isOf hZ22 e33 g22_2
  obtain ⟨_, _, ⟨T36, L36, k36, n36⟩, -, X36, ⟨Lc36, hQ36, l36, y36, z36⟩, st36⟩ := X33.virtualBack hx (y := (⟨"java/lang/String", "charAt", "(I)C"⟩ : MethodName)) (z := (⟨"java/lang/String", "charAt", "(I)C"⟩ : MethodName)) ho22 (mvT hZ22 (hwi hw 174 rfl)) (mvT hZ22 (hwi hw 175 rfl)) (notFace_of_selects (args := #[]) (mvT hZ22 (hwi hw 177 rfl))) (mvT hZ22 (hwi hw 177 rfl)) (mvT hZ22 (hwi hw 176 rfl)) (by decide) (backOf (W := 0) (rm_schr l Z a0 hw [] r_22 (5 : Int32) w_COMPACT_STRINGS t_22 kt_22 [(.int 115), (.int 117), (.int 109), (.int 40), (.int (cA.toInt8.toInt32)), (.int 41)] (6 : Int32) (41 : Int32) (41 : Int32) w_SIOOBE_FORMATTER T22.heap n0 Z27 S_COMPACT_STRINGS hcs g22_2 g22_3 g22_4 g22_5 (by decide : ¬ ((5 : Int32) < (0 : Int32))) (by decide : (5 : Int32) < (6 : Int32)) rfl O27 hr_SIOOBE_FORMATTER S_SIOOBE_FORMATTER (by decide : (((41 : Int32) &&& (255 : Int32)).toUInt32.toUInt16.toUInt32.toInt32) = (41 : Int32)) (by decide : ((41 : Int32).toUInt32.toUInt16.toUInt32.toInt32) = (41 : Int32))) hZ22 (hwi hw 178 rfl) (hwi hw 3 rfl) (by decide) (by decide)) q36a q36c (g := (mkF m 258 #[.val (.int p1), .val (.int p2), .val (.int p3), .val (.int p4), .val (.int 1), .val (.ref b1), .val (.ref b8), .val (.ref r_15), .val (.ref b8), .val (.ref r_22)] [(.int 5), (.ref r_22)])) rfl (by rw [hml]; rfl) (Steps.refl _) (argsL := [(.int 5)]) (rest := []) (lenOf pd_I_C_221 rfl) rfl (by show 2 * 0 + _ ≤ _; exact Nat.le_of_eq rfl) (hb hby at_258) (fun _ _ => ⟨rfl, e33, (by decide : 14 + 0 ≤ _), (by decide : 93 + 0 ≤ _)⟩)
  dsimp only [Pt.U, Pt.locs, Pt.cells, Pt.slots] at X36 l36 y36 z36 st36 hQ36
  subst l36 y36 z36
  obtain ⟨rfl, N36q, e36⟩ := hQ36
  have N36 := Fr.app N33 N36q
  have CRe := CR26.trans (CHv.at X36 hZ22 hEL R26.1)
  obtain ⟨fs, hr, hrun, hended, hRE⟩ := X36.leaveW hS22 (by rw [e36]; exact (Nat.le_refl T22.heap.size)) (v := some (.int 1)) (fun h => by rw [Bd.returns] at h; cases h)
  refine ⟨_, _, pre0 _ ?_, hrun, hended, _, _, rfl, ?_, ?_, ⟨hRE.1, hRE.2.1, hRE.2.2.1, hRE.2.2.2.mono (by decide) (by decide)⟩⟩
  · show St p e below s₁ (mkF m 0 #[.val (.int p1), .val (.int p2), .val (.int p3), .val (.int p4), .unset, .unset, .unset, .unset, .unset, .unset] []) _
    refine XS.iloadN X0.here hx rfl (hb hby at_0) rfl ?_
    refine XS.iconst X0.here hx rfl (hb hby at_1) ?_
    refine XS.iand X0.here hx rfl (hb hby at_2) rfl ?_
    show St p e below s₁ (mkF m 3 #[.val (.int p1), .val (.int p2), .val (.int p3), .val (.int p4), .unset, .unset, .unset, .unset, .unset, .unset] [(.int (p1 &&& (3 : Int32)))]) _
    rw [hk]
    show St p e below s₁ (mkF m 3 #[.val (.int p1), .val (.int p2), .val (.int p3), .val (.int p4), .unset, .unset, .unset, .unset, .unset, .unset] [(.int 1)]) _
    refine XS.istore X0.here hx rfl (hb hby at_3) rfl (l' := #[.val (.int p1), .val (.int p2), .val (.int p3), .val (.int p4), .val (.int 1), .unset, .unset, .unset, .unset, .unset]) rfl ?_
    refine XS.iload X0.here hx rfl (hb hby at_5) rfl ?_
    refine st1 _ ?_
    refine XS.astore X1.here hx rfl (hb hby at_9) rfl rfl (l' := #[.val (.int p1), .val (.int p2), .val (.int p3), .val (.int p4), .val (.int 1), .val (.ref b1), .unset, .unset, .unset, .unset]) rfl ?_
    show St p e below T1 (mkF m 11 #[.val (.int p1), .val (.int p2), .val (.int p3), .val (.int p4), .val (.int 1), .val (.ref b1), .unset, .unset, .unset, .unset] []) _
    refine XS.iload X1.here hx rfl (hb hby at_11) rfl ?_
    refine XS.ifNo X1.here hx rfl (hb hby at_13) rfl ((if0 _ _).trans (tlt (by decide : (0 : Int32) < (1 : Int32))).2.2.2) ?_
    refine XS.aload X1.here hx rfl (hb hby at_16) rfl rfl ?_
    refine XS.iconst X1.here hx rfl (hb hby at_18) ?_
    show St p e below T1 (mkF m 19 #[.val (.int p1), .val (.int p2), .val (.int p3), .val (.int p4), .val (.int 1), .val (.ref b1), .unset, .unset, .unset, .unset] [(.int 0), (.ref b1)]) _
    refine XS.iloadN X1.here hx rfl (hb hby at_19) rfl ?_
    refine XS.sipush X1.here hx rfl (hb hby at_20) ?_
    refine XS.iand X1.here hx rfl (hb hby at_23) rfl ?_
    refine XS.i2c X1.here hx rfl (hb hby at_24) rfl ?_
    show St p e below T1 (mkF m 25 #[.val (.int p1), .val (.int p2), .val (.int p3), .val (.int p4), .val (.int 1), .val (.ref b1), .unset, .unset, .unset, .unset] [(.int ((p2 &&& (255 : Int32)).toUInt32.toUInt16.toUInt32.toInt32)), (.int 0), (.ref b1)]) _
    rw [hcA]
    show St p e below T1 (mkF m 25 #[.val (.int p1), .val (.int p2), .val (.int p3), .val (.int p4), .val (.int 1), .val (.ref b1), .unset, .unset, .unset, .unset] [(.int cA), (.int 0), (.ref b1)]) _
    refine st5 _ ?_
    refine XS.iload X5.here hx rfl (hb hby at_26) rfl ?_
    refine XS.iconst X5.here hx rfl (hb hby at_28) ?_
    refine XS.icmpYes X5.here hx rfl (pc0 := 29) (pc' := 42) rfl (hb hby at_29) rfl (flt (by decide : ¬ ((1 : Int32) < (1 : Int32)))).2.2.2 (by decide) (by decide) ?_
    show St p e below T5 (mkF m 42 #[.val (.int p1), .val (.int p2), .val (.int p3), .val (.int p4), .val (.int 1), .val (.ref b1), .unset, .unset, .unset, .unset] []) _
    refine XS.iload X5.here hx rfl (hb hby at_42) rfl ?_
    refine XS.iconst X5.here hx rfl (hb hby at_44) ?_
    refine XS.icmpYes X5.here hx rfl (pc0 := 45) (pc' := 58) rfl (hb hby at_45) rfl (flt (by decide : ¬ ((2 : Int32) < (1 : Int32)))).2.2.2 (by decide) (by decide) ?_
    refine st8 _ ?_
    show St p e below T8 (mkF m 61 #[.val (.int p1), .val (.int p2), .val (.int p3), .val (.int p4), .val (.int 1), .val (.ref b1), .unset, .unset, .unset, .unset] [(.ref b8)]) _
    refine XS.dup X8.here hx rfl (hb hby at_61) rfl rfl ?_
    refine XS.aload X8.here hx rfl (hb hby at_62) rfl rfl ?_
    refine st11.trans ?_
    refine XS.astore X11.here hx rfl (hb hby at_67) rfl rfl (l' := #[.val (.int p1), .val (.int p2), .val (.int p3), .val (.int p4), .val (.int 1), .val (.ref b1), .val (.ref b8), .unset, .unset, .unset]) rfl ?_
    show St p e below T11 (mkF m 69 #[.val (.int p1), .val (.int p2), .val (.int p3), .val (.int p4), .val (.int 1), .val (.ref b1), .val (.ref b8), .unset, .unset, .unset] []) _
    refine XS.aload X11.here hx rfl (hb hby at_69) rfl rfl ?_
    refine st15.trans ?_
    refine XS.astore X15.here hx rfl (hb hby at_74) rfl rfl (l' := #[.val (.int p1), .val (.int p2), .val (.int p3), .val (.int p4), .val (.int 1), .val (.ref b1), .val (.ref b8), .val (.ref r_15), .unset, .unset]) rfl ?_
    refine XS.aload X15.here hx rfl (hb hby at_76) rfl rfl ?_
    show St p e below T15 (mkF m 78 #[.val (.int p1), .val (.int p2), .val (.int p3), .val (.int p4), .val (.int 1), .val (.ref b1), .val (.ref b8), .val (.ref r_15), .unset, .unset] [(.ref r_15)]) _
    refine XS.ifnonnullYes X15.here hx rfl (pc0 := 78) (pc' := 83) rfl (hb hby at_78) rfl (by decide) (by decide) ?_
    refine XS.aload X15.here hx rfl (hb hby at_83) rfl rfl ?_
    refine st18.trans ?_
    refine XS.astore X18.here hx rfl (hb hby at_88) rfl rfl (l' := #[.val (.int p1), .val (.int p2), .val (.int p3), .val (.int p4), .val (.int 1), .val (.ref b1), .val (.ref b8), .val (.ref r_15), .val (.ref b8), .unset]) rfl ?_
    show St p e below T18 (mkF m 90 #[.val (.int p1), .val (.int p2), .val (.int p3), .val (.int p4), .val (.int 1), .val (.ref b1), .val (.ref b8), .val (.ref r_15), .val (.ref b8), .unset] []) _
    refine XS.aload X18.here hx rfl (hb hby at_90) rfl rfl ?_
    refine XS.ifnullNo X18.here hx rfl (hb hby at_92) rfl ?_
    refine XS.aload X18.here hx rfl (hb hby at_95) rfl rfl ?_
    refine XS.aload X18.here hx rfl (hb hby at_97) rfl rfl ?_
    show St p e below T18 (mkF m 99 #[.val (.int p1), .val (.int p2), .val (.int p3), .val (.int p4), .val (.int 1), .val (.ref b1), .val (.ref b8), .val (.ref r_15), .val (.ref b8), .unset] [(.ref b8), (.ref b8)]) _
    refine st19.trans ?_
    refine XS.ifYes X19.here hx rfl (pc0 := 102) (pc' := 107) rfl (hb hby at_102) rfl ((if0 _ _).trans (feq (by decide : ¬ ((1 : Int32) = (0 : Int32)))).2) (by decide) (by decide) ?_
    refine XS.aload X19.here hx rfl (hb hby at_107) rfl rfl ?_
    refine st21 _ ?_
    show St p e below T21 (mkF m 112 #[.val (.int p1), .val (.int p2), .val (.int p3), .val (.int p4), .val (.int 1), .val (.ref b1), .val (.ref b8), .val (.ref r_15), .val (.ref b8), .unset] [(.ref w_COUNT), (.ref r_15)]) _
    refine Jvm.RoadKit.acmp (g := (mkF m 112 #[.val (.int p1), .val (.int p2), .val (.int p3), .val (.int p4), .val (.int 1), .val (.ref b1), .val (.ref b8), .val (.ref r_15), .val (.ref b8), .unset] [(.ref w_COUNT), (.ref r_15)])) X21 hx rfl rfl rfl (pc0 := 112) (pc' := 117) (same := false) rfl (hb hby at_112) rfl (decide_eq_false fun q => (neN (by have := ltN E_w_COUNT.lt; have := O17.1; have := ltN g15_1.lt; omega)) (Value.ref.inj q)) (by decide) (by decide) ?_
    refine XS.aload X21.here hx rfl (hb hby at_117) rfl rfl ?_
    refine st22.trans ?_
    refine XS.astore X22.here hx rfl (hb hby at_122) rfl rfl (l' := #[.val (.int p1), .val (.int p2), .val (.int p3), .val (.int p4), .val (.int 1), .val (.ref b1), .val (.ref b8), .val (.ref r_15), .val (.ref b8), .val (.ref r_22)]) rfl ?_
    show St p e below T22 (mkF m 124 #[.val (.int p1), .val (.int p2), .val (.int p3), .val (.int p4), .val (.int 1), .val (.ref b1), .val (.ref b8), .val (.ref r_15), .val (.ref b8), .val (.ref r_22)] []) _
    refine XS.aload X22.here hx rfl (hb hby at_124) rfl rfl ?_
    refine XS.ifnullNo X22.here hx rfl (hb hby at_126) rfl ?_
    refine XS.aload X22.here hx rfl (hb hby at_129) rfl rfl ?_
    refine st28.trans ?_
    show St p e below T28 (mkF m 134 #[.val (.int p1), .val (.int p2), .val (.int p3), .val (.int p4), .val (.int 1), .val (.ref b1), .val (.ref b8), .val (.ref r_15), .val (.ref b8), .val (.ref r_22)] [(.int 6)]) _
    refine XS.iload X28.here hx rfl (hb hby at_134) rfl ?_
    refine XS.iconst X28.here hx rfl (hb hby at_136) ?_
    refine XS.iadd X28.here hx rfl (hb hby at_137) rfl ?_
    show St p e below T28 (mkF m 138 #[.val (.int p1), .val (.int p2), .val (.int p3), .val (.int p4), .val (.int 1), .val (.ref b1), .val (.ref b8), .val (.ref r_15), .val (.ref b8), .val (.ref r_22)] [(.int ((1 : Int32) + (5 : Int32))), (.int 6)]) _
    rw [(by decide : ((1 : Int32) + (5 : Int32)) = (6 : Int32))]
    show St p e below T28 (mkF m 138 #[.val (.int p1), .val (.int p2), .val (.int p3), .val (.int p4), .val (.int 1), .val (.ref b1), .val (.ref b8), .val (.ref r_15), .val (.ref b8), .val (.ref r_22)] [(.int 6), (.int 6)]) _
    refine XS.icmpYes X28.here hx rfl (pc0 := 138) (pc' := 143) rfl (hb hby at_138) rfl (teq (by decide : (6 : Int32) = (6 : Int32))).1 (by decide) (by decide) ?_
    refine XS.aload X28.here hx rfl (hb hby at_143) rfl rfl ?_
    refine XS.iconst X28.here hx rfl (hb hby at_145) ?_
    refine st29.trans ?_
    show St p e below T29 (mkF m 149 #[.val (.int p1), .val (.int p2), .val (.int p3), .val (.int p4), .val (.int 1), .val (.ref b1), .val (.ref b8), .val (.ref r_15), .val (.ref b8), .val (.ref r_22)] [(.int 115)]) _
    refine XS.bipush X29.here hx rfl (hb hby at_149) ?_
    refine XS.icmpNo X29.here hx rfl (hb hby at_151) rfl (teq (by decide : (115 : Int32) = (115 : Int32))).2 ?_
    refine XS.aload X29.here hx rfl (hb hby at_154) rfl rfl ?_
    refine XS.iconst X29.here hx rfl (hb hby at_156) ?_
    show St p e below T29 (mkF m 157 #[.val (.int p1), .val (.int p2), .val (.int p3), .val (.int p4), .val (.int 1), .val (.ref b1), .val (.ref b8), .val (.ref r_15), .val (.ref b8), .val (.ref r_22)] [(.int 1), (.ref r_22)]) _
    refine st30.trans ?_
    refine XS.bipush X30.here hx rfl (hb hby at_160) ?_
    refine XS.icmpNo X30.here hx rfl (hb hby at_162) rfl (teq (by decide : (117 : Int32) = (117 : Int32))).2 ?_
    refine XS.aload X30.here hx rfl (hb hby at_165) rfl rfl ?_
    show St p e below T30 (mkF m 167 #[.val (.int p1), .val (.int p2), .val (.int p3), .val (.int p4), .val (.int 1), .val (.ref b1), .val (.ref b8), .val (.ref r_15), .val (.ref b8), .val (.ref r_22)] [(.ref r_22)]) _
    refine XS.iconst X30.here hx rfl (hb hby at_167) ?_
    refine st31.trans ?_
    refine XS.bipush X31.here hx rfl (hb hby at_171) ?_
    refine XS.icmpNo X31.here hx rfl (hb hby at_173) rfl (teq (by decide : (109 : Int32) = (109 : Int32))).2 ?_
    show St p e below T31 (mkF m 176 #[.val (.int p1), .val (.int p2), .val (.int p3), .val (.int p4), .val (.int 1), .val (.ref b1), .val (.ref b8), .val (.ref r_15), .val (.ref b8), .val (.ref r_22)] []) _
    refine XS.aload X31.here hx rfl (hb hby at_176) rfl rfl ?_
    refine XS.iconst X31.here hx rfl (hb hby at_178) ?_
    refine st32.trans ?_
    refine XS.bipush X32.here hx rfl (hb hby at_182) ?_
    show St p e below T32 (mkF m 184 #[.val (.int p1), .val (.int p2), .val (.int p3), .val (.int p4), .val (.int 1), .val (.ref b1), .val (.ref b8), .val (.ref r_15), .val (.ref b8), .val (.ref r_22)] [(.int 40), (.int 40)]) _
    refine XS.icmpYes X32.here hx rfl (pc0 := 184) (pc' := 189) rfl (hb hby at_184) rfl (teq (by decide : (40 : Int32) = (40 : Int32))).1 (by decide) (by decide) ?_
    refine XS.iload X32.here hx rfl (hb hby at_189) rfl ?_
    refine XS.ifNo X32.here hx rfl (hb hby at_191) rfl ((if0 _ _).trans (tlt (by decide : (0 : Int32) < (1 : Int32))).2.2.2) ?_
    refine XS.aload X32.here hx rfl (hb hby at_194) rfl rfl ?_
    show St p e below T32 (mkF m 196 #[.val (.int p1), .val (.int p2), .val (.int p3), .val (.int p4), .val (.int 1), .val (.ref b1), .val (.ref b8), .val (.ref r_15), .val (.ref b8), .val (.ref r_22)] [(.ref r_22)]) _
    refine XS.iconst X32.here hx rfl (hb hby at_196) ?_
    refine st33.trans ?_
    refine XS.aload X33.here hx rfl (hb hby at_200) rfl rfl ?_
    refine XS.iconst X33.here hx rfl (hb hby at_202) ?_
    show St p e below T33 (mkF m 203 #[.val (.int p1), .val (.int p2), .val (.int p3), .val (.int p4), .val (.int 1), .val (.ref b1), .val (.ref b8), .val (.ref r_15), .val (.ref b8), .val (.ref r_22)] [(.int 0), (.ref b1), (.int cA)]) _
    refine X33.caload hx (j := (0 : Int32)) (v := (.int cA)) (by rw [e33]; exact Ar35.1) (State.isArrayOf_alike hZ22.alike Ar35.2.1) Ar35.2.2 hin35 hat35 (g := (mkF m 203 #[.val (.int p1), .val (.int p2), .val (.int p3), .val (.int p4), .val (.int 1), .val (.ref b1), .val (.ref b8), .val (.ref r_15), .val (.ref b8), .val (.ref r_22)] [(.int 0), (.ref b1), (.int cA)])) rfl rfl (hb hby at_203) _ ?_
    refine XS.icmpYes X33.here hx rfl (pc0 := 204) (pc' := 209) rfl (hb hby at_204) rfl (teq (rfl : cA = cA)).1 (by decide) (by decide) ?_
    refine XS.iload X33.here hx rfl (hb hby at_209) rfl ?_
    refine XS.iconst X33.here hx rfl (hb hby at_211) ?_
    show St p e below T33 (mkF m 212 #[.val (.int p1), .val (.int p2), .val (.int p3), .val (.int p4), .val (.int 1), .val (.ref b1), .val (.ref b8), .val (.ref r_15), .val (.ref b8), .val (.ref r_22)] [(.int 1), (.int 1)]) _
    refine XS.icmpYes X33.here hx rfl (pc0 := 212) (pc' := 230) rfl (hb hby at_212) rfl (flt (by decide : ¬ ((1 : Int32) < (1 : Int32)))).2.2.2 (by decide) (by decide) ?_
    refine XS.iload X33.here hx rfl (hb hby at_230) rfl ?_
    refine XS.iconst X33.here hx rfl (hb hby at_232) ?_
    refine XS.icmpYes X33.here hx rfl (pc0 := 233) (pc' := 252) rfl (hb hby at_233) rfl (flt (by decide : ¬ ((2 : Int32) < (1 : Int32)))).2.2.2 (by decide) (by decide) ?_
    show St p e below T33 (mkF m 252 #[.val (.int p1), .val (.int p2), .val (.int p3), .val (.int p4), .val (.int 1), .val (.ref b1), .val (.ref b8), .val (.ref r_15), .val (.ref b8), .val (.ref r_22)] []) _
    refine XS.aload X33.here hx rfl (hb hby at_252) rfl rfl ?_
    refine XS.iload X33.here hx rfl (hb hby at_254) rfl ?_
    refine XS.iconst X33.here hx rfl (hb hby at_256) ?_
    refine XS.iadd X33.here hx rfl (hb hby at_257) rfl ?_
    show St p e below T33 (mkF m 258 #[.val (.int p1), .val (.int p2), .val (.int p3), .val (.int p4), .val (.int 1), .val (.ref b1), .val (.ref b8), .val (.ref r_15), .val (.ref b8), .val (.ref r_22)] [(.int ((1 : Int32) + (4 : Int32))), (.ref r_22)]) _
    rw [(by decide : ((1 : Int32) + (4 : Int32)) = (5 : Int32))]
    show St p e below T33 (mkF m 258 #[.val (.int p1), .val (.int p2), .val (.int p3), .val (.int p4), .val (.int 1), .val (.ref b1), .val (.ref b8), .val (.ref r_15), .val (.ref b8), .val (.ref r_22)] [(.int 5), (.ref r_22)]) _
    refine st36.trans ?_
    refine XS.bipush X36.here hx rfl (hb hby at_261) ?_
    refine XS.icmpNo X36.here hx rfl (hb hby at_263) rfl (teq (by decide : (41 : Int32) = (41 : Int32))).2 ?_
    refine XS.iconst X36.here hx rfl (hb hby at_266) ?_
    show St p e below T36 (mkF m 267 #[.val (.int p1), .val (.int p2), .val (.int p3), .val (.int p4), .val (.int 1), .val (.ref b1), .val (.ref b8), .val (.ref r_15), .val (.ref b8), .val (.ref r_22)] [(.int 1)]) _
    refine XS.goto X36.here hx rfl (pc0 := 267) (pc' := 271) rfl (hb hby at_267) (by decide) (by decide) ?_
    show St p e below T36 (mkF m 271 #[.val (.int p1), .val (.int p2), .val (.int p3), .val (.int p4), .val (.int 1), .val (.ref b1), .val (.ref b8), .val (.ref r_15), .val (.ref b8), .val (.ref r_22)] [(.int 1)]) _
    exact retN X36 hx (t := .boolean) Bd.returns (by simp) (hb hby at_271) hr
  · exact ⟨rfl, N36⟩
  · show CHr Z consts_1 s.vm s.heap T36.vm T36.heap
    rw [hh, e36]
    exact CRe
set_option maxRecDepth 65536 in
set_option maxHeartbeats 40000000 in
theorem rm_law_2 (l : Launch) (Z : State) (a0 : Array Value) (hw : ∀ d ∈ tables_1, d.before a0 Z = true) (hEL : EW Z a0 consts_1) (ws : List Jvm.Cond) (p1 : Int32) (p2 : Int32) (p3 : Int32) (p4 : Int32) (w_COMPACT_STRINGS : Int32) (w_COUNT : Addr) (cA : Int32) (cB : Int32) (w_SIOOBE_FORMATTER : Value) (h0 : Heap) (n0 : Nat) (Z0 : n0 ≤ h0.size) (S_COMPACT_STRINGS : Sta Z Z.heap "java/lang/String" "COMPACT_STRINGS" "Z" (.int w_COMPACT_STRINGS)) (hcs : ¬ (w_COMPACT_STRINGS = (0 : Int32))) (S_COUNT : Sta Z Z.heap "com/example/sunder/sunder/Aggregate" "COUNT" "Lcom/example/sunder/sunder/Aggregate;" (.ref w_COUNT)) (O0 : Old Z n0 h0) (E_w_COUNT : Exa Z Z.heap w_COUNT "com/example/sunder/sunder/Aggregate") (hbcA : ¬ ((255 : Int32) < cA)) (hkcA : (((cA.toInt8.toInt32) &&& (255 : Int32)).toUInt32.toUInt16.toUInt32.toInt32) = cA) (hbcB : ¬ ((255 : Int32) < cB)) (hkcB : (((cB.toInt8.toInt32) &&& (255 : Int32)).toUInt32.toUInt16.toUInt32.toInt32) = cB) (hk : (p1 &&& (3 : Int32)) = (2 : Int32)) (hcA : ((p2 &&& (255 : Int32)).toUInt32.toUInt16.toUInt32.toInt32) = cA) (hncA : (cA.toUInt32.toUInt16.toUInt32.toInt32) = cA) (hcB : ((p3 &&& (255 : Int32)).toUInt32.toUInt16.toUInt32.toInt32) = cB) (hncB : (cB.toUInt32.toUInt16.toUInt32.toInt32) = cB) (hr_SIOOBE_FORMATTER : w_SIOOBE_FORMATTER.isRef = true) (S_SIOOBE_FORMATTER : Sta Z Z.heap "jdk/internal/util/Preconditions" "SIOOBE_FORMATTER" "Ljava/util/function/BiFunction;" w_SIOOBE_FORMATTER) :
    MetFree l x (head1 (Jvm.Cond.code x code maxLocals ret :: ws) room_1) (fun a U => a = #[(.int p1), (.int p2), (.int p3), (.int p4)] ∧ Z.Warmed39 U.vm ∧ U.heap = h0 ∧ CHv Z consts_1 U.vm h0) (fun _ _ _ _ _ => True) (fun _ U o U' => ∃ v L, o = .returned v ∧ Q_law n0 v L ∧ CHr Z consts_1 U.vm U.heap U'.vm U'.heap ∧ ReturnedEndW U o U' L room_1.cells room_1.slots) := by
  refine MetFree.of_bodySF (plainFor_of_name pn_0) hisR ?_
  intro p e s m args below meth c s₁ Bd hml0 hP hK
  obtain ⟨rfl, hZ, hh, H0c⟩ := hP
  have hx := Bd.exec
  have hby := Bd.bytes
  have hml : c.maxLocals = 10 := hml0
  have hown : s.vm.findClass "com/example/sunder/sunder/AggregateSumPinLaw" = some m.cls := findClass_of_methodNamed Bd.named
  have hnm := (name_of_methodNamed Bd.named Bd.method).1
  have X0 : Stand p l e room_1 (s.setVm s.vm) m #[(.int p1), (.int p2), (.int p3), (.int p4)] below meth c s₁ [] 0 0 := Stand.of_body Bd
  have e0 : s₁.heap = h0 := by rw [← hh, Bd.state]; rfl
  have N0 := Fr.nil n0
  have pre0 : ∀ t, Steps p.tables e below (s₁.setTop (mkF m 0 #[.val (.int p1), .val (.int p2), .val (.int p3), .val (.int p4), .unset, .unset, .unset, .unset, .unset, .unset] [])) t → Steps p.tables e below (s₁.setTop (entryFrame m #[(.int p1), (.int p2), (.int p3), (.int p4)] maxLocals)) t := fun t k => castTop (ef_0_IIII m p1 p2 p3 p4) k
  have hS0 : s.Since s.vm 0 := (State.WarmedH.refl s).since 0
  have hk0 : 0 ≤ h0.size := Nat.zero_le _
  have C0c : CHr Z consts_1 s.vm h0 s.vm h0 := CHr.refl H0c
  obtain ⟨T1, h1, k1, X1, e1, E1, A1, st1⟩ := newP X0 hx hZ (hwi hw 0 rfl) e0 (g := (mkF m 7 #[.val (.int p1), .val (.int p2), .val (.int p3), .val (.int p4), .val (.int 2), .unset, .unset, .unset, .unset, .unset] [(.int 2)])) rfl (hb hby at_7) rfl (by decide) (cap := 2) (by decide) (by decide) (by decide) (by decide)
  obtain ⟨b1, g1⟩ : ∃ z, z = h0.size := ⟨_, rfl⟩
  rw [← g1] at A1 st1
  have bn_b1 : h0.size ≤ b1 := Nat.le_of_eq g1.symm
  have R2 := CHr.ext E1 H0c
  have CR2 := C0c.trans R2
  have sz3 : h0.size ≤ h1.size := E1.1
  have Z3 : n0 ≤ h1.size := Nat.le_trans Z0 sz3
  have hk3 := Nat.le_trans hk0 sz3
  have O3 := O0.ext E1
  have K3 : Keep h0 h1 [] := (Keep.refl h0 []).ext E1
  have V1 : Arv Z h1 b1 k1 .char (2 : Int32) [(.int 0), (.int 0)] (.int 0) := (Arv.new A1 (by decide)).pad (pad_rep [] (.int 0) 2)
  obtain ⟨cl4, Ar4, q4, S4, M4, H4, G4⟩ := id V1
  have hin4 : ¬ ((0 : Int32) < 0 ∨ cl4.slots.size ≤ ((0 : Int32)).toNatClampNeg) := inb_of S4 ⟨by decide, by decide⟩
  obtain ⟨T5, h5, X5, e5, W5, st5⟩ := stC X1 hx hZ e1 Ar4 (j := (0 : Int32)) hin4 (g := (mkF m 25 #[.val (.int p1), .val (.int p2), .val (.int p3), .val (.int p4), .val (.int 2), .val (.ref b1), .unset, .unset, .unset, .unset] [(.int cA), (.int 0), (.ref b1)])) rfl rfl (hb hby at_25)
  have N5 := Fr.snoc X5 N0 (Nat.le_trans Z0 bn_b1)
  have V5 : Arv Z h5 b1 k1 .char (2 : Int32) [(.int (cA.toUInt32.toUInt16.toUInt32.toInt32)), (.int 0)] (.int 0) := Arv.set Ar4 q4 S4 M4 H4 G4 (fits_nar_char _) W5 0 rfl (Nat.le_of_ble_eq_true rfl)
  rw [hncA] at V5
  have R6 := CHr.wr W5 (Safe.arv hZ.alike V1 (by decide)) R2.1
  have CR6 := CR2.trans R6
  have sz7 : h1.size ≤ h5.size := Nat.le_of_eq W5.size.symm
  have Z7 : n0 ≤ h5.size := Nat.le_trans Z3 sz7
  have hk7 := Nat.le_trans hk3 sz7
  have O7 := O3.wr W5 (Nat.le_trans Z0 bn_b1)
  have K7 : Keep h0 h5 [] := K3.wr W5 (Or.inr bn_b1)
  obtain ⟨cl8, Ar8, q8, S8, M8, H8, G8⟩ := id V5
  have hin8 : ¬ ((1 : Int32) < 0 ∨ cl8.slots.size ≤ ((1 : Int32)).toNatClampNeg) := inb_of S8 ⟨by decide, by decide⟩
  obtain ⟨T9, h9, X9, e9, W9, st9⟩ := stC X5 hx hZ e5 Ar8 (j := (1 : Int32)) hin8 (g := (mkF m 41 #[.val (.int p1), .val (.int p2), .val (.int p3), .val (.int p4), .val (.int 2), .val (.ref b1), .unset, .unset, .unset, .unset] [(.int cB), (.int 1), (.ref b1)])) rfl rfl (hb hby at_41)
  have N9 := Fr.snoc X9 N5 (Nat.le_trans Z0 bn_b1)
  have V9 : Arv Z h9 b1 k1 .char (2 : Int32) [(.int cA), (.int (cB.toUInt32.toUInt16.toUInt32.toInt32))] (.int 0) := Arv.set Ar8 q8 S8 M8 H8 G8 (fits_nar_char _) W9 1 rfl (Nat.le_of_ble_eq_true rfl)
  rw [hncB] at V9
  have R10 := CHr.wr W9 (Safe.arv hZ.alike V5 (by decide)) R6.1
  have CR10 := CR6.trans R10
  have sz11 : h5.size ≤ h9.size := Nat.le_of_eq W9.size.symm
  have Z11 : n0 ≤ h9.size := Nat.le_trans Z7 sz11
  have hk11 := Nat.le_trans hk7 sz11
  have O11 := O7.wr W9 (Nat.le_trans Z0 bn_b1)
  have K11 : Keep h0 h9 [] := K7.wr W9 (Or.inr bn_b1)
  obtain ⟨T12, h12, X12, e12, E12, A12, D12, -, st12⟩ := newO X9 hx hZ hown (hwi hw 1 rfl) (hwi hw 2 rfl) (hwi hw 3 rfl) e9 (g := (mkF m 58 #[.val (.int p1), .val (.int p2), .val (.int p3), .val (.int p4), .val (.int 2), .val (.ref b1), .unset, .unset, .unset, .unset] [])) rfl (hb hby at_58) (by decide) (by decide)
  obtain ⟨b12, g12⟩ : ∃ z, z = h9.size := ⟨_, rfl⟩
  rw [← g12] at A12 D12 st12
  have bn_b12 : h0.size ≤ b12 := Nat.le_trans K11.1 (Nat.le_of_eq g12.symm)
  have sfb12 : Safe Z consts_1 s.vm h9 b12 := Safe.new (Nat.le_of_eq g12.symm)
  have R13 := CHr.ext E12 R10.1
  have sf_b12_13 := Safe.ext E12 R10.1 sfb12
  have CR13 := CR10.trans R13
  have sz14 : h9.size ≤ h12.size := E12.1
  have Z14 : n0 ≤ h12.size := Nat.le_trans Z11 sz14
  have hk14 := Nat.le_trans hk11 sz14
  have O14 := O11.ext E12
  have K14 : Keep h0 h12 [] := K11.ext E12
  have F12_value : Fld Z h12 b12 "java/lang/String" "value" "[B" .null := D12 (Or.inr (hwi hw 16 rfl)) (ty := (.array .byte)) (by decide)
  have F12_coder : Fld Z h12 b12 "java/lang/String" "coder" "B" (.int 0) := D12 (Or.inr (hwi hw 17 rfl)) (ty := .byte) (by decide)
  have fc16 := (V9.ext E12)
  obtain ⟨_, _, ⟨T15, L15, k15, n15⟩, -, X15, ⟨Lc15, hQ15, l15, y15, z15⟩, st15⟩ := X12.specialBack hx (y := (⟨"java/lang/String", "<init>", "([C)V"⟩ : MethodName)) rfl hown (mvT hZ (hwi hw 4 rfl)) (mvT hZ (hwi hw 5 rfl)) (mvT hZ (hwi hw 6 rfl)) (by decide) (backOf (W := 1) (rm_new1_2 l Z a0 hw [] b12 b1 w_COMPACT_STRINGS k1 cA cB (.int 0) .null h12 n0 Z14 S_COMPACT_STRINGS hcs fc16 hbcA hbcB O14 A12 F12_coder (Nat.le_trans Z0 bn_b12) F12_value) hZ (hwi hw 6 rfl) (hwi hw 3 rfl) (by decide) (by decide)) (g := (mkF m 64 #[.val (.int p1), .val (.int p2), .val (.int p3), .val (.int p4), .val (.int 2), .val (.ref b1), .unset, .unset, .unset, .unset] [(.ref b1), (.ref b12), (.ref b12)])) rfl (by rw [hml]; rfl) (Steps.refl _) (a := b12) (argsL := [(.ref b1)]) (rest := [(.ref b12)]) (lenOf pd_C_V_325 rfl) rfl (by show 2 * 0 + _ ≤ _; exact Nat.le_of_eq rfl) (hb hby at_64) (fun _ _ => ⟨rfl, e12, (by decide : 2 + 1 ≤ _), (by decide : 6 + 2 ≤ _)⟩)
  dsimp only [Pt.U, Pt.locs, Pt.cells, Pt.slots] at X15 l15 y15 z15 st15 hQ15
  subst l15 y15 z15
  obtain ⟨t_15, kt_15, rfl, N15q, Kc15, g15_0, g15_1, g15_2, g15_3, g15_4⟩ := hQ15
  have N15 := Fr.app N9 N15q
  have sfb15_3 : Safe Z consts_1 s.vm h12 t_15 := Safe.new g15_3
  have R17 := CHr.keep Kc15 (sfS sf_b12_13 sf0) R13.1
  have sf_b12_17 := Safe.keep Kc15 (sfS sf_b12_13 sf0) R13.1 sf_b12_13
  have sf_t_15_17 := Safe.keep Kc15 (sfS sf_b12_13 sf0) R13.1 sfb15_3
  have CR17 := CR13.trans R17
  have sz18 : h12.size ≤ T15.heap.size := Kc15.1
  have Z18 : n0 ≤ T15.heap.size := Nat.le_trans Z14 sz18
  have hk18 := Nat.le_trans hk14 sz18
  have O18 := O14.keep Kc15 (allS (Nat.le_trans Z0 bn_b12) all0)
  have K18 : Keep h0 T15.heap [] := K14.trans Kc15 (allS (Or.inr bn_b12) (all0))
  have bn_t_15 : h0.size ≤ t_15 := Nat.le_trans K14.1 g15_3
  obtain ⟨_, _, ⟨T19, L19, k19, n19⟩, -, X19, hS19, gr19, ⟨Lc19, hQ19, l19, y19, z19, C19⟩, st19⟩ := callSS X15 hx (y := (⟨"com/example/sunder/sunder/Aggregate", "sum", "(Ljava/lang/String;)Lcom/example/sunder/sunder/Aggregate;"⟩ : MethodName)) hown (mvT hZ (hwi hw 22 rfl)) (mvT hZ (hwi hw 23 rfl)) (mvT hZ (hwi hw 24 rfl)) (mvT hZ (hwi hw 25 rfl)) (by decide) (backOfSH (s := s) (vm0 := s.vm) (EL := consts_1) (W := 0) (rm_sum l Z a0 hw hEL [] b12 T15.heap n0 Z18 g15_0 O18) hZ (hwi hw 25 rfl) (hwi hw 24 rfl) (by decide) (by decide) hEL R17.1) (g := (mkF m 71 #[.val (.int p1), .val (.int p2), .val (.int p3), .val (.int p4), .val (.int 2), .val (.ref b1), .val (.ref b12), .unset, .unset, .unset] [(.ref b12)])) rfl (by rw [hml]; rfl) (argsL := [(.ref b12)]) (rest := []) (lenOf pd_Ljava_lang_String__Lcom_example_sunder_sunder_Aggregate_384 rfl) rfl (by show 2 * 0 + _ ≤ _; exact Nat.le_of_eq rfl) (hb hby at_71) (fun _ _ => ⟨rfl, rfl, (by decide : 3 + 3 ≤ _), (by decide : 8 + 29 ≤ _)⟩)
  dsimp only [Pt.U, Pt.locs, Pt.cells, Pt.slots] at X19 l19 y19 z19 st19 hQ19 hS19 gr19 C19
  subst l19 y19 z19
  obtain ⟨X19, hS19, hZ19, ho19⟩ := rebS hS0 hk18 X19 hS19 gr19 hZ hown
  obtain ⟨r_19, rfl, N19q, Kc19, g19_0, g19_1, g19_2⟩ := hQ19
  have N19 := Fr.app N15 N19q
  have sf_b12_20 := CHr.safe C19 (show b12 < T15.heap.size from ltN (by have := ltN A12.lt; omega)) sf_b12_17
  have sf_t_15_20 := CHr.safe C19 (show t_15 < T15.heap.size from ltN (by have := ltN g15_4.lt; omega)) sf_t_15_17
  have R20 := C19
  have CR20 := CR17.trans R20
  have sz21 : T15.heap.size ≤ T19.heap.size := Kc19.1
  have Z21 : n0 ≤ T19.heap.size := Nat.le_trans Z18 sz21
  have O21 := O18.keep Kc19 all0
  have K21 : Keep h0 T19.heap [] := K18.trans Kc19 (all0)
  have bn_r_19 : h0.size ≤ r_19 := Nat.le_trans K18.1 g19_0
  obtain ⟨cq22, kq22, q22a, q22b, q22c⟩ := isOf hZ19 rfl g19_1
  obtain ⟨_, _, ⟨T22, L22, k22, n22⟩, -, X22, ⟨Lc22, hQ22, l22, y22, z22⟩, st22⟩ := X19.virtualBack hx (y := (⟨"com/example/sunder/sunder/Aggregate", "column", "()Ljava/lang/String;"⟩ : MethodName)) (z := (⟨"com/example/sunder/sunder/Aggregate", "column", "()Ljava/lang/String;"⟩ : MethodName)) ho19 (mvT hZ19 (hwi hw 40 rfl)) (mvT hZ19 (hwi hw 41 rfl)) (notFace_of_selects (args := #[]) (mvT hZ19 (hwi hw 43 rfl))) (mvT hZ19 (hwi hw 43 rfl)) (mvT hZ19 (hwi hw 42 rfl)) (by decide) (backOf (W := 0) (rm_column l Z a0 hw [] r_19 b12 T19.heap n0 Z21 g19_2) hZ19 (hwi hw 44 rfl) (hwi hw 24 rfl) (by decide) (by decide)) q22a q22c (g := (mkF m 85 #[.val (.int p1), .val (.int p2), .val (.int p3), .val (.int p4), .val (.int 2), .val (.ref b1), .val (.ref b12), .val (.ref r_19), .unset, .unset] [(.ref r_19)])) rfl (by rw [hml]; rfl) (Steps.refl _) (argsL := []) (rest := []) (lenOf pd_Ljava_lang_String_777 rfl) rfl (by show 2 * 0 + _ ≤ _; exact Nat.le_of_eq rfl) (hb hby at_85) (fun _ _ => ⟨rfl, rfl, (by decide : 6 + 0 ≤ _), (by decide : 37 + 0 ≤ _)⟩)
  dsimp only [Pt.U, Pt.locs, Pt.cells, Pt.slots] at X22 l22 y22 z22 st22 hQ22
  subst l22 y22 z22
  obtain ⟨rfl, N22q, e22⟩ := hQ22
  have N22 := Fr.app N19 N22q
  have fc24 := (g15_0.keep Kc19)
  obtain ⟨cq23, kq23, q23a, q23b, q23c⟩ := isOf hZ19 e22 fc24
  obtain ⟨_, _, ⟨T23, L23, k23, n23⟩, -, X23, ⟨Lc23, hQ23, l23, y23, z23⟩, st23⟩ := X22.virtualBack hx (y := (⟨"java/lang/String", "equals", "(Ljava/lang/Object;)Z"⟩ : MethodName)) (z := (⟨"java/lang/String", "equals", "(Ljava/lang/Object;)Z"⟩ : MethodName)) ho19 (mvT hZ19 (hwi hw 45 rfl)) (mvT hZ19 (hwi hw 46 rfl)) (notFace_of_selects (args := #[]) (mvT hZ19 (hwi hw 48 rfl))) (mvT hZ19 (hwi hw 48 rfl)) (mvT hZ19 (hwi hw 47 rfl)) (by decide) (backOf (W := 0) (rm_eqsame l Z a0 hw [] b12 T19.heap n0 Z21) hZ19 (hwi hw 49 rfl) (hwi hw 3 rfl) (by decide) (by decide)) q23a q23c (g := (mkF m 99 #[.val (.int p1), .val (.int p2), .val (.int p3), .val (.int p4), .val (.int 2), .val (.ref b1), .val (.ref b12), .val (.ref r_19), .val (.ref b12), .unset] [(.ref b12), (.ref b12)])) rfl (by rw [hml]; rfl) (Steps.refl _) (argsL := [(.ref b12)]) (rest := []) (lenOf pd_Ljava_lang_Object__Z_835 rfl) rfl (by show 2 * 0 + _ ≤ _; exact Nat.le_of_eq rfl) (hb hby at_99) (fun _ _ => ⟨rfl, e22, (by decide : 6 + 0 ≤ _), (by decide : 37 + 0 ≤ _)⟩)
  dsimp only [Pt.U, Pt.locs, Pt.cells, Pt.slots] at X23 l23 y23 z23 st23 hQ23
  subst l23 y23 z23
  obtain ⟨rfl, N23q, e23⟩ := hQ23
  have N23 := Fr.app N22 N23q
  obtain ⟨_, _, ⟨T25, L25, k25, n25⟩, -, X25, ⟨Lc25, hQ25, l25, y25, z25⟩, st25⟩ := Jvm.LawKit.callS X23 hx (y := (⟨"com/example/sunder/sunder/Aggregate", "count", "()Lcom/example/sunder/sunder/Aggregate;"⟩ : MethodName)) ho19 (mvT hZ19 (hwi hw 50 rfl)) (mvT hZ19 (hwi hw 51 rfl)) (mvT hZ19 (hwi hw 24 rfl)) (mvT hZ19 (hwi hw 52 rfl)) (by decide) (backOf (W := 1) (rm_count l Z a0 hw [] w_COUNT T19.heap n0 Z21 S_COUNT O21) hZ19 (hwi hw 52 rfl) (hwi hw 24 rfl) (by decide) (by decide)) (g := (mkF m 109 #[.val (.int p1), .val (.int p2), .val (.int p3), .val (.int p4), .val (.int 2), .val (.ref b1), .val (.ref b12), .val (.ref r_19), .val (.ref b12), .unset] [(.ref r_19)])) rfl (by rw [hml]; rfl) (argsL := []) (rest := [(.ref r_19)]) (lenOf pd_Lcom_example_sunder_sunder_Aggregate_688 rfl) rfl (by show 2 * 0 + _ ≤ _; exact Nat.le_of_eq rfl) (hb hby at_109) (fun _ _ => ⟨rfl, e23, (by decide : 6 + 0 ≤ _), (by decide : 37 + 0 ≤ _)⟩)
  dsimp only [Pt.U, Pt.locs, Pt.cells, Pt.slots] at X25 l25 y25 z25 st25 hQ25
  subst l25 y25 z25
  obtain ⟨rfl, N25q, e25⟩ := hQ25
  have N25 := Fr.app N23 N25q
  have fc27 := (g15_1.keep Kc19 nin0)
  have fc28 := (g15_2.keep Kc19 nin0)
  have fc29 := (g15_4.keep Kc19 nin0)
  obtain ⟨cq26, kq26, q26a, q26b, q26c⟩ := isOf hZ19 e25 g19_1
  obtain ⟨_, _, ⟨T26, L26, k26, n26⟩, -, X26, hS26, gr26, ⟨Lc26, hQ26, l26, y26, z26, C26⟩, st26⟩ := X25.virtualBackS hx (y := (⟨"com/example/sunder/sunder/Aggregate", "toString", "()Ljava/lang/String;"⟩ : MethodName)) (z := (⟨"com/example/sunder/sunder/Aggregate", "toString", "()Ljava/lang/String;"⟩ : MethodName)) ho19 (mvT hZ19 (hwi hw 55 rfl)) (mvT hZ19 (hwi hw 56 rfl)) (notFace_of_selects (args := #[]) (mvT hZ19 (hwi hw 58 rfl))) (mvT hZ19 (hwi hw 58 rfl)) (mvT hZ19 (hwi hw 57 rfl)) (by decide) (backOfSH (s := s) (vm0 := T19.vm) (EL := consts_1) (W := 0) (rm_agstr_2 l Z a0 hw hEL [] r_19 w_COMPACT_STRINGS b12 cA cB t_15 kt_15 T19.heap n0 Z21 S_COMPACT_STRINGS hcs g19_2 fc24 fc27 fc28 fc29 O21) hZ19 (hwi hw 59 rfl) (hwi hw 24 rfl) (by decide) (by decide) hEL R20.1) q26a q26c (g := (mkF m 119 #[.val (.int p1), .val (.int p2), .val (.int p3), .val (.int p4), .val (.int 2), .val (.ref b1), .val (.ref b12), .val (.ref r_19), .val (.ref b12), .unset] [(.ref r_19)])) rfl (by rw [hml]; rfl) (Steps.refl _) (argsL := []) (rest := []) (lenOf pd_Ljava_lang_String_777 rfl) rfl (by show 2 * 0 + _ ≤ _; exact Nat.le_of_eq rfl) (hb hby at_119) (fun _ _ => ⟨rfl, e25, (by decide : 6 + 8 ≤ _), (by decide : 37 + 59 ≤ _)⟩)
  dsimp only [Pt.U, Pt.locs, Pt.cells, Pt.slots] at X26 l26 y26 z26 st26 hQ26 hS26 gr26 C26
  subst l26 y26 z26
  obtain ⟨X26, hS26, hZ26, ho26⟩ := rebS hS19 (by rw [e25]; exact (Nat.le_refl T19.heap.size)) X26 hS26 gr26 hZ19 ho19
  obtain ⟨r_26, t_26, kt_26, rfl, N26q, Kc26, g26_0, g26_1, g26_2, g26_3, g26_4, g26_5⟩ := hQ26
  have N26 := Fr.app N25 N26q
  have sf_b12_30 := CHr.safe C26 (show b12 < T19.heap.size from ltN (by have := ltN A12.lt; omega)) sf_b12_20
  have sf_t_15_30 := CHr.safe C26 (show t_15 < T19.heap.size from ltN (by have := ltN g15_4.lt; omega)) sf_t_15_20
  have R30 := C26
  have CR30 := CR20.trans R30
  have sz31 : T19.heap.size ≤ T26.heap.size := Kc26.1
  have Z31 : n0 ≤ T26.heap.size := Nat.le_trans Z21 sz31
  have O31 := O21.keep Kc26 all0
  have K31 : Keep h0 T26.heap [] := K21.trans Kc26 (all0)
  have bn_r_26 : h0.size ≤ r_26 := Nat.le_trans K21.1 g26_0
  have bn_t_26 : h0.size ≤ t_26 := Nat.le_trans K21.1 g26_1
  obtain ⟨cq32, kq32, q32a, q32b, q32c⟩ := isOf hZ26 rfl g26_2
  obtain ⟨_, _, ⟨T32, L32, k32, n32⟩, -, X32, ⟨Lc32, hQ32, l32, y32, z32⟩, st32⟩ := X26.virtualBack hx (y := (⟨"java/lang/String", "length", "()I"⟩ : MethodName)) (z := (⟨"java/lang/String", "length", "()I"⟩ : MethodName)) ho26 (mvT hZ26 (hwi hw 173 rfl)) (mvT hZ26 (hwi hw 90 rfl)) (notFace_of_selects (args := #[]) (mvT hZ26 (hwi hw 92 rfl))) (mvT hZ26 (hwi hw 92 rfl)) (mvT hZ26 (hwi hw 91 rfl)) (by decide) (backOf (W := 0) (rm_slen l Z a0 hw [] r_26 w_COMPACT_STRINGS t_26 kt_26 [(.int 115), (.int 117), (.int 109), (.int 40), (.int (cA.toInt8.toInt32)), (.int (cB.toInt8.toInt32)), (.int 41)] (7 : Int32) T26.heap n0 Z31 S_COMPACT_STRINGS hcs g26_2 g26_3 g26_4 g26_5 O31 (by decide : ((7 : Int32) >>> ((0 : Int32) &&& 31)) = (7 : Int32))) hZ26 (hwi hw 93 rfl) (hwi hw 3 rfl) (by decide) (by decide)) q32a q32c (g := (mkF m 131 #[.val (.int p1), .val (.int p2), .val (.int p3), .val (.int p4), .val (.int 2), .val (.ref b1), .val (.ref b12), .val (.ref r_19), .val (.ref b12), .val (.ref r_26)] [(.ref r_26)])) rfl (by rw [hml]; rfl) (Steps.refl _) (argsL := []) (rest := []) (lenOf pd_I_154 rfl) rfl (by show 2 * 0 + _ ≤ _; exact Nat.le_of_eq rfl) (hb hby at_131) (fun _ _ => ⟨rfl, rfl, (by decide : 14 + 0 ≤ _), (by decide : 96 + 0 ≤ _)⟩)
  dsimp only [Pt.U, Pt.locs, Pt.cells, Pt.slots] at X32 l32 y32 z32 st32 hQ32
  subst l32 y32 z32
  obtain ⟨rfl, N32q, e32⟩ := hQ32
  have N32 := Fr.app N26 N32q
  obtain ⟨cq33, kq33, q33a, q33b, q33c⟩ := isOf hZ26 e32 g26_2
  obtain ⟨_, _, ⟨T33, L33, k33, n33⟩, -, X33, ⟨Lc33, hQ33, l33, y33, z33⟩, st33⟩ := X32.virtualBack hx (y := (⟨"java/lang/String", "charAt", "(I)C"⟩ : MethodName)) (z := (⟨"java/lang/String", "charAt", "(I)C"⟩ : MethodName)) ho26 (mvT hZ26 (hwi hw 174 rfl)) (mvT hZ26 (hwi hw 175 rfl)) (notFace_of_selects (args := #[]) (mvT hZ26 (hwi hw 177 rfl))) (mvT hZ26 (hwi hw 177 rfl)) (mvT hZ26 (hwi hw 176 rfl)) (by decide) (backOf (W := 0) (rm_schr l Z a0 hw [] r_26 (0 : Int32) w_COMPACT_STRINGS t_26 kt_26 [(.int 115), (.int 117), (.int 109), (.int 40), (.int (cA.toInt8.toInt32)), (.int (cB.toInt8.toInt32)), (.int 41)] (7 : Int32) (115 : Int32) (115 : Int32) w_SIOOBE_FORMATTER T26.heap n0 Z31 S_COMPACT_STRINGS hcs g26_2 g26_3 g26_4 g26_5 (by decide : ¬ ((0 : Int32) < (0 : Int32))) (by decide : (0 : Int32) < (7 : Int32)) rfl O31 hr_SIOOBE_FORMATTER S_SIOOBE_FORMATTER (by decide : (((115 : Int32) &&& (255 : Int32)).toUInt32.toUInt16.toUInt32.toInt32) = (115 : Int32)) (by decide : ((115 : Int32).toUInt32.toUInt16.toUInt32.toInt32) = (115 : Int32))) hZ26 (hwi hw 178 rfl) (hwi hw 3 rfl) (by decide) (by decide)) q33a q33c (g := (mkF m 146 #[.val (.int p1), .val (.int p2), .val (.int p3), .val (.int p4), .val (.int 2), .val (.ref b1), .val (.ref b12), .val (.ref r_19), .val (.ref b12), .val (.ref r_26)] [(.int 0), (.ref r_26)])) rfl (by rw [hml]; rfl) (Steps.refl _) (argsL := [(.int 0)]) (rest := []) (lenOf pd_I_C_221 rfl) rfl (by show 2 * 0 + _ ≤ _; exact Nat.le_of_eq rfl) (hb hby at_146) (fun _ _ => ⟨rfl, e32, (by decide : 14 + 0 ≤ _), (by decide : 96 + 0 ≤ _)⟩)
  dsimp only [Pt.U, Pt.locs, Pt.cells, Pt.slots] at X33 l33 y33 z33 st33 hQ33
  subst l33 y33 z33
  obtain ⟨rfl, N33q, e33⟩ := hQ33
  have N33 := Fr.app N32 N33q
  obtain ⟨cq34, kq34, q34a, q34b, q34c⟩ := isOf hZ26 e33 g26_2
  obtain ⟨_, _, ⟨T34, L34, k34, n34⟩, -, X34, ⟨Lc34, hQ34, l34, y34, z34⟩, st34⟩ := X33.virtualBack hx (y := (⟨"java/lang/String", "charAt", "(I)C"⟩ : MethodName)) (z := (⟨"java/lang/String", "charAt", "(I)C"⟩ : MethodName)) ho26 (mvT hZ26 (hwi hw 174 rfl)) (mvT hZ26 (hwi hw 175 rfl)) (notFace_of_selects (args := #[]) (mvT hZ26 (hwi hw 177 rfl))) (mvT hZ26 (hwi hw 177 rfl)) (mvT hZ26 (hwi hw 176 rfl)) (by decide) (backOf (W := 0) (rm_schr l Z a0 hw [] r_26 (1 : Int32) w_COMPACT_STRINGS t_26 kt_26 [(.int 115), (.int 117), (.int 109), (.int 40), (.int (cA.toInt8.toInt32)), (.int (cB.toInt8.toInt32)), (.int 41)] (7 : Int32) (117 : Int32) (117 : Int32) w_SIOOBE_FORMATTER T26.heap n0 Z31 S_COMPACT_STRINGS hcs g26_2 g26_3 g26_4 g26_5 (by decide : ¬ ((1 : Int32) < (0 : Int32))) (by decide : (1 : Int32) < (7 : Int32)) rfl O31 hr_SIOOBE_FORMATTER S_SIOOBE_FORMATTER (by decide : (((117 : Int32) &&& (255 : Int32)).toUInt32.toUInt16.toUInt32.toInt32) = (117 : Int32)) (by decide : ((117 : Int32).toUInt32.toUInt16.toUInt32.toInt32) = (117 : Int32))) hZ26 (hwi hw 178 rfl) (hwi hw 3 rfl) (by decide) (by decide)) q34a q34c (g := (mkF m 157 #[.val (.int p1), .val (.int p2), .val (.int p3), .val (.int p4), .val (.int 2), .val (.ref b1), .val (.ref b12), .val (.ref r_19), .val (.ref b12), .val (.ref r_26)] [(.int 1), (.ref r_26)])) rfl (by rw [hml]; rfl) (Steps.refl _) (argsL := [(.int 1)]) (rest := []) (lenOf pd_I_C_221 rfl) rfl (by show 2 * 0 + _ ≤ _; exact Nat.le_of_eq rfl) (hb hby at_157) (fun _ _ => ⟨rfl, e33, (by decide : 14 + 0 ≤ _), (by decide : 96 + 0 ≤ _)⟩)
  dsimp only [Pt.U, Pt.locs, Pt.cells, Pt.slots] at X34 l34 y34 z34 st34 hQ34
  subst l34 y34 z34
  obtain ⟨rfl, N34q, e34⟩ := hQ34
  have N34 := Fr.app N33 N34q
  obtain ⟨cq35, kq35, q35a, q35b, q35c⟩ := isOf hZ26 e34 g26_2
  obtain ⟨_, _, ⟨T35, L35, k35, n35⟩, -, X35, ⟨Lc35, hQ35, l35, y35, z35⟩, st35⟩ := X34.virtualBack hx (y := (⟨"java/lang/String", "charAt", "(I)C"⟩ : MethodName)) (z := (⟨"java/lang/String", "charAt", "(I)C"⟩ : MethodName)) ho26 (mvT hZ26 (hwi hw 174 rfl)) (mvT hZ26 (hwi hw 175 rfl)) (notFace_of_selects (args := #[]) (mvT hZ26 (hwi hw 177 rfl))) (mvT hZ26 (hwi hw 177 rfl)) (mvT hZ26 (hwi hw 176 rfl)) (by decide) (backOf (W := 0) (rm_schr l Z a0 hw [] r_26 (2 : Int32) w_COMPACT_STRINGS t_26 kt_26 [(.int 115), (.int 117), (.int 109), (.int 40), (.int (cA.toInt8.toInt32)), (.int (cB.toInt8.toInt32)), (.int 41)] (7 : Int32) (109 : Int32) (109 : Int32) w_SIOOBE_FORMATTER T26.heap n0 Z31 S_COMPACT_STRINGS hcs g26_2 g26_3 g26_4 g26_5 (by decide : ¬ ((2 : Int32) < (0 : Int32))) (by decide : (2 : Int32) < (7 : Int32)) rfl O31 hr_SIOOBE_FORMATTER S_SIOOBE_FORMATTER (by decide : (((109 : Int32) &&& (255 : Int32)).toUInt32.toUInt16.toUInt32.toInt32) = (109 : Int32)) (by decide : ((109 : Int32).toUInt32.toUInt16.toUInt32.toInt32) = (109 : Int32))) hZ26 (hwi hw 178 rfl) (hwi hw 3 rfl) (by decide) (by decide)) q35a q35c (g := (mkF m 168 #[.val (.int p1), .val (.int p2), .val (.int p3), .val (.int p4), .val (.int 2), .val (.ref b1), .val (.ref b12), .val (.ref r_19), .val (.ref b12), .val (.ref r_26)] [(.int 2), (.ref r_26)])) rfl (by rw [hml]; rfl) (Steps.refl _) (argsL := [(.int 2)]) (rest := []) (lenOf pd_I_C_221 rfl) rfl (by show 2 * 0 + _ ≤ _; exact Nat.le_of_eq rfl) (hb hby at_168) (fun _ _ => ⟨rfl, e34, (by decide : 14 + 0 ≤ _), (by decide : 96 + 0 ≤ _)⟩)
  dsimp only [Pt.U, Pt.locs, Pt.cells, Pt.slots] at X35 l35 y35 z35 st35 hQ35
  subst l35 y35 z35
  obtain ⟨rfl, N35q, e35⟩ := hQ35
  have N35 := Fr.app N34 N35q
  obtain ⟨cq36, kq36, q36a, q36b, q36c⟩ := isOf hZ26 e35 g26_2
  obtain ⟨_, _, ⟨T36, L36, k36, n36⟩, -, X36, ⟨Lc36, hQ36, l36, y36, z36⟩, st36⟩ := X35.virtualBack hx (y := (⟨"java/lang/String", "charAt", "(I)C"⟩ : MethodName)) (z := (⟨"java/lang/String", "charAt", "(I)C"⟩ : MethodName)) ho26 (mvT hZ26 (hwi hw 174 rfl)) (mvT hZ26 (hwi hw 175 rfl)) (notFace_of_selects (args := #[]) (mvT hZ26 (hwi hw 177 rfl))) (mvT hZ26 (hwi hw 177 rfl)) (mvT hZ26 (hwi hw 176 rfl)) (by decide) (backOf (W := 0) (rm_schr l Z a0 hw [] r_26 (3 : Int32) w_COMPACT_STRINGS t_26 kt_26 [(.int 115), (.int 117), (.int 109), (.int 40), (.int (cA.toInt8.toInt32)), (.int (cB.toInt8.toInt32)), (.int 41)] (7 : Int32) (40 : Int32) (40 : Int32) w_SIOOBE_FORMATTER T26.heap n0 Z31 S_COMPACT_STRINGS hcs g26_2 g26_3 g26_4 g26_5 (by decide : ¬ ((3 : Int32) < (0 : Int32))) (by decide : (3 : Int32) < (7 : Int32)) rfl O31 hr_SIOOBE_FORMATTER S_SIOOBE_FORMATTER (by decide : (((40 : Int32) &&& (255 : Int32)).toUInt32.toUInt16.toUInt32.toInt32) = (40 : Int32)) (by decide : ((40 : Int32).toUInt32.toUInt16.toUInt32.toInt32) = (40 : Int32))) hZ26 (hwi hw 178 rfl) (hwi hw 3 rfl) (by decide) (by decide)) q36a q36c (g := (mkF m 179 #[.val (.int p1), .val (.int p2), .val (.int p3), .val (.int p4), .val (.int 2), .val (.ref b1), .val (.ref b12), .val (.ref r_19), .val (.ref b12), .val (.ref r_26)] [(.int 3), (.ref r_26)])) rfl (by rw [hml]; rfl) (Steps.refl _) (argsL := [(.int 3)]) (rest := []) (lenOf pd_I_C_221 rfl) rfl (by show 2 * 0 + _ ≤ _; exact Nat.le_of_eq rfl) (hb hby at_179) (fun _ _ => ⟨rfl, e35, (by decide : 14 + 0 ≤ _), (by decide : 96 + 0 ≤ _)⟩)
  dsimp only [Pt.U, Pt.locs, Pt.cells, Pt.slots] at X36 l36 y36 z36 st36 hQ36
  subst l36 y36 z36
  obtain ⟨rfl, N36q, e36⟩ := hQ36
  have N36 := Fr.app N35 N36q
  obtain ⟨cq37, kq37, q37a, q37b, q37c⟩ := isOf hZ26 e36 g26_2
  obtain ⟨_, _, ⟨T37, L37, k37, n37⟩, -, X37, ⟨Lc37, hQ37, l37, y37, z37⟩, st37⟩ := X36.virtualBack hx (y := (⟨"java/lang/String", "charAt", "(I)C"⟩ : MethodName)) (z := (⟨"java/lang/String", "charAt", "(I)C"⟩ : MethodName)) ho26 (mvT hZ26 (hwi hw 174 rfl)) (mvT hZ26 (hwi hw 175 rfl)) (notFace_of_selects (args := #[]) (mvT hZ26 (hwi hw 177 rfl))) (mvT hZ26 (hwi hw 177 rfl)) (mvT hZ26 (hwi hw 176 rfl)) (by decide) (backOf (W := 0) (rm_schr l Z a0 hw [] r_26 (4 : Int32) w_COMPACT_STRINGS t_26 kt_26 [(.int 115), (.int 117), (.int 109), (.int 40), (.int (cA.toInt8.toInt32)), (.int (cB.toInt8.toInt32)), (.int 41)] (7 : Int32) (cA.toInt8.toInt32) cA w_SIOOBE_FORMATTER T26.heap n0 Z31 S_COMPACT_STRINGS hcs g26_2 g26_3 g26_4 g26_5 (by decide : ¬ ((4 : Int32) < (0 : Int32))) (by decide : (4 : Int32) < (7 : Int32)) rfl O31 hr_SIOOBE_FORMATTER S_SIOOBE_FORMATTER hkcA hncA) hZ26 (hwi hw 178 rfl) (hwi hw 3 rfl) (by decide) (by decide)) q37a q37c (g := (mkF m 197 #[.val (.int p1), .val (.int p2), .val (.int p3), .val (.int p4), .val (.int 2), .val (.ref b1), .val (.ref b12), .val (.ref r_19), .val (.ref b12), .val (.ref r_26)] [(.int 4), (.ref r_26)])) rfl (by rw [hml]; rfl) (Steps.refl _) (argsL := [(.int 4)]) (rest := []) (lenOf pd_I_C_221 rfl) rfl (by show 2 * 0 + _ ≤ _; exact Nat.le_of_eq rfl) (hb hby at_197) (fun _ _ => ⟨rfl, e36, (by decide : 14 + 0 ≤ _), (by decide : 96 + 0 ≤ _)⟩)
  dsimp only [Pt.U, Pt.locs, Pt.cells, Pt.slots] at X37 l37 y37 z37 st37 hQ37
  subst l37 y37 z37
  obtain ⟨rfl, N37q, e37⟩ := hQ37
  have N37 := Fr.app N36 N37q
  have fc38 := (((fc16.keep Kc15 (ninS (neN (by have := ltN V1.lt; have := ltN A12.lt; omega)) nin0)).keep Kc19 nin0).keep Kc26 nin0)
  obtain ⟨cl39, Ar39, q39, S39, M39, H39, G39⟩ := id fc38
  have hin39 : ¬ ((0 : Int32) < 0 ∨ cl39.slots.size ≤ ((0 : Int32)).toNatClampNeg) := inb_of S39 ⟨by decide, by decide⟩
  have hat39 : cl39.slots[((0 : Int32)).toNatClampNeg]? = some (.int cA) := H39.at hin39 rfl
  obtain ⟨cq40, kq40, q40a, q40b, q40c⟩ := isOf hZ26 e37 g26_2
  obtain ⟨_, _, ⟨T40, L40, k40, n40⟩, -, X40, ⟨Lc40, hQ40, l40, y40, z40⟩, st40⟩ := X37.virtualBack hx (y := (⟨"java/lang/String", "charAt", "(I)C"⟩ : MethodName)) (z := (⟨"java/lang/String", "charAt", "(I)C"⟩ : MethodName)) ho26 (mvT hZ26 (hwi hw 174 rfl)) (mvT hZ26 (hwi hw 175 rfl)) (notFace_of_selects (args := #[]) (mvT hZ26 (hwi hw 177 rfl))) (mvT hZ26 (hwi hw 177 rfl)) (mvT hZ26 (hwi hw 176 rfl)) (by decide) (backOf (W := 0) (rm_schr l Z a0 hw [] r_26 (5 : Int32) w_COMPACT_STRINGS t_26 kt_26 [(.int 115), (.int 117), (.int 109), (.int 40), (.int (cA.toInt8.toInt32)), (.int (cB.toInt8.toInt32)), (.int 41)] (7 : Int32) (cB.toInt8.toInt32) cB w_SIOOBE_FORMATTER T26.heap n0 Z31 S_COMPACT_STRINGS hcs g26_2 g26_3 g26_4 g26_5 (by decide : ¬ ((5 : Int32) < (0 : Int32))) (by decide : (5 : Int32) < (7 : Int32)) rfl O31 hr_SIOOBE_FORMATTER S_SIOOBE_FORMATTER hkcB hncB) hZ26 (hwi hw 178 rfl) (hwi hw 3 rfl) (by decide) (by decide)) q40a q40c (g := (mkF m 218 #[.val (.int p1), .val (.int p2), .val (.int p3), .val (.int p4), .val (.int 2), .val (.ref b1), .val (.ref b12), .val (.ref r_19), .val (.ref b12), .val (.ref r_26)] [(.int 5), (.ref r_26)])) rfl (by rw [hml]; rfl) (Steps.refl _) (argsL := [(.int 5)]) (rest := []) (lenOf pd_I_C_221 rfl) rfl (by show 2 * 0 + _ ≤ _; exact Nat.le_of_eq rfl) (hb hby at_218) (fun _ _ => ⟨rfl, e37, (by decide : 14 + 0 ≤ _), (by decide : 96 + 0 ≤ _)⟩)
  dsimp only [Pt.U, Pt.locs, Pt.cells, Pt.slots] at X40 l40 y40 z40 st40 hQ40
  subst l40 y40 z40
  obtain ⟨rfl, N40q, e40⟩ := hQ40
  have N40 := Fr.app N37 N40q
  obtain ⟨cl41, Ar41, q41, S41, M41, H41, G41⟩ := id fc38
  have hin41 : ¬ ((1 : Int32) < 0 ∨ cl41.slots.size ≤ ((1 : Int32)).toNatClampNeg) := inb_of S41 ⟨by decide, by decide⟩
  have hat41 : cl41.slots[((1 : Int32)).toNatClampNeg]? = some (.int cB) := H41.at hin41 rfl
  obtain ⟨cq42, kq42, q42a, q42b, q42c⟩ := isOf hZ26 e40 g26_2
  obtain ⟨_, _, ⟨T42, L42, k42, n42⟩, -, X42, ⟨Lc42, hQ42, l42, y42, z42⟩, st42⟩ := X40.virtualBack hx (y := (⟨"java/lang/String", "charAt", "(I)C"⟩ : MethodName)) (z := (⟨"java/lang/String", "charAt", "(I)C"⟩ : MethodName)) ho26 (mvT hZ26 (hwi hw 174 rfl)) (mvT hZ26 (hwi hw 175 rfl)) (notFace_of_selects (args := #[]) (mvT hZ26 (hwi hw 177 rfl))) (mvT hZ26 (hwi hw 177 rfl)) (mvT hZ26 (hwi hw 176 rfl)) (by decide) (backOf (W := 0) (rm_schr l Z a0 hw [] r_26 (6 : Int32) w_COMPACT_STRINGS t_26 kt_26 [(.int 115), (.int 117), (.int 109), (.int 40), (.int (cA.toInt8.toInt32)), (.int (cB.toInt8.toInt32)), (.int 41)] (7 : Int32) (41 : Int32) (41 : Int32) w_SIOOBE_FORMATTER T26.heap n0 Z31 S_COMPACT_STRINGS hcs g26_2 g26_3 g26_4 g26_5 (by decide : ¬ ((6 : Int32) < (0 : Int32))) (by decide : (6 : Int32) < (7 : Int32)) rfl O31 hr_SIOOBE_FORMATTER S_SIOOBE_FORMATTER (by decide : (((41 : Int32) &&& (255 : Int32)).toUInt32.toUInt16.toUInt32.toInt32) = (41 : Int32)) (by decide : ((41 : Int32).toUInt32.toUInt16.toUInt32.toInt32) = (41 : Int32))) hZ26 (hwi hw 178 rfl) (hwi hw 3 rfl) (by decide) (by decide)) q42a q42c (g := (mkF m 258 #[.val (.int p1), .val (.int p2), .val (.int p3), .val (.int p4), .val (.int 2), .val (.ref b1), .val (.ref b12), .val (.ref r_19), .val (.ref b12), .val (.ref r_26)] [(.int 6), (.ref r_26)])) rfl (by rw [hml]; rfl) (Steps.refl _) (argsL := [(.int 6)]) (rest := []) (lenOf pd_I_C_221 rfl) rfl (by show 2 * 0 + _ ≤ _; exact Nat.le_of_eq rfl) (hb hby at_258) (fun _ _ => ⟨rfl, e40, (by decide : 14 + 0 ≤ _), (by decide : 96 + 0 ≤ _)⟩)
  dsimp only [Pt.U, Pt.locs, Pt.cells, Pt.slots] at X42 l42 y42 z42 st42 hQ42
  subst l42 y42 z42
  obtain ⟨rfl, N42q, e42⟩ := hQ42
  have N42 := Fr.app N40 N42q
  have CRe := CR30.trans (CHv.at X42 hZ26 hEL R30.1)
  obtain ⟨fs, hr, hrun, hended, hRE⟩ := X42.leaveW hS26 (by rw [e42]; exact (Nat.le_refl T26.heap.size)) (v := some (.int 1)) (fun h => by rw [Bd.returns] at h; cases h)
  refine ⟨_, _, pre0 _ ?_, hrun, hended, _, _, rfl, ?_, ?_, ⟨hRE.1, hRE.2.1, hRE.2.2.1, hRE.2.2.2.mono (by decide) (by decide)⟩⟩
  · show St p e below s₁ (mkF m 0 #[.val (.int p1), .val (.int p2), .val (.int p3), .val (.int p4), .unset, .unset, .unset, .unset, .unset, .unset] []) _
    refine XS.iloadN X0.here hx rfl (hb hby at_0) rfl ?_
    refine XS.iconst X0.here hx rfl (hb hby at_1) ?_
    refine XS.iand X0.here hx rfl (hb hby at_2) rfl ?_
    show St p e below s₁ (mkF m 3 #[.val (.int p1), .val (.int p2), .val (.int p3), .val (.int p4), .unset, .unset, .unset, .unset, .unset, .unset] [(.int (p1 &&& (3 : Int32)))]) _
    rw [hk]
    show St p e below s₁ (mkF m 3 #[.val (.int p1), .val (.int p2), .val (.int p3), .val (.int p4), .unset, .unset, .unset, .unset, .unset, .unset] [(.int 2)]) _
    refine XS.istore X0.here hx rfl (hb hby at_3) rfl (l' := #[.val (.int p1), .val (.int p2), .val (.int p3), .val (.int p4), .val (.int 2), .unset, .unset, .unset, .unset, .unset]) rfl ?_
    refine XS.iload X0.here hx rfl (hb hby at_5) rfl ?_
    refine st1 _ ?_
    refine XS.astore X1.here hx rfl (hb hby at_9) rfl rfl (l' := #[.val (.int p1), .val (.int p2), .val (.int p3), .val (.int p4), .val (.int 2), .val (.ref b1), .unset, .unset, .unset, .unset]) rfl ?_
    show St p e below T1 (mkF m 11 #[.val (.int p1), .val (.int p2), .val (.int p3), .val (.int p4), .val (.int 2), .val (.ref b1), .unset, .unset, .unset, .unset] []) _
    refine XS.iload X1.here hx rfl (hb hby at_11) rfl ?_
    refine XS.ifNo X1.here hx rfl (hb hby at_13) rfl ((if0 _ _).trans (tlt (by decide : (0 : Int32) < (2 : Int32))).2.2.2) ?_
    refine XS.aload X1.here hx rfl (hb hby at_16) rfl rfl ?_
    refine XS.iconst X1.here hx rfl (hb hby at_18) ?_
    show St p e below T1 (mkF m 19 #[.val (.int p1), .val (.int p2), .val (.int p3), .val (.int p4), .val (.int 2), .val (.ref b1), .unset, .unset, .unset, .unset] [(.int 0), (.ref b1)]) _
    refine XS.iloadN X1.here hx rfl (hb hby at_19) rfl ?_
    refine XS.sipush X1.here hx rfl (hb hby at_20) ?_
    refine XS.iand X1.here hx rfl (hb hby at_23) rfl ?_
    refine XS.i2c X1.here hx rfl (hb hby at_24) rfl ?_
    show St p e below T1 (mkF m 25 #[.val (.int p1), .val (.int p2), .val (.int p3), .val (.int p4), .val (.int 2), .val (.ref b1), .unset, .unset, .unset, .unset] [(.int ((p2 &&& (255 : Int32)).toUInt32.toUInt16.toUInt32.toInt32)), (.int 0), (.ref b1)]) _
    rw [hcA]
    show St p e below T1 (mkF m 25 #[.val (.int p1), .val (.int p2), .val (.int p3), .val (.int p4), .val (.int 2), .val (.ref b1), .unset, .unset, .unset, .unset] [(.int cA), (.int 0), (.ref b1)]) _
    refine st5 _ ?_
    refine XS.iload X5.here hx rfl (hb hby at_26) rfl ?_
    refine XS.iconst X5.here hx rfl (hb hby at_28) ?_
    refine XS.icmpNo X5.here hx rfl (hb hby at_29) rfl (tlt (by decide : (1 : Int32) < (2 : Int32))).2.2.2 ?_
    show St p e below T5 (mkF m 32 #[.val (.int p1), .val (.int p2), .val (.int p3), .val (.int p4), .val (.int 2), .val (.ref b1), .unset, .unset, .unset, .unset] []) _
    refine XS.aload X5.here hx rfl (hb hby at_32) rfl rfl ?_
    refine XS.iconst X5.here hx rfl (hb hby at_34) ?_
    refine XS.iloadN X5.here hx rfl (hb hby at_35) rfl ?_
    refine XS.sipush X5.here hx rfl (hb hby at_36) ?_
    show St p e below T5 (mkF m 39 #[.val (.int p1), .val (.int p2), .val (.int p3), .val (.int p4), .val (.int 2), .val (.ref b1), .unset, .unset, .unset, .unset] [(.int 255), (.int p3), (.int 1), (.ref b1)]) _
    refine XS.iand X5.here hx rfl (hb hby at_39) rfl ?_
    refine XS.i2c X5.here hx rfl (hb hby at_40) rfl ?_
    show St p e below T5 (mkF m 41 #[.val (.int p1), .val (.int p2), .val (.int p3), .val (.int p4), .val (.int 2), .val (.ref b1), .unset, .unset, .unset, .unset] [(.int ((p3 &&& (255 : Int32)).toUInt32.toUInt16.toUInt32.toInt32)), (.int 1), (.ref b1)]) _
    rw [hcB]
    show St p e below T5 (mkF m 41 #[.val (.int p1), .val (.int p2), .val (.int p3), .val (.int p4), .val (.int 2), .val (.ref b1), .unset, .unset, .unset, .unset] [(.int cB), (.int 1), (.ref b1)]) _
    refine st9 _ ?_
    refine XS.iload X9.here hx rfl (hb hby at_42) rfl ?_
    refine XS.iconst X9.here hx rfl (hb hby at_44) ?_
    refine XS.icmpYes X9.here hx rfl (pc0 := 45) (pc' := 58) rfl (hb hby at_45) rfl (flt (by decide : ¬ ((2 : Int32) < (2 : Int32)))).2.2.2 (by decide) (by decide) ?_
    show St p e below T9 (mkF m 58 #[.val (.int p1), .val (.int p2), .val (.int p3), .val (.int p4), .val (.int 2), .val (.ref b1), .unset, .unset, .unset, .unset] []) _
    refine st12 _ ?_
    refine XS.dup X12.here hx rfl (hb hby at_61) rfl rfl ?_
    refine XS.aload X12.here hx rfl (hb hby at_62) rfl rfl ?_
    refine st15.trans ?_
    show St p e below T15 (mkF m 67 #[.val (.int p1), .val (.int p2), .val (.int p3), .val (.int p4), .val (.int 2), .val (.ref b1), .unset, .unset, .unset, .unset] [(.ref b12)]) _
    refine XS.astore X15.here hx rfl (hb hby at_67) rfl rfl (l' := #[.val (.int p1), .val (.int p2), .val (.int p3), .val (.int p4), .val (.int 2), .val (.ref b1), .val (.ref b12), .unset, .unset, .unset]) rfl ?_
    refine XS.aload X15.here hx rfl (hb hby at_69) rfl rfl ?_
    refine st19.trans ?_
    refine XS.astore X19.here hx rfl (hb hby at_74) rfl rfl (l' := #[.val (.int p1), .val (.int p2), .val (.int p3), .val (.int p4), .val (.int 2), .val (.ref b1), .val (.ref b12), .val (.ref r_19), .unset, .unset]) rfl ?_
    show St p e below T19 (mkF m 76 #[.val (.int p1), .val (.int p2), .val (.int p3), .val (.int p4), .val (.int 2), .val (.ref b1), .val (.ref b12), .val (.ref r_19), .unset, .unset] []) _
    refine XS.aload X19.here hx rfl (hb hby at_76) rfl rfl ?_
    refine XS.ifnonnullYes X19.here hx rfl (pc0 := 78) (pc' := 83) rfl (hb hby at_78) rfl (by decide) (by decide) ?_
    refine XS.aload X19.here hx rfl (hb hby at_83) rfl rfl ?_
    refine st22.trans ?_
    show St p e below T22 (mkF m 88 #[.val (.int p1), .val (.int p2), .val (.int p3), .val (.int p4), .val (.int 2), .val (.ref b1), .val (.ref b12), .val (.ref r_19), .unset, .unset] [(.ref b12)]) _
    refine XS.astore X22.here hx rfl (hb hby at_88) rfl rfl (l' := #[.val (.int p1), .val (.int p2), .val (.int p3), .val (.int p4), .val (.int 2), .val (.ref b1), .val (.ref b12), .val (.ref r_19), .val (.ref b12), .unset]) rfl ?_
    refine XS.aload X22.here hx rfl (hb hby at_90) rfl rfl ?_
    refine XS.ifnullNo X22.here hx rfl (hb hby at_92) rfl ?_
    refine XS.aload X22.here hx rfl (hb hby at_95) rfl rfl ?_
    show St p e below T22 (mkF m 97 #[.val (.int p1), .val (.int p2), .val (.int p3), .val (.int p4), .val (.int 2), .val (.ref b1), .val (.ref b12), .val (.ref r_19), .val (.ref b12), .unset] [(.ref b12)]) _
    refine XS.aload X22.here hx rfl (hb hby at_97) rfl rfl ?_
    refine st23.trans ?_
    refine XS.ifYes X23.here hx rfl (pc0 := 102) (pc' := 107) rfl (hb hby at_102) rfl ((if0 _ _).trans (feq (by decide : ¬ ((1 : Int32) = (0 : Int32)))).2) (by decide) (by decide) ?_
    refine XS.aload X23.here hx rfl (hb hby at_107) rfl rfl ?_
    show St p e below T23 (mkF m 109 #[.val (.int p1), .val (.int p2), .val (.int p3), .val (.int p4), .val (.int 2), .val (.ref b1), .val (.ref b12), .val (.ref r_19), .val (.ref b12), .unset] [(.ref r_19)]) _
    refine st25 _ ?_
    refine Jvm.RoadKit.acmp (g := (mkF m 112 #[.val (.int p1), .val (.int p2), .val (.int p3), .val (.int p4), .val (.int 2), .val (.ref b1), .val (.ref b12), .val (.ref r_19), .val (.ref b12), .unset] [(.ref w_COUNT), (.ref r_19)])) X25 hx rfl rfl rfl (pc0 := 112) (pc' := 117) (same := false) rfl (hb hby at_112) rfl (decide_eq_false fun q => (neN (by have := ltN E_w_COUNT.lt; have := O21.1; have := ltN g19_1.lt; omega)) (Value.ref.inj q)) (by decide) (by decide) ?_
    refine XS.aload X25.here hx rfl (hb hby at_117) rfl rfl ?_
    refine st26.trans ?_
    show St p e below T26 (mkF m 122 #[.val (.int p1), .val (.int p2), .val (.int p3), .val (.int p4), .val (.int 2), .val (.ref b1), .val (.ref b12), .val (.ref r_19), .val (.ref b12), .unset] [(.ref r_26)]) _
    refine XS.astore X26.here hx rfl (hb hby at_122) rfl rfl (l' := #[.val (.int p1), .val (.int p2), .val (.int p3), .val (.int p4), .val (.int 2), .val (.ref b1), .val (.ref b12), .val (.ref r_19), .val (.ref b12), .val (.ref r_26)]) rfl ?_
    refine XS.aload X26.here hx rfl (hb hby at_124) rfl rfl ?_
    refine XS.ifnullNo X26.here hx rfl (hb hby at_126) rfl ?_
    refine XS.aload X26.here hx rfl (hb hby at_129) rfl rfl ?_
    show St p e below T26 (mkF m 131 #[.val (.int p1), .val (.int p2), .val (.int p3), .val (.int p4), .val (.int 2), .val (.ref b1), .val (.ref b12), .val (.ref r_19), .val (.ref b12), .val (.ref r_26)] [(.ref r_26)]) _
    refine st32.trans ?_
    refine XS.iload X32.here hx rfl (hb hby at_134) rfl ?_
    refine XS.iconst X32.here hx rfl (hb hby at_136) ?_
    refine XS.iadd X32.here hx rfl (hb hby at_137) rfl ?_
    show St p e below T32 (mkF m 138 #[.val (.int p1), .val (.int p2), .val (.int p3), .val (.int p4), .val (.int 2), .val (.ref b1), .val (.ref b12), .val (.ref r_19), .val (.ref b12), .val (.ref r_26)] [(.int ((2 : Int32) + (5 : Int32))), (.int 7)]) _
    rw [(by decide : ((2 : Int32) + (5 : Int32)) = (7 : Int32))]
    show St p e below T32 (mkF m 138 #[.val (.int p1), .val (.int p2), .val (.int p3), .val (.int p4), .val (.int 2), .val (.ref b1), .val (.ref b12), .val (.ref r_19), .val (.ref b12), .val (.ref r_26)] [(.int 7), (.int 7)]) _
    refine XS.icmpYes X32.here hx rfl (pc0 := 138) (pc' := 143) rfl (hb hby at_138) rfl (teq (by decide : (7 : Int32) = (7 : Int32))).1 (by decide) (by decide) ?_
    refine XS.aload X32.here hx rfl (hb hby at_143) rfl rfl ?_
    refine XS.iconst X32.here hx rfl (hb hby at_145) ?_
    refine st33.trans ?_
    show St p e below T33 (mkF m 149 #[.val (.int p1), .val (.int p2), .val (.int p3), .val (.int p4), .val (.int 2), .val (.ref b1), .val (.ref b12), .val (.ref r_19), .val (.ref b12), .val (.ref r_26)] [(.int 115)]) _
    refine XS.bipush X33.here hx rfl (hb hby at_149) ?_
    refine XS.icmpNo X33.here hx rfl (hb hby at_151) rfl (teq (by decide : (115 : Int32) = (115 : Int32))).2 ?_
    refine XS.aload X33.here hx rfl (hb hby at_154) rfl rfl ?_
    refine XS.iconst X33.here hx rfl (hb hby at_156) ?_
    show St p e below T33 (mkF m 157 #[.val (.int p1), .val (.int p2), .val (.int p3), .val (.int p4), .val (.int 2), .val (.ref b1), .val (.ref b12), .val (.ref r_19), .val (.ref b12), .val (.ref r_26)] [(.int 1), (.ref r_26)]) _
    refine st34.trans ?_
    refine XS.bipush X34.here hx rfl (hb hby at_160) ?_
    refine XS.icmpNo X34.here hx rfl (hb hby at_162) rfl (teq (by decide : (117 : Int32) = (117 : Int32))).2 ?_
    refine XS.aload X34.here hx rfl (hb hby at_165) rfl rfl ?_
    show St p e below T34 (mkF m 167 #[.val (.int p1), .val (.int p2), .val (.int p3), .val (.int p4), .val (.int 2), .val (.ref b1), .val (.ref b12), .val (.ref r_19), .val (.ref b12), .val (.ref r_26)] [(.ref r_26)]) _
    refine XS.iconst X34.here hx rfl (hb hby at_167) ?_
    refine st35.trans ?_
    refine XS.bipush X35.here hx rfl (hb hby at_171) ?_
    refine XS.icmpNo X35.here hx rfl (hb hby at_173) rfl (teq (by decide : (109 : Int32) = (109 : Int32))).2 ?_
    show St p e below T35 (mkF m 176 #[.val (.int p1), .val (.int p2), .val (.int p3), .val (.int p4), .val (.int 2), .val (.ref b1), .val (.ref b12), .val (.ref r_19), .val (.ref b12), .val (.ref r_26)] []) _
    refine XS.aload X35.here hx rfl (hb hby at_176) rfl rfl ?_
    refine XS.iconst X35.here hx rfl (hb hby at_178) ?_
    refine st36.trans ?_
    refine XS.bipush X36.here hx rfl (hb hby at_182) ?_
    show St p e below T36 (mkF m 184 #[.val (.int p1), .val (.int p2), .val (.int p3), .val (.int p4), .val (.int 2), .val (.ref b1), .val (.ref b12), .val (.ref r_19), .val (.ref b12), .val (.ref r_26)] [(.int 40), (.int 40)]) _
    refine XS.icmpYes X36.here hx rfl (pc0 := 184) (pc' := 189) rfl (hb hby at_184) rfl (teq (by decide : (40 : Int32) = (40 : Int32))).1 (by decide) (by decide) ?_
    refine XS.iload X36.here hx rfl (hb hby at_189) rfl ?_
    refine XS.ifNo X36.here hx rfl (hb hby at_191) rfl ((if0 _ _).trans (tlt (by decide : (0 : Int32) < (2 : Int32))).2.2.2) ?_
    refine XS.aload X36.here hx rfl (hb hby at_194) rfl rfl ?_
    show St p e below T36 (mkF m 196 #[.val (.int p1), .val (.int p2), .val (.int p3), .val (.int p4), .val (.int 2), .val (.ref b1), .val (.ref b12), .val (.ref r_19), .val (.ref b12), .val (.ref r_26)] [(.ref r_26)]) _
    refine XS.iconst X36.here hx rfl (hb hby at_196) ?_
    refine st37.trans ?_
    refine XS.aload X37.here hx rfl (hb hby at_200) rfl rfl ?_
    refine XS.iconst X37.here hx rfl (hb hby at_202) ?_
    show St p e below T37 (mkF m 203 #[.val (.int p1), .val (.int p2), .val (.int p3), .val (.int p4), .val (.int 2), .val (.ref b1), .val (.ref b12), .val (.ref r_19), .val (.ref b12), .val (.ref r_26)] [(.int 0), (.ref b1), (.int cA)]) _
    refine X37.caload hx (j := (0 : Int32)) (v := (.int cA)) (by rw [e37]; exact Ar39.1) (State.isArrayOf_alike hZ26.alike Ar39.2.1) Ar39.2.2 hin39 hat39 (g := (mkF m 203 #[.val (.int p1), .val (.int p2), .val (.int p3), .val (.int p4), .val (.int 2), .val (.ref b1), .val (.ref b12), .val (.ref r_19), .val (.ref b12), .val (.ref r_26)] [(.int 0), (.ref b1), (.int cA)])) rfl rfl (hb hby at_203) _ ?_
    refine XS.icmpYes X37.here hx rfl (pc0 := 204) (pc' := 209) rfl (hb hby at_204) rfl (teq (rfl : cA = cA)).1 (by decide) (by decide) ?_
    refine XS.iload X37.here hx rfl (hb hby at_209) rfl ?_
    refine XS.iconst X37.here hx rfl (hb hby at_211) ?_
    show St p e below T37 (mkF m 212 #[.val (.int p1), .val (.int p2), .val (.int p3), .val (.int p4), .val (.int 2), .val (.ref b1), .val (.ref b12), .val (.ref r_19), .val (.ref b12), .val (.ref r_26)] [(.int 1), (.int 2)]) _
    refine XS.icmpNo X37.here hx rfl (hb hby at_212) rfl (tlt (by decide : (1 : Int32) < (2 : Int32))).2.2.2 ?_
    refine XS.aload X37.here hx rfl (hb hby at_215) rfl rfl ?_
    refine XS.iconst X37.here hx rfl (hb hby at_217) ?_
    refine st40.trans ?_
    show St p e below T40 (mkF m 221 #[.val (.int p1), .val (.int p2), .val (.int p3), .val (.int p4), .val (.int 2), .val (.ref b1), .val (.ref b12), .val (.ref r_19), .val (.ref b12), .val (.ref r_26)] [(.int cB)]) _
    refine XS.aload X40.here hx rfl (hb hby at_221) rfl rfl ?_
    refine XS.iconst X40.here hx rfl (hb hby at_223) ?_
    refine X40.caload hx (j := (1 : Int32)) (v := (.int cB)) (by rw [e40]; exact Ar41.1) (State.isArrayOf_alike hZ26.alike Ar41.2.1) Ar41.2.2 hin41 hat41 (g := (mkF m 224 #[.val (.int p1), .val (.int p2), .val (.int p3), .val (.int p4), .val (.int 2), .val (.ref b1), .val (.ref b12), .val (.ref r_19), .val (.ref b12), .val (.ref r_26)] [(.int 1), (.ref b1), (.int cB)])) rfl rfl (hb hby at_224) _ ?_
    refine XS.icmpYes X40.here hx rfl (pc0 := 225) (pc' := 230) rfl (hb hby at_225) rfl (teq (rfl : cB = cB)).1 (by decide) (by decide) ?_
    show St p e below T40 (mkF m 230 #[.val (.int p1), .val (.int p2), .val (.int p3), .val (.int p4), .val (.int 2), .val (.ref b1), .val (.ref b12), .val (.ref r_19), .val (.ref b12), .val (.ref r_26)] []) _
    refine XS.iload X40.here hx rfl (hb hby at_230) rfl ?_
    refine XS.iconst X40.here hx rfl (hb hby at_232) ?_
    refine XS.icmpYes X40.here hx rfl (pc0 := 233) (pc' := 252) rfl (hb hby at_233) rfl (flt (by decide : ¬ ((2 : Int32) < (2 : Int32)))).2.2.2 (by decide) (by decide) ?_
    refine XS.aload X40.here hx rfl (hb hby at_252) rfl rfl ?_
    show St p e below T40 (mkF m 254 #[.val (.int p1), .val (.int p2), .val (.int p3), .val (.int p4), .val (.int 2), .val (.ref b1), .val (.ref b12), .val (.ref r_19), .val (.ref b12), .val (.ref r_26)] [(.ref r_26)]) _
    refine XS.iload X40.here hx rfl (hb hby at_254) rfl ?_
    refine XS.iconst X40.here hx rfl (hb hby at_256) ?_
    refine XS.iadd X40.here hx rfl (hb hby at_257) rfl ?_
    show St p e below T40 (mkF m 258 #[.val (.int p1), .val (.int p2), .val (.int p3), .val (.int p4), .val (.int 2), .val (.ref b1), .val (.ref b12), .val (.ref r_19), .val (.ref b12), .val (.ref r_26)] [(.int ((2 : Int32) + (4 : Int32))), (.ref r_26)]) _
    rw [(by decide : ((2 : Int32) + (4 : Int32)) = (6 : Int32))]
    show St p e below T40 (mkF m 258 #[.val (.int p1), .val (.int p2), .val (.int p3), .val (.int p4), .val (.int 2), .val (.ref b1), .val (.ref b12), .val (.ref r_19), .val (.ref b12), .val (.ref r_26)] [(.int 6), (.ref r_26)]) _
    refine st42.trans ?_
    refine XS.bipush X42.here hx rfl (hb hby at_261) ?_
    refine XS.icmpNo X42.here hx rfl (hb hby at_263) rfl (teq (by decide : (41 : Int32) = (41 : Int32))).2 ?_
    refine XS.iconst X42.here hx rfl (hb hby at_266) ?_
    show St p e below T42 (mkF m 267 #[.val (.int p1), .val (.int p2), .val (.int p3), .val (.int p4), .val (.int 2), .val (.ref b1), .val (.ref b12), .val (.ref r_19), .val (.ref b12), .val (.ref r_26)] [(.int 1)]) _
    refine XS.goto X42.here hx rfl (pc0 := 267) (pc' := 271) rfl (hb hby at_267) (by decide) (by decide) ?_
    show St p e below T42 (mkF m 271 #[.val (.int p1), .val (.int p2), .val (.int p3), .val (.int p4), .val (.int 2), .val (.ref b1), .val (.ref b12), .val (.ref r_19), .val (.ref b12), .val (.ref r_26)] [(.int 1)]) _
    exact retN X42 hx (t := .boolean) Bd.returns (by simp) (hb hby at_271) hr
  · exact ⟨rfl, N42⟩
  · show CHr Z consts_1 s.vm s.heap T42.vm T42.heap
    rw [hh, e42]
    exact CRe
set_option maxRecDepth 65536 in
set_option maxHeartbeats 40000000 in
theorem rm_law_3 (l : Launch) (Z : State) (a0 : Array Value) (hw : ∀ d ∈ tables_1, d.before a0 Z = true) (hEL : EW Z a0 consts_1) (ws : List Jvm.Cond) (p1 : Int32) (p2 : Int32) (p3 : Int32) (p4 : Int32) (w_COMPACT_STRINGS : Int32) (w_COUNT : Addr) (cA : Int32) (cB : Int32) (cC : Int32) (w_SIOOBE_FORMATTER : Value) (h0 : Heap) (n0 : Nat) (Z0 : n0 ≤ h0.size) (S_COMPACT_STRINGS : Sta Z Z.heap "java/lang/String" "COMPACT_STRINGS" "Z" (.int w_COMPACT_STRINGS)) (hcs : ¬ (w_COMPACT_STRINGS = (0 : Int32))) (S_COUNT : Sta Z Z.heap "com/example/sunder/sunder/Aggregate" "COUNT" "Lcom/example/sunder/sunder/Aggregate;" (.ref w_COUNT)) (O0 : Old Z n0 h0) (E_w_COUNT : Exa Z Z.heap w_COUNT "com/example/sunder/sunder/Aggregate") (hbcA : ¬ ((255 : Int32) < cA)) (hkcA : (((cA.toInt8.toInt32) &&& (255 : Int32)).toUInt32.toUInt16.toUInt32.toInt32) = cA) (hbcB : ¬ ((255 : Int32) < cB)) (hkcB : (((cB.toInt8.toInt32) &&& (255 : Int32)).toUInt32.toUInt16.toUInt32.toInt32) = cB) (hbcC : ¬ ((255 : Int32) < cC)) (hkcC : (((cC.toInt8.toInt32) &&& (255 : Int32)).toUInt32.toUInt16.toUInt32.toInt32) = cC) (hk : (p1 &&& (3 : Int32)) = (3 : Int32)) (hcA : ((p2 &&& (255 : Int32)).toUInt32.toUInt16.toUInt32.toInt32) = cA) (hncA : (cA.toUInt32.toUInt16.toUInt32.toInt32) = cA) (hcB : ((p3 &&& (255 : Int32)).toUInt32.toUInt16.toUInt32.toInt32) = cB) (hncB : (cB.toUInt32.toUInt16.toUInt32.toInt32) = cB) (hcC : ((p4 &&& (255 : Int32)).toUInt32.toUInt16.toUInt32.toInt32) = cC) (hncC : (cC.toUInt32.toUInt16.toUInt32.toInt32) = cC) (hr_SIOOBE_FORMATTER : w_SIOOBE_FORMATTER.isRef = true) (S_SIOOBE_FORMATTER : Sta Z Z.heap "jdk/internal/util/Preconditions" "SIOOBE_FORMATTER" "Ljava/util/function/BiFunction;" w_SIOOBE_FORMATTER) :
    MetFree l x (head1 (Jvm.Cond.code x code maxLocals ret :: ws) room_1) (fun a U => a = #[(.int p1), (.int p2), (.int p3), (.int p4)] ∧ Z.Warmed39 U.vm ∧ U.heap = h0 ∧ CHv Z consts_1 U.vm h0) (fun _ _ _ _ _ => True) (fun _ U o U' => ∃ v L, o = .returned v ∧ Q_law n0 v L ∧ CHr Z consts_1 U.vm U.heap U'.vm U'.heap ∧ ReturnedEndW U o U' L room_1.cells room_1.slots) := by
  refine MetFree.of_bodySF (plainFor_of_name pn_0) hisR ?_
  intro p e s m args below meth c s₁ Bd hml0 hP hK
  obtain ⟨rfl, hZ, hh, H0c⟩ := hP
  have hx := Bd.exec
  have hby := Bd.bytes
  have hml : c.maxLocals = 10 := hml0
  have hown : s.vm.findClass "com/example/sunder/sunder/AggregateSumPinLaw" = some m.cls := findClass_of_methodNamed Bd.named
  have hnm := (name_of_methodNamed Bd.named Bd.method).1
  have X0 : Stand p l e room_1 (s.setVm s.vm) m #[(.int p1), (.int p2), (.int p3), (.int p4)] below meth c s₁ [] 0 0 := Stand.of_body Bd
  have e0 : s₁.heap = h0 := by rw [← hh, Bd.state]; rfl
  have N0 := Fr.nil n0
  have pre0 : ∀ t, Steps p.tables e below (s₁.setTop (mkF m 0 #[.val (.int p1), .val (.int p2), .val (.int p3), .val (.int p4), .unset, .unset, .unset, .unset, .unset, .unset] [])) t → Steps p.tables e below (s₁.setTop (entryFrame m #[(.int p1), (.int p2), (.int p3), (.int p4)] maxLocals)) t := fun t k => castTop (ef_0_IIII m p1 p2 p3 p4) k
  have hS0 : s.Since s.vm 0 := (State.WarmedH.refl s).since 0
  have hk0 : 0 ≤ h0.size := Nat.zero_le _
  have C0c : CHr Z consts_1 s.vm h0 s.vm h0 := CHr.refl H0c
  obtain ⟨T1, h1, k1, X1, e1, E1, A1, st1⟩ := newP X0 hx hZ (hwi hw 0 rfl) e0 (g := (mkF m 7 #[.val (.int p1), .val (.int p2), .val (.int p3), .val (.int p4), .val (.int 3), .unset, .unset, .unset, .unset, .unset] [(.int 3)])) rfl (hb hby at_7) rfl (by decide) (cap := 3) (by decide) (by decide) (by decide) (by decide)
  obtain ⟨b1, g1⟩ : ∃ z, z = h0.size := ⟨_, rfl⟩
  rw [← g1] at A1 st1
  have bn_b1 : h0.size ≤ b1 := Nat.le_of_eq g1.symm
  have R2 := CHr.ext E1 H0c
  have CR2 := C0c.trans R2
  have sz3 : h0.size ≤ h1.size := E1.1
  have Z3 : n0 ≤ h1.size := Nat.le_trans Z0 sz3
  have hk3 := Nat.le_trans hk0 sz3
  have O3 := O0.ext E1
  have K3 : Keep h0 h1 [] := (Keep.refl h0 []).ext E1
  have V1 : Arv Z h1 b1 k1 .char (3 : Int32) [(.int 0), (.int 0), (.int 0)] (.int 0) := (Arv.new A1 (by decide)).pad (pad_rep [] (.int 0) 3)
  obtain ⟨cl4, Ar4, q4, S4, M4, H4, G4⟩ := id V1
  have hin4 : ¬ ((0 : Int32) < 0 ∨ cl4.slots.size ≤ ((0 : Int32)).toNatClampNeg) := inb_of S4 ⟨by decide, by decide⟩
  obtain ⟨T5, h5, X5, e5, W5, st5⟩ := stC X1 hx hZ e1 Ar4 (j := (0 : Int32)) hin4 (g := (mkF m 25 #[.val (.int p1), .val (.int p2), .val (.int p3), .val (.int p4), .val (.int 3), .val (.ref b1), .unset, .unset, .unset, .unset] [(.int cA), (.int 0), (.ref b1)])) rfl rfl (hb hby at_25)
  have N5 := Fr.snoc X5 N0 (Nat.le_trans Z0 bn_b1)
  have V5 : Arv Z h5 b1 k1 .char (3 : Int32) [(.int (cA.toUInt32.toUInt16.toUInt32.toInt32)), (.int 0), (.int 0)] (.int 0) := Arv.set Ar4 q4 S4 M4 H4 G4 (fits_nar_char _) W5 0 rfl (Nat.le_of_ble_eq_true rfl)
  rw [hncA] at V5
  have R6 := CHr.wr W5 (Safe.arv hZ.alike V1 (by decide)) R2.1
  have CR6 := CR2.trans R6
  have sz7 : h1.size ≤ h5.size := Nat.le_of_eq W5.size.symm
  have Z7 : n0 ≤ h5.size := Nat.le_trans Z3 sz7
  have hk7 := Nat.le_trans hk3 sz7
  have O7 := O3.wr W5 (Nat.le_trans Z0 bn_b1)
  have K7 : Keep h0 h5 [] := K3.wr W5 (Or.inr bn_b1)
  obtain ⟨cl8, Ar8, q8, S8, M8, H8, G8⟩ := id V5
  have hin8 : ¬ ((1 : Int32) < 0 ∨ cl8.slots.size ≤ ((1 : Int32)).toNatClampNeg) := inb_of S8 ⟨by decide, by decide⟩
  obtain ⟨T9, h9, X9, e9, W9, st9⟩ := stC X5 hx hZ e5 Ar8 (j := (1 : Int32)) hin8 (g := (mkF m 41 #[.val (.int p1), .val (.int p2), .val (.int p3), .val (.int p4), .val (.int 3), .val (.ref b1), .unset, .unset, .unset, .unset] [(.int cB), (.int 1), (.ref b1)])) rfl rfl (hb hby at_41)
  have N9 := Fr.snoc X9 N5 (Nat.le_trans Z0 bn_b1)
  have V9 : Arv Z h9 b1 k1 .char (3 : Int32) [(.int cA), (.int (cB.toUInt32.toUInt16.toUInt32.toInt32)), (.int 0)] (.int 0) := Arv.set Ar8 q8 S8 M8 H8 G8 (fits_nar_char _) W9 1 rfl (Nat.le_of_ble_eq_true rfl)
  rw [hncB] at V9
  have R10 := CHr.wr W9 (Safe.arv hZ.alike V5 (by decide)) R6.1
  have CR10 := CR6.trans R10
  have sz11 : h5.size ≤ h9.size := Nat.le_of_eq W9.size.symm
  have Z11 : n0 ≤ h9.size := Nat.le_trans Z7 sz11
  have hk11 := Nat.le_trans hk7 sz11
  have O11 := O7.wr W9 (Nat.le_trans Z0 bn_b1)
  have K11 : Keep h0 h9 [] := K7.wr W9 (Or.inr bn_b1)
  obtain ⟨cl12, Ar12, q12, S12, M12, H12, G12⟩ := id V9
  have hin12 : ¬ ((2 : Int32) < 0 ∨ cl12.slots.size ≤ ((2 : Int32)).toNatClampNeg) := inb_of S12 ⟨by decide, by decide⟩
  obtain ⟨T13, h13, X13, e13, W13, st13⟩ := stC X9 hx hZ e9 Ar12 (j := (2 : Int32)) hin12 (g := (mkF m 57 #[.val (.int p1), .val (.int p2), .val (.int p3), .val (.int p4), .val (.int 3), .val (.ref b1), .unset, .unset, .unset, .unset] [(.int cC), (.int 2), (.ref b1)])) rfl rfl (hb hby at_57)
  have N13 := Fr.snoc X13 N9 (Nat.le_trans Z0 bn_b1)
  have V13 : Arv Z h13 b1 k1 .char (3 : Int32) [(.int cA), (.int cB), (.int (cC.toUInt32.toUInt16.toUInt32.toInt32))] (.int 0) := Arv.set Ar12 q12 S12 M12 H12 G12 (fits_nar_char _) W13 2 rfl (Nat.le_of_ble_eq_true rfl)
  rw [hncC] at V13
  have R14 := CHr.wr W13 (Safe.arv hZ.alike V9 (by decide)) R10.1
  have CR14 := CR10.trans R14
  have sz15 : h9.size ≤ h13.size := Nat.le_of_eq W13.size.symm
  have Z15 : n0 ≤ h13.size := Nat.le_trans Z11 sz15
  have hk15 := Nat.le_trans hk11 sz15
  have O15 := O11.wr W13 (Nat.le_trans Z0 bn_b1)
  have K15 : Keep h0 h13 [] := K11.wr W13 (Or.inr bn_b1)
  obtain ⟨T16, h16, X16, e16, E16, A16, D16, -, st16⟩ := newO X13 hx hZ hown (hwi hw 1 rfl) (hwi hw 2 rfl) (hwi hw 3 rfl) e13 (g := (mkF m 58 #[.val (.int p1), .val (.int p2), .val (.int p3), .val (.int p4), .val (.int 3), .val (.ref b1), .unset, .unset, .unset, .unset] [])) rfl (hb hby at_58) (by decide) (by decide)
  obtain ⟨b16, g16⟩ : ∃ z, z = h13.size := ⟨_, rfl⟩
  rw [← g16] at A16 D16 st16
  have bn_b16 : h0.size ≤ b16 := Nat.le_trans K15.1 (Nat.le_of_eq g16.symm)
  have sfb16 : Safe Z consts_1 s.vm h13 b16 := Safe.new (Nat.le_of_eq g16.symm)
  have R17 := CHr.ext E16 R14.1
  have sf_b16_17 := Safe.ext E16 R14.1 sfb16
  have CR17 := CR14.trans R17
  have sz18 : h13.size ≤ h16.size := E16.1
  have Z18 : n0 ≤ h16.size := Nat.le_trans Z15 sz18
  have hk18 := Nat.le_trans hk15 sz18
  have O18 := O15.ext E16
  have K18 : Keep h0 h16 [] := K15.ext E16
  have F16_value : Fld Z h16 b16 "java/lang/String" "value" "[B" .null := D16 (Or.inr (hwi hw 16 rfl)) (ty := (.array .byte)) (by decide)
  have F16_coder : Fld Z h16 b16 "java/lang/String" "coder" "B" (.int 0) := D16 (Or.inr (hwi hw 17 rfl)) (ty := .byte) (by decide)
  have fc20 := (V13.ext E16)
  obtain ⟨_, _, ⟨T19, L19, k19, n19⟩, -, X19, ⟨Lc19, hQ19, l19, y19, z19⟩, st19⟩ := X16.specialBack hx (y := (⟨"java/lang/String", "<init>", "([C)V"⟩ : MethodName)) rfl hown (mvT hZ (hwi hw 4 rfl)) (mvT hZ (hwi hw 5 rfl)) (mvT hZ (hwi hw 6 rfl)) (by decide) (backOf (W := 1) (rm_new1_3 l Z a0 hw [] b16 b1 w_COMPACT_STRINGS k1 cA cB cC (.int 0) .null h16 n0 Z18 S_COMPACT_STRINGS hcs fc20 hbcA hbcB hbcC O18 A16 F16_coder (Nat.le_trans Z0 bn_b16) F16_value) hZ (hwi hw 6 rfl) (hwi hw 3 rfl) (by decide) (by decide)) (g := (mkF m 64 #[.val (.int p1), .val (.int p2), .val (.int p3), .val (.int p4), .val (.int 3), .val (.ref b1), .unset, .unset, .unset, .unset] [(.ref b1), (.ref b16), (.ref b16)])) rfl (by rw [hml]; rfl) (Steps.refl _) (a := b16) (argsL := [(.ref b1)]) (rest := [(.ref b16)]) (lenOf pd_C_V_325 rfl) rfl (by show 2 * 0 + _ ≤ _; exact Nat.le_of_eq rfl) (hb hby at_64) (fun _ _ => ⟨rfl, e16, (by decide : 2 + 1 ≤ _), (by decide : 7 + 3 ≤ _)⟩)
  dsimp only [Pt.U, Pt.locs, Pt.cells, Pt.slots] at X19 l19 y19 z19 st19 hQ19
  subst l19 y19 z19
  obtain ⟨t_19, kt_19, rfl, N19q, Kc19, g19_0, g19_1, g19_2, g19_3, g19_4⟩ := hQ19
  have N19 := Fr.app N13 N19q
  have sfb19_3 : Safe Z consts_1 s.vm h16 t_19 := Safe.new g19_3
  have R21 := CHr.keep Kc19 (sfS sf_b16_17 sf0) R17.1
  have sf_b16_21 := Safe.keep Kc19 (sfS sf_b16_17 sf0) R17.1 sf_b16_17
  have sf_t_19_21 := Safe.keep Kc19 (sfS sf_b16_17 sf0) R17.1 sfb19_3
  have CR21 := CR17.trans R21
  have sz22 : h16.size ≤ T19.heap.size := Kc19.1
  have Z22 : n0 ≤ T19.heap.size := Nat.le_trans Z18 sz22
  have hk22 := Nat.le_trans hk18 sz22
  have O22 := O18.keep Kc19 (allS (Nat.le_trans Z0 bn_b16) all0)
  have K22 : Keep h0 T19.heap [] := K18.trans Kc19 (allS (Or.inr bn_b16) (all0))
  have bn_t_19 : h0.size ≤ t_19 := Nat.le_trans K18.1 g19_3
  obtain ⟨_, _, ⟨T23, L23, k23, n23⟩, -, X23, hS23, gr23, ⟨Lc23, hQ23, l23, y23, z23, C23⟩, st23⟩ := callSS X19 hx (y := (⟨"com/example/sunder/sunder/Aggregate", "sum", "(Ljava/lang/String;)Lcom/example/sunder/sunder/Aggregate;"⟩ : MethodName)) hown (mvT hZ (hwi hw 22 rfl)) (mvT hZ (hwi hw 23 rfl)) (mvT hZ (hwi hw 24 rfl)) (mvT hZ (hwi hw 25 rfl)) (by decide) (backOfSH (s := s) (vm0 := s.vm) (EL := consts_1) (W := 0) (rm_sum l Z a0 hw hEL [] b16 T19.heap n0 Z22 g19_0 O22) hZ (hwi hw 25 rfl) (hwi hw 24 rfl) (by decide) (by decide) hEL R21.1) (g := (mkF m 71 #[.val (.int p1), .val (.int p2), .val (.int p3), .val (.int p4), .val (.int 3), .val (.ref b1), .val (.ref b16), .unset, .unset, .unset] [(.ref b16)])) rfl (by rw [hml]; rfl) (argsL := [(.ref b16)]) (rest := []) (lenOf pd_Ljava_lang_String__Lcom_example_sunder_sunder_Aggregate_384 rfl) rfl (by show 2 * 0 + _ ≤ _; exact Nat.le_of_eq rfl) (hb hby at_71) (fun _ _ => ⟨rfl, rfl, (by decide : 3 + 3 ≤ _), (by decide : 10 + 29 ≤ _)⟩)
  dsimp only [Pt.U, Pt.locs, Pt.cells, Pt.slots] at X23 l23 y23 z23 st23 hQ23 hS23 gr23 C23
  subst l23 y23 z23
  obtain ⟨X23, hS23, hZ23, ho23⟩ := rebS hS0 hk22 X23 hS23 gr23 hZ hown
  obtain ⟨r_23, rfl, N23q, Kc23, g23_0, g23_1, g23_2⟩ := hQ23
  have N23 := Fr.app N19 N23q
  have sf_b16_24 := CHr.safe C23 (show b16 < T19.heap.size from ltN (by have := ltN A16.lt; omega)) sf_b16_21
  have sf_t_19_24 := CHr.safe C23 (show t_19 < T19.heap.size from ltN (by have := ltN g19_4.lt; omega)) sf_t_19_21
  have R24 := C23
  have CR24 := CR21.trans R24
  have sz25 : T19.heap.size ≤ T23.heap.size := Kc23.1
  have Z25 : n0 ≤ T23.heap.size := Nat.le_trans Z22 sz25
  have O25 := O22.keep Kc23 all0
  have K25 : Keep h0 T23.heap [] := K22.trans Kc23 (all0)
  have bn_r_23 : h0.size ≤ r_23 := Nat.le_trans K22.1 g23_0
  obtain ⟨cq26, kq26, q26a, q26b, q26c⟩ := isOf hZ23 rfl g23_1
  obtain ⟨_, _, ⟨T26, L26, k26, n26⟩, -, X26, ⟨Lc26, hQ26, l26, y26, z26⟩, st26⟩ := X23.virtualBack hx (y := (⟨"com/example/sunder/sunder/Aggregate", "column", "()Ljava/lang/String;"⟩ : MethodName)) (z := (⟨"com/example/sunder/sunder/Aggregate", "column", "()Ljava/lang/String;"⟩ : MethodName)) ho23 (mvT hZ23 (hwi hw 40 rfl)) (mvT hZ23 (hwi hw 41 rfl)) (notFace_of_selects (args := #[]) (mvT hZ23 (hwi hw 43 rfl))) (mvT hZ23 (hwi hw 43 rfl)) (mvT hZ23 (hwi hw 42 rfl)) (by decide) (backOf (W := 0) (rm_column l Z a0 hw [] r_23 b16 T23.heap n0 Z25 g23_2) hZ23 (hwi hw 44 rfl) (hwi hw 24 rfl) (by decide) (by decide)) q26a q26c (g := (mkF m 85 #[.val (.int p1), .val (.int p2), .val (.int p3), .val (.int p4), .val (.int 3), .val (.ref b1), .val (.ref b16), .val (.ref r_23), .unset, .unset] [(.ref r_23)])) rfl (by rw [hml]; rfl) (Steps.refl _) (argsL := []) (rest := []) (lenOf pd_Ljava_lang_String_777 rfl) rfl (by show 2 * 0 + _ ≤ _; exact Nat.le_of_eq rfl) (hb hby at_85) (fun _ _ => ⟨rfl, rfl, (by decide : 6 + 0 ≤ _), (by decide : 39 + 0 ≤ _)⟩)
  dsimp only [Pt.U, Pt.locs, Pt.cells, Pt.slots] at X26 l26 y26 z26 st26 hQ26
  subst l26 y26 z26
  obtain ⟨rfl, N26q, e26⟩ := hQ26
  have N26 := Fr.app N23 N26q
  have fc28 := (g19_0.keep Kc23)
  obtain ⟨cq27, kq27, q27a, q27b, q27c⟩ := isOf hZ23 e26 fc28
  obtain ⟨_, _, ⟨T27, L27, k27, n27⟩, -, X27, ⟨Lc27, hQ27, l27, y27, z27⟩, st27⟩ := X26.virtualBack hx (y := (⟨"java/lang/String", "equals", "(Ljava/lang/Object;)Z"⟩ : MethodName)) (z := (⟨"java/lang/String", "equals", "(Ljava/lang/Object;)Z"⟩ : MethodName)) ho23 (mvT hZ23 (hwi hw 45 rfl)) (mvT hZ23 (hwi hw 46 rfl)) (notFace_of_selects (args := #[]) (mvT hZ23 (hwi hw 48 rfl))) (mvT hZ23 (hwi hw 48 rfl)) (mvT hZ23 (hwi hw 47 rfl)) (by decide) (backOf (W := 0) (rm_eqsame l Z a0 hw [] b16 T23.heap n0 Z25) hZ23 (hwi hw 49 rfl) (hwi hw 3 rfl) (by decide) (by decide)) q27a q27c (g := (mkF m 99 #[.val (.int p1), .val (.int p2), .val (.int p3), .val (.int p4), .val (.int 3), .val (.ref b1), .val (.ref b16), .val (.ref r_23), .val (.ref b16), .unset] [(.ref b16), (.ref b16)])) rfl (by rw [hml]; rfl) (Steps.refl _) (argsL := [(.ref b16)]) (rest := []) (lenOf pd_Ljava_lang_Object__Z_835 rfl) rfl (by show 2 * 0 + _ ≤ _; exact Nat.le_of_eq rfl) (hb hby at_99) (fun _ _ => ⟨rfl, e26, (by decide : 6 + 0 ≤ _), (by decide : 39 + 0 ≤ _)⟩)
  dsimp only [Pt.U, Pt.locs, Pt.cells, Pt.slots] at X27 l27 y27 z27 st27 hQ27
  subst l27 y27 z27
  obtain ⟨rfl, N27q, e27⟩ := hQ27
  have N27 := Fr.app N26 N27q
  obtain ⟨_, _, ⟨T29, L29, k29, n29⟩, -, X29, ⟨Lc29, hQ29, l29, y29, z29⟩, st29⟩ := Jvm.LawKit.callS X27 hx (y := (⟨"com/example/sunder/sunder/Aggregate", "count", "()Lcom/example/sunder/sunder/Aggregate;"⟩ : MethodName)) ho23 (mvT hZ23 (hwi hw 50 rfl)) (mvT hZ23 (hwi hw 51 rfl)) (mvT hZ23 (hwi hw 24 rfl)) (mvT hZ23 (hwi hw 52 rfl)) (by decide) (backOf (W := 1) (rm_count l Z a0 hw [] w_COUNT T23.heap n0 Z25 S_COUNT O25) hZ23 (hwi hw 52 rfl) (hwi hw 24 rfl) (by decide) (by decide)) (g := (mkF m 109 #[.val (.int p1), .val (.int p2), .val (.int p3), .val (.int p4), .val (.int 3), .val (.ref b1), .val (.ref b16), .val (.ref r_23), .val (.ref b16), .unset] [(.ref r_23)])) rfl (by rw [hml]; rfl) (argsL := []) (rest := [(.ref r_23)]) (lenOf pd_Lcom_example_sunder_sunder_Aggregate_688 rfl) rfl (by show 2 * 0 + _ ≤ _; exact Nat.le_of_eq rfl) (hb hby at_109) (fun _ _ => ⟨rfl, e27, (by decide : 6 + 0 ≤ _), (by decide : 39 + 0 ≤ _)⟩)
  dsimp only [Pt.U, Pt.locs, Pt.cells, Pt.slots] at X29 l29 y29 z29 st29 hQ29
  subst l29 y29 z29
  obtain ⟨rfl, N29q, e29⟩ := hQ29
  have N29 := Fr.app N27 N29q
  have fc31 := (g19_1.keep Kc23 nin0)
  have fc32 := (g19_2.keep Kc23 nin0)
  have fc33 := (g19_4.keep Kc23 nin0)
  obtain ⟨cq30, kq30, q30a, q30b, q30c⟩ := isOf hZ23 e29 g23_1
  obtain ⟨_, _, ⟨T30, L30, k30, n30⟩, -, X30, hS30, gr30, ⟨Lc30, hQ30, l30, y30, z30, C30⟩, st30⟩ := X29.virtualBackS hx (y := (⟨"com/example/sunder/sunder/Aggregate", "toString", "()Ljava/lang/String;"⟩ : MethodName)) (z := (⟨"com/example/sunder/sunder/Aggregate", "toString", "()Ljava/lang/String;"⟩ : MethodName)) ho23 (mvT hZ23 (hwi hw 55 rfl)) (mvT hZ23 (hwi hw 56 rfl)) (notFace_of_selects (args := #[]) (mvT hZ23 (hwi hw 58 rfl))) (mvT hZ23 (hwi hw 58 rfl)) (mvT hZ23 (hwi hw 57 rfl)) (by decide) (backOfSH (s := s) (vm0 := T23.vm) (EL := consts_1) (W := 0) (rm_agstr_3 l Z a0 hw hEL [] r_23 w_COMPACT_STRINGS b16 cA cB cC t_19 kt_19 T23.heap n0 Z25 S_COMPACT_STRINGS hcs g23_2 fc28 fc31 fc32 fc33 O25) hZ23 (hwi hw 59 rfl) (hwi hw 24 rfl) (by decide) (by decide) hEL R24.1) q30a q30c (g := (mkF m 119 #[.val (.int p1), .val (.int p2), .val (.int p3), .val (.int p4), .val (.int 3), .val (.ref b1), .val (.ref b16), .val (.ref r_23), .val (.ref b16), .unset] [(.ref r_23)])) rfl (by rw [hml]; rfl) (Steps.refl _) (argsL := []) (rest := []) (lenOf pd_Ljava_lang_String_777 rfl) rfl (by show 2 * 0 + _ ≤ _; exact Nat.le_of_eq rfl) (hb hby at_119) (fun _ _ => ⟨rfl, e29, (by decide : 6 + 8 ≤ _), (by decide : 39 + 60 ≤ _)⟩)
  dsimp only [Pt.U, Pt.locs, Pt.cells, Pt.slots] at X30 l30 y30 z30 st30 hQ30 hS30 gr30 C30
  subst l30 y30 z30
  obtain ⟨X30, hS30, hZ30, ho30⟩ := rebS hS23 (by rw [e29]; exact (Nat.le_refl T23.heap.size)) X30 hS30 gr30 hZ23 ho23
  obtain ⟨r_30, t_30, kt_30, rfl, N30q, Kc30, g30_0, g30_1, g30_2, g30_3, g30_4, g30_5⟩ := hQ30
  have N30 := Fr.app N29 N30q
  have sf_b16_34 := CHr.safe C30 (show b16 < T23.heap.size from ltN (by have := ltN A16.lt; omega)) sf_b16_24
  have sf_t_19_34 := CHr.safe C30 (show t_19 < T23.heap.size from ltN (by have := ltN g19_4.lt; omega)) sf_t_19_24
  have R34 := C30
  have CR34 := CR24.trans R34
  have sz35 : T23.heap.size ≤ T30.heap.size := Kc30.1
  have Z35 : n0 ≤ T30.heap.size := Nat.le_trans Z25 sz35
  have O35 := O25.keep Kc30 all0
  have K35 : Keep h0 T30.heap [] := K25.trans Kc30 (all0)
  have bn_r_30 : h0.size ≤ r_30 := Nat.le_trans K25.1 g30_0
  have bn_t_30 : h0.size ≤ t_30 := Nat.le_trans K25.1 g30_1
  obtain ⟨cq36, kq36, q36a, q36b, q36c⟩ := isOf hZ30 rfl g30_2
  obtain ⟨_, _, ⟨T36, L36, k36, n36⟩, -, X36, ⟨Lc36, hQ36, l36, y36, z36⟩, st36⟩ := X30.virtualBack hx (y := (⟨"java/lang/String", "length", "()I"⟩ : MethodName)) (z := (⟨"java/lang/String", "length", "()I"⟩ : MethodName)) ho30 (mvT hZ30 (hwi hw 173 rfl)) (mvT hZ30 (hwi hw 90 rfl)) (notFace_of_selects (args := #[]) (mvT hZ30 (hwi hw 92 rfl))) (mvT hZ30 (hwi hw 92 rfl)) (mvT hZ30 (hwi hw 91 rfl)) (by decide) (backOf (W := 0) (rm_slen l Z a0 hw [] r_30 w_COMPACT_STRINGS t_30 kt_30 [(.int 115), (.int 117), (.int 109), (.int 40), (.int (cA.toInt8.toInt32)), (.int (cB.toInt8.toInt32)), (.int (cC.toInt8.toInt32)), (.int 41)] (8 : Int32) T30.heap n0 Z35 S_COMPACT_STRINGS hcs g30_2 g30_3 g30_4 g30_5 O35 (by decide : ((8 : Int32) >>> ((0 : Int32) &&& 31)) = (8 : Int32))) hZ30 (hwi hw 93 rfl) (hwi hw 3 rfl) (by decide) (by decide)) q36a q36c (g := (mkF m 131 #[.val (.int p1), .val (.int p2), .val (.int p3), .val (.int p4), .val (.int 3), .val (.ref b1), .val (.ref b16), .val (.ref r_23), .val (.ref b16), .val (.ref r_30)] [(.ref r_30)])) rfl (by rw [hml]; rfl) (Steps.refl _) (argsL := []) (rest := []) (lenOf pd_I_154 rfl) rfl (by show 2 * 0 + _ ≤ _; exact Nat.le_of_eq rfl) (hb hby at_131) (fun _ _ => ⟨rfl, rfl, (by decide : 14 + 0 ≤ _), (by decide : 99 + 0 ≤ _)⟩)
  dsimp only [Pt.U, Pt.locs, Pt.cells, Pt.slots] at X36 l36 y36 z36 st36 hQ36
  subst l36 y36 z36
  obtain ⟨rfl, N36q, e36⟩ := hQ36
  have N36 := Fr.app N30 N36q
  obtain ⟨cq37, kq37, q37a, q37b, q37c⟩ := isOf hZ30 e36 g30_2
  obtain ⟨_, _, ⟨T37, L37, k37, n37⟩, -, X37, ⟨Lc37, hQ37, l37, y37, z37⟩, st37⟩ := X36.virtualBack hx (y := (⟨"java/lang/String", "charAt", "(I)C"⟩ : MethodName)) (z := (⟨"java/lang/String", "charAt", "(I)C"⟩ : MethodName)) ho30 (mvT hZ30 (hwi hw 174 rfl)) (mvT hZ30 (hwi hw 175 rfl)) (notFace_of_selects (args := #[]) (mvT hZ30 (hwi hw 177 rfl))) (mvT hZ30 (hwi hw 177 rfl)) (mvT hZ30 (hwi hw 176 rfl)) (by decide) (backOf (W := 0) (rm_schr l Z a0 hw [] r_30 (0 : Int32) w_COMPACT_STRINGS t_30 kt_30 [(.int 115), (.int 117), (.int 109), (.int 40), (.int (cA.toInt8.toInt32)), (.int (cB.toInt8.toInt32)), (.int (cC.toInt8.toInt32)), (.int 41)] (8 : Int32) (115 : Int32) (115 : Int32) w_SIOOBE_FORMATTER T30.heap n0 Z35 S_COMPACT_STRINGS hcs g30_2 g30_3 g30_4 g30_5 (by decide : ¬ ((0 : Int32) < (0 : Int32))) (by decide : (0 : Int32) < (8 : Int32)) rfl O35 hr_SIOOBE_FORMATTER S_SIOOBE_FORMATTER (by decide : (((115 : Int32) &&& (255 : Int32)).toUInt32.toUInt16.toUInt32.toInt32) = (115 : Int32)) (by decide : ((115 : Int32).toUInt32.toUInt16.toUInt32.toInt32) = (115 : Int32))) hZ30 (hwi hw 178 rfl) (hwi hw 3 rfl) (by decide) (by decide)) q37a q37c (g := (mkF m 146 #[.val (.int p1), .val (.int p2), .val (.int p3), .val (.int p4), .val (.int 3), .val (.ref b1), .val (.ref b16), .val (.ref r_23), .val (.ref b16), .val (.ref r_30)] [(.int 0), (.ref r_30)])) rfl (by rw [hml]; rfl) (Steps.refl _) (argsL := [(.int 0)]) (rest := []) (lenOf pd_I_C_221 rfl) rfl (by show 2 * 0 + _ ≤ _; exact Nat.le_of_eq rfl) (hb hby at_146) (fun _ _ => ⟨rfl, e36, (by decide : 14 + 0 ≤ _), (by decide : 99 + 0 ≤ _)⟩)
  dsimp only [Pt.U, Pt.locs, Pt.cells, Pt.slots] at X37 l37 y37 z37 st37 hQ37
  subst l37 y37 z37
  obtain ⟨rfl, N37q, e37⟩ := hQ37
  have N37 := Fr.app N36 N37q
  obtain ⟨cq38, kq38, q38a, q38b, q38c⟩ := isOf hZ30 e37 g30_2
  obtain ⟨_, _, ⟨T38, L38, k38, n38⟩, -, X38, ⟨Lc38, hQ38, l38, y38, z38⟩, st38⟩ := X37.virtualBack hx (y := (⟨"java/lang/String", "charAt", "(I)C"⟩ : MethodName)) (z := (⟨"java/lang/String", "charAt", "(I)C"⟩ : MethodName)) ho30 (mvT hZ30 (hwi hw 174 rfl)) (mvT hZ30 (hwi hw 175 rfl)) (notFace_of_selects (args := #[]) (mvT hZ30 (hwi hw 177 rfl))) (mvT hZ30 (hwi hw 177 rfl)) (mvT hZ30 (hwi hw 176 rfl)) (by decide) (backOf (W := 0) (rm_schr l Z a0 hw [] r_30 (1 : Int32) w_COMPACT_STRINGS t_30 kt_30 [(.int 115), (.int 117), (.int 109), (.int 40), (.int (cA.toInt8.toInt32)), (.int (cB.toInt8.toInt32)), (.int (cC.toInt8.toInt32)), (.int 41)] (8 : Int32) (117 : Int32) (117 : Int32) w_SIOOBE_FORMATTER T30.heap n0 Z35 S_COMPACT_STRINGS hcs g30_2 g30_3 g30_4 g30_5 (by decide : ¬ ((1 : Int32) < (0 : Int32))) (by decide : (1 : Int32) < (8 : Int32)) rfl O35 hr_SIOOBE_FORMATTER S_SIOOBE_FORMATTER (by decide : (((117 : Int32) &&& (255 : Int32)).toUInt32.toUInt16.toUInt32.toInt32) = (117 : Int32)) (by decide : ((117 : Int32).toUInt32.toUInt16.toUInt32.toInt32) = (117 : Int32))) hZ30 (hwi hw 178 rfl) (hwi hw 3 rfl) (by decide) (by decide)) q38a q38c (g := (mkF m 157 #[.val (.int p1), .val (.int p2), .val (.int p3), .val (.int p4), .val (.int 3), .val (.ref b1), .val (.ref b16), .val (.ref r_23), .val (.ref b16), .val (.ref r_30)] [(.int 1), (.ref r_30)])) rfl (by rw [hml]; rfl) (Steps.refl _) (argsL := [(.int 1)]) (rest := []) (lenOf pd_I_C_221 rfl) rfl (by show 2 * 0 + _ ≤ _; exact Nat.le_of_eq rfl) (hb hby at_157) (fun _ _ => ⟨rfl, e37, (by decide : 14 + 0 ≤ _), (by decide : 99 + 0 ≤ _)⟩)
  dsimp only [Pt.U, Pt.locs, Pt.cells, Pt.slots] at X38 l38 y38 z38 st38 hQ38
  subst l38 y38 z38
  obtain ⟨rfl, N38q, e38⟩ := hQ38
  have N38 := Fr.app N37 N38q
  obtain ⟨cq39, kq39, q39a, q39b, q39c⟩ := isOf hZ30 e38 g30_2
  obtain ⟨_, _, ⟨T39, L39, k39, n39⟩, -, X39, ⟨Lc39, hQ39, l39, y39, z39⟩, st39⟩ := X38.virtualBack hx (y := (⟨"java/lang/String", "charAt", "(I)C"⟩ : MethodName)) (z := (⟨"java/lang/String", "charAt", "(I)C"⟩ : MethodName)) ho30 (mvT hZ30 (hwi hw 174 rfl)) (mvT hZ30 (hwi hw 175 rfl)) (notFace_of_selects (args := #[]) (mvT hZ30 (hwi hw 177 rfl))) (mvT hZ30 (hwi hw 177 rfl)) (mvT hZ30 (hwi hw 176 rfl)) (by decide) (backOf (W := 0) (rm_schr l Z a0 hw [] r_30 (2 : Int32) w_COMPACT_STRINGS t_30 kt_30 [(.int 115), (.int 117), (.int 109), (.int 40), (.int (cA.toInt8.toInt32)), (.int (cB.toInt8.toInt32)), (.int (cC.toInt8.toInt32)), (.int 41)] (8 : Int32) (109 : Int32) (109 : Int32) w_SIOOBE_FORMATTER T30.heap n0 Z35 S_COMPACT_STRINGS hcs g30_2 g30_3 g30_4 g30_5 (by decide : ¬ ((2 : Int32) < (0 : Int32))) (by decide : (2 : Int32) < (8 : Int32)) rfl O35 hr_SIOOBE_FORMATTER S_SIOOBE_FORMATTER (by decide : (((109 : Int32) &&& (255 : Int32)).toUInt32.toUInt16.toUInt32.toInt32) = (109 : Int32)) (by decide : ((109 : Int32).toUInt32.toUInt16.toUInt32.toInt32) = (109 : Int32))) hZ30 (hwi hw 178 rfl) (hwi hw 3 rfl) (by decide) (by decide)) q39a q39c (g := (mkF m 168 #[.val (.int p1), .val (.int p2), .val (.int p3), .val (.int p4), .val (.int 3), .val (.ref b1), .val (.ref b16), .val (.ref r_23), .val (.ref b16), .val (.ref r_30)] [(.int 2), (.ref r_30)])) rfl (by rw [hml]; rfl) (Steps.refl _) (argsL := [(.int 2)]) (rest := []) (lenOf pd_I_C_221 rfl) rfl (by show 2 * 0 + _ ≤ _; exact Nat.le_of_eq rfl) (hb hby at_168) (fun _ _ => ⟨rfl, e38, (by decide : 14 + 0 ≤ _), (by decide : 99 + 0 ≤ _)⟩)
  dsimp only [Pt.U, Pt.locs, Pt.cells, Pt.slots] at X39 l39 y39 z39 st39 hQ39
  subst l39 y39 z39
  obtain ⟨rfl, N39q, e39⟩ := hQ39
  have N39 := Fr.app N38 N39q
  obtain ⟨cq40, kq40, q40a, q40b, q40c⟩ := isOf hZ30 e39 g30_2
  obtain ⟨_, _, ⟨T40, L40, k40, n40⟩, -, X40, ⟨Lc40, hQ40, l40, y40, z40⟩, st40⟩ := X39.virtualBack hx (y := (⟨"java/lang/String", "charAt", "(I)C"⟩ : MethodName)) (z := (⟨"java/lang/String", "charAt", "(I)C"⟩ : MethodName)) ho30 (mvT hZ30 (hwi hw 174 rfl)) (mvT hZ30 (hwi hw 175 rfl)) (notFace_of_selects (args := #[]) (mvT hZ30 (hwi hw 177 rfl))) (mvT hZ30 (hwi hw 177 rfl)) (mvT hZ30 (hwi hw 176 rfl)) (by decide) (backOf (W := 0) (rm_schr l Z a0 hw [] r_30 (3 : Int32) w_COMPACT_STRINGS t_30 kt_30 [(.int 115), (.int 117), (.int 109), (.int 40), (.int (cA.toInt8.toInt32)), (.int (cB.toInt8.toInt32)), (.int (cC.toInt8.toInt32)), (.int 41)] (8 : Int32) (40 : Int32) (40 : Int32) w_SIOOBE_FORMATTER T30.heap n0 Z35 S_COMPACT_STRINGS hcs g30_2 g30_3 g30_4 g30_5 (by decide : ¬ ((3 : Int32) < (0 : Int32))) (by decide : (3 : Int32) < (8 : Int32)) rfl O35 hr_SIOOBE_FORMATTER S_SIOOBE_FORMATTER (by decide : (((40 : Int32) &&& (255 : Int32)).toUInt32.toUInt16.toUInt32.toInt32) = (40 : Int32)) (by decide : ((40 : Int32).toUInt32.toUInt16.toUInt32.toInt32) = (40 : Int32))) hZ30 (hwi hw 178 rfl) (hwi hw 3 rfl) (by decide) (by decide)) q40a q40c (g := (mkF m 179 #[.val (.int p1), .val (.int p2), .val (.int p3), .val (.int p4), .val (.int 3), .val (.ref b1), .val (.ref b16), .val (.ref r_23), .val (.ref b16), .val (.ref r_30)] [(.int 3), (.ref r_30)])) rfl (by rw [hml]; rfl) (Steps.refl _) (argsL := [(.int 3)]) (rest := []) (lenOf pd_I_C_221 rfl) rfl (by show 2 * 0 + _ ≤ _; exact Nat.le_of_eq rfl) (hb hby at_179) (fun _ _ => ⟨rfl, e39, (by decide : 14 + 0 ≤ _), (by decide : 99 + 0 ≤ _)⟩)
  dsimp only [Pt.U, Pt.locs, Pt.cells, Pt.slots] at X40 l40 y40 z40 st40 hQ40
  subst l40 y40 z40
  obtain ⟨rfl, N40q, e40⟩ := hQ40
  have N40 := Fr.app N39 N40q
  obtain ⟨cq41, kq41, q41a, q41b, q41c⟩ := isOf hZ30 e40 g30_2
  obtain ⟨_, _, ⟨T41, L41, k41, n41⟩, -, X41, ⟨Lc41, hQ41, l41, y41, z41⟩, st41⟩ := X40.virtualBack hx (y := (⟨"java/lang/String", "charAt", "(I)C"⟩ : MethodName)) (z := (⟨"java/lang/String", "charAt", "(I)C"⟩ : MethodName)) ho30 (mvT hZ30 (hwi hw 174 rfl)) (mvT hZ30 (hwi hw 175 rfl)) (notFace_of_selects (args := #[]) (mvT hZ30 (hwi hw 177 rfl))) (mvT hZ30 (hwi hw 177 rfl)) (mvT hZ30 (hwi hw 176 rfl)) (by decide) (backOf (W := 0) (rm_schr l Z a0 hw [] r_30 (4 : Int32) w_COMPACT_STRINGS t_30 kt_30 [(.int 115), (.int 117), (.int 109), (.int 40), (.int (cA.toInt8.toInt32)), (.int (cB.toInt8.toInt32)), (.int (cC.toInt8.toInt32)), (.int 41)] (8 : Int32) (cA.toInt8.toInt32) cA w_SIOOBE_FORMATTER T30.heap n0 Z35 S_COMPACT_STRINGS hcs g30_2 g30_3 g30_4 g30_5 (by decide : ¬ ((4 : Int32) < (0 : Int32))) (by decide : (4 : Int32) < (8 : Int32)) rfl O35 hr_SIOOBE_FORMATTER S_SIOOBE_FORMATTER hkcA hncA) hZ30 (hwi hw 178 rfl) (hwi hw 3 rfl) (by decide) (by decide)) q41a q41c (g := (mkF m 197 #[.val (.int p1), .val (.int p2), .val (.int p3), .val (.int p4), .val (.int 3), .val (.ref b1), .val (.ref b16), .val (.ref r_23), .val (.ref b16), .val (.ref r_30)] [(.int 4), (.ref r_30)])) rfl (by rw [hml]; rfl) (Steps.refl _) (argsL := [(.int 4)]) (rest := []) (lenOf pd_I_C_221 rfl) rfl (by show 2 * 0 + _ ≤ _; exact Nat.le_of_eq rfl) (hb hby at_197) (fun _ _ => ⟨rfl, e40, (by decide : 14 + 0 ≤ _), (by decide : 99 + 0 ≤ _)⟩)
  dsimp only [Pt.U, Pt.locs, Pt.cells, Pt.slots] at X41 l41 y41 z41 st41 hQ41
  subst l41 y41 z41
  obtain ⟨rfl, N41q, e41⟩ := hQ41
  have N41 := Fr.app N40 N41q
  have fc42 := (((fc20.keep Kc19 (ninS (neN (by have := ltN V1.lt; have := ltN A16.lt; omega)) nin0)).keep Kc23 nin0).keep Kc30 nin0)
  obtain ⟨cl43, Ar43, q43, S43, M43, H43, G43⟩ := id fc42
  have hin43 : ¬ ((0 : Int32) < 0 ∨ cl43.slots.size ≤ ((0 : Int32)).toNatClampNeg) := inb_of S43 ⟨by decide, by decide⟩
  have hat43 : cl43.slots[((0 : Int32)).toNatClampNeg]? = some (.int cA) := H43.at hin43 rfl
  obtain ⟨cq44, kq44, q44a, q44b, q44c⟩ := isOf hZ30 e41 g30_2
  obtain ⟨_, _, ⟨T44, L44, k44, n44⟩, -, X44, ⟨Lc44, hQ44, l44, y44, z44⟩, st44⟩ := X41.virtualBack hx (y := (⟨"java/lang/String", "charAt", "(I)C"⟩ : MethodName)) (z := (⟨"java/lang/String", "charAt", "(I)C"⟩ : MethodName)) ho30 (mvT hZ30 (hwi hw 174 rfl)) (mvT hZ30 (hwi hw 175 rfl)) (notFace_of_selects (args := #[]) (mvT hZ30 (hwi hw 177 rfl))) (mvT hZ30 (hwi hw 177 rfl)) (mvT hZ30 (hwi hw 176 rfl)) (by decide) (backOf (W := 0) (rm_schr l Z a0 hw [] r_30 (5 : Int32) w_COMPACT_STRINGS t_30 kt_30 [(.int 115), (.int 117), (.int 109), (.int 40), (.int (cA.toInt8.toInt32)), (.int (cB.toInt8.toInt32)), (.int (cC.toInt8.toInt32)), (.int 41)] (8 : Int32) (cB.toInt8.toInt32) cB w_SIOOBE_FORMATTER T30.heap n0 Z35 S_COMPACT_STRINGS hcs g30_2 g30_3 g30_4 g30_5 (by decide : ¬ ((5 : Int32) < (0 : Int32))) (by decide : (5 : Int32) < (8 : Int32)) rfl O35 hr_SIOOBE_FORMATTER S_SIOOBE_FORMATTER hkcB hncB) hZ30 (hwi hw 178 rfl) (hwi hw 3 rfl) (by decide) (by decide)) q44a q44c (g := (mkF m 218 #[.val (.int p1), .val (.int p2), .val (.int p3), .val (.int p4), .val (.int 3), .val (.ref b1), .val (.ref b16), .val (.ref r_23), .val (.ref b16), .val (.ref r_30)] [(.int 5), (.ref r_30)])) rfl (by rw [hml]; rfl) (Steps.refl _) (argsL := [(.int 5)]) (rest := []) (lenOf pd_I_C_221 rfl) rfl (by show 2 * 0 + _ ≤ _; exact Nat.le_of_eq rfl) (hb hby at_218) (fun _ _ => ⟨rfl, e41, (by decide : 14 + 0 ≤ _), (by decide : 99 + 0 ≤ _)⟩)
  dsimp only [Pt.U, Pt.locs, Pt.cells, Pt.slots] at X44 l44 y44 z44 st44 hQ44
  subst l44 y44 z44
  obtain ⟨rfl, N44q, e44⟩ := hQ44
  have N44 := Fr.app N41 N44q
  obtain ⟨cl45, Ar45, q45, S45, M45, H45, G45⟩ := id fc42
  have hin45 : ¬ ((1 : Int32) < 0 ∨ cl45.slots.size ≤ ((1 : Int32)).toNatClampNeg) := inb_of S45 ⟨by decide, by decide⟩
  have hat45 : cl45.slots[((1 : Int32)).toNatClampNeg]? = some (.int cB) := H45.at hin45 rfl
  obtain ⟨cq46, kq46, q46a, q46b, q46c⟩ := isOf hZ30 e44 g30_2
  obtain ⟨_, _, ⟨T46, L46, k46, n46⟩, -, X46, ⟨Lc46, hQ46, l46, y46, z46⟩, st46⟩ := X44.virtualBack hx (y := (⟨"java/lang/String", "charAt", "(I)C"⟩ : MethodName)) (z := (⟨"java/lang/String", "charAt", "(I)C"⟩ : MethodName)) ho30 (mvT hZ30 (hwi hw 174 rfl)) (mvT hZ30 (hwi hw 175 rfl)) (notFace_of_selects (args := #[]) (mvT hZ30 (hwi hw 177 rfl))) (mvT hZ30 (hwi hw 177 rfl)) (mvT hZ30 (hwi hw 176 rfl)) (by decide) (backOf (W := 0) (rm_schr l Z a0 hw [] r_30 (6 : Int32) w_COMPACT_STRINGS t_30 kt_30 [(.int 115), (.int 117), (.int 109), (.int 40), (.int (cA.toInt8.toInt32)), (.int (cB.toInt8.toInt32)), (.int (cC.toInt8.toInt32)), (.int 41)] (8 : Int32) (cC.toInt8.toInt32) cC w_SIOOBE_FORMATTER T30.heap n0 Z35 S_COMPACT_STRINGS hcs g30_2 g30_3 g30_4 g30_5 (by decide : ¬ ((6 : Int32) < (0 : Int32))) (by decide : (6 : Int32) < (8 : Int32)) rfl O35 hr_SIOOBE_FORMATTER S_SIOOBE_FORMATTER hkcC hncC) hZ30 (hwi hw 178 rfl) (hwi hw 3 rfl) (by decide) (by decide)) q46a q46c (g := (mkF m 240 #[.val (.int p1), .val (.int p2), .val (.int p3), .val (.int p4), .val (.int 3), .val (.ref b1), .val (.ref b16), .val (.ref r_23), .val (.ref b16), .val (.ref r_30)] [(.int 6), (.ref r_30)])) rfl (by rw [hml]; rfl) (Steps.refl _) (argsL := [(.int 6)]) (rest := []) (lenOf pd_I_C_221 rfl) rfl (by show 2 * 0 + _ ≤ _; exact Nat.le_of_eq rfl) (hb hby at_240) (fun _ _ => ⟨rfl, e44, (by decide : 14 + 0 ≤ _), (by decide : 99 + 0 ≤ _)⟩)
  dsimp only [Pt.U, Pt.locs, Pt.cells, Pt.slots] at X46 l46 y46 z46 st46 hQ46
  subst l46 y46 z46
  obtain ⟨rfl, N46q, e46⟩ := hQ46
  have N46 := Fr.app N44 N46q
  obtain ⟨cl47, Ar47, q47, S47, M47, H47, G47⟩ := id fc42
  have hin47 : ¬ ((2 : Int32) < 0 ∨ cl47.slots.size ≤ ((2 : Int32)).toNatClampNeg) := inb_of S47 ⟨by decide, by decide⟩
  have hat47 : cl47.slots[((2 : Int32)).toNatClampNeg]? = some (.int cC) := H47.at hin47 rfl
  obtain ⟨cq48, kq48, q48a, q48b, q48c⟩ := isOf hZ30 e46 g30_2
  obtain ⟨_, _, ⟨T48, L48, k48, n48⟩, -, X48, ⟨Lc48, hQ48, l48, y48, z48⟩, st48⟩ := X46.virtualBack hx (y := (⟨"java/lang/String", "charAt", "(I)C"⟩ : MethodName)) (z := (⟨"java/lang/String", "charAt", "(I)C"⟩ : MethodName)) ho30 (mvT hZ30 (hwi hw 174 rfl)) (mvT hZ30 (hwi hw 175 rfl)) (notFace_of_selects (args := #[]) (mvT hZ30 (hwi hw 177 rfl))) (mvT hZ30 (hwi hw 177 rfl)) (mvT hZ30 (hwi hw 176 rfl)) (by decide) (backOf (W := 0) (rm_schr l Z a0 hw [] r_30 (7 : Int32) w_COMPACT_STRINGS t_30 kt_30 [(.int 115), (.int 117), (.int 109), (.int 40), (.int (cA.toInt8.toInt32)), (.int (cB.toInt8.toInt32)), (.int (cC.toInt8.toInt32)), (.int 41)] (8 : Int32) (41 : Int32) (41 : Int32) w_SIOOBE_FORMATTER T30.heap n0 Z35 S_COMPACT_STRINGS hcs g30_2 g30_3 g30_4 g30_5 (by decide : ¬ ((7 : Int32) < (0 : Int32))) (by decide : (7 : Int32) < (8 : Int32)) rfl O35 hr_SIOOBE_FORMATTER S_SIOOBE_FORMATTER (by decide : (((41 : Int32) &&& (255 : Int32)).toUInt32.toUInt16.toUInt32.toInt32) = (41 : Int32)) (by decide : ((41 : Int32).toUInt32.toUInt16.toUInt32.toInt32) = (41 : Int32))) hZ30 (hwi hw 178 rfl) (hwi hw 3 rfl) (by decide) (by decide)) q48a q48c (g := (mkF m 258 #[.val (.int p1), .val (.int p2), .val (.int p3), .val (.int p4), .val (.int 3), .val (.ref b1), .val (.ref b16), .val (.ref r_23), .val (.ref b16), .val (.ref r_30)] [(.int 7), (.ref r_30)])) rfl (by rw [hml]; rfl) (Steps.refl _) (argsL := [(.int 7)]) (rest := []) (lenOf pd_I_C_221 rfl) rfl (by show 2 * 0 + _ ≤ _; exact Nat.le_of_eq rfl) (hb hby at_258) (fun _ _ => ⟨rfl, e46, (by decide : 14 + 0 ≤ _), (by decide : 99 + 0 ≤ _)⟩)
  dsimp only [Pt.U, Pt.locs, Pt.cells, Pt.slots] at X48 l48 y48 z48 st48 hQ48
  subst l48 y48 z48
  obtain ⟨rfl, N48q, e48⟩ := hQ48
  have N48 := Fr.app N46 N48q
  have CRe := CR34.trans (CHv.at X48 hZ30 hEL R34.1)
  obtain ⟨fs, hr, hrun, hended, hRE⟩ := X48.leaveW hS30 (by rw [e48]; exact (Nat.le_refl T30.heap.size)) (v := some (.int 1)) (fun h => by rw [Bd.returns] at h; cases h)
  refine ⟨_, _, pre0 _ ?_, hrun, hended, _, _, rfl, ?_, ?_, ⟨hRE.1, hRE.2.1, hRE.2.2.1, hRE.2.2.2.mono (by decide) (by decide)⟩⟩
  · show St p e below s₁ (mkF m 0 #[.val (.int p1), .val (.int p2), .val (.int p3), .val (.int p4), .unset, .unset, .unset, .unset, .unset, .unset] []) _
    refine XS.iloadN X0.here hx rfl (hb hby at_0) rfl ?_
    refine XS.iconst X0.here hx rfl (hb hby at_1) ?_
    refine XS.iand X0.here hx rfl (hb hby at_2) rfl ?_
    show St p e below s₁ (mkF m 3 #[.val (.int p1), .val (.int p2), .val (.int p3), .val (.int p4), .unset, .unset, .unset, .unset, .unset, .unset] [(.int (p1 &&& (3 : Int32)))]) _
    rw [hk]
    show St p e below s₁ (mkF m 3 #[.val (.int p1), .val (.int p2), .val (.int p3), .val (.int p4), .unset, .unset, .unset, .unset, .unset, .unset] [(.int 3)]) _
    refine XS.istore X0.here hx rfl (hb hby at_3) rfl (l' := #[.val (.int p1), .val (.int p2), .val (.int p3), .val (.int p4), .val (.int 3), .unset, .unset, .unset, .unset, .unset]) rfl ?_
    refine XS.iload X0.here hx rfl (hb hby at_5) rfl ?_
    refine st1 _ ?_
    refine XS.astore X1.here hx rfl (hb hby at_9) rfl rfl (l' := #[.val (.int p1), .val (.int p2), .val (.int p3), .val (.int p4), .val (.int 3), .val (.ref b1), .unset, .unset, .unset, .unset]) rfl ?_
    show St p e below T1 (mkF m 11 #[.val (.int p1), .val (.int p2), .val (.int p3), .val (.int p4), .val (.int 3), .val (.ref b1), .unset, .unset, .unset, .unset] []) _
    refine XS.iload X1.here hx rfl (hb hby at_11) rfl ?_
    refine XS.ifNo X1.here hx rfl (hb hby at_13) rfl ((if0 _ _).trans (tlt (by decide : (0 : Int32) < (3 : Int32))).2.2.2) ?_
    refine XS.aload X1.here hx rfl (hb hby at_16) rfl rfl ?_
    refine XS.iconst X1.here hx rfl (hb hby at_18) ?_
    show St p e below T1 (mkF m 19 #[.val (.int p1), .val (.int p2), .val (.int p3), .val (.int p4), .val (.int 3), .val (.ref b1), .unset, .unset, .unset, .unset] [(.int 0), (.ref b1)]) _
    refine XS.iloadN X1.here hx rfl (hb hby at_19) rfl ?_
    refine XS.sipush X1.here hx rfl (hb hby at_20) ?_
    refine XS.iand X1.here hx rfl (hb hby at_23) rfl ?_
    refine XS.i2c X1.here hx rfl (hb hby at_24) rfl ?_
    show St p e below T1 (mkF m 25 #[.val (.int p1), .val (.int p2), .val (.int p3), .val (.int p4), .val (.int 3), .val (.ref b1), .unset, .unset, .unset, .unset] [(.int ((p2 &&& (255 : Int32)).toUInt32.toUInt16.toUInt32.toInt32)), (.int 0), (.ref b1)]) _
    rw [hcA]
    show St p e below T1 (mkF m 25 #[.val (.int p1), .val (.int p2), .val (.int p3), .val (.int p4), .val (.int 3), .val (.ref b1), .unset, .unset, .unset, .unset] [(.int cA), (.int 0), (.ref b1)]) _
    refine st5 _ ?_
    refine XS.iload X5.here hx rfl (hb hby at_26) rfl ?_
    refine XS.iconst X5.here hx rfl (hb hby at_28) ?_
    refine XS.icmpNo X5.here hx rfl (hb hby at_29) rfl (tlt (by decide : (1 : Int32) < (3 : Int32))).2.2.2 ?_
    show St p e below T5 (mkF m 32 #[.val (.int p1), .val (.int p2), .val (.int p3), .val (.int p4), .val (.int 3), .val (.ref b1), .unset, .unset, .unset, .unset] []) _
    refine XS.aload X5.here hx rfl (hb hby at_32) rfl rfl ?_
    refine XS.iconst X5.here hx rfl (hb hby at_34) ?_
    refine XS.iloadN X5.here hx rfl (hb hby at_35) rfl ?_
    refine XS.sipush X5.here hx rfl (hb hby at_36) ?_
    show St p e below T5 (mkF m 39 #[.val (.int p1), .val (.int p2), .val (.int p3), .val (.int p4), .val (.int 3), .val (.ref b1), .unset, .unset, .unset, .unset] [(.int 255), (.int p3), (.int 1), (.ref b1)]) _
    refine XS.iand X5.here hx rfl (hb hby at_39) rfl ?_
    refine XS.i2c X5.here hx rfl (hb hby at_40) rfl ?_
    show St p e below T5 (mkF m 41 #[.val (.int p1), .val (.int p2), .val (.int p3), .val (.int p4), .val (.int 3), .val (.ref b1), .unset, .unset, .unset, .unset] [(.int ((p3 &&& (255 : Int32)).toUInt32.toUInt16.toUInt32.toInt32)), (.int 1), (.ref b1)]) _
    rw [hcB]
    show St p e below T5 (mkF m 41 #[.val (.int p1), .val (.int p2), .val (.int p3), .val (.int p4), .val (.int 3), .val (.ref b1), .unset, .unset, .unset, .unset] [(.int cB), (.int 1), (.ref b1)]) _
    refine st9 _ ?_
    refine XS.iload X9.here hx rfl (hb hby at_42) rfl ?_
    refine XS.iconst X9.here hx rfl (hb hby at_44) ?_
    refine XS.icmpNo X9.here hx rfl (hb hby at_45) rfl (tlt (by decide : (2 : Int32) < (3 : Int32))).2.2.2 ?_
    show St p e below T9 (mkF m 48 #[.val (.int p1), .val (.int p2), .val (.int p3), .val (.int p4), .val (.int 3), .val (.ref b1), .unset, .unset, .unset, .unset] []) _
    refine XS.aload X9.here hx rfl (hb hby at_48) rfl rfl ?_
    refine XS.iconst X9.here hx rfl (hb hby at_50) ?_
    refine XS.iloadN X9.here hx rfl (hb hby at_51) rfl ?_
    refine XS.sipush X9.here hx rfl (hb hby at_52) ?_
    show St p e below T9 (mkF m 55 #[.val (.int p1), .val (.int p2), .val (.int p3), .val (.int p4), .val (.int 3), .val (.ref b1), .unset, .unset, .unset, .unset] [(.int 255), (.int p4), (.int 2), (.ref b1)]) _
    refine XS.iand X9.here hx rfl (hb hby at_55) rfl ?_
    refine XS.i2c X9.here hx rfl (hb hby at_56) rfl ?_
    show St p e below T9 (mkF m 57 #[.val (.int p1), .val (.int p2), .val (.int p3), .val (.int p4), .val (.int 3), .val (.ref b1), .unset, .unset, .unset, .unset] [(.int ((p4 &&& (255 : Int32)).toUInt32.toUInt16.toUInt32.toInt32)), (.int 2), (.ref b1)]) _
    rw [hcC]
    show St p e below T9 (mkF m 57 #[.val (.int p1), .val (.int p2), .val (.int p3), .val (.int p4), .val (.int 3), .val (.ref b1), .unset, .unset, .unset, .unset] [(.int cC), (.int 2), (.ref b1)]) _
    refine st13 _ ?_
    refine st16 _ ?_
    refine XS.dup X16.here hx rfl (hb hby at_61) rfl rfl ?_
    refine XS.aload X16.here hx rfl (hb hby at_62) rfl rfl ?_
    show St p e below T16 (mkF m 64 #[.val (.int p1), .val (.int p2), .val (.int p3), .val (.int p4), .val (.int 3), .val (.ref b1), .unset, .unset, .unset, .unset] [(.ref b1), (.ref b16), (.ref b16)]) _
    refine st19.trans ?_
    refine XS.astore X19.here hx rfl (hb hby at_67) rfl rfl (l' := #[.val (.int p1), .val (.int p2), .val (.int p3), .val (.int p4), .val (.int 3), .val (.ref b1), .val (.ref b16), .unset, .unset, .unset]) rfl ?_
    refine XS.aload X19.here hx rfl (hb hby at_69) rfl rfl ?_
    refine st23.trans ?_
    show St p e below T23 (mkF m 74 #[.val (.int p1), .val (.int p2), .val (.int p3), .val (.int p4), .val (.int 3), .val (.ref b1), .val (.ref b16), .unset, .unset, .unset] [(.ref r_23)]) _
    refine XS.astore X23.here hx rfl (hb hby at_74) rfl rfl (l' := #[.val (.int p1), .val (.int p2), .val (.int p3), .val (.int p4), .val (.int 3), .val (.ref b1), .val (.ref b16), .val (.ref r_23), .unset, .unset]) rfl ?_
    refine XS.aload X23.here hx rfl (hb hby at_76) rfl rfl ?_
    refine XS.ifnonnullYes X23.here hx rfl (pc0 := 78) (pc' := 83) rfl (hb hby at_78) rfl (by decide) (by decide) ?_
    refine XS.aload X23.here hx rfl (hb hby at_83) rfl rfl ?_
    show St p e below T23 (mkF m 85 #[.val (.int p1), .val (.int p2), .val (.int p3), .val (.int p4), .val (.int 3), .val (.ref b1), .val (.ref b16), .val (.ref r_23), .unset, .unset] [(.ref r_23)]) _
    refine st26.trans ?_
    refine XS.astore X26.here hx rfl (hb hby at_88) rfl rfl (l' := #[.val (.int p1), .val (.int p2), .val (.int p3), .val (.int p4), .val (.int 3), .val (.ref b1), .val (.ref b16), .val (.ref r_23), .val (.ref b16), .unset]) rfl ?_
    refine XS.aload X26.here hx rfl (hb hby at_90) rfl rfl ?_
    refine XS.ifnullNo X26.here hx rfl (hb hby at_92) rfl ?_
    show St p e below T26 (mkF m 95 #[.val (.int p1), .val (.int p2), .val (.int p3), .val (.int p4), .val (.int 3), .val (.ref b1), .val (.ref b16), .val (.ref r_23), .val (.ref b16), .unset] []) _
    refine XS.aload X26.here hx rfl (hb hby at_95) rfl rfl ?_
    refine XS.aload X26.here hx rfl (hb hby at_97) rfl rfl ?_
    refine st27.trans ?_
    refine XS.ifYes X27.here hx rfl (pc0 := 102) (pc' := 107) rfl (hb hby at_102) rfl ((if0 _ _).trans (feq (by decide : ¬ ((1 : Int32) = (0 : Int32)))).2) (by decide) (by decide) ?_
    show St p e below T27 (mkF m 107 #[.val (.int p1), .val (.int p2), .val (.int p3), .val (.int p4), .val (.int 3), .val (.ref b1), .val (.ref b16), .val (.ref r_23), .val (.ref b16), .unset] []) _
    refine XS.aload X27.here hx rfl (hb hby at_107) rfl rfl ?_
    refine st29 _ ?_
    refine Jvm.RoadKit.acmp (g := (mkF m 112 #[.val (.int p1), .val (.int p2), .val (.int p3), .val (.int p4), .val (.int 3), .val (.ref b1), .val (.ref b16), .val (.ref r_23), .val (.ref b16), .unset] [(.ref w_COUNT), (.ref r_23)])) X29 hx rfl rfl rfl (pc0 := 112) (pc' := 117) (same := false) rfl (hb hby at_112) rfl (decide_eq_false fun q => (neN (by have := ltN E_w_COUNT.lt; have := O25.1; have := ltN g23_1.lt; omega)) (Value.ref.inj q)) (by decide) (by decide) ?_
    refine XS.aload X29.here hx rfl (hb hby at_117) rfl rfl ?_
    show St p e below T29 (mkF m 119 #[.val (.int p1), .val (.int p2), .val (.int p3), .val (.int p4), .val (.int 3), .val (.ref b1), .val (.ref b16), .val (.ref r_23), .val (.ref b16), .unset] [(.ref r_23)]) _
    refine st30.trans ?_
    refine XS.astore X30.here hx rfl (hb hby at_122) rfl rfl (l' := #[.val (.int p1), .val (.int p2), .val (.int p3), .val (.int p4), .val (.int 3), .val (.ref b1), .val (.ref b16), .val (.ref r_23), .val (.ref b16), .val (.ref r_30)]) rfl ?_
    refine XS.aload X30.here hx rfl (hb hby at_124) rfl rfl ?_
    refine XS.ifnullNo X30.here hx rfl (hb hby at_126) rfl ?_
    show St p e below T30 (mkF m 129 #[.val (.int p1), .val (.int p2), .val (.int p3), .val (.int p4), .val (.int 3), .val (.ref b1), .val (.ref b16), .val (.ref r_23), .val (.ref b16), .val (.ref r_30)] []) _
    refine XS.aload X30.here hx rfl (hb hby at_129) rfl rfl ?_
    refine st36.trans ?_
    refine XS.iload X36.here hx rfl (hb hby at_134) rfl ?_
    refine XS.iconst X36.here hx rfl (hb hby at_136) ?_
    show St p e below T36 (mkF m 137 #[.val (.int p1), .val (.int p2), .val (.int p3), .val (.int p4), .val (.int 3), .val (.ref b1), .val (.ref b16), .val (.ref r_23), .val (.ref b16), .val (.ref r_30)] [(.int 5), (.int 3), (.int 8)]) _
    refine XS.iadd X36.here hx rfl (hb hby at_137) rfl ?_
    show St p e below T36 (mkF m 138 #[.val (.int p1), .val (.int p2), .val (.int p3), .val (.int p4), .val (.int 3), .val (.ref b1), .val (.ref b16), .val (.ref r_23), .val (.ref b16), .val (.ref r_30)] [(.int ((3 : Int32) + (5 : Int32))), (.int 8)]) _
    rw [(by decide : ((3 : Int32) + (5 : Int32)) = (8 : Int32))]
    show St p e below T36 (mkF m 138 #[.val (.int p1), .val (.int p2), .val (.int p3), .val (.int p4), .val (.int 3), .val (.ref b1), .val (.ref b16), .val (.ref r_23), .val (.ref b16), .val (.ref r_30)] [(.int 8), (.int 8)]) _
    refine XS.icmpYes X36.here hx rfl (pc0 := 138) (pc' := 143) rfl (hb hby at_138) rfl (teq (by decide : (8 : Int32) = (8 : Int32))).1 (by decide) (by decide) ?_
    refine XS.aload X36.here hx rfl (hb hby at_143) rfl rfl ?_
    refine XS.iconst X36.here hx rfl (hb hby at_145) ?_
    refine st37.trans ?_
    show St p e below T37 (mkF m 149 #[.val (.int p1), .val (.int p2), .val (.int p3), .val (.int p4), .val (.int 3), .val (.ref b1), .val (.ref b16), .val (.ref r_23), .val (.ref b16), .val (.ref r_30)] [(.int 115)]) _
    refine XS.bipush X37.here hx rfl (hb hby at_149) ?_
    refine XS.icmpNo X37.here hx rfl (hb hby at_151) rfl (teq (by decide : (115 : Int32) = (115 : Int32))).2 ?_
    refine XS.aload X37.here hx rfl (hb hby at_154) rfl rfl ?_
    refine XS.iconst X37.here hx rfl (hb hby at_156) ?_
    show St p e below T37 (mkF m 157 #[.val (.int p1), .val (.int p2), .val (.int p3), .val (.int p4), .val (.int 3), .val (.ref b1), .val (.ref b16), .val (.ref r_23), .val (.ref b16), .val (.ref r_30)] [(.int 1), (.ref r_30)]) _
    refine st38.trans ?_
    refine XS.bipush X38.here hx rfl (hb hby at_160) ?_
    refine XS.icmpNo X38.here hx rfl (hb hby at_162) rfl (teq (by decide : (117 : Int32) = (117 : Int32))).2 ?_
    refine XS.aload X38.here hx rfl (hb hby at_165) rfl rfl ?_
    show St p e below T38 (mkF m 167 #[.val (.int p1), .val (.int p2), .val (.int p3), .val (.int p4), .val (.int 3), .val (.ref b1), .val (.ref b16), .val (.ref r_23), .val (.ref b16), .val (.ref r_30)] [(.ref r_30)]) _
    refine XS.iconst X38.here hx rfl (hb hby at_167) ?_
    refine st39.trans ?_
    refine XS.bipush X39.here hx rfl (hb hby at_171) ?_
    refine XS.icmpNo X39.here hx rfl (hb hby at_173) rfl (teq (by decide : (109 : Int32) = (109 : Int32))).2 ?_
    show St p e below T39 (mkF m 176 #[.val (.int p1), .val (.int p2), .val (.int p3), .val (.int p4), .val (.int 3), .val (.ref b1), .val (.ref b16), .val (.ref r_23), .val (.ref b16), .val (.ref r_30)] []) _
    refine XS.aload X39.here hx rfl (hb hby at_176) rfl rfl ?_
    refine XS.iconst X39.here hx rfl (hb hby at_178) ?_
    refine st40.trans ?_
    refine XS.bipush X40.here hx rfl (hb hby at_182) ?_
    show St p e below T40 (mkF m 184 #[.val (.int p1), .val (.int p2), .val (.int p3), .val (.int p4), .val (.int 3), .val (.ref b1), .val (.ref b16), .val (.ref r_23), .val (.ref b16), .val (.ref r_30)] [(.int 40), (.int 40)]) _
    refine XS.icmpYes X40.here hx rfl (pc0 := 184) (pc' := 189) rfl (hb hby at_184) rfl (teq (by decide : (40 : Int32) = (40 : Int32))).1 (by decide) (by decide) ?_
    refine XS.iload X40.here hx rfl (hb hby at_189) rfl ?_
    refine XS.ifNo X40.here hx rfl (hb hby at_191) rfl ((if0 _ _).trans (tlt (by decide : (0 : Int32) < (3 : Int32))).2.2.2) ?_
    refine XS.aload X40.here hx rfl (hb hby at_194) rfl rfl ?_
    show St p e below T40 (mkF m 196 #[.val (.int p1), .val (.int p2), .val (.int p3), .val (.int p4), .val (.int 3), .val (.ref b1), .val (.ref b16), .val (.ref r_23), .val (.ref b16), .val (.ref r_30)] [(.ref r_30)]) _
    refine XS.iconst X40.here hx rfl (hb hby at_196) ?_
    refine st41.trans ?_
    refine XS.aload X41.here hx rfl (hb hby at_200) rfl rfl ?_
    refine XS.iconst X41.here hx rfl (hb hby at_202) ?_
    show St p e below T41 (mkF m 203 #[.val (.int p1), .val (.int p2), .val (.int p3), .val (.int p4), .val (.int 3), .val (.ref b1), .val (.ref b16), .val (.ref r_23), .val (.ref b16), .val (.ref r_30)] [(.int 0), (.ref b1), (.int cA)]) _
    refine X41.caload hx (j := (0 : Int32)) (v := (.int cA)) (by rw [e41]; exact Ar43.1) (State.isArrayOf_alike hZ30.alike Ar43.2.1) Ar43.2.2 hin43 hat43 (g := (mkF m 203 #[.val (.int p1), .val (.int p2), .val (.int p3), .val (.int p4), .val (.int 3), .val (.ref b1), .val (.ref b16), .val (.ref r_23), .val (.ref b16), .val (.ref r_30)] [(.int 0), (.ref b1), (.int cA)])) rfl rfl (hb hby at_203) _ ?_
    refine XS.icmpYes X41.here hx rfl (pc0 := 204) (pc' := 209) rfl (hb hby at_204) rfl (teq (rfl : cA = cA)).1 (by decide) (by decide) ?_
    refine XS.iload X41.here hx rfl (hb hby at_209) rfl ?_
    refine XS.iconst X41.here hx rfl (hb hby at_211) ?_
    show St p e below T41 (mkF m 212 #[.val (.int p1), .val (.int p2), .val (.int p3), .val (.int p4), .val (.int 3), .val (.ref b1), .val (.ref b16), .val (.ref r_23), .val (.ref b16), .val (.ref r_30)] [(.int 1), (.int 3)]) _
    refine XS.icmpNo X41.here hx rfl (hb hby at_212) rfl (tlt (by decide : (1 : Int32) < (3 : Int32))).2.2.2 ?_
    refine XS.aload X41.here hx rfl (hb hby at_215) rfl rfl ?_
    refine XS.iconst X41.here hx rfl (hb hby at_217) ?_
    refine st44.trans ?_
    show St p e below T44 (mkF m 221 #[.val (.int p1), .val (.int p2), .val (.int p3), .val (.int p4), .val (.int 3), .val (.ref b1), .val (.ref b16), .val (.ref r_23), .val (.ref b16), .val (.ref r_30)] [(.int cB)]) _
    refine XS.aload X44.here hx rfl (hb hby at_221) rfl rfl ?_
    refine XS.iconst X44.here hx rfl (hb hby at_223) ?_
    refine X44.caload hx (j := (1 : Int32)) (v := (.int cB)) (by rw [e44]; exact Ar45.1) (State.isArrayOf_alike hZ30.alike Ar45.2.1) Ar45.2.2 hin45 hat45 (g := (mkF m 224 #[.val (.int p1), .val (.int p2), .val (.int p3), .val (.int p4), .val (.int 3), .val (.ref b1), .val (.ref b16), .val (.ref r_23), .val (.ref b16), .val (.ref r_30)] [(.int 1), (.ref b1), (.int cB)])) rfl rfl (hb hby at_224) _ ?_
    refine XS.icmpYes X44.here hx rfl (pc0 := 225) (pc' := 230) rfl (hb hby at_225) rfl (teq (rfl : cB = cB)).1 (by decide) (by decide) ?_
    show St p e below T44 (mkF m 230 #[.val (.int p1), .val (.int p2), .val (.int p3), .val (.int p4), .val (.int 3), .val (.ref b1), .val (.ref b16), .val (.ref r_23), .val (.ref b16), .val (.ref r_30)] []) _
    refine XS.iload X44.here hx rfl (hb hby at_230) rfl ?_
    refine XS.iconst X44.here hx rfl (hb hby at_232) ?_
    refine XS.icmpNo X44.here hx rfl (hb hby at_233) rfl (tlt (by decide : (2 : Int32) < (3 : Int32))).2.2.2 ?_
    refine XS.aload X44.here hx rfl (hb hby at_236) rfl rfl ?_
    show St p e below T44 (mkF m 238 #[.val (.int p1), .val (.int p2), .val (.int p3), .val (.int p4), .val (.int 3), .val (.ref b1), .val (.ref b16), .val (.ref r_23), .val (.ref b16), .val (.ref r_30)] [(.ref r_30)]) _
    refine XS.bipush X44.here hx rfl (hb hby at_238) ?_
    refine st46.trans ?_
    refine XS.aload X46.here hx rfl (hb hby at_243) rfl rfl ?_
    refine XS.iconst X46.here hx rfl (hb hby at_245) ?_
    show St p e below T46 (mkF m 246 #[.val (.int p1), .val (.int p2), .val (.int p3), .val (.int p4), .val (.int 3), .val (.ref b1), .val (.ref b16), .val (.ref r_23), .val (.ref b16), .val (.ref r_30)] [(.int 2), (.ref b1), (.int cC)]) _
    refine X46.caload hx (j := (2 : Int32)) (v := (.int cC)) (by rw [e46]; exact Ar47.1) (State.isArrayOf_alike hZ30.alike Ar47.2.1) Ar47.2.2 hin47 hat47 (g := (mkF m 246 #[.val (.int p1), .val (.int p2), .val (.int p3), .val (.int p4), .val (.int 3), .val (.ref b1), .val (.ref b16), .val (.ref r_23), .val (.ref b16), .val (.ref r_30)] [(.int 2), (.ref b1), (.int cC)])) rfl rfl (hb hby at_246) _ ?_
    refine XS.icmpYes X46.here hx rfl (pc0 := 247) (pc' := 252) rfl (hb hby at_247) rfl (teq (rfl : cC = cC)).1 (by decide) (by decide) ?_
    refine XS.aload X46.here hx rfl (hb hby at_252) rfl rfl ?_
    refine XS.iload X46.here hx rfl (hb hby at_254) rfl ?_
    show St p e below T46 (mkF m 256 #[.val (.int p1), .val (.int p2), .val (.int p3), .val (.int p4), .val (.int 3), .val (.ref b1), .val (.ref b16), .val (.ref r_23), .val (.ref b16), .val (.ref r_30)] [(.int 3), (.ref r_30)]) _
    refine XS.iconst X46.here hx rfl (hb hby at_256) ?_
    refine XS.iadd X46.here hx rfl (hb hby at_257) rfl ?_
    show St p e below T46 (mkF m 258 #[.val (.int p1), .val (.int p2), .val (.int p3), .val (.int p4), .val (.int 3), .val (.ref b1), .val (.ref b16), .val (.ref r_23), .val (.ref b16), .val (.ref r_30)] [(.int ((3 : Int32) + (4 : Int32))), (.ref r_30)]) _
    rw [(by decide : ((3 : Int32) + (4 : Int32)) = (7 : Int32))]
    show St p e below T46 (mkF m 258 #[.val (.int p1), .val (.int p2), .val (.int p3), .val (.int p4), .val (.int 3), .val (.ref b1), .val (.ref b16), .val (.ref r_23), .val (.ref b16), .val (.ref r_30)] [(.int 7), (.ref r_30)]) _
    refine st48.trans ?_
    refine XS.bipush X48.here hx rfl (hb hby at_261) ?_
    refine XS.icmpNo X48.here hx rfl (hb hby at_263) rfl (teq (by decide : (41 : Int32) = (41 : Int32))).2 ?_
    refine XS.iconst X48.here hx rfl (hb hby at_266) ?_
    show St p e below T48 (mkF m 267 #[.val (.int p1), .val (.int p2), .val (.int p3), .val (.int p4), .val (.int 3), .val (.ref b1), .val (.ref b16), .val (.ref r_23), .val (.ref b16), .val (.ref r_30)] [(.int 1)]) _
    refine XS.goto X48.here hx rfl (pc0 := 267) (pc' := 271) rfl (hb hby at_267) (by decide) (by decide) ?_
    show St p e below T48 (mkF m 271 #[.val (.int p1), .val (.int p2), .val (.int p3), .val (.int p4), .val (.int 3), .val (.ref b1), .val (.ref b16), .val (.ref r_23), .val (.ref b16), .val (.ref r_30)] [(.int 1)]) _
    exact retN X48 hx (t := .boolean) Bd.returns (by simp) (hb hby at_271) hr
  · exact ⟨rfl, N48⟩
  · show CHr Z consts_1 s.vm s.heap T48.vm T48.heap
    rw [hh, e48]
    exact CRe
theorem own_fi {s : State} {args : Array Value} {t : Term} {C n d : String} {k : Int32} {a : Addr} (ev : t.eval args s none [] s = some (.ref a)) (h : (Jvm.Cond.eq (Term.field t C n d) (Term.int k)).value args s none s [] = some true) : Fld s s.heap a C n d (.int k) := by
  obtain ⟨x, y, h1, h2, h3, h4⟩ := cmp_v (Or.inl h)
  have e2 : y = .int k := (Option.some.inj (h2.symm.trans (Term.int_eval k)))
  subst e2
  obtain ⟨z, rfl⟩ := h4
  have e3 : z = k := gotT (Cond.eq_ints h1 h2) h
  subst e3
  exact Fld.start ((fld_at ev).symm.trans h1)
theorem own_fr {s : State} {args : Array Value} {t u : Term} {C n d : String} {a b : Addr} (ev : t.eval args s none [] s = some (.ref a)) (ev2 : u.eval args s none [] s = some (.ref b)) (h : (Jvm.Cond.eq (Term.field t C n d) u).value args s none s [] = some true) : Fld s s.heap a C n d (.ref b) := by
  obtain ⟨x, y, h1, h2, h3, h4⟩ := cmp_v (Or.inl h)
  obtain rfl : y = .ref b := Option.some.inj (h2.symm.trans ev2)
  have hx : x.isRef = true := h4.2
  have e3 : x = .ref b := gotT (eq_R h1 h2 hx rfl) h
  subst e3
  exact Fld.start ((fld_at ev).symm.trans h1)
set_option maxRecDepth 65536 in
set_option maxHeartbeats 40000000 in
theorem comes_1 {Post : Tables → Env → Array Value → State → Outcome → State → Prop} (hpost : ∀ tb e args s v u, (limb_1_1.after args s (.returned v) u = true ∧ limb_1_2.after args s (.returned v) u = true ∧ True) → ReturnedEndW s (.returned v) u (Jvm.fieldLocs frame_1_writes args s ++ Jvm.arrayLocs frame_1_arrays args s ++ Jvm.staticLocs frame_1_statics s) 32 4288 → Post tb e args s (.returned v) u) :
    ArmFor flags0 classFile x code maxLocals ret World_1 tables_1 room_1 Calls_1 rest_1 Pre_1 Post := by
  intro l hfl _ _ p e ha hc hk s m args below hf hA hF happ hP
  obtain ⟨hcalls, hrest, hpre⟩ := hP
  obtain ⟨-, -, -, hnamed, -, -, -, hat⟩ := (Spec.applies_iff hf).mp happ
  obtain ⟨hg, hn⟩ := and_e (Cond.before_iff.mp (show (Jvm.Cond.and given_1 narrow_1).before args s = true from hpre))
  obtain ⟨j1, j2⟩ := and_e hg
  obtain ⟨j3, j4⟩ := and_e j2
  obtain ⟨j5, j6⟩ := and_e j4
  obtain ⟨j7, j8⟩ := and_e j6
  obtain ⟨w0, w1, w2, w3, rfl⟩ : ∃ w0 w1 w2 w3 : Value, args = #[w0, w1, w2, w3] := by
    have hs : args.size = 4 := by simpa [Cond.value, given_1] using j1
    obtain ⟨L⟩ := args
    match L, hs with
    | [w0, w1, w2, w3], _ => exact ⟨w0, w1, w2, w3, rfl⟩
  have hw := fun d (hd : d ∈ tables_1) => atoms_spec (ws := Jvm.Cond.code x code maxLocals ret :: tables_1) hat d (List.mem_cons_of_mem _ hd)
  have hfit : Fit s := fun {y c} hc i hi => by
    obtain ⟨ha, rfl⟩ := Array.getElem?_eq_some_iff.mp hc
    have q := List.all_eq_true.mp ((Array.all_eq_true_iff_forall_mem.mp hF) _ (Array.getElem_mem ha)) i (List.mem_range.mpr hi)
    simpa [Array.getElem?_eq_getElem hi] using q
  obtain ⟨hsets, hown0⟩ := atoms_of _ (rest_1_c_eq ▸ (show rest_1_c.before _ s = true from hrest))
  have hr0 := Cond.before_iff.mp hown0
  obtain ⟨i0, ei0⟩ := is_v j3
  obtain rfl : w0 = (.int i0) := Option.some.inj ei0
  obtain ⟨i1, ei1⟩ := is_v j5
  obtain rfl : w1 = (.int i1) := Option.some.inj ei1
  obtain ⟨i2, ei2⟩ := is_v j7
  obtain rfl : w2 = (.int i2) := Option.some.inj ei2
  obtain ⟨i3, ei3⟩ := is_v j8
  obtain rfl : w3 = (.int i3) := Option.some.inj ei3
  obtain ⟨w_COUNT, ev_w_COUNT⟩ := exa_v hn
  have S_COUNT := Sta.start ev_w_COUNT (Or.inr ⟨(hwi hw 24 rfl), (hwi hw 54 rfl)⟩)
  have E_w_COUNT := Exa.start ev_w_COUNT hn
  have hEL : EW s _ consts_1 := (EW.cons (hwi hw 28 rfl) (by decide) (EW.cons (hwi hw 78 rfl) (by decide) (EW.cons (hwi hw 127 rfl) (by decide) (EW.cons (hwi hw 14 rfl) (by decide) EW.nil))))
  have hheld : ∀ p ∈ consts_1, Jvm.Lit.constHeld s p.1 p.2 := hcalls.1
  have H0c : CHv s consts_1 s.vm s.heap := CHv.start hEL hheld (hsets _ (List.mem_of_getElem? (i := 2) rfl)) (hwi hw 15 rfl) (hwi hw 2 rfl)
  have n5 := not_v (Cond.before_iff.mp (hsets _ (List.mem_of_getElem? (i := 2) rfl)))
  obtain ⟨w_COMPACT_STRINGS, ecs⟩ := is_v (Cond.before_iff.mp (hsets _ (List.mem_of_getElem? (i := 1) rfl)))
  have S_COMPACT_STRINGS := Sta.start ecs (Or.inl (hsets _ (List.mem_of_getElem? (i := 0) rfl)))
  have hcs : ¬ (w_COMPACT_STRINGS = (0 : Int32)) := gotF (Cond.eq_ints ecs (Term.int_eval (0))) n5
  obtain ⟨w_SIOOBE_FORMATTER, esf, hr_SIOOBE_FORMATTER⟩ := isR_v (Cond.before_iff.mp (hsets _ (List.mem_of_getElem? (i := 8) rfl)))
  have S_SIOOBE_FORMATTER := Sta.start esf (Or.inl (hsets _ (List.mem_of_getElem? (i := 7) rfl)))
  have key : MetFree l x (head1 (Jvm.Cond.code x code maxLocals ret :: tables_1) room_1) (fun a U => a = #[(.int i0), (.int i1), (.int i2), (.int i3)] ∧ s.Warmed39 U.vm ∧ U.heap = s.heap ∧ CHv s consts_1 U.vm s.heap) (fun _ _ _ _ _ => True) (fun _ U o U' => ∃ v L, o = .returned v ∧ Q_law s.heap.size v L ∧ CHr s consts_1 U.vm U.heap U'.vm U'.heap ∧ ReturnedEndW U o U' L room_1.cells room_1.slots) := by
    rcases own_and3 i0 with hk | hk | hk | hk
    · exact rm_law_0 l s _ hw hEL tables_1 i0 i1 i2 i3 w_COMPACT_STRINGS w_COUNT w_SIOOBE_FORMATTER s.heap s.heap.size (Nat.le_refl _) S_COMPACT_STRINGS hcs S_COUNT (Old.start s) E_w_COUNT hk hr_SIOOBE_FORMATTER S_SIOOBE_FORMATTER
    · exact rm_law_1 l s _ hw hEL tables_1 i0 i1 i2 i3 w_COMPACT_STRINGS w_COUNT ((i1 &&& (255 : Int32)).toUInt32.toUInt16.toUInt32.toInt32) w_SIOOBE_FORMATTER s.heap s.heap.size (Nat.le_refl _) S_COMPACT_STRINGS hcs S_COUNT (Old.start s) E_w_COUNT (own_char i1).2.2 (own_back i1) hk rfl (own_char i1).1 hr_SIOOBE_FORMATTER S_SIOOBE_FORMATTER
    · exact rm_law_2 l s _ hw hEL tables_1 i0 i1 i2 i3 w_COMPACT_STRINGS w_COUNT ((i1 &&& (255 : Int32)).toUInt32.toUInt16.toUInt32.toInt32) ((i2 &&& (255 : Int32)).toUInt32.toUInt16.toUInt32.toInt32) w_SIOOBE_FORMATTER s.heap s.heap.size (Nat.le_refl _) S_COMPACT_STRINGS hcs S_COUNT (Old.start s) E_w_COUNT (own_char i1).2.2 (own_back i1) (own_char i2).2.2 (own_back i2) hk rfl (own_char i1).1 rfl (own_char i2).1 hr_SIOOBE_FORMATTER S_SIOOBE_FORMATTER
    · exact rm_law_3 l s _ hw hEL tables_1 i0 i1 i2 i3 w_COMPACT_STRINGS w_COUNT ((i1 &&& (255 : Int32)).toUInt32.toUInt16.toUInt32.toInt32) ((i2 &&& (255 : Int32)).toUInt32.toUInt16.toUInt32.toInt32) ((i3 &&& (255 : Int32)).toUInt32.toUInt16.toUInt32.toInt32) w_SIOOBE_FORMATTER s.heap s.heap.size (Nat.le_refl _) S_COMPACT_STRINGS hcs S_COUNT (Old.start s) E_w_COUNT (own_char i1).2.2 (own_back i1) (own_char i2).2.2 (own_back i2) (own_char i3).2.2 (own_back i3) hk rfl (own_char i1).1 rfl (own_char i2).1 rfl (own_char i3).1 hr_SIOOBE_FORMATTER S_SIOOBE_FORMATTER
  obtain ⟨n, o, h1, h2, h3, _, L, rfl, ⟨rfl, N⟩, -, hq⟩ := key p e ha hc hk s m _ below hf ((Spec.applies_iff_loose hf).mp happ).1 ⟨rfl, State.Warmed39.refl s, rfl, H0c⟩ trivial
  refine ⟨n, _, h1, h2, h3, hpost _ _ _ _ _ _ ⟨Cond.after_iff.mpr rfl, Cond.after_iff.mpr (eq_i res_at (Term.int_eval (1)) rfl), trivial⟩ ⟨hq.1, hq.2.1, hq.2.2.1, (hq.2.2.2.sift fun y hy => Or.inr (N y hy)).mono (by decide) (by decide)⟩⟩
theorem main_1_1 : Claimed_1_1 := comes_1 fun _ _ _ _ _ _ h hF => ⟨h.1, hF⟩
theorem main_1_2 : Claimed_1_2 := comes_1 fun _ _ _ _ _ _ h hF => ⟨h.2.1, hF⟩
end Jvm.Pilot.@@N@@
namespace Jvm.Pilot.@@N@@
open Jvm Jvm.ClassFile Sem Op Lib Jvm.Free Jvm.Stand Jvm.Pilot.@@N@@.Jvm.D
/-! MADE BY PROGRAM (witnessworld.py) out of the Statement's table words and the real class files: 27 classes; the members and pool entries that the words name. The judged class is class 1, her method 1. -/
namespace start1
open Jvm.ClassFile
def u (s : String) : CpInfo := .utf8 (stringToUtf16 s)
/-- a pool by its gaps: so many unusable entries, then the entry; so many at the end -/
def gap : Nat → List CpInfo → List CpInfo
  | 0, r => r
  | n + 1, r => .unusable :: gap n r
def poolList (es : List (Nat × CpInfo)) (last : Nat) : List CpInfo := es.foldr (fun e r => gap e.1 (e.2 :: r)) (gap last [])
def pool (es : List (Nat × CpInfo)) (last : Nat) : Array CpInfo := ⟨poolList es last⟩
def fileOf (pool : Array CpInfo) (this : Nat) (attrs : Array Attribute := #[]) (ms : Array MethodInfo := #[]) (fl : Nat := 33) (sup : Nat := 0) (ifs : Array Nat := #[]) (fds : Array FieldInfo := #[]) : ClassFile where
  minorVersion := 0
  majorVersion := 65
  constantPool := pool
  accessFlags := fl
  thisClass := this
  superClass := sup
  interfaces := ifs
  fields := fds
  methods := ms
  attributes := attrs
def plain (name : String) (sup : Option ClassId) : Class where
  name := name
  kind := .ordinary
  loader := none
  accessFlags := 33
  super := sup
  interfaces := #[]
  cf := none
  fields := #[]
  methods := #[]
  instanceTypes := #[]
  staticTypes := #[]
  resolved := #[]
  callSites := []
  init := .initialized
  statics := none
  mirror := none

def pool0 : Array CpInfo := pool [(5, u "<init>"), (0, u "()V"), (1, .class_ 10), (1, u "java/lang/Object")] 113

def k0c0 : Code := { maxStack := 0, maxLocals := 1, code := object_method_1_code, exceptionTable := #[], attributes := #[] }
def k0m0 : Method := { name := "<init>", desc := "()V", sig := { parameters := [], returnType := none }, accessFlags := 1, code := some k0c0 }
/-- java/lang/Object -/
def k0 : Class := { plain "java/lang/Object" none with
  accessFlags := 33
  interfaces := #[]
  cf := some (fileOf pool0 8 #[] #[{ accessFlags := 1, nameIndex := 5, descriptorIndex := 6, attributes := #[] }] 33 0 #[] #[])
  fields := #[]
  methods := #[k0m0]
  instanceTypes := #[]
  staticTypes := #[]
  resolved := Array.replicate 124 none
  statics := none }

def pool1 : Array CpInfo := pool [(2, .class_ 4), (1, u "java/lang/Object"), (0, u "<init>"), (0, u "()V"), (0, .class_ 8), (0, u "java/lang/String"), (0, .methodref 7 10), (0, .nameAndType 5 11), (0, u "([C)V"), (0, .methodref 13 14), (0, .class_ 15), (0, .nameAndType 16 17), (0, u "com/example/sunder/sunder/Aggregate"), (0, u "sum"), (0, u "(Ljava/lang/String;)Lcom/example/sunder/sunder/Aggregate;"), (0, .methodref 13 19), (0, .nameAndType 20 21), (0, u "column"), (0, u "()Ljava/lang/String;"), (0, .methodref 7 23), (0, .nameAndType 24 25), (0, u "equals"), (0, u "(Ljava/lang/Object;)Z"), (0, .methodref 13 27), (0, .nameAndType 28 29), (0, u "count"), (0, u "()Lcom/example/sunder/sunder/Aggregate;"), (0, .methodref 13 31), (0, .nameAndType 32 21), (0, u "toString"), (0, .methodref 7 34), (0, .nameAndType 35 36), (0, u "length"), (0, u "()I"), (0, .methodref 7 38), (0, .nameAndType 39 40), (0, u "charAt"), (0, u "(I)C"), (0, .class_ 42), (0, u "com/example/sunder/sunder/AggregateSumPinLaw"), (2, u "law"), (0, u "(IIII)Z")] 5

def k1m0 : Method := { name := "<init>", desc := "()V", sig := { parameters := [], returnType := none }, accessFlags := 1, code := none }
def k1c1 : Code := { maxStack := 4, maxLocals := 10, code := code, exceptionTable := #[], attributes := #[] }
def k1m1 : Method := { name := "law", desc := "(IIII)Z", sig := { parameters := [.int, .int, .int, .int], returnType := some .boolean }, accessFlags := 9, code := some k1c1 }
/-- com/example/sunder/sunder/AggregateSumPinLaw -/
def k1 : Class := { plain "com/example/sunder/sunder/AggregateSumPinLaw" (some 0) with
  accessFlags := 49
  interfaces := #[]
  cf := some (fileOf pool1 41 #[] #[{ accessFlags := 1, nameIndex := 5, descriptorIndex := 6, attributes := #[] }, { accessFlags := 9, nameIndex := 45, descriptorIndex := 46, attributes := #[] }] 49 2 #[] #[])
  fields := #[]
  methods := #[k1m0, k1m1]
  instanceTypes := #[]
  staticTypes := #[]
  resolved := Array.replicate 52 none
  statics := none }

def pool2 : Array CpInfo := pool [(1, .class_ 2), (0, u "java/io/Serializable"), (0, .class_ 4), (0, u "java/lang/Object")] 2

/-- java/io/Serializable -/
def k2 : Class := { plain "java/io/Serializable" (some 0) with
  accessFlags := 1537
  interfaces := #[]
  cf := some (fileOf pool2 1 #[] #[] 1537 3 #[] #[])
  fields := #[]
  methods := #[]
  instanceTypes := #[]
  staticTypes := #[]
  resolved := Array.replicate 7 none
  statics := none }

def pool3 : Array CpInfo := pool [(1, .class_ 2), (0, u "java/lang/Comparable"), (0, .class_ 4), (0, u "java/lang/Object")] 7

/-- java/lang/Comparable -/
def k3 : Class := { plain "java/lang/Comparable" (some 0) with
  accessFlags := 1537
  interfaces := #[]
  cf := some (fileOf pool3 1 #[] #[] 1537 3 #[] #[])
  fields := #[]
  methods := #[]
  instanceTypes := #[]
  staticTypes := #[]
  resolved := Array.replicate 12 none
  statics := none }

def pool4 : Array CpInfo := pool [(2, .class_ 4), (1, u "java/lang/CharSequence"), (42, .class_ 48), (0, u "java/lang/CharSequence$1CodePointIterator"), (10, .class_ 60), (0, u "java/lang/CharSequence$1CharIterator"), (5, .class_ 67), (0, u "java/lang/Object")] 63

/-- java/lang/CharSequence -/
def k4 : Class := { plain "java/lang/CharSequence" (some 0) with
  accessFlags := 1537
  interfaces := #[]
  cf := some (fileOf pool4 2 #[.nestMembers #[47, 59]] #[] 1537 66 #[] #[])
  fields := #[]
  methods := #[]
  instanceTypes := #[]
  staticTypes := #[]
  resolved := Array.replicate 131 none
  statics := none }

def pool5 : Array CpInfo := pool [(1, .class_ 2), (0, u "java/lang/constant/Constable"), (0, .class_ 4), (0, u "java/lang/Object")] 6

/-- java/lang/constant/Constable -/
def k5 : Class := { plain "java/lang/constant/Constable" (some 0) with
  accessFlags := 1537
  interfaces := #[]
  cf := some (fileOf pool5 1 #[] #[] 1537 3 #[] #[])
  fields := #[]
  methods := #[]
  instanceTypes := #[]
  staticTypes := #[]
  resolved := Array.replicate 11 none
  statics := none }

def pool6 : Array CpInfo := pool [(1, .class_ 2), (0, u "java/lang/constant/ConstantDesc"), (0, .class_ 4), (0, u "java/lang/Object")] 32

/-- java/lang/constant/ConstantDesc -/
def k6 : Class := { plain "java/lang/constant/ConstantDesc" (some 0) with
  accessFlags := 1537
  interfaces := #[]
  cf := some (fileOf pool6 1 #[] #[] 1537 3 #[] #[])
  fields := #[]
  methods := #[]
  instanceTypes := #[]
  staticTypes := #[]
  resolved := Array.replicate 37 none
  statics := none }

def pool7 : Array CpInfo := pool [(1, .methodref 2 3), (0, .class_ 4), (0, .nameAndType 5 6), (0, u "java/lang/Object"), (0, u "<init>"), (0, u "()V"), (0, .string 8), (0, u ""), (0, .fieldref 10 11), (0, .class_ 12), (0, .nameAndType 13 14), (0, u "java/lang/String"), (0, u "value"), (0, u "[B"), (0, .fieldref 10 16), (0, .nameAndType 17 18), (0, u "coder"), (0, u "B"), (2, u "hash"), (0, u "I"), (2, u "hashIsZero"), (0, u "Z"), (0, .methodref 10 28), (0, .nameAndType 5 29), (0, u "([CIILjava/lang/Void;)V"), (8, .fieldref 10 39), (0, .nameAndType 40 26), (0, u "COMPACT_STRINGS"), (1, .class_ 44), (1, u "java/lang/StringUTF16"), (0, u "compress"), (1, .methodref 42 48), (0, .nameAndType 49 50), (0, u "coderFromArrayLen"), (0, u "([BI)B"), (3, .methodref 55 56), (0, .class_ 57), (0, .nameAndType 58 59), (0, u "java/util/Arrays"), (0, u "copyOfRange"), (0, u "([BII)[B"), (47, .class_ 109), (1, u "java/lang/StringLatin1"), (32, u "()Z"), (34, .methodref 42 178), (0, .nameAndType 45 179), (0, u "([CII)[B"), (13, .class_ 195), (1, u "java/lang/System"), (16, .methodref 193 213), (0, .nameAndType 214 215), (0, u "arraycopy"), (0, u "(Ljava/lang/Object;ILjava/lang/Object;II)V"), (118, u "()I"), (0, .methodref 10 336), (0, .nameAndType 17 337), (0, u "()B"), (2, u "()[B"), (22, u "([BI)C"), (27, u "(II)V"), (35, u "(I)C"), (61, .methodref 10 490), (0, .nameAndType 5 491), (0, u "(Ljava/lang/AbstractStringBuilder;Ljava/lang/Void;)V"), (0, .methodref 10 493), (0, .nameAndType 494 142), (0, u "isLatin1"), (0, .methodref 107 496), (0, .nameAndType 497 363), (0, u "charAt"), (3, u "checkIndex"), (4, .nameAndType 507 334), (0, u "length"), (24, u "getBytes"), (10, u "equals"), (5, .methodref 550 506), (0, .class_ 551), (0, u "java/lang/AbstractStringBuilder"), (0, .methodref 550 553), (0, .nameAndType 554 340), (0, u "getValue"), (18, u "(Ljava/lang/Object;)Z"), (1, .class_ 576), (0, u "java/lang/CharSequence"), (22, u "CASE_INSENSITIVE_ORDER"), (0, u "Ljava/util/Comparator;"), (220, u "([BIB)V"), (188, u "([C)V"), (36, .methodref 550 493), (5, .fieldref 1054 1055), (0, .class_ 1056), (0, .nameAndType 1057 1058), (0, u "jdk/internal/util/Preconditions"), (0, u "SIOOBE_FORMATTER"), (0, u "Ljava/util/function/BiFunction;"), (0, .methodref 1054 1060), (0, .nameAndType 501 1061), (0, u "(IILjava/util/function/BiFunction;)I"), (39, u "serialPersistentFields"), (0, u "[Ljava/io/ObjectStreamField;"), (0, .class_ 1104), (0, u "java/lang/String$CaseInsensitiveComparator"), (1, .class_ 1107), (0, u "java/io/Serializable"), (0, .class_ 1109), (0, u "java/lang/Comparable"), (0, .class_ 1111), (0, u "java/lang/constant/Constable"), (0, .class_ 1113), (0, u "java/lang/constant/ConstantDesc"), (2, u "serialVersionUID"), (0, u "J"), (3, u "REPL"), (0, u "C"), (2, u "LATIN1"), (1, u "UTF16"), (105, u "(Ljava/lang/StringBuilder;)V")] 217

def k7m0 : Method := { name := "<init>", desc := "()V", sig := { parameters := [], returnType := none }, accessFlags := 1, code := none }
def k7c1 : Code := { maxStack := 5, maxLocals := 2, code := jdk_42_method_3_code, exceptionTable := #[], attributes := #[] }
def k7m1 : Method := { name := "<init>", desc := "([C)V", sig := { parameters := [(.array .char)], returnType := none }, accessFlags := 1, code := some k7c1 }
def k7c2 : Code := { maxStack := 3, maxLocals := 2, code := jdk_42_method_53_code, exceptionTable := #[], attributes := #[] }
def k7m2 : Method := { name := "<init>", desc := "(Ljava/lang/StringBuilder;)V", sig := { parameters := [(.object "java/lang/StringBuilder")], returnType := none }, accessFlags := 1, code := some k7c2 }
def k7c3 : Code := { maxStack := 2, maxLocals := 1, code := jdk_42_method_54_code, exceptionTable := #[], attributes := #[] }
def k7m3 : Method := { name := "length", desc := "()I", sig := { parameters := [], returnType := some .int }, accessFlags := 1, code := some k7c3 }
def k7c4 : Code := { maxStack := 2, maxLocals := 2, code := jdk_42_method_56_code, exceptionTable := #[], attributes := #[] }
def k7m4 : Method := { name := "charAt", desc := "(I)C", sig := { parameters := [.int], returnType := some .char }, accessFlags := 1, code := some k7c4 }
def k7c5 : Code := { maxStack := 2, maxLocals := 3, code := jdk_42_method_66_code, exceptionTable := #[], attributes := #[] }
def k7m5 : Method := { name := "equals", desc := "(Ljava/lang/Object;)Z", sig := { parameters := [(.object "java/lang/Object")], returnType := some .boolean }, accessFlags := 1, code := some k7c5 }
def k7c6 : Code := { maxStack := 5, maxLocals := 4, code := jdk_42_method_147_code, exceptionTable := #[], attributes := #[] }
def k7m6 : Method := { name := "getBytes", desc := "([BIB)V", sig := { parameters := [(.array .byte), .int, .byte], returnType := none }, accessFlags := 0, code := some k7c6 }
def k7c7 : Code := { maxStack := 4, maxLocals := 6, code := jdk_42_method_149_code, exceptionTable := #[], attributes := #[] }
def k7m7 : Method := { name := "<init>", desc := "([CIILjava/lang/Void;)V", sig := { parameters := [(.array .char), .int, .int, (.object "java/lang/Void")], returnType := none }, accessFlags := 2, code := some k7c7 }
def k7c8 : Code := { maxStack := 5, maxLocals := 5, code := jdk_42_method_150_code, exceptionTable := #[], attributes := #[] }
def k7m8 : Method := { name := "<init>", desc := "(Ljava/lang/AbstractStringBuilder;Ljava/lang/Void;)V", sig := { parameters := [(.object "java/lang/AbstractStringBuilder"), (.object "java/lang/Void")], returnType := none }, accessFlags := 0, code := some k7c8 }
def k7c9 : Code := { maxStack := 1, maxLocals := 1, code := jdk_42_method_152_code, exceptionTable := #[], attributes := #[] }
def k7m9 : Method := { name := "coder", desc := "()B", sig := { parameters := [], returnType := some .byte }, accessFlags := 0, code := some k7c9 }
def k7c10 : Code := { maxStack := 1, maxLocals := 1, code := jdk_42_method_154_code, exceptionTable := #[], attributes := #[] }
def k7m10 : Method := { name := "isLatin1", desc := "()Z", sig := { parameters := [], returnType := some .boolean }, accessFlags := 0, code := some k7c10 }
def k7c11 : Code := { maxStack := 3, maxLocals := 2, code := jdk_42_method_155_code, exceptionTable := #[], attributes := #[] }
def k7m11 : Method := { name := "checkIndex", desc := "(II)V", sig := { parameters := [.int, .int], returnType := none }, accessFlags := 8, code := some k7c11 }
/-- java/lang/String -/
def k7 : Class := { plain "java/lang/String" (some 0) with
  accessFlags := 49
  interfaces := #[2, 3, 4, 5, 6]
  cf := some (fileOf pool7 10 #[.nestMembers #[1103]] #[{ accessFlags := 1, nameIndex := 5, descriptorIndex := 6, attributes := #[] }, { accessFlags := 1, nameIndex := 5, descriptorIndex := 1010, attributes := #[] }, { accessFlags := 1, nameIndex := 5, descriptorIndex := 1233, attributes := #[] }, { accessFlags := 1, nameIndex := 507, descriptorIndex := 334, attributes := #[] }, { accessFlags := 1, nameIndex := 497, descriptorIndex := 427, attributes := #[] }, { accessFlags := 1, nameIndex := 543, descriptorIndex := 573, attributes := #[] }, { accessFlags := 0, nameIndex := 532, descriptorIndex := 821, attributes := #[] }, { accessFlags := 2, nameIndex := 5, descriptorIndex := 29, attributes := #[] }, { accessFlags := 0, nameIndex := 5, descriptorIndex := 491, attributes := #[] }, { accessFlags := 0, nameIndex := 17, descriptorIndex := 337, attributes := #[] }, { accessFlags := 0, nameIndex := 494, descriptorIndex := 142, attributes := #[] }, { accessFlags := 8, nameIndex := 501, descriptorIndex := 391, attributes := #[] }] 49 2 #[1106, 1108, 575, 1110, 1112] #[{ accessFlags := 18, nameIndex := 13, descriptorIndex := 14, attributes := #[] }, { accessFlags := 18, nameIndex := 17, descriptorIndex := 18, attributes := #[] }, { accessFlags := 2, nameIndex := 21, descriptorIndex := 22, attributes := #[] }, { accessFlags := 2, nameIndex := 25, descriptorIndex := 26, attributes := #[] }, { accessFlags := 26, nameIndex := 1116, descriptorIndex := 1117, attributes := #[] }, { accessFlags := 24, nameIndex := 40, descriptorIndex := 26, attributes := #[] }, { accessFlags := 26, nameIndex := 1101, descriptorIndex := 1102, attributes := #[] }, { accessFlags := 26, nameIndex := 1121, descriptorIndex := 1122, attributes := #[] }, { accessFlags := 25, nameIndex := 599, descriptorIndex := 600, attributes := #[] }, { accessFlags := 24, nameIndex := 1125, descriptorIndex := 18, attributes := #[] }, { accessFlags := 24, nameIndex := 1127, descriptorIndex := 18, attributes := #[] }])
  fields := #[{ name := "value", type := (.array .byte), accessFlags := 18, slot := 0, constantValue := 0 }, { name := "coder", type := .byte, accessFlags := 18, slot := 1, constantValue := 0 }, { name := "hash", type := .int, accessFlags := 2, slot := 2, constantValue := 0 }, { name := "hashIsZero", type := .boolean, accessFlags := 2, slot := 3, constantValue := 0 }, { name := "serialVersionUID", type := .long, accessFlags := 26, slot := 0, constantValue := 0 }, { name := "COMPACT_STRINGS", type := .boolean, accessFlags := 24, slot := 1, constantValue := 0 }, { name := "serialPersistentFields", type := (.array (.object "java/io/ObjectStreamField")), accessFlags := 26, slot := 2, constantValue := 0 }, { name := "REPL", type := .char, accessFlags := 26, slot := 3, constantValue := 0 }, { name := "CASE_INSENSITIVE_ORDER", type := (.object "java/util/Comparator"), accessFlags := 25, slot := 4, constantValue := 0 }, { name := "LATIN1", type := .byte, accessFlags := 24, slot := 5, constantValue := 0 }, { name := "UTF16", type := .byte, accessFlags := 24, slot := 6, constantValue := 0 }]
  methods := #[k7m0, k7m1, k7m2, k7m3, k7m4, k7m5, k7m6, k7m7, k7m8, k7m9, k7m10, k7m11]
  instanceTypes := #[(.array .byte), .byte, .int, .boolean]
  staticTypes := #[.long, .boolean, (.array (.object "java/io/ObjectStreamField")), .char, (.object "java/util/Comparator"), .byte, .byte]
  resolved := Array.replicate 1451 none
  statics := some 0 }

def pool8 : Array CpInfo := pool [(1, .methodref 2 3), (0, .class_ 4), (0, .nameAndType 5 6), (0, u "java/lang/Object"), (0, u "<init>"), (0, u "()V"), (0, .fieldref 8 9), (0, .class_ 10), (0, .nameAndType 11 12), (0, u "com/example/sunder/sunder/Aggregate"), (0, u "column"), (0, u "Ljava/lang/String;"), (0, .fieldref 8 14), (0, .nameAndType 15 16), (0, u "COUNT"), (0, u "Lcom/example/sunder/sunder/Aggregate;"), (0, .string 11), (0, .methodref 19 20), (0, .class_ 21), (0, .nameAndType 22 23), (0, u "java/util/Objects"), (0, u "requireNonNull"), (0, u "(Ljava/lang/Object;Ljava/lang/String;)Ljava/lang/Object;"), (0, .class_ 25), (0, u "java/lang/String"), (0, .methodref 8 27), (0, .nameAndType 5 28), (0, u "(Ljava/lang/String;)V"), (1, u "count"), (0, .class_ 32), (0, u "java/lang/StringBuilder"), (0, .methodref 31 3), (0, .string 35), (0, u "sum("), (0, .methodref 31 37), (0, .nameAndType 38 39), (0, u "append"), (0, u "(Ljava/lang/String;)Ljava/lang/StringBuilder;"), (0, .string 41), (0, u ")"), (0, .methodref 31 43), (0, .nameAndType 44 45), (0, u "toString"), (0, u "()Ljava/lang/String;"), (2, u "()Lcom/example/sunder/sunder/Aggregate;"), (0, u "sum"), (0, u "(Ljava/lang/String;)Lcom/example/sunder/sunder/Aggregate;")] 4

def k8c0 : Code := { maxStack := 2, maxLocals := 2, code := prog_2_method_1_code, exceptionTable := #[], attributes := #[] }
def k8m0 : Method := { name := "<init>", desc := "(Ljava/lang/String;)V", sig := { parameters := [(.object "java/lang/String")], returnType := none }, accessFlags := 2, code := some k8c0 }
def k8c1 : Code := { maxStack := 1, maxLocals := 0, code := prog_2_method_2_code, exceptionTable := #[], attributes := #[] }
def k8m1 : Method := { name := "count", desc := "()Lcom/example/sunder/sunder/Aggregate;", sig := { parameters := [], returnType := some (.object "com/example/sunder/sunder/Aggregate") }, accessFlags := 9, code := some k8c1 }
def k8c2 : Code := { maxStack := 4, maxLocals := 1, code := prog_2_method_3_code, exceptionTable := #[], attributes := #[] }
def k8m2 : Method := { name := "sum", desc := "(Ljava/lang/String;)Lcom/example/sunder/sunder/Aggregate;", sig := { parameters := [(.object "java/lang/String")], returnType := some (.object "com/example/sunder/sunder/Aggregate") }, accessFlags := 9, code := some k8c2 }
def k8c3 : Code := { maxStack := 1, maxLocals := 1, code := prog_2_method_4_code, exceptionTable := #[], attributes := #[] }
def k8m3 : Method := { name := "column", desc := "()Ljava/lang/String;", sig := { parameters := [], returnType := some (.object "java/lang/String") }, accessFlags := 1, code := some k8c3 }
def k8c4 : Code := { maxStack := 2, maxLocals := 1, code := prog_2_method_5_code, exceptionTable := #[], attributes := #[] }
def k8m4 : Method := { name := "toString", desc := "()Ljava/lang/String;", sig := { parameters := [], returnType := some (.object "java/lang/String") }, accessFlags := 1, code := some k8c4 }
/-- com/example/sunder/sunder/Aggregate -/
def k8 : Class := { plain "com/example/sunder/sunder/Aggregate" (some 0) with
  accessFlags := 33
  interfaces := #[]
  cf := some (fileOf pool8 8 #[] #[{ accessFlags := 2, nameIndex := 5, descriptorIndex := 28, attributes := #[] }, { accessFlags := 9, nameIndex := 30, descriptorIndex := 48, attributes := #[] }, { accessFlags := 9, nameIndex := 49, descriptorIndex := 50, attributes := #[] }, { accessFlags := 1, nameIndex := 11, descriptorIndex := 45, attributes := #[] }, { accessFlags := 1, nameIndex := 44, descriptorIndex := 45, attributes := #[] }] 33 2 #[] #[{ accessFlags := 26, nameIndex := 15, descriptorIndex := 16, attributes := #[] }, { accessFlags := 18, nameIndex := 11, descriptorIndex := 12, attributes := #[] }])
  fields := #[{ name := "COUNT", type := (.object "com/example/sunder/sunder/Aggregate"), accessFlags := 26, slot := 0, constantValue := 0 }, { name := "column", type := (.object "java/lang/String"), accessFlags := 18, slot := 0, constantValue := 0 }]
  methods := #[k8m0, k8m1, k8m2, k8m3, k8m4]
  instanceTypes := #[(.object "java/lang/String")]
  staticTypes := #[(.object "com/example/sunder/sunder/Aggregate")]
  resolved := Array.replicate 55 none
  statics := some 1 }

def pool9 : Array CpInfo := pool [(2, .class_ 4), (1, u "java/lang/Object"), (0, u "<init>"), (0, u "()V"), (35, .class_ 44), (1, u "java/util/Objects"), (0, u "requireNonNull"), (48, u "(Ljava/lang/Object;Ljava/lang/String;)Ljava/lang/Object;")] 89

def k9m0 : Method := { name := "<init>", desc := "()V", sig := { parameters := [], returnType := none }, accessFlags := 2, code := none }
def k9c1 : Code := { maxStack := 3, maxLocals := 2, code := jdk_31_method_11_code, exceptionTable := #[], attributes := #[] }
def k9m1 : Method := { name := "requireNonNull", desc := "(Ljava/lang/Object;Ljava/lang/String;)Ljava/lang/Object;", sig := { parameters := [(.object "java/lang/Object"), (.object "java/lang/String")], returnType := some (.object "java/lang/Object") }, accessFlags := 9, code := some k9c1 }
/-- java/util/Objects -/
def k9 : Class := { plain "java/util/Objects" (some 0) with
  accessFlags := 49
  interfaces := #[]
  cf := some (fileOf pool9 42 #[] #[{ accessFlags := 2, nameIndex := 5, descriptorIndex := 6, attributes := #[] }, { accessFlags := 9, nameIndex := 45, descriptorIndex := 94, attributes := #[] }] 49 2 #[] #[])
  fields := #[]
  methods := #[k9m0, k9m1]
  instanceTypes := #[]
  staticTypes := #[]
  resolved := Array.replicate 184 none
  statics := none }

def pool10 : Array CpInfo := pool [(1, .class_ 2), (0, u "java/lang/Appendable"), (0, .class_ 4), (0, u "java/lang/Object")] 9

/-- java/lang/Appendable -/
def k10 : Class := { plain "java/lang/Appendable" (some 0) with
  accessFlags := 1537
  interfaces := #[]
  cf := some (fileOf pool10 1 #[] #[] 1537 3 #[] #[])
  fields := #[]
  methods := #[]
  instanceTypes := #[]
  staticTypes := #[]
  resolved := Array.replicate 14 none
  statics := none }

def pool11 : Array CpInfo := pool [(1, .class_ 2), (0, u "java/lang/String"), (0, .methodref 4 5), (0, .class_ 6), (0, .nameAndType 7 8), (0, u "java/lang/Object"), (0, u "<init>"), (0, u "()V"), (1, .class_ 12), (1, u "java/lang/AbstractStringBuilder"), (0, u "EMPTYVALUE"), (0, u "[B"), (0, .fieldref 10 16), (0, .nameAndType 17 14), (0, u "value"), (0, .fieldref 1 19), (0, .nameAndType 20 21), (0, u "COMPACT_STRINGS"), (0, u "Z"), (0, .fieldref 10 23), (0, .nameAndType 24 25), (0, u "coder"), (0, u "B"), (6, .methodref 1 33), (0, .nameAndType 34 35), (0, u "length"), (0, u "()I"), (4, .methodref 1 41), (0, .nameAndType 24 42), (0, u "()B"), (2, u "append"), (0, u "(Ljava/lang/String;)Ljava/lang/AbstractStringBuilder;"), (1, .class_ 49), (0, u "java/lang/CharSequence"), (19, u "(Ljava/lang/String;)V"), (5, u "maybeLatin1"), (3, .fieldref 10 80), (0, .nameAndType 81 82), (0, u "count"), (0, u "I"), (2, u "isLatin1"), (0, u "()Z"), (13, .methodref 10 101), (0, .nameAndType 102 103), (0, u "ensureCapacityInternal"), (0, u "(I)V"), (104, .methodref 10 209), (0, .nameAndType 210 211), (0, u "putStringAt"), (0, u "(ILjava/lang/String;)V"), (5, u "inflateIfNeededFor"), (2, .nameAndType 221 222), (0, u "getBytes"), (0, u "([BIB)V"), (174, .methodref 10 398), (0, .nameAndType 217 69), (0, .methodref 1 220), (3, u "()[B"), (40, .class_ 445), (0, u "java/lang/Appendable"), (106, u "getValue")] 56

def k11m0 : Method := { name := "<init>", desc := "()V", sig := { parameters := [], returnType := none }, accessFlags := 0, code := none }
def k11c1 : Code := { maxStack := 2, maxLocals := 2, code := jdk_68_method_2_code, exceptionTable := #[], attributes := #[] }
def k11m1 : Method := { name := "<init>", desc := "(I)V", sig := { parameters := [.int], returnType := none }, accessFlags := 0, code := some k11c1 }
def k11c2 : Code := { maxStack := 1, maxLocals := 1, code := jdk_68_method_6_code, exceptionTable := #[], attributes := #[] }
def k11m2 : Method := { name := "length", desc := "()I", sig := { parameters := [], returnType := some .int }, accessFlags := 1, code := some k11c2 }
def k11c3 : Code := { maxStack := 4, maxLocals := 3, code := jdk_68_method_9_code, exceptionTable := #[], attributes := #[] }
def k11m3 : Method := { name := "ensureCapacityInternal", desc := "(I)V", sig := { parameters := [.int], returnType := none }, accessFlags := 2, code := some k11c3 }
def k11c4 : Code := { maxStack := 3, maxLocals := 3, code := jdk_68_method_22_code, exceptionTable := #[], attributes := #[] }
def k11m4 : Method := { name := "append", desc := "(Ljava/lang/String;)Ljava/lang/AbstractStringBuilder;", sig := { parameters := [(.object "java/lang/String")], returnType := some (.object "java/lang/AbstractStringBuilder") }, accessFlags := 1, code := some k11c4 }
def k11c5 : Code := { maxStack := 1, maxLocals := 1, code := jdk_68_method_64_code, exceptionTable := #[], attributes := #[] }
def k11m5 : Method := { name := "getValue", desc := "()[B", sig := { parameters := [], returnType := some (.array .byte) }, accessFlags := 16, code := some k11c5 }
def k11c6 : Code := { maxStack := 1, maxLocals := 1, code := jdk_68_method_68_code, exceptionTable := #[], attributes := #[] }
def k11m6 : Method := { name := "isLatin1", desc := "()Z", sig := { parameters := [], returnType := some .boolean }, accessFlags := 16, code := some k11c6 }
def k11c7 : Code := { maxStack := 2, maxLocals := 2, code := jdk_68_method_71_code, exceptionTable := #[], attributes := #[] }
def k11m7 : Method := { name := "inflateIfNeededFor", desc := "(Ljava/lang/String;)V", sig := { parameters := [(.object "java/lang/String")], returnType := none }, accessFlags := 2, code := some k11c7 }
def k11c8 : Code := { maxStack := 4, maxLocals := 3, code := jdk_68_method_73_code, exceptionTable := #[], attributes := #[] }
def k11m8 : Method := { name := "putStringAt", desc := "(ILjava/lang/String;)V", sig := { parameters := [.int, (.object "java/lang/String")], returnType := none }, accessFlags := 2, code := some k11c8 }
/-- java/lang/AbstractStringBuilder -/
def k11 : Class := { plain "java/lang/AbstractStringBuilder" (some 0) with
  accessFlags := 1056
  interfaces := #[10, 4]
  cf := some (fileOf pool11 10 #[] #[{ accessFlags := 0, nameIndex := 7, descriptorIndex := 8, attributes := #[] }, { accessFlags := 0, nameIndex := 7, descriptorIndex := 103, attributes := #[] }, { accessFlags := 1, nameIndex := 34, descriptorIndex := 35, attributes := #[] }, { accessFlags := 2, nameIndex := 102, descriptorIndex := 103, attributes := #[] }, { accessFlags := 1, nameIndex := 45, descriptorIndex := 46, attributes := #[] }, { accessFlags := 16, nameIndex := 552, descriptorIndex := 403, attributes := #[] }, { accessFlags := 16, nameIndex := 85, descriptorIndex := 86, attributes := #[] }, { accessFlags := 2, nameIndex := 217, descriptorIndex := 69, attributes := #[] }, { accessFlags := 2, nameIndex := 210, descriptorIndex := 211, attributes := #[] }] 1056 4 #[444, 48] #[{ accessFlags := 0, nameIndex := 17, descriptorIndex := 14, attributes := #[] }, { accessFlags := 0, nameIndex := 24, descriptorIndex := 25, attributes := #[] }, { accessFlags := 0, nameIndex := 75, descriptorIndex := 21, attributes := #[] }, { accessFlags := 0, nameIndex := 81, descriptorIndex := 82, attributes := #[] }, { accessFlags := 26, nameIndex := 13, descriptorIndex := 14, attributes := #[] }])
  fields := #[{ name := "value", type := (.array .byte), accessFlags := 0, slot := 0, constantValue := 0 }, { name := "coder", type := .byte, accessFlags := 0, slot := 1, constantValue := 0 }, { name := "maybeLatin1", type := .boolean, accessFlags := 0, slot := 2, constantValue := 0 }, { name := "count", type := .int, accessFlags := 0, slot := 3, constantValue := 0 }, { name := "EMPTYVALUE", type := (.array .byte), accessFlags := 26, slot := 0, constantValue := 0 }]
  methods := #[k11m0, k11m1, k11m2, k11m3, k11m4, k11m5, k11m6, k11m7, k11m8]
  instanceTypes := #[(.array .byte), .byte, .boolean, .int]
  staticTypes := #[(.array .byte)]
  resolved := Array.replicate 609 none
  statics := none }

def pool12 : Array CpInfo := pool [(1, .methodref 2 3), (0, .class_ 4), (0, .nameAndType 5 6), (0, u "java/lang/AbstractStringBuilder"), (0, u "<init>"), (0, u "(I)V"), (11, .class_ 20), (1, u "java/lang/String"), (3, .class_ 26), (1, u "java/lang/StringBuilder"), (0, u "append"), (0, u "(Ljava/lang/String;)Ljava/lang/StringBuilder;"), (0, .methodref 2 30), (0, .nameAndType 27 31), (0, u "(Ljava/lang/String;)Ljava/lang/AbstractStringBuilder;"), (105, .methodref 18 138), (0, .nameAndType 5 139), (0, u "(Ljava/lang/StringBuilder;)V"), (5, u "()V"), (10, u "()I"), (186, .methodref 2 344), (0, .nameAndType 345 156), (0, u "length"), (3, .class_ 350), (0, u "java/lang/Appendable"), (0, .class_ 352), (0, u "java/io/Serializable"), (0, .class_ 354), (0, u "java/lang/Comparable"), (0, .class_ 356), (0, u "java/lang/CharSequence"), (0, u "serialVersionUID"), (0, u "J"), (40, u "toString"), (0, u "()Ljava/lang/String;")] 21

def k12c0 : Code := { maxStack := 2, maxLocals := 1, code := jdk_67_method_1_code, exceptionTable := #[], attributes := #[] }
def k12m0 : Method := { name := "<init>", desc := "()V", sig := { parameters := [], returnType := none }, accessFlags := 1, code := some k12c0 }
def k12c1 : Code := { maxStack := 2, maxLocals := 2, code := jdk_67_method_7_code, exceptionTable := #[], attributes := #[] }
def k12m1 : Method := { name := "append", desc := "(Ljava/lang/String;)Ljava/lang/StringBuilder;", sig := { parameters := [(.object "java/lang/String")], returnType := some (.object "java/lang/StringBuilder") }, accessFlags := 1, code := some k12c1 }
def k12c2 : Code := { maxStack := 3, maxLocals := 1, code := jdk_67_method_42_code, exceptionTable := #[], attributes := #[] }
def k12m2 : Method := { name := "toString", desc := "()Ljava/lang/String;", sig := { parameters := [], returnType := some (.object "java/lang/String") }, accessFlags := 1, code := some k12c2 }
def k12c3 : Code := { maxStack := 1, maxLocals := 1, code := jdk_67_method_93_code, exceptionTable := #[], attributes := #[] }
def k12m3 : Method := { name := "length", desc := "()I", sig := { parameters := [], returnType := some .int }, accessFlags := 4161, code := some k12c3 }
/-- java/lang/StringBuilder -/
def k12 : Class := { plain "java/lang/StringBuilder" (some 11) with
  accessFlags := 49
  interfaces := #[10, 2, 3, 4]
  cf := some (fileOf pool12 24 #[] #[{ accessFlags := 1, nameIndex := 5, descriptorIndex := 145, attributes := #[] }, { accessFlags := 1, nameIndex := 27, descriptorIndex := 28, attributes := #[] }, { accessFlags := 1, nameIndex := 399, descriptorIndex := 400, attributes := #[] }, { accessFlags := 4161, nameIndex := 345, descriptorIndex := 156, attributes := #[] }] 49 2 #[349, 351, 353, 355] #[{ accessFlags := 24, nameIndex := 357, descriptorIndex := 358, attributes := #[] }])
  fields := #[{ name := "serialVersionUID", type := .long, accessFlags := 24, slot := 0, constantValue := 0 }]
  methods := #[k12m0, k12m1, k12m2, k12m3]
  instanceTypes := #[(.array .byte), .byte, .boolean, .int]
  staticTypes := #[.long]
  resolved := Array.replicate 422 none
  statics := none }

def pool13 : Array CpInfo := pool [(2, .class_ 4), (1, u "java/lang/Object"), (0, u "<init>"), (0, u "()V"), (1, .class_ 10), (1, u "java/lang/System"), (0, u "allowSecurityManager"), (0, u "I"), (16, u "cons"), (0, u "Ljava/io/Console;"), (77, .class_ 110), (1, u "java/lang/System$CallersHolder"), (43, u "initialErrStream"), (0, u "Ljava/io/PrintStream;"), (19, u "security"), (0, u "Ljava/lang/SecurityManager;"), (31, .class_ 209), (0, u "java/lang/System$1"), (7, u "props"), (0, u "Ljava/util/Properties;"), (2, u "lineSeparator"), (0, u "Ljava/lang/String;"), (96, .class_ 321), (1, u "java/lang/System$LoggerFinder"), (5, .class_ 328), (0, u "java/lang/System$Logger"), (67, u "err"), (2, u "out"), (91, u "notSupportedJnuEncoding"), (15, u "in"), (17, u "initialIn"), (0, u "Ljava/io/InputStream;"), (35, u "bootLayer"), (0, u "Ljava/lang/ModuleLayer;"), (99, .class_ 664), (0, u "java/lang/System$2"), (9, u "NEVER"), (2, u "MAYBE"), (49, u "arraycopy"), (0, u "(Ljava/lang/Object;ILjava/lang/Object;II)V"), (72, .class_ 802), (0, u "java/lang/System$Logger$Level")] 31

def k13m0 : Method := { name := "<init>", desc := "()V", sig := { parameters := [], returnType := none }, accessFlags := 2, code := none }
def k13m1 : Method := { name := "arraycopy", desc := "(Ljava/lang/Object;ILjava/lang/Object;II)V", sig := { parameters := [(.object "java/lang/Object"), .int, (.object "java/lang/Object"), .int, .int], returnType := none }, accessFlags := 265, code := none }
/-- java/lang/System -/
def k13 : Class := { plain "java/lang/System" (some 0) with
  accessFlags := 49
  interfaces := #[]
  cf := some (fileOf pool13 8 #[.nestMembers #[319, 327, 801, 108, 663, 208]] #[{ accessFlags := 2, nameIndex := 5, descriptorIndex := 6, attributes := #[] }, { accessFlags := 265, nameIndex := 727, descriptorIndex := 728, attributes := #[] }] 49 2 #[] #[{ accessFlags := 25, nameIndex := 507, descriptorIndex := 526, attributes := #[] }, { accessFlags := 25, nameIndex := 399, descriptorIndex := 155, attributes := #[] }, { accessFlags := 25, nameIndex := 396, descriptorIndex := 155, attributes := #[] }, { accessFlags := 10, nameIndex := 525, descriptorIndex := 526, attributes := #[] }, { accessFlags := 26, nameIndex := 674, descriptorIndex := 12, attributes := #[] }, { accessFlags := 26, nameIndex := 677, descriptorIndex := 12, attributes := #[] }, { accessFlags := 10, nameIndex := 11, descriptorIndex := 12, attributes := #[] }, { accessFlags := 74, nameIndex := 175, descriptorIndex := 176, attributes := #[] }, { accessFlags := 10, nameIndex := 491, descriptorIndex := 222, attributes := #[] }, { accessFlags := 74, nameIndex := 29, descriptorIndex := 30, attributes := #[] }, { accessFlags := 74, nameIndex := 154, descriptorIndex := 155, attributes := #[] }, { accessFlags := 10, nameIndex := 217, descriptorIndex := 218, attributes := #[] }, { accessFlags := 10, nameIndex := 221, descriptorIndex := 222, attributes := #[] }, { accessFlags := 8, nameIndex := 562, descriptorIndex := 563, attributes := #[] }])
  fields := #[{ name := "in", type := (.object "java/io/InputStream"), accessFlags := 25, slot := 0, constantValue := 0 }, { name := "out", type := (.object "java/io/PrintStream"), accessFlags := 25, slot := 1, constantValue := 0 }, { name := "err", type := (.object "java/io/PrintStream"), accessFlags := 25, slot := 2, constantValue := 0 }, { name := "initialIn", type := (.object "java/io/InputStream"), accessFlags := 10, slot := 3, constantValue := 0 }, { name := "NEVER", type := .int, accessFlags := 26, slot := 4, constantValue := 0 }, { name := "MAYBE", type := .int, accessFlags := 26, slot := 5, constantValue := 0 }, { name := "allowSecurityManager", type := .int, accessFlags := 10, slot := 6, constantValue := 0 }, { name := "security", type := (.object "java/lang/SecurityManager"), accessFlags := 74, slot := 7, constantValue := 0 }, { name := "notSupportedJnuEncoding", type := (.object "java/lang/String"), accessFlags := 10, slot := 8, constantValue := 0 }, { name := "cons", type := (.object "java/io/Console"), accessFlags := 74, slot := 9, constantValue := 0 }, { name := "initialErrStream", type := (.object "java/io/PrintStream"), accessFlags := 74, slot := 10, constantValue := 0 }, { name := "props", type := (.object "java/util/Properties"), accessFlags := 10, slot := 11, constantValue := 0 }, { name := "lineSeparator", type := (.object "java/lang/String"), accessFlags := 10, slot := 12, constantValue := 0 }, { name := "bootLayer", type := (.object "java/lang/ModuleLayer"), accessFlags := 8, slot := 13, constantValue := 0 }]
  methods := #[k13m0, k13m1]
  instanceTypes := #[]
  staticTypes := #[(.object "java/io/InputStream"), (.object "java/io/PrintStream"), (.object "java/io/PrintStream"), (.object "java/io/InputStream"), .int, .int, .int, (.object "java/lang/SecurityManager"), (.object "java/lang/String"), (.object "java/io/Console"), (.object "java/io/PrintStream"), (.object "java/util/Properties"), (.object "java/lang/String"), (.object "java/lang/ModuleLayer")]
  resolved := Array.replicate 834 none
  statics := none }

def pool14 : Array CpInfo := pool [(2, .class_ 4), (1, u "java/lang/Object"), (0, u "<init>"), (0, u "()V"), (7, .class_ 16), (1, u "java/util/Arrays"), (57, .class_ 76), (1, u "java/util/Arrays$NaturalOrder"), (36, .class_ 115), (1, u "java/util/Arrays$LegacyMergeSort"), (1, u "Z"), (21, u "copyOfRange"), (10, .methodref 151 152), (0, .class_ 153), (0, .nameAndType 154 155), (0, u "java/lang/System"), (0, u "arraycopy"), (0, u "(Ljava/lang/Object;ILjava/lang/Object;II)V"), (148, .methodref 305 306), (0, .class_ 307), (0, .nameAndType 308 309), (0, u "java/lang/Math"), (0, u "min"), (0, u "(II)I"), (29, .methodref 14 340), (0, .nameAndType 341 342), (0, u "copyOfRangeByte"), (0, u "([BII)[B"), (0, .methodref 14 344), (0, .nameAndType 345 346), (0, u "checkLength"), (0, u "(II)V"), (28, .class_ 376), (0, u "java/util/Arrays$ArrayList"), (68, u "$assertionsDisabled"), (269, u "MIN_ARRAY_SORT_GRAN"), (0, u "I"), (2, u "INSERTIONSORT_THRESHOLD"), (255, .class_ 976), (0, u "java/util/Arrays$ArrayItr")] 52

def k14m0 : Method := { name := "<init>", desc := "()V", sig := { parameters := [], returnType := none }, accessFlags := 2, code := none }
def k14c1 : Code := { maxStack := 4, maxLocals := 2, code := jdk_65_method_131_code, exceptionTable := #[], attributes := #[] }
def k14m1 : Method := { name := "checkLength", desc := "(II)V", sig := { parameters := [.int, .int], returnType := none }, accessFlags := 10, code := some k14c1 }
def k14c2 : Code := { maxStack := 3, maxLocals := 3, code := jdk_65_method_132_code, exceptionTable := #[], attributes := #[] }
def k14m2 : Method := { name := "copyOfRange", desc := "([BII)[B", sig := { parameters := [(.array .byte), .int, .int], returnType := some (.array .byte) }, accessFlags := 9, code := some k14c2 }
def k14c3 : Code := { maxStack := 6, maxLocals := 5, code := jdk_65_method_133_code, exceptionTable := #[], attributes := #[] }
def k14m3 : Method := { name := "copyOfRangeByte", desc := "([BII)[B", sig := { parameters := [(.array .byte), .int, .int], returnType := some (.array .byte) }, accessFlags := 10, code := some k14c3 }
/-- java/util/Arrays -/
def k14 : Class := { plain "java/util/Arrays" (some 0) with
  accessFlags := 49
  interfaces := #[]
  cf := some (fileOf pool14 14 #[.nestMembers #[975, 375, 113, 74]] #[{ accessFlags := 2, nameIndex := 5, descriptorIndex := 6, attributes := #[] }, { accessFlags := 10, nameIndex := 345, descriptorIndex := 346, attributes := #[] }, { accessFlags := 9, nameIndex := 139, descriptorIndex := 342, attributes := #[] }, { accessFlags := 10, nameIndex := 341, descriptorIndex := 342, attributes := #[] }] 49 2 #[] #[{ accessFlags := 26, nameIndex := 715, descriptorIndex := 716, attributes := #[] }, { accessFlags := 26, nameIndex := 719, descriptorIndex := 716, attributes := #[] }, { accessFlags := 4120, nameIndex := 445, descriptorIndex := 117, attributes := #[] }])
  fields := #[{ name := "MIN_ARRAY_SORT_GRAN", type := .int, accessFlags := 26, slot := 0, constantValue := 0 }, { name := "INSERTIONSORT_THRESHOLD", type := .int, accessFlags := 26, slot := 1, constantValue := 0 }, { name := "$assertionsDisabled", type := .boolean, accessFlags := 4120, slot := 2, constantValue := 0 }]
  methods := #[k14m0, k14m1, k14m2, k14m3]
  instanceTypes := #[]
  staticTypes := #[.int, .int, .boolean]
  resolved := Array.replicate 1029 none
  statics := none }

def pool15 : Array CpInfo := pool [(1, .class_ 2), (0, u "java/lang/Math"), (1, .class_ 6), (1, u "java/lang/Object"), (0, u "<init>"), (0, u "()V"), (89, .class_ 100), (1, u "java/lang/Math$RandomNumberGeneratorHolder"), (71, u "negativeZeroFloatBits"), (0, u "J"), (2, u "negativeZeroDoubleBits"), (24, u "min"), (43, u "$assertionsDisabled"), (0, u "Z"), (88, u "(II)I"), (2, u "twoToTheDoubleScaleDown"), (0, u "D"), (4, u "twoToTheDoubleScaleUp"), (9, u "E"), (3, u "PI"), (2, u "TAU"), (2, u "DEGREES_TO_RADIANS"), (0, u "RADIANS_TO_DEGREES")] 94

def k15m0 : Method := { name := "<init>", desc := "()V", sig := { parameters := [], returnType := none }, accessFlags := 2, code := none }
def k15c1 : Code := { maxStack := 2, maxLocals := 2, code := jdk_29_method_69_code, exceptionTable := #[], attributes := #[] }
def k15m1 : Method := { name := "min", desc := "(II)I", sig := { parameters := [.int, .int], returnType := some .int }, accessFlags := 9, code := some k15c1 }
/-- java/lang/Math -/
def k15 : Class := { plain "java/lang/Math" (some 0) with
  accessFlags := 49
  interfaces := #[]
  cf := some (fileOf pool15 1 #[.nestMembers #[98]] #[{ accessFlags := 2, nameIndex := 7, descriptorIndex := 8, attributes := #[] }, { accessFlags := 9, nameIndex := 201, descriptorIndex := 335, attributes := #[] }] 49 4 #[] #[{ accessFlags := 25, nameIndex := 354, descriptorIndex := 339, attributes := #[] }, { accessFlags := 25, nameIndex := 358, descriptorIndex := 339, attributes := #[] }, { accessFlags := 25, nameIndex := 361, descriptorIndex := 339, attributes := #[] }, { accessFlags := 26, nameIndex := 364, descriptorIndex := 339, attributes := #[] }, { accessFlags := 26, nameIndex := 365, descriptorIndex := 339, attributes := #[] }, { accessFlags := 26, nameIndex := 172, descriptorIndex := 173, attributes := #[] }, { accessFlags := 26, nameIndex := 176, descriptorIndex := 173, attributes := #[] }, { accessFlags := 8, nameIndex := 344, descriptorIndex := 339, attributes := #[] }, { accessFlags := 8, nameIndex := 338, descriptorIndex := 339, attributes := #[] }, { accessFlags := 4120, nameIndex := 245, descriptorIndex := 246, attributes := #[] }])
  fields := #[{ name := "E", type := .double, accessFlags := 25, slot := 0, constantValue := 0 }, { name := "PI", type := .double, accessFlags := 25, slot := 1, constantValue := 0 }, { name := "TAU", type := .double, accessFlags := 25, slot := 2, constantValue := 0 }, { name := "DEGREES_TO_RADIANS", type := .double, accessFlags := 26, slot := 3, constantValue := 0 }, { name := "RADIANS_TO_DEGREES", type := .double, accessFlags := 26, slot := 4, constantValue := 0 }, { name := "negativeZeroFloatBits", type := .long, accessFlags := 26, slot := 5, constantValue := 0 }, { name := "negativeZeroDoubleBits", type := .long, accessFlags := 26, slot := 6, constantValue := 0 }, { name := "twoToTheDoubleScaleUp", type := .double, accessFlags := 8, slot := 7, constantValue := 0 }, { name := "twoToTheDoubleScaleDown", type := .double, accessFlags := 8, slot := 8, constantValue := 0 }, { name := "$assertionsDisabled", type := .boolean, accessFlags := 4120, slot := 9, constantValue := 0 }]
  methods := #[k15m0, k15m1]
  instanceTypes := #[]
  staticTypes := #[.double, .double, .double, .double, .double, .long, .long, .double, .double, .boolean]
  resolved := Array.replicate 460 none
  statics := none }

def pool16 : Array CpInfo := pool [(1, .class_ 2), (0, u "java/lang/String"), (1, .class_ 6), (1, u "java/lang/Object"), (0, u "<init>"), (0, u "()V"), (0, .methodref 1 10), (0, .nameAndType 11 12), (0, u "checkIndex"), (0, u "(II)V"), (1, .class_ 16), (1, u "java/lang/StringLatin1"), (36, u "([BI)C"), (67, u "$assertionsDisabled"), (0, u "Z"), (98, .class_ 223), (1, u "java/lang/StringLatin1$LinesSpliterator"), (28, u "charAt"), (137, .class_ 391), (0, u "java/lang/StringLatin1$CharsSpliterator")] 3

def k16m0 : Method := { name := "<init>", desc := "()V", sig := { parameters := [], returnType := none }, accessFlags := 0, code := none }
def k16c1 : Code := { maxStack := 2, maxLocals := 2, code := jdk_43_method_2_code, exceptionTable := #[], attributes := #[] }
def k16m1 : Method := { name := "charAt", desc := "([BI)C", sig := { parameters := [(.array .byte), .int], returnType := some .char }, accessFlags := 9, code := some k16c1 }
/-- java/lang/StringLatin1 -/
def k16 : Class := { plain "java/lang/StringLatin1" (some 0) with
  accessFlags := 48
  interfaces := #[]
  cf := some (fileOf pool16 14 #[.nestMembers #[390, 221]] #[{ accessFlags := 0, nameIndex := 7, descriptorIndex := 8, attributes := #[] }, { accessFlags := 9, nameIndex := 252, descriptorIndex := 53, attributes := #[] }] 48 4 #[] #[{ accessFlags := 4120, nameIndex := 121, descriptorIndex := 122, attributes := #[] }])
  fields := #[{ name := "$assertionsDisabled", type := .boolean, accessFlags := 4120, slot := 0, constantValue := 0 }]
  methods := #[k16m0, k16m1]
  instanceTypes := #[]
  staticTypes := #[.boolean]
  resolved := Array.replicate 395 none
  statics := none }

def pool17 : Array CpInfo := pool [(2, .class_ 4), (1, u "java/lang/Object"), (0, u "<init>"), (0, u "()V"), (17, .class_ 26), (1, u "jdk/internal/util/Preconditions"), (6, u "checkIndex"), (21, .class_ 56), (0, u "jdk/internal/util/Preconditions$4"), (57, .class_ 115), (0, u "jdk/internal/util/Preconditions$1"), (7, u "SIOOBE_FORMATTER"), (0, u "Ljava/util/function/BiFunction;"), (0, .class_ 126), (0, u "jdk/internal/util/Preconditions$2"), (3, u "AIOOBE_FORMATTER"), (0, .class_ 132), (0, u "jdk/internal/util/Preconditions$3"), (3, u "IOOBE_FORMATTER"), (41, u "(IILjava/util/function/BiFunction;)I")] 15

def k17m0 : Method := { name := "<init>", desc := "()V", sig := { parameters := [], returnType := none }, accessFlags := 1, code := none }
def k17c1 : Code := { maxStack := 3, maxLocals := 3, code := jdk_41_method_11_code, exceptionTable := #[], attributes := #[] }
def k17m1 : Method := { name := "checkIndex", desc := "(IILjava/util/function/BiFunction;)I", sig := { parameters := [.int, .int, (.object "java/util/function/BiFunction")], returnType := some .int }, accessFlags := 9, code := some k17c1 }
/-- jdk/internal/util/Preconditions -/
def k17 : Class := { plain "jdk/internal/util/Preconditions" (some 0) with
  accessFlags := 33
  interfaces := #[]
  cf := some (fileOf pool17 24 #[.nestMembers #[55, 131, 125, 114]] #[{ accessFlags := 1, nameIndex := 5, descriptorIndex := 6, attributes := #[] }, { accessFlags := 9, nameIndex := 33, descriptorIndex := 178, attributes := #[] }] 33 2 #[] #[{ accessFlags := 25, nameIndex := 123, descriptorIndex := 124, attributes := #[] }, { accessFlags := 25, nameIndex := 130, descriptorIndex := 124, attributes := #[] }, { accessFlags := 25, nameIndex := 136, descriptorIndex := 124, attributes := #[] }])
  fields := #[{ name := "SIOOBE_FORMATTER", type := (.object "java/util/function/BiFunction"), accessFlags := 25, slot := 0, constantValue := 0 }, { name := "AIOOBE_FORMATTER", type := (.object "java/util/function/BiFunction"), accessFlags := 25, slot := 1, constantValue := 0 }, { name := "IOOBE_FORMATTER", type := (.object "java/util/function/BiFunction"), accessFlags := 25, slot := 2, constantValue := 0 }]
  methods := #[k17m0, k17m1]
  instanceTypes := #[]
  staticTypes := #[(.object "java/util/function/BiFunction"), (.object "java/util/function/BiFunction"), (.object "java/util/function/BiFunction")]
  resolved := Array.replicate 194 none
  statics := some 2 }

def pool18 : Array CpInfo := pool [(6, .class_ 8), (1, u "java/lang/Object"), (0, u "<init>"), (0, u "()V"), (1, .class_ 14), (1, u "java/lang/StringUTF16"), (31, u "$assertionsDisabled"), (0, u "Z"), (13, u "HI_BYTE_SHIFT"), (0, u "I"), (2, u "LO_BYTE_SHIFT"), (49, .methodref 12 116), (0, .nameAndType 117 118), (0, u "compress"), (0, u "([CI[BII)I"), (3, u "([CII)[B"), (138, u "coderFromArrayLen"), (0, u "([BI)B"), (106, .class_ 371), (1, u "java/lang/StringUTF16$LinesSpliterator"), (58, u "MAX_LENGTH"), (196, .class_ 628), (0, u "java/lang/StringUTF16$CodePointsSpliterator"), (0, .class_ 630), (0, u "java/lang/StringUTF16$CharsSpliterator")] 4

def k18m0 : Method := { name := "<init>", desc := "()V", sig := { parameters := [], returnType := none }, accessFlags := 0, code := none }
def k18c1 : Code := { maxStack := 2, maxLocals := 2, code := jdk_52_method_15_code, exceptionTable := #[], attributes := #[] }
def k18m1 : Method := { name := "coderFromArrayLen", desc := "([BI)B", sig := { parameters := [(.array .byte), .int], returnType := some .byte }, accessFlags := 8, code := some k18c1 }
def k18c2 : Code := { maxStack := 5, maxLocals := 6, code := jdk_52_method_16_code, exceptionTable := #[], attributes := #[] }
def k18m2 : Method := { name := "compress", desc := "([CII)[B", sig := { parameters := [(.array .char), .int, .int], returnType := some (.array .byte) }, accessFlags := 9, code := some k18c2 }
def k18c3 : Code := { maxStack := 3, maxLocals := 7, code := jdk_52_method_21_code, exceptionTable := #[], attributes := #[] }
def k18m3 : Method := { name := "compress", desc := "([CI[BII)I", sig := { parameters := [(.array .char), .int, (.array .byte), .int, .int], returnType := some .int }, accessFlags := 9, code := some k18c3 }
/-- java/lang/StringUTF16 -/
def k18 : Class := { plain "java/lang/StringUTF16" (some 0) with
  accessFlags := 48
  interfaces := #[]
  cf := some (fileOf pool18 12 #[.nestMembers #[627, 629, 369]] #[{ accessFlags := 0, nameIndex := 9, descriptorIndex := 10, attributes := #[] }, { accessFlags := 8, nameIndex := 261, descriptorIndex := 262, attributes := #[] }, { accessFlags := 9, nameIndex := 117, descriptorIndex := 122, attributes := #[] }, { accessFlags := 9, nameIndex := 117, descriptorIndex := 118, attributes := #[] }] 48 6 #[] #[{ accessFlags := 26, nameIndex := 61, descriptorIndex := 62, attributes := #[] }, { accessFlags := 26, nameIndex := 65, descriptorIndex := 62, attributes := #[] }, { accessFlags := 24, nameIndex := 430, descriptorIndex := 62, attributes := #[] }, { accessFlags := 4120, nameIndex := 46, descriptorIndex := 47, attributes := #[] }])
  fields := #[{ name := "HI_BYTE_SHIFT", type := .int, accessFlags := 26, slot := 0, constantValue := 0 }, { name := "LO_BYTE_SHIFT", type := .int, accessFlags := 26, slot := 1, constantValue := 0 }, { name := "MAX_LENGTH", type := .int, accessFlags := 24, slot := 2, constantValue := 0 }, { name := "$assertionsDisabled", type := .boolean, accessFlags := 4120, slot := 3, constantValue := 0 }]
  methods := #[k18m0, k18m1, k18m2, k18m3]
  instanceTypes := #[]
  staticTypes := #[.int, .int, .int, .boolean]
  resolved := Array.replicate 635 none
  statics := none }

def pool19 : Array CpInfo := pool [(9, u "<init>"), (6, .class_ 18), (1, u "java/lang/Object"), (0, u "()V"), (1, .class_ 23), (1, u "jdk/internal/util/ArraysSupport"), (0, u "LOG2_ARRAY_LONG_INDEX_SCALE"), (0, u "I"), (2, u "U"), (0, u "Ljdk/internal/misc/Unsafe;"), (8, u "BIG_ENDIAN"), (0, u "Z"), (8, u "LOG2_BYTE_BIT_SIZE"), (4, u "LOG2_ARRAY_INT_INDEX_SCALE"), (54, u "JLA"), (0, u "Ljdk/internal/access/JavaLangAccess;"), (11, u "LOG2_ARRAY_BOOLEAN_INDEX_SCALE"), (9, u "LOG2_ARRAY_BYTE_INDEX_SCALE"), (5, u "LOG2_ARRAY_CHAR_INDEX_SCALE"), (5, u "LOG2_ARRAY_SHORT_INDEX_SCALE"), (18, u "LOG2_ARRAY_FLOAT_INDEX_SCALE"), (24, u "LOG2_ARRAY_DOUBLE_INDEX_SCALE"), (89, u "T_BOOLEAN"), (2, u "T_CHAR"), (1, u "T_FLOAT"), (1, u "T_DOUBLE"), (1, u "T_BYTE"), (1, u "T_SHORT"), (1, u "T_INT"), (1, u "T_LONG"), (1, u "SOFT_MAX_ARRAY_LENGTH")] 83

def k19m0 : Method := { name := "<init>", desc := "()V", sig := { parameters := [], returnType := none }, accessFlags := 2, code := none }
/-- jdk/internal/util/ArraysSupport -/
def k19 : Class := { plain "jdk/internal/util/ArraysSupport" (some 0) with
  accessFlags := 33
  interfaces := #[]
  cf := some (fileOf pool19 21 #[] #[{ accessFlags := 2, nameIndex := 9, descriptorIndex := 19, attributes := #[] }] 33 16 #[] #[{ accessFlags := 24, nameIndex := 28, descriptorIndex := 29, attributes := #[] }, { accessFlags := 26, nameIndex := 38, descriptorIndex := 39, attributes := #[] }, { accessFlags := 25, nameIndex := 121, descriptorIndex := 25, attributes := #[] }, { accessFlags := 25, nameIndex := 131, descriptorIndex := 25, attributes := #[] }, { accessFlags := 25, nameIndex := 137, descriptorIndex := 25, attributes := #[] }, { accessFlags := 25, nameIndex := 143, descriptorIndex := 25, attributes := #[] }, { accessFlags := 25, nameIndex := 53, descriptorIndex := 25, attributes := #[] }, { accessFlags := 25, nameIndex := 24, descriptorIndex := 25, attributes := #[] }, { accessFlags := 25, nameIndex := 162, descriptorIndex := 25, attributes := #[] }, { accessFlags := 25, nameIndex := 187, descriptorIndex := 25, attributes := #[] }, { accessFlags := 26, nameIndex := 48, descriptorIndex := 25, attributes := #[] }, { accessFlags := 25, nameIndex := 277, descriptorIndex := 25, attributes := #[] }, { accessFlags := 25, nameIndex := 280, descriptorIndex := 25, attributes := #[] }, { accessFlags := 25, nameIndex := 282, descriptorIndex := 25, attributes := #[] }, { accessFlags := 25, nameIndex := 284, descriptorIndex := 25, attributes := #[] }, { accessFlags := 25, nameIndex := 286, descriptorIndex := 25, attributes := #[] }, { accessFlags := 25, nameIndex := 288, descriptorIndex := 25, attributes := #[] }, { accessFlags := 25, nameIndex := 290, descriptorIndex := 25, attributes := #[] }, { accessFlags := 25, nameIndex := 292, descriptorIndex := 25, attributes := #[] }, { accessFlags := 26, nameIndex := 108, descriptorIndex := 109, attributes := #[] }, { accessFlags := 25, nameIndex := 294, descriptorIndex := 25, attributes := #[] }])
  fields := #[{ name := "U", type := (.object "jdk/internal/misc/Unsafe"), accessFlags := 24, slot := 0, constantValue := 0 }, { name := "BIG_ENDIAN", type := .boolean, accessFlags := 26, slot := 1, constantValue := 0 }, { name := "LOG2_ARRAY_BOOLEAN_INDEX_SCALE", type := .int, accessFlags := 25, slot := 2, constantValue := 0 }, { name := "LOG2_ARRAY_BYTE_INDEX_SCALE", type := .int, accessFlags := 25, slot := 3, constantValue := 0 }, { name := "LOG2_ARRAY_CHAR_INDEX_SCALE", type := .int, accessFlags := 25, slot := 4, constantValue := 0 }, { name := "LOG2_ARRAY_SHORT_INDEX_SCALE", type := .int, accessFlags := 25, slot := 5, constantValue := 0 }, { name := "LOG2_ARRAY_INT_INDEX_SCALE", type := .int, accessFlags := 25, slot := 6, constantValue := 0 }, { name := "LOG2_ARRAY_LONG_INDEX_SCALE", type := .int, accessFlags := 25, slot := 7, constantValue := 0 }, { name := "LOG2_ARRAY_FLOAT_INDEX_SCALE", type := .int, accessFlags := 25, slot := 8, constantValue := 0 }, { name := "LOG2_ARRAY_DOUBLE_INDEX_SCALE", type := .int, accessFlags := 25, slot := 9, constantValue := 0 }, { name := "LOG2_BYTE_BIT_SIZE", type := .int, accessFlags := 26, slot := 10, constantValue := 0 }, { name := "T_BOOLEAN", type := .int, accessFlags := 25, slot := 11, constantValue := 0 }, { name := "T_CHAR", type := .int, accessFlags := 25, slot := 12, constantValue := 0 }, { name := "T_FLOAT", type := .int, accessFlags := 25, slot := 13, constantValue := 0 }, { name := "T_DOUBLE", type := .int, accessFlags := 25, slot := 14, constantValue := 0 }, { name := "T_BYTE", type := .int, accessFlags := 25, slot := 15, constantValue := 0 }, { name := "T_SHORT", type := .int, accessFlags := 25, slot := 16, constantValue := 0 }, { name := "T_INT", type := .int, accessFlags := 25, slot := 17, constantValue := 0 }, { name := "T_LONG", type := .int, accessFlags := 25, slot := 18, constantValue := 0 }, { name := "JLA", type := (.object "jdk/internal/access/JavaLangAccess"), accessFlags := 26, slot := 19, constantValue := 0 }, { name := "SOFT_MAX_ARRAY_LENGTH", type := .int, accessFlags := 25, slot := 20, constantValue := 0 }]
  methods := #[k19m0]
  instanceTypes := #[]
  staticTypes := #[(.object "jdk/internal/misc/Unsafe"), .boolean, .int, .int, .int, .int, .int, .int, .int, .int, .int, .int, .int, .int, .int, .int, .int, .int, .int, (.object "jdk/internal/access/JavaLangAccess"), .int]
  resolved := Array.replicate 378 none
  statics := none }

def pool20 : Array CpInfo := pool [(1, u "java/lang/Cloneable"), (0, .class_ 1), (0, u "java/lang/Object"), (0, .class_ 3)] 3

/-- java/lang/Cloneable -/
def k20 : Class := { plain "java/lang/Cloneable" (some 0) with
  accessFlags := 1537
  interfaces := #[]
  cf := some (fileOf pool20 2 #[] #[] 1537 4 #[] #[])
  fields := #[]
  methods := #[]
  instanceTypes := #[]
  staticTypes := #[]
  resolved := Array.replicate 8 none
  statics := none }

/-- the primitive byte -/
def k21 : Class := { plain "byte" none with kind := .primitive 'B', accessFlags := 0x411 }
/-- [B -/
def k22 : Class := { plain "[B" (some 0) with kind := .array 21 .byte, interfaces := #[20, 2], accessFlags := 1041 }

/-- the primitive char -/
def k23 : Class := { plain "char" none with kind := .primitive 'C', accessFlags := 0x411 }
/-- [C -/
def k24 : Class := { plain "[C" (some 0) with kind := .array 23 .char, interfaces := #[20, 2], accessFlags := 1041 }

/-- the primitive int -/
def k25 : Class := { plain "int" none with kind := .primitive 'I', accessFlags := 0x411 }
/-- [I -/
def k26 : Class := { plain "[I" (some 0) with kind := .array 25 .int, interfaces := #[20, 2], accessFlags := 1041 }

def heap : Heap := #[{ cls := 7, slots := #[.long 0, .int 1, .null, .int 0, .null, .int 0, .int 0], vm := .statics 7 },
  { cls := 8, slots := #[.ref 3], vm := .statics 8 },
  { cls := 17, slots := #[.null, .null, .null], vm := .statics 17 },
  { cls := 8, slots := #[.null], vm := .none }]
def classes : Array Class := #[k0, k1, k2, k3, k4, k5, k6, k7, k8, k9, k10, k11, k12, k13, k14, k15, k16, k17, k18, k19, k20, k21, k22, k23, k24, k25, k26]
def interned : List (Array UInt16 × Addr) := []
def slotsUsed : Nat := 12
def theMethod : MethodId := ⟨1, 1⟩
def args0 : Array Value := #[.int 5, .int 5, .int 5, .int 5]
def aboutOver (below : List Frame) : State where
  vm := { classes := classes, interned := interned.toArray }
  heap := heap
  slotsUsed := slotsUsed
  threads := #[{ frames := .invoking theMethod args0 :: below }]
def below0 : List Frame := [.native { method := ⟨0, 0⟩, args := #[] }]
def about1 : State := aboutOver below0
def p0 : Program := .bare "" "" ""
def e0 : Env := launch0.env 0 0 0
theorem w_frames : about1.frames = Frame.invoking theMethod args0 :: below0 := rfl
set_option maxRecDepth 65536 in
theorem w_args : argsFit about1.vm theMethod args0 = true := by decide +kernel
set_option maxRecDepth 65536 in
theorem w_heap : heapFits about1 = true := by decide +kernel
set_option maxRecDepth 65536 in
theorem w_runnable : about1.curStatus? = some .runnable := by decide +kernel
set_option maxRecDepth 65536 in
theorem w_alone : about1.alone = true := by decide +kernel
set_option maxRecDepth 65536 in
theorem w_named : about1.methodNamed? x = some theMethod := by decide +kernel
set_option maxRecDepth 65536 in
theorem w_hears : about1.hears theMethod below0 = true := by decide +kernel
set_option maxRecDepth 65536 in
theorem w_ripe : about1.ripe theMethod args0 below0 = true := by decide +kernel
theorem w_running : about1.status = .running := rfl
set_option maxRecDepth 65536 in
theorem w_room : about1.hasRoom e0.platform room_1 = true :=
  launch0.hasRoom_least _ room_1 (by decide +kernel) (by decide +kernel) (by decide +kernel) (by decide +kernel) (by decide +kernel) (by decide +kernel)
theorem allAtoms_all (ts : List Jvm.Cond) (a : Array Jvm.Value) (st : Jvm.State) : (allAtoms ts).before a st = ts.all (fun c => c.before a st) := by
  induction ts with
  | nil => rfl
  | cons c t ih =>
    show (Jvm.Cond.and c (allAtoms t)).before a st = _
    rw [Jvm.Cond.before_and, ih, List.all_cons]
def words1 : List Jvm.Cond := Jvm.Cond.code x code maxLocals ret :: tables_1
/-- a 'code' word, met by the world's own term for the bytes: nothing is compared byte by byte -/
theorem code_word {y : MethodName} {bytes : ByteArray} {mx : Nat} {rt : Option FieldType} {a : Array Value} {s : State} {m : MethodId} {meth : Method} {c : Code} (h1 : s.methodNamed? y = some m) (h2 : s.vm.method? m = some meth) (h3 : meth.code = some c) (h4 : c.code = bytes)
    (h5 : (c.maxLocals == mx && c.exceptionTable.isEmpty && decide (c.maxStack ≤ mostOperands) && decide (meth.sig.returnType = rt) && !meth.locks && decide (parseMethodDescriptor y.desc = some meth.sig)) = true) : (Jvm.Cond.code y bytes mx rt).before a s = true := by
  simp only [Bool.and_eq_true, beq_iff_eq, Bool.not_eq_true', decide_eq_true_eq] at h5
  obtain ⟨⟨⟨⟨⟨g1, g2⟩, g3⟩, g4⟩, g5⟩, g6⟩ := h5
  simp [Cond.before, Cond.holds, Cond.value, h1, h2, h3, h4, g1, g2, g3, g4, g5, g6]
def isCode : Jvm.Cond → Bool
  | .code _ _ _ _ => true
  | _ => false
theorem all_split {L : List Jvm.Cond} {P : Jvm.Cond → Bool} (h1 : L.all (fun c => isCode c || P c) = true) (h2 : ∀ c ∈ L.filter isCode, P c = true) : L.all P = true := by
  refine List.all_eq_true.mpr fun c hc => ?_
  have h := List.all_eq_true.mp h1 c hc
  rcases Bool.eq_false_or_eq_true (isCode c) with hi | hi
  · exact h2 c (List.mem_filter.mpr ⟨hc, hi⟩)
  · simpa [hi] using h
set_option maxRecDepth 65536 in
theorem w_c0 : (Jvm.Cond.code x code maxLocals ret).before args0 about1 = true := code_word (m := ⟨1, 1⟩) (meth := k1m1) (c := k1c1) (by decide +kernel) rfl rfl rfl (by decide +kernel)
set_option maxRecDepth 65536 in
theorem w_c1 : (Jvm.Cond.code ({ cls := "java/lang/String", name := "<init>", desc := "([C)V" } : Jvm.MethodName) jdk_42_method_3_code (2 : Nat) (Option.none : Option Jvm.ClassFile.FieldType)).before args0 about1 = true := code_word (m := ⟨7, 1⟩) (meth := k7m1) (c := k7c1) (by decide +kernel) rfl rfl rfl (by decide +kernel)
set_option maxRecDepth 65536 in
theorem w_c2 : (Jvm.Cond.code ({ cls := "java/lang/String", name := "<init>", desc := "([CIILjava/lang/Void;)V" } : Jvm.MethodName) jdk_42_method_149_code (6 : Nat) (Option.none : Option Jvm.ClassFile.FieldType)).before args0 about1 = true := code_word (m := ⟨7, 7⟩) (meth := k7m7) (c := k7c7) (by decide +kernel) rfl rfl rfl (by decide +kernel)
set_option maxRecDepth 65536 in
theorem w_c3 : (Jvm.Cond.code ({ cls := "java/lang/Object", name := "<init>", desc := "()V" } : Jvm.MethodName) object_method_1_code (1 : Nat) (Option.none : Option Jvm.ClassFile.FieldType)).before args0 about1 = true := code_word (m := ⟨0, 0⟩) (meth := k0m0) (c := k0c0) (by decide +kernel) rfl rfl rfl (by decide +kernel)
set_option maxRecDepth 65536 in
theorem w_c4 : (Jvm.Cond.code ({ cls := "com/example/sunder/sunder/Aggregate", name := "sum", desc := "(Ljava/lang/String;)Lcom/example/sunder/sunder/Aggregate;" } : Jvm.MethodName) prog_2_method_3_code (1 : Nat) (Option.some (Jvm.ClassFile.FieldType.object "com/example/sunder/sunder/Aggregate"))).before args0 about1 = true := code_word (m := ⟨8, 2⟩) (meth := k8m2) (c := k8c2) (by decide +kernel) rfl rfl rfl (by decide +kernel)
set_option maxRecDepth 65536 in
theorem w_c5 : (Jvm.Cond.code ({ cls := "java/util/Objects", name := "requireNonNull", desc := "(Ljava/lang/Object;Ljava/lang/String;)Ljava/lang/Object;" } : Jvm.MethodName) jdk_31_method_11_code (2 : Nat) (Option.some (Jvm.ClassFile.FieldType.object "java/lang/Object"))).before args0 about1 = true := code_word (m := ⟨9, 1⟩) (meth := k9m1) (c := k9c1) (by decide +kernel) rfl rfl rfl (by decide +kernel)
set_option maxRecDepth 65536 in
theorem w_c6 : (Jvm.Cond.code ({ cls := "com/example/sunder/sunder/Aggregate", name := "<init>", desc := "(Ljava/lang/String;)V" } : Jvm.MethodName) prog_2_method_1_code (2 : Nat) (Option.none : Option Jvm.ClassFile.FieldType)).before args0 about1 = true := code_word (m := ⟨8, 0⟩) (meth := k8m0) (c := k8c0) (by decide +kernel) rfl rfl rfl (by decide +kernel)
set_option maxRecDepth 65536 in
theorem w_c7 : (Jvm.Cond.code ({ cls := "com/example/sunder/sunder/Aggregate", name := "column", desc := "()Ljava/lang/String;" } : Jvm.MethodName) prog_2_method_4_code (1 : Nat) (Option.some (Jvm.ClassFile.FieldType.object "java/lang/String"))).before args0 about1 = true := code_word (m := ⟨8, 3⟩) (meth := k8m3) (c := k8c3) (by decide +kernel) rfl rfl rfl (by decide +kernel)
set_option maxRecDepth 65536 in
theorem w_c8 : (Jvm.Cond.code ({ cls := "java/lang/String", name := "equals", desc := "(Ljava/lang/Object;)Z" } : Jvm.MethodName) jdk_42_method_66_code (3 : Nat) (Option.some Jvm.ClassFile.FieldType.boolean)).before args0 about1 = true := code_word (m := ⟨7, 5⟩) (meth := k7m5) (c := k7c5) (by decide +kernel) rfl rfl rfl (by decide +kernel)
set_option maxRecDepth 65536 in
theorem w_c9 : (Jvm.Cond.code ({ cls := "com/example/sunder/sunder/Aggregate", name := "count", desc := "()Lcom/example/sunder/sunder/Aggregate;" } : Jvm.MethodName) prog_2_method_2_code (0 : Nat) (Option.some (Jvm.ClassFile.FieldType.object "com/example/sunder/sunder/Aggregate"))).before args0 about1 = true := code_word (m := ⟨8, 1⟩) (meth := k8m1) (c := k8c1) (by decide +kernel) rfl rfl rfl (by decide +kernel)
set_option maxRecDepth 65536 in
theorem w_c10 : (Jvm.Cond.code ({ cls := "com/example/sunder/sunder/Aggregate", name := "toString", desc := "()Ljava/lang/String;" } : Jvm.MethodName) prog_2_method_5_code (1 : Nat) (Option.some (Jvm.ClassFile.FieldType.object "java/lang/String"))).before args0 about1 = true := code_word (m := ⟨8, 4⟩) (meth := k8m4) (c := k8c4) (by decide +kernel) rfl rfl rfl (by decide +kernel)
set_option maxRecDepth 65536 in
theorem w_c11 : (Jvm.Cond.code ({ cls := "java/lang/StringBuilder", name := "<init>", desc := "()V" } : Jvm.MethodName) jdk_67_method_1_code (1 : Nat) (Option.none : Option Jvm.ClassFile.FieldType)).before args0 about1 = true := code_word (m := ⟨12, 0⟩) (meth := k12m0) (c := k12c0) (by decide +kernel) rfl rfl rfl (by decide +kernel)
set_option maxRecDepth 65536 in
theorem w_c12 : (Jvm.Cond.code ({ cls := "java/lang/AbstractStringBuilder", name := "<init>", desc := "(I)V" } : Jvm.MethodName) jdk_68_method_2_code (2 : Nat) (Option.none : Option Jvm.ClassFile.FieldType)).before args0 about1 = true := code_word (m := ⟨11, 1⟩) (meth := k11m1) (c := k11c1) (by decide +kernel) rfl rfl rfl (by decide +kernel)
set_option maxRecDepth 65536 in
theorem w_c13 : (Jvm.Cond.code ({ cls := "java/lang/StringBuilder", name := "append", desc := "(Ljava/lang/String;)Ljava/lang/StringBuilder;" } : Jvm.MethodName) jdk_67_method_7_code (2 : Nat) (Option.some (Jvm.ClassFile.FieldType.object "java/lang/StringBuilder"))).before args0 about1 = true := code_word (m := ⟨12, 1⟩) (meth := k12m1) (c := k12c1) (by decide +kernel) rfl rfl rfl (by decide +kernel)
set_option maxRecDepth 65536 in
theorem w_c14 : (Jvm.Cond.code ({ cls := "java/lang/AbstractStringBuilder", name := "append", desc := "(Ljava/lang/String;)Ljava/lang/AbstractStringBuilder;" } : Jvm.MethodName) jdk_68_method_22_code (3 : Nat) (Option.some (Jvm.ClassFile.FieldType.object "java/lang/AbstractStringBuilder"))).before args0 about1 = true := code_word (m := ⟨11, 4⟩) (meth := k11m4) (c := k11c4) (by decide +kernel) rfl rfl rfl (by decide +kernel)
set_option maxRecDepth 65536 in
theorem w_c15 : (Jvm.Cond.code ({ cls := "java/lang/String", name := "length", desc := "()I" } : Jvm.MethodName) jdk_42_method_54_code (1 : Nat) (Option.some Jvm.ClassFile.FieldType.int)).before args0 about1 = true := code_word (m := ⟨7, 3⟩) (meth := k7m3) (c := k7c3) (by decide +kernel) rfl rfl rfl (by decide +kernel)
set_option maxRecDepth 65536 in
theorem w_c16 : (Jvm.Cond.code ({ cls := "java/lang/String", name := "coder", desc := "()B" } : Jvm.MethodName) jdk_42_method_152_code (1 : Nat) (Option.some Jvm.ClassFile.FieldType.byte)).before args0 about1 = true := code_word (m := ⟨7, 9⟩) (meth := k7m9) (c := k7c9) (by decide +kernel) rfl rfl rfl (by decide +kernel)
set_option maxRecDepth 65536 in
theorem w_c17 : (Jvm.Cond.code ({ cls := "java/lang/AbstractStringBuilder", name := "ensureCapacityInternal", desc := "(I)V" } : Jvm.MethodName) jdk_68_method_9_code (3 : Nat) (Option.none : Option Jvm.ClassFile.FieldType)).before args0 about1 = true := code_word (m := ⟨11, 3⟩) (meth := k11m3) (c := k11c3) (by decide +kernel) rfl rfl rfl (by decide +kernel)
set_option maxRecDepth 65536 in
theorem w_c18 : (Jvm.Cond.code ({ cls := "java/lang/AbstractStringBuilder", name := "putStringAt", desc := "(ILjava/lang/String;)V" } : Jvm.MethodName) jdk_68_method_73_code (3 : Nat) (Option.none : Option Jvm.ClassFile.FieldType)).before args0 about1 = true := code_word (m := ⟨11, 8⟩) (meth := k11m8) (c := k11c8) (by decide +kernel) rfl rfl rfl (by decide +kernel)
set_option maxRecDepth 65536 in
theorem w_c19 : (Jvm.Cond.code ({ cls := "java/lang/AbstractStringBuilder", name := "inflateIfNeededFor", desc := "(Ljava/lang/String;)V" } : Jvm.MethodName) jdk_68_method_71_code (2 : Nat) (Option.none : Option Jvm.ClassFile.FieldType)).before args0 about1 = true := code_word (m := ⟨11, 7⟩) (meth := k11m7) (c := k11c7) (by decide +kernel) rfl rfl rfl (by decide +kernel)
set_option maxRecDepth 65536 in
theorem w_c20 : (Jvm.Cond.code ({ cls := "java/lang/String", name := "getBytes", desc := "([BIB)V" } : Jvm.MethodName) jdk_42_method_147_code (4 : Nat) (Option.none : Option Jvm.ClassFile.FieldType)).before args0 about1 = true := code_word (m := ⟨7, 6⟩) (meth := k7m6) (c := k7c6) (by decide +kernel) rfl rfl rfl (by decide +kernel)
set_option maxRecDepth 65536 in
theorem w_c21 : (Jvm.Cond.code ({ cls := "java/lang/StringBuilder", name := "toString", desc := "()Ljava/lang/String;" } : Jvm.MethodName) jdk_67_method_42_code (1 : Nat) (Option.some (Jvm.ClassFile.FieldType.object "java/lang/String"))).before args0 about1 = true := code_word (m := ⟨12, 2⟩) (meth := k12m2) (c := k12c2) (by decide +kernel) rfl rfl rfl (by decide +kernel)
set_option maxRecDepth 65536 in
theorem w_c22 : (Jvm.Cond.code ({ cls := "java/lang/String", name := "<init>", desc := "(Ljava/lang/StringBuilder;)V" } : Jvm.MethodName) jdk_42_method_53_code (2 : Nat) (Option.none : Option Jvm.ClassFile.FieldType)).before args0 about1 = true := code_word (m := ⟨7, 2⟩) (meth := k7m2) (c := k7c2) (by decide +kernel) rfl rfl rfl (by decide +kernel)
set_option maxRecDepth 65536 in
theorem w_c23 : (Jvm.Cond.code ({ cls := "java/lang/String", name := "<init>", desc := "(Ljava/lang/AbstractStringBuilder;Ljava/lang/Void;)V" } : Jvm.MethodName) jdk_42_method_150_code (5 : Nat) (Option.none : Option Jvm.ClassFile.FieldType)).before args0 about1 = true := code_word (m := ⟨7, 8⟩) (meth := k7m8) (c := k7c8) (by decide +kernel) rfl rfl rfl (by decide +kernel)
set_option maxRecDepth 65536 in
theorem w_c24 : (Jvm.Cond.code ({ cls := "java/lang/AbstractStringBuilder", name := "getValue", desc := "()[B" } : Jvm.MethodName) jdk_68_method_64_code (1 : Nat) (Option.some (Jvm.ClassFile.FieldType.array Jvm.ClassFile.FieldType.byte))).before args0 about1 = true := code_word (m := ⟨11, 5⟩) (meth := k11m5) (c := k11c5) (by decide +kernel) rfl rfl rfl (by decide +kernel)
set_option maxRecDepth 65536 in
theorem w_c25 : (Jvm.Cond.code ({ cls := "java/lang/StringBuilder", name := "length", desc := "()I" } : Jvm.MethodName) jdk_67_method_93_code (1 : Nat) (Option.some Jvm.ClassFile.FieldType.int)).before args0 about1 = true := code_word (m := ⟨12, 3⟩) (meth := k12m3) (c := k12c3) (by decide +kernel) rfl rfl rfl (by decide +kernel)
set_option maxRecDepth 65536 in
theorem w_c26 : (Jvm.Cond.code ({ cls := "java/lang/AbstractStringBuilder", name := "length", desc := "()I" } : Jvm.MethodName) jdk_68_method_6_code (1 : Nat) (Option.some Jvm.ClassFile.FieldType.int)).before args0 about1 = true := code_word (m := ⟨11, 2⟩) (meth := k11m2) (c := k11c2) (by decide +kernel) rfl rfl rfl (by decide +kernel)
set_option maxRecDepth 65536 in
theorem w_c27 : (Jvm.Cond.code ({ cls := "java/lang/AbstractStringBuilder", name := "isLatin1", desc := "()Z" } : Jvm.MethodName) jdk_68_method_68_code (1 : Nat) (Option.some Jvm.ClassFile.FieldType.boolean)).before args0 about1 = true := code_word (m := ⟨11, 6⟩) (meth := k11m6) (c := k11c6) (by decide +kernel) rfl rfl rfl (by decide +kernel)
set_option maxRecDepth 65536 in
theorem w_c28 : (Jvm.Cond.code ({ cls := "java/util/Arrays", name := "copyOfRange", desc := "([BII)[B" } : Jvm.MethodName) jdk_65_method_132_code (3 : Nat) (Option.some (Jvm.ClassFile.FieldType.array Jvm.ClassFile.FieldType.byte))).before args0 about1 = true := code_word (m := ⟨14, 2⟩) (meth := k14m2) (c := k14c2) (by decide +kernel) rfl rfl rfl (by decide +kernel)
set_option maxRecDepth 65536 in
theorem w_c29 : (Jvm.Cond.code ({ cls := "java/util/Arrays", name := "copyOfRangeByte", desc := "([BII)[B" } : Jvm.MethodName) jdk_65_method_133_code (5 : Nat) (Option.some (Jvm.ClassFile.FieldType.array Jvm.ClassFile.FieldType.byte))).before args0 about1 = true := code_word (m := ⟨14, 3⟩) (meth := k14m3) (c := k14c3) (by decide +kernel) rfl rfl rfl (by decide +kernel)
set_option maxRecDepth 65536 in
theorem w_c30 : (Jvm.Cond.code ({ cls := "java/util/Arrays", name := "checkLength", desc := "(II)V" } : Jvm.MethodName) jdk_65_method_131_code (2 : Nat) (Option.none : Option Jvm.ClassFile.FieldType)).before args0 about1 = true := code_word (m := ⟨14, 1⟩) (meth := k14m1) (c := k14c1) (by decide +kernel) rfl rfl rfl (by decide +kernel)
set_option maxRecDepth 65536 in
theorem w_c31 : (Jvm.Cond.code ({ cls := "java/lang/Math", name := "min", desc := "(II)I" } : Jvm.MethodName) jdk_29_method_69_code (2 : Nat) (Option.some Jvm.ClassFile.FieldType.int)).before args0 about1 = true := code_word (m := ⟨15, 1⟩) (meth := k15m1) (c := k15c1) (by decide +kernel) rfl rfl rfl (by decide +kernel)
set_option maxRecDepth 65536 in
theorem w_c32 : (Jvm.Cond.code ({ cls := "java/lang/String", name := "charAt", desc := "(I)C" } : Jvm.MethodName) jdk_42_method_56_code (2 : Nat) (Option.some Jvm.ClassFile.FieldType.char)).before args0 about1 = true := code_word (m := ⟨7, 4⟩) (meth := k7m4) (c := k7c4) (by decide +kernel) rfl rfl rfl (by decide +kernel)
set_option maxRecDepth 65536 in
theorem w_c33 : (Jvm.Cond.code ({ cls := "java/lang/String", name := "isLatin1", desc := "()Z" } : Jvm.MethodName) jdk_42_method_154_code (1 : Nat) (Option.some Jvm.ClassFile.FieldType.boolean)).before args0 about1 = true := code_word (m := ⟨7, 10⟩) (meth := k7m10) (c := k7c10) (by decide +kernel) rfl rfl rfl (by decide +kernel)
set_option maxRecDepth 65536 in
theorem w_c34 : (Jvm.Cond.code ({ cls := "java/lang/StringLatin1", name := "charAt", desc := "([BI)C" } : Jvm.MethodName) jdk_43_method_2_code (2 : Nat) (Option.some Jvm.ClassFile.FieldType.char)).before args0 about1 = true := code_word (m := ⟨16, 1⟩) (meth := k16m1) (c := k16c1) (by decide +kernel) rfl rfl rfl (by decide +kernel)
set_option maxRecDepth 65536 in
theorem w_c35 : (Jvm.Cond.code ({ cls := "java/lang/String", name := "checkIndex", desc := "(II)V" } : Jvm.MethodName) jdk_42_method_155_code (2 : Nat) (Option.none : Option Jvm.ClassFile.FieldType)).before args0 about1 = true := code_word (m := ⟨7, 11⟩) (meth := k7m11) (c := k7c11) (by decide +kernel) rfl rfl rfl (by decide +kernel)
set_option maxRecDepth 65536 in
theorem w_c36 : (Jvm.Cond.code ({ cls := "jdk/internal/util/Preconditions", name := "checkIndex", desc := "(IILjava/util/function/BiFunction;)I" } : Jvm.MethodName) jdk_41_method_11_code (3 : Nat) (Option.some Jvm.ClassFile.FieldType.int)).before args0 about1 = true := code_word (m := ⟨17, 1⟩) (meth := k17m1) (c := k17c1) (by decide +kernel) rfl rfl rfl (by decide +kernel)
set_option maxRecDepth 65536 in
theorem w_c37 : (Jvm.Cond.code ({ cls := "java/lang/StringUTF16", name := "compress", desc := "([CII)[B" } : Jvm.MethodName) jdk_52_method_16_code (6 : Nat) (Option.some (Jvm.ClassFile.FieldType.array Jvm.ClassFile.FieldType.byte))).before args0 about1 = true := code_word (m := ⟨18, 2⟩) (meth := k18m2) (c := k18c2) (by decide +kernel) rfl rfl rfl (by decide +kernel)
set_option maxRecDepth 65536 in
theorem w_c38 : (Jvm.Cond.code ({ cls := "java/lang/StringUTF16", name := "compress", desc := "([CI[BII)I" } : Jvm.MethodName) jdk_52_method_21_code (7 : Nat) (Option.some Jvm.ClassFile.FieldType.int)).before args0 about1 = true := code_word (m := ⟨18, 3⟩) (meth := k18m3) (c := k18c3) (by decide +kernel) rfl rfl rfl (by decide +kernel)
set_option maxRecDepth 65536 in
theorem w_c39 : (Jvm.Cond.code ({ cls := "java/lang/StringUTF16", name := "coderFromArrayLen", desc := "([BI)B" } : Jvm.MethodName) jdk_52_method_15_code (2 : Nat) (Option.some Jvm.ClassFile.FieldType.byte)).before args0 about1 = true := code_word (m := ⟨18, 1⟩) (meth := k18m1) (c := k18c1) (by decide +kernel) rfl rfl rfl (by decide +kernel)
def codes1 : List Jvm.Cond := [Jvm.Cond.code x code maxLocals ret, Jvm.Cond.code ({ cls := "java/lang/String", name := "<init>", desc := "([C)V" } : Jvm.MethodName) jdk_42_method_3_code (2 : Nat) (Option.none : Option Jvm.ClassFile.FieldType), Jvm.Cond.code ({ cls := "java/lang/String", name := "<init>", desc := "([CIILjava/lang/Void;)V" } : Jvm.MethodName) jdk_42_method_149_code (6 : Nat) (Option.none : Option Jvm.ClassFile.FieldType), Jvm.Cond.code ({ cls := "java/lang/Object", name := "<init>", desc := "()V" } : Jvm.MethodName) object_method_1_code (1 : Nat) (Option.none : Option Jvm.ClassFile.FieldType), Jvm.Cond.code ({ cls := "com/example/sunder/sunder/Aggregate", name := "sum", desc := "(Ljava/lang/String;)Lcom/example/sunder/sunder/Aggregate;" } : Jvm.MethodName) prog_2_method_3_code (1 : Nat) (Option.some (Jvm.ClassFile.FieldType.object "com/example/sunder/sunder/Aggregate")), Jvm.Cond.code ({ cls := "java/util/Objects", name := "requireNonNull", desc := "(Ljava/lang/Object;Ljava/lang/String;)Ljava/lang/Object;" } : Jvm.MethodName) jdk_31_method_11_code (2 : Nat) (Option.some (Jvm.ClassFile.FieldType.object "java/lang/Object")), Jvm.Cond.code ({ cls := "com/example/sunder/sunder/Aggregate", name := "<init>", desc := "(Ljava/lang/String;)V" } : Jvm.MethodName) prog_2_method_1_code (2 : Nat) (Option.none : Option Jvm.ClassFile.FieldType), Jvm.Cond.code ({ cls := "com/example/sunder/sunder/Aggregate", name := "column", desc := "()Ljava/lang/String;" } : Jvm.MethodName) prog_2_method_4_code (1 : Nat) (Option.some (Jvm.ClassFile.FieldType.object "java/lang/String")), Jvm.Cond.code ({ cls := "java/lang/String", name := "equals", desc := "(Ljava/lang/Object;)Z" } : Jvm.MethodName) jdk_42_method_66_code (3 : Nat) (Option.some Jvm.ClassFile.FieldType.boolean), Jvm.Cond.code ({ cls := "com/example/sunder/sunder/Aggregate", name := "count", desc := "()Lcom/example/sunder/sunder/Aggregate;" } : Jvm.MethodName) prog_2_method_2_code (0 : Nat) (Option.some (Jvm.ClassFile.FieldType.object "com/example/sunder/sunder/Aggregate")), Jvm.Cond.code ({ cls := "com/example/sunder/sunder/Aggregate", name := "toString", desc := "()Ljava/lang/String;" } : Jvm.MethodName) prog_2_method_5_code (1 : Nat) (Option.some (Jvm.ClassFile.FieldType.object "java/lang/String")), Jvm.Cond.code ({ cls := "java/lang/StringBuilder", name := "<init>", desc := "()V" } : Jvm.MethodName) jdk_67_method_1_code (1 : Nat) (Option.none : Option Jvm.ClassFile.FieldType), Jvm.Cond.code ({ cls := "java/lang/AbstractStringBuilder", name := "<init>", desc := "(I)V" } : Jvm.MethodName) jdk_68_method_2_code (2 : Nat) (Option.none : Option Jvm.ClassFile.FieldType), Jvm.Cond.code ({ cls := "java/lang/StringBuilder", name := "append", desc := "(Ljava/lang/String;)Ljava/lang/StringBuilder;" } : Jvm.MethodName) jdk_67_method_7_code (2 : Nat) (Option.some (Jvm.ClassFile.FieldType.object "java/lang/StringBuilder")), Jvm.Cond.code ({ cls := "java/lang/AbstractStringBuilder", name := "append", desc := "(Ljava/lang/String;)Ljava/lang/AbstractStringBuilder;" } : Jvm.MethodName) jdk_68_method_22_code (3 : Nat) (Option.some (Jvm.ClassFile.FieldType.object "java/lang/AbstractStringBuilder")), Jvm.Cond.code ({ cls := "java/lang/String", name := "length", desc := "()I" } : Jvm.MethodName) jdk_42_method_54_code (1 : Nat) (Option.some Jvm.ClassFile.FieldType.int), Jvm.Cond.code ({ cls := "java/lang/String", name := "coder", desc := "()B" } : Jvm.MethodName) jdk_42_method_152_code (1 : Nat) (Option.some Jvm.ClassFile.FieldType.byte), Jvm.Cond.code ({ cls := "java/lang/AbstractStringBuilder", name := "ensureCapacityInternal", desc := "(I)V" } : Jvm.MethodName) jdk_68_method_9_code (3 : Nat) (Option.none : Option Jvm.ClassFile.FieldType), Jvm.Cond.code ({ cls := "java/lang/AbstractStringBuilder", name := "putStringAt", desc := "(ILjava/lang/String;)V" } : Jvm.MethodName) jdk_68_method_73_code (3 : Nat) (Option.none : Option Jvm.ClassFile.FieldType), Jvm.Cond.code ({ cls := "java/lang/AbstractStringBuilder", name := "inflateIfNeededFor", desc := "(Ljava/lang/String;)V" } : Jvm.MethodName) jdk_68_method_71_code (2 : Nat) (Option.none : Option Jvm.ClassFile.FieldType), Jvm.Cond.code ({ cls := "java/lang/String", name := "getBytes", desc := "([BIB)V" } : Jvm.MethodName) jdk_42_method_147_code (4 : Nat) (Option.none : Option Jvm.ClassFile.FieldType), Jvm.Cond.code ({ cls := "java/lang/StringBuilder", name := "toString", desc := "()Ljava/lang/String;" } : Jvm.MethodName) jdk_67_method_42_code (1 : Nat) (Option.some (Jvm.ClassFile.FieldType.object "java/lang/String")), Jvm.Cond.code ({ cls := "java/lang/String", name := "<init>", desc := "(Ljava/lang/StringBuilder;)V" } : Jvm.MethodName) jdk_42_method_53_code (2 : Nat) (Option.none : Option Jvm.ClassFile.FieldType), Jvm.Cond.code ({ cls := "java/lang/String", name := "<init>", desc := "(Ljava/lang/AbstractStringBuilder;Ljava/lang/Void;)V" } : Jvm.MethodName) jdk_42_method_150_code (5 : Nat) (Option.none : Option Jvm.ClassFile.FieldType), Jvm.Cond.code ({ cls := "java/lang/AbstractStringBuilder", name := "getValue", desc := "()[B" } : Jvm.MethodName) jdk_68_method_64_code (1 : Nat) (Option.some (Jvm.ClassFile.FieldType.array Jvm.ClassFile.FieldType.byte)), Jvm.Cond.code ({ cls := "java/lang/StringBuilder", name := "length", desc := "()I" } : Jvm.MethodName) jdk_67_method_93_code (1 : Nat) (Option.some Jvm.ClassFile.FieldType.int), Jvm.Cond.code ({ cls := "java/lang/AbstractStringBuilder", name := "length", desc := "()I" } : Jvm.MethodName) jdk_68_method_6_code (1 : Nat) (Option.some Jvm.ClassFile.FieldType.int), Jvm.Cond.code ({ cls := "java/lang/AbstractStringBuilder", name := "isLatin1", desc := "()Z" } : Jvm.MethodName) jdk_68_method_68_code (1 : Nat) (Option.some Jvm.ClassFile.FieldType.boolean), Jvm.Cond.code ({ cls := "java/util/Arrays", name := "copyOfRange", desc := "([BII)[B" } : Jvm.MethodName) jdk_65_method_132_code (3 : Nat) (Option.some (Jvm.ClassFile.FieldType.array Jvm.ClassFile.FieldType.byte)), Jvm.Cond.code ({ cls := "java/util/Arrays", name := "copyOfRangeByte", desc := "([BII)[B" } : Jvm.MethodName) jdk_65_method_133_code (5 : Nat) (Option.some (Jvm.ClassFile.FieldType.array Jvm.ClassFile.FieldType.byte)), Jvm.Cond.code ({ cls := "java/util/Arrays", name := "checkLength", desc := "(II)V" } : Jvm.MethodName) jdk_65_method_131_code (2 : Nat) (Option.none : Option Jvm.ClassFile.FieldType), Jvm.Cond.code ({ cls := "java/lang/Math", name := "min", desc := "(II)I" } : Jvm.MethodName) jdk_29_method_69_code (2 : Nat) (Option.some Jvm.ClassFile.FieldType.int), Jvm.Cond.code ({ cls := "java/lang/String", name := "charAt", desc := "(I)C" } : Jvm.MethodName) jdk_42_method_56_code (2 : Nat) (Option.some Jvm.ClassFile.FieldType.char), Jvm.Cond.code ({ cls := "java/lang/String", name := "isLatin1", desc := "()Z" } : Jvm.MethodName) jdk_42_method_154_code (1 : Nat) (Option.some Jvm.ClassFile.FieldType.boolean), Jvm.Cond.code ({ cls := "java/lang/StringLatin1", name := "charAt", desc := "([BI)C" } : Jvm.MethodName) jdk_43_method_2_code (2 : Nat) (Option.some Jvm.ClassFile.FieldType.char), Jvm.Cond.code ({ cls := "java/lang/String", name := "checkIndex", desc := "(II)V" } : Jvm.MethodName) jdk_42_method_155_code (2 : Nat) (Option.none : Option Jvm.ClassFile.FieldType), Jvm.Cond.code ({ cls := "jdk/internal/util/Preconditions", name := "checkIndex", desc := "(IILjava/util/function/BiFunction;)I" } : Jvm.MethodName) jdk_41_method_11_code (3 : Nat) (Option.some Jvm.ClassFile.FieldType.int), Jvm.Cond.code ({ cls := "java/lang/StringUTF16", name := "compress", desc := "([CII)[B" } : Jvm.MethodName) jdk_52_method_16_code (6 : Nat) (Option.some (Jvm.ClassFile.FieldType.array Jvm.ClassFile.FieldType.byte)), Jvm.Cond.code ({ cls := "java/lang/StringUTF16", name := "compress", desc := "([CI[BII)I" } : Jvm.MethodName) jdk_52_method_21_code (7 : Nat) (Option.some Jvm.ClassFile.FieldType.int), Jvm.Cond.code ({ cls := "java/lang/StringUTF16", name := "coderFromArrayLen", desc := "([BI)B" } : Jvm.MethodName) jdk_52_method_15_code (2 : Nat) (Option.some Jvm.ClassFile.FieldType.byte)]
set_option maxRecDepth 65536 in
theorem codes_eq : words1.filter isCode = codes1 := rfl
theorem w_codes : ∀ c ∈ words1.filter isCode, c.before args0 about1 = true := by
  rw [codes_eq]
  intro c hc
  simp only [codes1, List.mem_cons, List.not_mem_nil, or_false] at hc
  rcases hc with rfl | rfl | rfl | rfl | rfl | rfl | rfl | rfl | rfl | rfl | rfl | rfl | rfl | rfl | rfl | rfl | rfl | rfl | rfl | rfl | rfl | rfl | rfl | rfl | rfl | rfl | rfl | rfl | rfl | rfl | rfl | rfl | rfl | rfl | rfl | rfl | rfl | rfl | rfl | rfl
  · exact w_c0
  · exact w_c1
  · exact w_c2
  · exact w_c3
  · exact w_c4
  · exact w_c5
  · exact w_c6
  · exact w_c7
  · exact w_c8
  · exact w_c9
  · exact w_c10
  · exact w_c11
  · exact w_c12
  · exact w_c13
  · exact w_c14
  · exact w_c15
  · exact w_c16
  · exact w_c17
  · exact w_c18
  · exact w_c19
  · exact w_c20
  · exact w_c21
  · exact w_c22
  · exact w_c23
  · exact w_c24
  · exact w_c25
  · exact w_c26
  · exact w_c27
  · exact w_c28
  · exact w_c29
  · exact w_c30
  · exact w_c31
  · exact w_c32
  · exact w_c33
  · exact w_c34
  · exact w_c35
  · exact w_c36
  · exact w_c37
  · exact w_c38
  · exact w_c39
set_option maxRecDepth 65536 in
theorem w_t1 : (words1.take 24).all (fun c => isCode c || c.before args0 about1) = true := by decide +kernel
set_option maxRecDepth 65536 in
theorem w_t2 : ((words1.drop 24).take 24).all (fun c => isCode c || c.before args0 about1) = true := by decide +kernel
set_option maxRecDepth 65536 in
theorem w_t3 : (((words1.drop 24).drop 24).take 24).all (fun c => isCode c || c.before args0 about1) = true := by decide +kernel
set_option maxRecDepth 65536 in
theorem w_t4 : ((((words1.drop 24).drop 24).drop 24).take 24).all (fun c => isCode c || c.before args0 about1) = true := by decide +kernel
set_option maxRecDepth 65536 in
theorem w_t5 : (((((words1.drop 24).drop 24).drop 24).drop 24).take 24).all (fun c => isCode c || c.before args0 about1) = true := by decide +kernel
set_option maxRecDepth 65536 in
theorem w_t6 : ((((((words1.drop 24).drop 24).drop 24).drop 24).drop 24).take 24).all (fun c => isCode c || c.before args0 about1) = true := by decide +kernel
set_option maxRecDepth 65536 in
theorem w_t7 : (((((((words1.drop 24).drop 24).drop 24).drop 24).drop 24).drop 24).take 24).all (fun c => isCode c || c.before args0 about1) = true := by decide +kernel
set_option maxRecDepth 65536 in
theorem w_t8 : ((((((((words1.drop 24).drop 24).drop 24).drop 24).drop 24).drop 24).drop 24).take 24).all (fun c => isCode c || c.before args0 about1) = true := by decide +kernel
set_option maxRecDepth 65536 in
theorem w_t9 : ((((((((words1.drop 24).drop 24).drop 24).drop 24).drop 24).drop 24).drop 24).drop 24).all (fun c => isCode c || c.before args0 about1) = true := by decide +kernel
theorem w_tables : (allAtoms (Jvm.Cond.code x code maxLocals ret :: tables_1)).before args0 about1 = true := by
  rw [allAtoms_all]
  show words1.all (fun c => c.before args0 about1) = true
  refine all_split ?_ w_codes
  rw [← List.take_append_drop 24 words1, List.all_append, w_t1, ← List.take_append_drop 24 (words1.drop 24), List.all_append, w_t2, ← List.take_append_drop 24 ((words1.drop 24).drop 24), List.all_append, w_t3, ← List.take_append_drop 24 (((words1.drop 24).drop 24).drop 24), List.all_append, w_t4, ← List.take_append_drop 24 ((((words1.drop 24).drop 24).drop 24).drop 24), List.all_append, w_t5, ← List.take_append_drop 24 (((((words1.drop 24).drop 24).drop 24).drop 24).drop 24), List.all_append, w_t6, ← List.take_append_drop 24 ((((((words1.drop 24).drop 24).drop 24).drop 24).drop 24).drop 24), List.all_append, w_t7, ← List.take_append_drop 24 (((((((words1.drop 24).drop 24).drop 24).drop 24).drop 24).drop 24).drop 24), List.all_append, w_t8, w_t9]
  rfl
set_option maxRecDepth 65536 in
theorem w_rest : rest_1_c.before args0 about1 = true := by decide +kernel
set_option maxRecDepth 65536 in
theorem w_case : (Jvm.Cond.and given_1 narrow_1).before args0 about1 = true := by decide +kernel
set_option maxRecDepth 65536 in
theorem w_consts : constsHeld consts_1 about1 := Jvm.Lit.constsHeldB_iff.mp (by decide +kernel)
theorem w_applies : (headSpec (Jvm.Cond.code x code maxLocals ret :: tables_1) room_1).applies x e0.platform about1 = true :=
  (Spec.applies_iff w_frames).mpr ⟨w_running, w_runnable, w_alone, w_named, w_hears, w_ripe, w_room, w_tables⟩
theorem atStart : AtStart classFile x code maxLocals ret World_1 tables_1 room_1 Calls_1 rest_1 Pre_1 launch0 p0 e0 about1 theMethod args0 below0 :=
  ⟨lists_1, trivial, launch0.admits_env _ _ _, launch0.least_env, fairChoices_fair.cas, fairChoices_fair.clock, w_frames, w_args, w_heap, w_applies, ⟨w_consts, trivial⟩, w_rest, w_case⟩
end start1
theorem witness_1 : WitnessClaimed_1 := ⟨start1.p0, start1.e0, start1.about1, start1.theMethod, start1.args0, start1.below0, start1.atStart⟩
end Jvm.Pilot.@@N@@
