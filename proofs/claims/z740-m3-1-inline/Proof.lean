import JvmDerived
import JvmDerived.Pilot.@@N@@Statement
import JvmDerived.Pilot.@@N@@Code
set_option linter.unusedVariables false
set_option linter.unusedSimpArgs false
@@BLOCK:SetKit.lean.txt@@
namespace Jvm.RoadKit
open Sem ClassFile Op Lib Jvm.Stand Jvm.Free Jvm.LawKit
section New
variable {p : Program} {l : Launch} {e : Env} {R : Room} {s : State} {m : MethodId} {args : Array Value} {below : List Frame} {meth : Method} {c : Code} {T : State} {locs : List Loc} {cells slots : Nat}
theorem retI (X : Stand p l e R s m args below meth c T locs cells slots) (hx : p.tables.exec = Jvm.exec) {pc : Nat} {Ls : Array Slot} {z : Int32} {rest : List Value} (hret : meth.sig.returnType = some .int) (hd : decode c.code pc = .ok (.ireturn, 1)) {fs : List Frame}
    (hl : ∀ (f : JFrame) (acts : List Action), f.method = m → f.locked = none → f.entered = [] → (doReturn e (T.setTop f) acts (some (.int z))).1 = T.setFrames fs) : Steps p.tables e below (T.setTop (mkF m pc Ls (.int z :: rest))) (T.setFrames fs) := by
  have hm' : T.vm.method? m = some meth := X.method'
  have hn : narrow .int (.int z) = .int z := rfl
  show Steps p.tables e below (T.setTop { method := m, pc := pc, locals := Ls, stack := _ :: rest, locked := none }) _
  jvm_step X.here [X.here.top, hx, hd, hm', hret, hn]
  first | (intro acts; rw [hl _ acts rfl rfl rfl]) | rw [hl _ _ rfl rfl rfl]
  exact Steps.refl _
end New
end Jvm.RoadKit
namespace Jvm.Pilot.@@N@@
open Jvm Jvm.ClassFile Sem Op Lib Jvm.Free Jvm.Stand Jvm.LawKit Jvm.RoadKit Bundle Jvm.Pilot.@@N@@.Jvm.D
abbrev St (p : Program) (e : Env) (below : List Frame) (T : State) (g : JFrame) (t : State) : Prop := Steps p.tables e below (T.setTop g) t
theorem hwi {Z : State} {a0 : Array Value} (hw : ∀ d ∈ tables_1, d.before a0 Z = true) (i : Nat) {d : Jvm.Cond} (h : tables_1[i]? = some d) : d.before a0 Z = true := hw d (List.mem_of_getElem? h)
theorem ltN {a b : Nat} (h : a < b) : a < b := h
theorem neN {a b : Nat} (h : ¬ (a = b)) : ¬ (a = b) := h
abbrev mn0 : MethodName := ⟨"java/lang/String", "<init>", "([CIILjava/lang/Void;)V"⟩
abbrev mn1 : MethodName := ⟨"java/lang/String", "<init>", "([C)V"⟩
abbrev mn2 : MethodName := ⟨"java/lang/StringUTF16", "compress", "([CI[BII)I"⟩
abbrev mn3 : MethodName := ⟨"java/lang/StringUTF16", "compress", "([CII)[B"⟩
abbrev mn4 : MethodName := ⟨"java/lang/StringUTF16", "coderFromArrayLen", "([BI)B"⟩
abbrev mn5 : MethodName := ⟨"java/lang/String", "coder", "()B"⟩
abbrev mn6 : MethodName := ⟨"java/lang/String", "length", "()I"⟩
abbrev mn7 : MethodName := ⟨"jdk/internal/util/Preconditions", "checkIndex", "(IILjava/util/function/BiFunction;)I"⟩
abbrev mn8 : MethodName := ⟨"java/lang/String", "checkIndex", "(II)V"⟩
abbrev mn9 : MethodName := ⟨"java/lang/StringLatin1", "charAt", "([BI)C"⟩
abbrev mn10 : MethodName := ⟨"java/lang/String", "isLatin1", "()Z"⟩
abbrev mn11 : MethodName := ⟨"java/lang/String", "charAt", "(I)C"⟩
abbrev mn12 : MethodName := ⟨"java/lang/AbstractStringBuilder", "<init>", "(I)V"⟩
abbrev mn13 : MethodName := ⟨"java/lang/StringBuilder", "<init>", "()V"⟩
abbrev mn14 : MethodName := ⟨"java/lang/String", "getBytes", "([BIB)V"⟩
abbrev mn15 : MethodName := ⟨"java/lang/AbstractStringBuilder", "inflateIfNeededFor", "(Ljava/lang/String;)V"⟩
abbrev mn16 : MethodName := ⟨"java/lang/AbstractStringBuilder", "putStringAt", "(ILjava/lang/String;)V"⟩
abbrev mn17 : MethodName := ⟨"java/lang/AbstractStringBuilder", "ensureCapacityInternal", "(I)V"⟩
abbrev mn18 : MethodName := ⟨"java/lang/AbstractStringBuilder", "append", "(Ljava/lang/String;)Ljava/lang/AbstractStringBuilder;"⟩
abbrev mn19 : MethodName := ⟨"java/lang/StringBuilder", "append", "(Ljava/lang/String;)Ljava/lang/StringBuilder;"⟩
abbrev mn20 : MethodName := ⟨"java/lang/Integer", "stringSize", "(I)I"⟩
abbrev mn21 : MethodName := ⟨"java/lang/Integer", "getChars", "(II[B)I"⟩
abbrev mn22 : MethodName := ⟨"java/lang/AbstractStringBuilder", "isLatin1", "()Z"⟩
abbrev mn23 : MethodName := ⟨"java/lang/AbstractStringBuilder", "append", "(I)Ljava/lang/AbstractStringBuilder;"⟩
abbrev mn24 : MethodName := ⟨"java/lang/StringBuilder", "append", "(I)Ljava/lang/StringBuilder;"⟩
abbrev mn25 : MethodName := ⟨"java/util/Arrays", "checkLength", "(II)V"⟩
abbrev mn26 : MethodName := ⟨"java/lang/Math", "min", "(II)I"⟩
abbrev mn27 : MethodName := ⟨"java/util/Arrays", "copyOfRangeByte", "([BII)[B"⟩
abbrev mn28 : MethodName := ⟨"java/util/Arrays", "copyOfRange", "([BII)[B"⟩
abbrev mn29 : MethodName := ⟨"java/lang/AbstractStringBuilder", "getValue", "()[B"⟩
abbrev mn30 : MethodName := ⟨"java/lang/AbstractStringBuilder", "length", "()I"⟩
abbrev mn31 : MethodName := ⟨"java/lang/StringBuilder", "length", "()I"⟩
abbrev mn32 : MethodName := ⟨"java/lang/String", "<init>", "(Ljava/lang/AbstractStringBuilder;Ljava/lang/Void;)V"⟩
abbrev mn33 : MethodName := ⟨"java/lang/String", "<init>", "(Ljava/lang/StringBuilder;)V"⟩
abbrev mn34 : MethodName := ⟨"java/lang/StringBuilder", "toString", "()Ljava/lang/String;"⟩
abbrev mn35 : MethodName := ⟨"java/lang/Record", "<init>", "()V"⟩
abbrev mn36 : MethodName := ⟨"com/example/demarc/demarc/tool/Account", "<init>", "(Ljava/lang/String;I)V"⟩
abbrev mn37 : MethodName := ⟨"com/example/demarc/demarc/tool/Account", "toString", "()Ljava/lang/String;"⟩
abbrev mn38 : MethodName := ⟨"com/example/demarc/demarc/tool/AccountToStringPinLaw", "digits", "(J)I"⟩
abbrev mn39 : MethodName := ⟨"com/example/demarc/demarc/tool/AccountToStringPinLaw", "pow10", "(I)J"⟩
abbrev mn40 : MethodName := ⟨"com/example/demarc/demarc/tool/AccountToStringPinLaw", "digitOk", "(Ljava/lang/String;JII)Z"⟩
abbrev ro0 : Room := { frames := 1, cells := 4, slots := 8, locals := 12 }
abbrev ro1 : Room := { frames := 2, cells := 4, slots := 8, locals := 29 }
abbrev ro2 : Room := { frames := 0, cells := 0, slots := 0, locals := 0 }
abbrev ro3 : Room := { frames := 1, cells := 1, slots := 1, locals := 18 }
abbrev ro4 : Room := { frames := 2, cells := 1, slots := 1, locals := 35 }
abbrev ro5 : Room := { frames := 3, cells := 1, slots := 1, locals := 52 }
abbrev ro6 : Room := { frames := 1, cells := 1, slots := 2, locals := 18 }
abbrev ro7 : Room := { frames := 2, cells := 1, slots := 2, locals := 35 }
abbrev ro8 : Room := { frames := 3, cells := 1, slots := 2, locals := 52 }
abbrev ro9 : Room := { frames := 1, cells := 1, slots := 3, locals := 18 }
abbrev ro10 : Room := { frames := 2, cells := 1, slots := 3, locals := 35 }
abbrev ro11 : Room := { frames := 3, cells := 1, slots := 3, locals := 52 }
abbrev ro12 : Room := { frames := 1, cells := 0, slots := 0, locals := 13 }
abbrev ro13 : Room := { frames := 1, cells := 0, slots := 0, locals := 14 }
abbrev ro14 : Room := { frames := 2, cells := 0, slots := 0, locals := 27 }
abbrev ro15 : Room := { frames := 3, cells := 0, slots := 0, locals := 40 }
abbrev ro16 : Room := { frames := 1, cells := 1, slots := 16, locals := 12 }
abbrev ro17 : Room := { frames := 2, cells := 1, slots := 16, locals := 25 }
abbrev ro18 : Room := { frames := 1, cells := 0, slots := 0, locals := 18 }
abbrev ro19 : Room := { frames := 2, cells := 0, slots := 0, locals := 33 }
abbrev ro20 : Room := { frames := 3, cells := 0, slots := 0, locals := 47 }
abbrev ro21 : Room := { frames := 4, cells := 0, slots := 0, locals := 61 }
abbrev ro22 : Room := { frames := 1, cells := 0, slots := 0, locals := 40 }
abbrev ro23 : Room := { frames := 1, cells := 0, slots := 0, locals := 60 }
abbrev ro24 : Room := { frames := 2, cells := 0, slots := 0, locals := 78 }
abbrev ro25 : Room := { frames := 3, cells := 0, slots := 0, locals := 93 }
abbrev ro26 : Room := { frames := 1, cells := 1, slots := 16, locals := 18 }
abbrev ro27 : Room := { frames := 2, cells := 1, slots := 16, locals := 34 }
abbrev ro28 : Room := { frames := 1, cells := 0, slots := 0, locals := 12 }
abbrev ro29 : Room := { frames := 3, cells := 1, slots := 16, locals := 49 }
abbrev ro30 : Room := { frames := 4, cells := 1, slots := 16, locals := 65 }
abbrev ro31 : Room := { frames := 5, cells := 2, slots := 20, locals := 79 }
abbrev ro32 : Room := { frames := 2, cells := 0, slots := 0, locals := 24 }
abbrev ro33 : Room := { frames := 6, cells := 6, slots := 48, locals := 106 }
abbrev ro34 : Room := { frames := 4, cells := 0, slots := 0, locals := 53 }
theorem own_wS {Z : State} {a0 : Array Value} (hw : ∀ d ∈ tables_1, d.before a0 Z = true) : ∀ a ∈ Bundle.stringAtoms, a.before a0 Z = true := fun d hd => hw d ((by decide +kernel : ∀ d ∈ Bundle.stringAtoms, d ∈ tables_1) d hd)
theorem own_safe_null {Z : State} {EL : List (String × Nat)} {vm : Vm} {h : Heap} {x : Addr} (hal : Z.vm.Alike vm) (F : Fld Z h x "java/lang/String" "value" "[B" .null) (E : Exa Z h x "java/lang/String") : Safe Z EL vm h x := fun B => by
  obtain ⟨p, hp, u, a, hb, q, hqa, ⟨cS, ⟨⟨s1, s2, s3, ⟨cv, kv, iv, s4, s4'⟩, ⟨cc, kc, ic, s5, s5'⟩, s6, s7, s8, s9, s10, s11, s12, s13, s14, s15, s16⟩, hfS, hcS⟩, ⟨kS, k1, k2, k3⟩, hB, hbyt⟩, hy⟩ := B
  obtain ⟨cell, cf, k, i, f, h1, h2, h3, h4, h5, h6, h7⟩ := F
  rcases hy with rfl | rfl
  · obtain ⟨kv', z4⟩ := ff_back (U := Wst Z vm h) hal s4
    cases h2.symm.trans z4
    have s1' : h[q.sa]? = some q.sC := s1
    cases h1.symm.trans s1'
    cases h7.symm.trans s8
  · obtain ⟨c2, k2', e1, e2, e3, e4, -⟩ := E
    have s10' : h[q.sd]? = some q.SA := s10
    cases e1.symm.trans s10'
    have hB' : Z.vm.findClass "[B" = some q.SA.cls := by rw [← hal.findClass]; exact hB
    exact ids_ne e2 hB' (by decide) rfl
theorem own_byte (x : Int32) : ∃ k : Fin 256, x &&& (255 : Int32) = Int32.ofNat k.val := by
  have h : (x &&& (255 : Int32)).toBitVec.toNat < 256 := by
    simp only [Int32.toBitVec_and, BitVec.toNat_and]
    exact Nat.lt_succ_of_le Nat.and_le_right
  refine ⟨⟨_, h⟩, ?_⟩
  apply Int32.toBitVec_inj.mp
  show _ = BitVec.ofNat 32 _
  rw [BitVec.ofNat_toNat]; simp
theorem own_char (x : Int32) : (((x &&& (255 : Int32)).toUInt32.toUInt16.toUInt32.toInt32).toUInt32.toUInt16.toUInt32.toInt32) = ((x &&& (255 : Int32)).toUInt32.toUInt16.toUInt32.toInt32) ∧ ¬ (((x &&& (255 : Int32)).toUInt32.toUInt16.toUInt32.toInt32) < (0 : Int32)) ∧ ¬ ((255 : Int32) < ((x &&& (255 : Int32)).toUInt32.toUInt16.toUInt32.toInt32)) := by
  obtain ⟨k, hk⟩ := own_byte x
  rw [hk]
  exact (by decide +kernel : ∀ k : Fin 256, (((Int32.ofNat k.val).toUInt32.toUInt16.toUInt32.toInt32).toUInt32.toUInt16.toUInt32.toInt32) = ((Int32.ofNat k.val).toUInt32.toUInt16.toUInt32.toInt32) ∧ ¬ (((Int32.ofNat k.val).toUInt32.toUInt16.toUInt32.toInt32) < (0 : Int32)) ∧ ¬ ((255 : Int32) < ((Int32.ofNat k.val).toUInt32.toUInt16.toUInt32.toInt32))) k
theorem own_back (x : Int32) : ((((((x &&& (255 : Int32)).toUInt32.toUInt16.toUInt32.toInt32)).toInt8.toInt32) &&& (255 : Int32)).toUInt32.toUInt16.toUInt32.toInt32) = ((x &&& (255 : Int32)).toUInt32.toUInt16.toUInt32.toInt32) := by
  obtain ⟨k, hk⟩ := own_byte x
  rw [hk]
  exact (by decide +kernel : ∀ k : Fin 256, ((((((Int32.ofNat k.val).toUInt32.toUInt16.toUInt32.toInt32)).toInt8.toInt32) &&& (255 : Int32)).toUInt32.toUInt16.toUInt32.toInt32) = ((Int32.ofNat k.val).toUInt32.toUInt16.toUInt32.toInt32)) k
theorem own_and3 (x : Int32) : (x &&& (3 : Int32)) = (0 : Int32) ∨ (x &&& (3 : Int32)) = (1 : Int32) ∨ (x &&& (3 : Int32)) = (2 : Int32) ∨ (x &&& (3 : Int32)) = (3 : Int32) := by
  have h := c_mask x (3 : Int32) 2 (by decide) (by decide)
  rw [show ((2 ^ 2 : Nat) : Int) = 4 from rfl] at h
  have q : ((x &&& (3 : Int32))).toInt = 0 ∨ ((x &&& (3 : Int32))).toInt = 1 ∨ ((x &&& (3 : Int32))).toInt = 2 ∨ ((x &&& (3 : Int32))).toInt = 3 := by omega
  rcases q with q | q | q | q
  · exact Or.inl (Int32.toInt_inj.mp (q.trans (by decide)))
  · exact Or.inr (Or.inl (Int32.toInt_inj.mp (q.trans (by decide))))
  · exact Or.inr (Or.inr (Or.inl (Int32.toInt_inj.mp (q.trans (by decide)))))
  · exact Or.inr (Or.inr (Or.inr (Int32.toInt_inj.mp (q.trans (by decide)))))
def own_ap (vd vs : List Value) (dp nn : Int32) : List Value := vd.take dp.toNatClampNeg ++ ((List.range nn.toNatClampNeg).map fun i => vs.getD ((0 : Int32).toNatClampNeg + i) (.int 0)) ++ vd.drop (dp.toNatClampNeg + nn.toNatClampNeg)
theorem own_text_0 : (∀ c ∈ ("" : String).toList, c.toNat < 256) ∧ ("" : String).toList.map (fun c => Value.int (Jvm.Lit.byteI c.toNat.toUInt16)) = [] := by decide +kernel
theorem d2_0 : decode jdk_42_method_149_code 0 = .ok (.aload_n 0, 1) := by decide +kernel
theorem d2_1 : decode jdk_42_method_149_code 1 = .ok (.invokespecial 1, 3) := by decide +kernel
theorem d2_4 : decode jdk_42_method_149_code 4 = .ok (.iload_n 3, 1) := by decide +kernel
theorem d2_5 : decode jdk_42_method_149_code 5 = .ok (.ifCond .ne 22, 3) := by decide +kernel
theorem d2_8 : decode jdk_42_method_149_code 8 = .ok (.aload_n 0, 1) := by decide +kernel
theorem d2_9 : decode jdk_42_method_149_code 9 = .ok (.ldc 7, 2) := by decide +kernel
theorem d2_11 : decode jdk_42_method_149_code 11 = .ok (.getfield 9, 3) := by decide +kernel
theorem d2_14 : decode jdk_42_method_149_code 14 = .ok (.putfield 9, 3) := by decide +kernel
theorem d2_17 : decode jdk_42_method_149_code 17 = .ok (.aload_n 0, 1) := by decide +kernel
theorem d2_18 : decode jdk_42_method_149_code 18 = .ok (.ldc 7, 2) := by decide +kernel
theorem d2_20 : decode jdk_42_method_149_code 20 = .ok (.getfield 15, 3) := by decide +kernel
theorem d2_23 : decode jdk_42_method_149_code 23 = .ok (.putfield 15, 3) := by decide +kernel
theorem d2_26 : decode jdk_42_method_149_code 26 = .ok (.return_, 1) := by decide +kernel
theorem pn_2 : plainName "java/lang/String" = true := by first | (simp [plainName, overriddenIn]; done) | decide +kernel
theorem ef_2_RRIIn (m : MethodId) (x0 : Addr) (x1 : Addr) (x2 : Int32) (x3 : Int32) : entryFrame m #[(.ref x0), (.ref x1), (.int x2), (.int x3), .null] 6 = mkF m 0 #[.val (.ref x0), .val (.ref x1), .val (.int x2), .val (.int x3), .val .null, .unset] [] := by first | (simp [entryFrame, mkF, argsToLocals, Value.category]; done) | rfl
def Q_new4_0 (Z : State) (a1 : Addr) (a2 : Addr) (h0 : Heap) (n0 : Nat) (v : Option Value) (h : Heap) (L : List Loc) : Prop := ∃ (t : Addr) (kt : ClassId), v = none ∧ Fr n0 L ∧ Keep h0 h [a1] ∧ Exa Z h a1 "java/lang/String" ∧ Fld Z h a1 "java/lang/String" "coder" "B" (.int 0) ∧ Fld Z h a1 "java/lang/String" "value" "[B" (.ref t) ∧ Arv Z h t kt .byte (0 : Int32) [] (.int 0)
set_option maxRecDepth 65536 in
set_option maxHeartbeats 40000000 in
theorem rm_new4_0 (l : Launch) (Z : State) (a0 : Array Value) (hw : ∀ d ∈ tables_1, d.before a0 Z = true) (hEL : EW Z a0 consts_1) (ws : List Jvm.Cond) (a1 : Addr) (a2 : Addr) (h0 : Heap) (n0 : Nat) (Z0 : n0 ≤ h0.size) (E_a1 : Exa Z h0 a1 "java/lang/String") (F_a1_value : Fld Z h0 a1 "java/lang/String" "value" "[B" .null) (F_a1_coder : Fld Z h0 a1 "java/lang/String" "coder" "B" (.int 0)) (O0 : Old Z n0 h0) (g_a1 : n0 ≤ a1) :
    MetFree l mn0 (head1 (Jvm.Cond.code mn0 jdk_42_method_149_code 6 none :: ws) ro0) (fun a U => a = #[(.ref a1), (.ref a2), (.int 0), (.int 0), .null] ∧ Z.Warmed39 U.vm ∧ U.heap = h0 ∧ CHv Z consts_1 U.vm h0) (fun _ _ _ _ _ => True) (fun _ U o U' => ∃ v L, o = .returned v ∧ Q_new4_0 Z a1 a2 h0 n0 v U'.heap L ∧ CHr Z consts_1 U.vm U.heap U'.vm U'.heap ∧ ReturnedEndW U o U' L ro0.cells ro0.slots) := by
  refine MetFree.of_bodySF (plainFor_of_name pn_2) hisR ?_
  intro p e s m args below meth c s₁ Bd hml0 hP hK
  obtain ⟨rfl, hZ, hh, H0c⟩ := hP
  have hx := Bd.exec
  have hby := Bd.bytes
  have hml : c.maxLocals = 6 := hml0
  have hown : s.vm.findClass "java/lang/String" = some m.cls := findClass_of_methodNamed Bd.named
  have hnm := (name_of_methodNamed Bd.named Bd.method).1
  have X0 : Stand p l e ro0 (s.setVm s.vm) m #[(.ref a1), (.ref a2), (.int 0), (.int 0), .null] below meth c s₁ [] 0 0 := Stand.of_body Bd
  have e0 : s₁.heap = h0 := by rw [← hh, Bd.state]; rfl
  have N0 := Fr.nil n0
  have pre0 : ∀ t, Steps p.tables e below (s₁.setTop (mkF m 0 #[.val (.ref a1), .val (.ref a2), .val (.int 0), .val (.int 0), .val .null, .unset] [])) t → Steps p.tables e below (s₁.setTop (entryFrame m #[(.ref a1), (.ref a2), (.int 0), (.int 0), .null] 6)) t := fun t k => castTop (ef_2_RRIIn m a1 a2 (0 : Int32) (0 : Int32)) k
  have hS0 : s.Since s.vm 0 := (State.WarmedH.refl s).since 0
  have hk0 : 0 ≤ h0.size := Nat.zero_le _
  have C0c : CHr Z consts_1 s.vm h0 s.vm h0 := CHr.refl H0c
  obtain ⟨T1, X1, e1, st1⟩ := initO X0 hx hZ hown (hwi hw 11 rfl) (hwi hw 12 rfl) (hwi hw 13 rfl) e0 (g := (mkF m 1 #[.val (.ref a1), .val (.ref a2), .val (.int 0), .val (.int 0), .val .null, .unset] [(.ref a1)])) rfl (by rw [hml]; rfl) rfl (hb hby d2_1) (by decide) (W := 0) (by show 2 * 0 + _ ≤ _; exact Nat.le_of_eq rfl) (by decide)
  have sf3 := own_safe_null (EL := consts_1) hZ.alike F_a1_value E_a1
  obtain ⟨lit2, T2, h2, j2, ltb2, k2, X2, e2, E2, hS2, hk2, hZ2, ho2, Ex2, Fc2, Fv2, Av2, la2, lb2, C2, -, Sn2, st2⟩ := ldcCH X1 hx hZ hown (hwi hw 14 rfl) (own_wS hw) e1 hS0 hk0 hEL (by decide) H0c (vs := []) (z := (0 : Int32)) (own_text_0) (by decide) (by rfl) (g := (mkF m 9 #[.val (.ref a1), .val (.ref a2), .val (.int 0), .val (.int 0), .val .null, .unset] [(.ref a1)])) rfl (hb hby d2_9) (n := 0) (by decide) (by decide) (by decide) (by decide)
  have sf_a1_4 := CHr.safe C2 (show a1 < h0.size from ltN (by have := ltN E_a1.lt; omega)) sf3
  have R4 := C2
  have CR4 := C0c.trans R4
  have sz5 : h0.size ≤ h2.size := E2.1
  have Z5 : n0 ≤ h2.size := Nat.le_trans Z0 sz5
  have O5 := O0.ext E2
  have K5 : Keep h0 h2 [a1] := (Keep.refl h0 [a1]).ext E2
  have nq_a1_2 := Sn2 _ sf_a1_4
  obtain ⟨T6, X6, e6, st6⟩ := getF X2 hx hZ2 ho2 (host := "") (Or.inl (hwi hw 20 rfl)) Via.refl e2 Fv2 (g := (mkF m 11 #[.val (.ref a1), .val (.ref a2), .val (.int 0), .val (.int 0), .val .null, .unset] [(.ref lit2), (.ref a1)])) rfl rfl (hb hby d2_11)
  have fc7 := (E_a1.ext E2)
  have fc8 := (F_a1_value.ext E2)
  obtain ⟨T9, h9, X9, e9, W9, st9⟩ := putF X6 hx hZ2 ho2 (host := "") (Or.inl (hwi hw 20 rfl)) Via.refl e6 fc8 fc7 (Or.inr ⟨(hwi hw 16 rfl), rfl, hnm⟩) (hwi hw 2 rfl) (ty := (.array .byte)) (by decide) rfl rfl (g := (mkF m 14 #[.val (.ref a1), .val (.ref a2), .val (.int 0), .val (.int 0), .val .null, .unset] [(.ref ltb2), (.ref a1)])) rfl rfl (hb hby d2_14)
  have N9 := Fr.snoc X9 N0 g_a1
  have Fw9 := fc8.same W9
  have R10 := CHr.wr W9 sf_a1_4 R4.1
  have sf_a1_10 := Safe.wr W9 sf_a1_4 R4.1 sf_a1_4
  have CR10 := CR4.trans R10
  have sz11 : h2.size ≤ h9.size := Nat.le_of_eq W9.size.symm
  have Z11 : n0 ≤ h9.size := Nat.le_trans Z5 sz11
  have hk11 := Nat.le_trans hk2 sz11
  have O11 := O5.wr W9 g_a1
  have K11 : Keep h0 h9 [a1] := K5.wr W9 (Or.inl (List.mem_of_getElem? (i := 0) rfl))
  obtain ⟨lit12, T12, h12, j12, ltb12, k12, X12, e12, E12, hS12, hk12, hZ12, ho12, Ex12, Fc12, Fv12, Av12, la12, lb12, C12, -, Sn12, st12⟩ := ldcCH X9 hx hZ2 ho2 (hwi hw 14 rfl) (own_wS hw) e9 hS2 hk11 hEL (by decide) R10.1 (vs := []) (z := (0 : Int32)) (own_text_0) (by decide) (by rfl) (g := (mkF m 18 #[.val (.ref a1), .val (.ref a2), .val (.int 0), .val (.int 0), .val .null, .unset] [(.ref a1)])) rfl (hb hby d2_18) (n := 0) (by decide) (by decide) (by decide) (by decide)
  have sf_a1_13 := CHr.safe C12 (show a1 < h9.size from ltN (by have := ltN E_a1.lt; omega)) sf_a1_10
  have R13 := C12
  have CR13 := CR10.trans R13
  have sz14 : h9.size ≤ h12.size := E12.1
  have Z14 : n0 ≤ h12.size := Nat.le_trans Z11 sz14
  have O14 := O11.ext E12
  have K14 : Keep h0 h12 [a1] := K11.ext E12
  have nq_a1_12 := Sn12 _ sf_a1_13
  obtain ⟨T15, X15, e15, st15⟩ := getF X12 hx hZ12 ho12 (host := "") (Or.inl (hwi hw 21 rfl)) Via.refl e12 Fc12 (g := (mkF m 20 #[.val (.ref a1), .val (.ref a2), .val (.int 0), .val (.int 0), .val .null, .unset] [(.ref lit12), (.ref a1)])) rfl rfl (hb hby d2_20)
  have fc16 := ((fc7.wr W9).ext E12)
  have fc17 := (((F_a1_coder.ext E2).other W9 (Or.inr (slot_ne (Or.inr (hwi hw 17 rfl)) (Or.inr (hwi hw 16 rfl)) (by decide) (t := .byte) (t' := (.array .byte)) (by decide) (by decide)))).ext E12)
  obtain ⟨T18, h18, X18, e18, W18, st18⟩ := putFN X15 hx hZ12 ho12 (hwi hw 21 rfl) Via.refl e15 fc17 fc16 (Or.inr ⟨(hwi hw 17 rfl), rfl, hnm⟩) (hwi hw 2 rfl) (ty := .byte) (v' := (.int 0)) (by decide) rfl (by decide) (g := (mkF m 23 #[.val (.ref a1), .val (.ref a2), .val (.int 0), .val (.int 0), .val .null, .unset] [(.int 0), (.ref a1)])) rfl rfl (hb hby d2_23)
  have N18 := Fr.snoc X18 N9 g_a1
  have Fw18 := fc17.same W18
  have R19 := CHr.wr W18 sf_a1_13 R13.1
  have sf_a1_19 := Safe.wr W18 sf_a1_13 R13.1 sf_a1_13
  have CR19 := CR13.trans R19
  have sz20 : h12.size ≤ h18.size := Nat.le_of_eq W18.size.symm
  have Z20 : n0 ≤ h18.size := Nat.le_trans Z14 sz20
  have hk20 := Nat.le_trans hk12 sz20
  have O20 := O14.wr W18 g_a1
  have K20 : Keep h0 h18 [a1] := K14.wr W18 (Or.inl (List.mem_of_getElem? (i := 0) rfl))
  have fc21 := (fc16.wr W18)
  have fc22 := ((Fw9.ext E12).other W18 (Or.inr (slot_ne (Or.inr (hwi hw 16 rfl)) (Or.inr (hwi hw 17 rfl)) (by decide) (t := (.array .byte)) (t' := .byte) (by decide) (by decide))))
  have fc23 := (((Av2.other W9 (fun q => nq_a1_2.2 q.symm)).ext E12).other W18 (fun q => nq_a1_2.2 q.symm))
  have CRe := CR19.trans (CHv.at X18 hZ12 hEL R19.1)
  obtain ⟨fs, hr, hrun, hended, hRE⟩ := X18.leaveW hS12 (by rw [e18]; exact hk20) (v := none) (fun _ => rfl)
  refine ⟨_, _, pre0 _ ?_, hrun, hended, _, _, rfl, ?_, ?_, ⟨hRE.1, hRE.2.1, hRE.2.2.1, hRE.2.2.2.mono (by decide) (by decide)⟩⟩
  · show St p e below s₁ (mkF m 0 #[.val (.ref a1), .val (.ref a2), .val (.int 0), .val (.int 0), .val .null, .unset] []) _
    refine XS.aloadN X0.here hx rfl (hb hby d2_0) rfl rfl ?_
    refine st1 _ ?_
    refine XS.iloadN X1.here hx rfl (hb hby d2_4) rfl ?_
    refine XS.ifNo X1.here hx rfl (hb hby d2_5) rfl ((if0 _ _).trans (teq (by decide : (0 : Int32) = (0 : Int32))).2) ?_
    refine XS.aloadN X1.here hx rfl (hb hby d2_8) rfl rfl ?_
    refine st2 _ ?_
    refine st6 _ ?_
    refine st9 _ ?_
    show St p e below T9 (mkF m 17 #[.val (.ref a1), .val (.ref a2), .val (.int 0), .val (.int 0), .val .null, .unset] []) _
    refine XS.aloadN X9.here hx rfl (hb hby d2_17) rfl rfl ?_
    refine st12 _ ?_
    refine st15 _ ?_
    refine st18 _ ?_
    show St p e below T18 (mkF m 26 #[.val (.ref a1), .val (.ref a2), .val (.int 0), .val (.int 0), .val .null, .unset] []) _
    exact X18.returnOut hx Bd.returns (hb hby d2_26) hr
  · show Q_new4_0 Z a1 a2 h0 n0 _ T18.heap _
    rw [e18]
    exact ⟨ltb2, k2, rfl, N18, K20, fc21, Fw18, fc22, fc23⟩
  · show CHr Z consts_1 s.vm s.heap T18.vm T18.heap
    rw [hh, e18]
    exact CRe
theorem pd_CIILjava_lang_Void__V_938 : parseMethodDescriptor "([CIILjava/lang/Void;)V" = some ⟨[(.array .char), .int, .int, (.object "java/lang/Void")], none⟩ := by decide +kernel
theorem d1_0 : decode jdk_42_method_3_code 0 = .ok (.aload_n 0, 1) := by decide +kernel
theorem d1_1 : decode jdk_42_method_3_code 1 = .ok (.aload_n 1, 1) := by decide +kernel
theorem d1_2 : decode jdk_42_method_3_code 2 = .ok (.iconst 0, 1) := by decide +kernel
theorem d1_3 : decode jdk_42_method_3_code 3 = .ok (.aload_n 1, 1) := by decide +kernel
theorem d1_4 : decode jdk_42_method_3_code 4 = .ok (.arraylength, 1) := by decide +kernel
theorem d1_5 : decode jdk_42_method_3_code 5 = .ok (.aconst_null, 1) := by decide +kernel
theorem d1_6 : decode jdk_42_method_3_code 6 = .ok (.invokespecial 27, 3) := by decide +kernel
theorem d1_9 : decode jdk_42_method_3_code 9 = .ok (.return_, 1) := by decide +kernel
theorem pn_1 : plainName "java/lang/String" = true := by first | (simp [plainName, overriddenIn]; done) | decide +kernel
theorem ef_1_RR (m : MethodId) (x0 : Addr) (x1 : Addr) : entryFrame m #[(.ref x0), (.ref x1)] 2 = mkF m 0 #[.val (.ref x0), .val (.ref x1)] [] := by first | (simp [entryFrame, mkF, argsToLocals, Value.category]; done) | rfl
def Q_new1_0 (Z : State) (a1 : Addr) (a2 : Addr) (k_a2 : ClassId) (h0 : Heap) (n0 : Nat) (v : Option Value) (h : Heap) (L : List Loc) : Prop := ∃ (t : Addr) (kt : ClassId), v = none ∧ Fr n0 L ∧ Keep h0 h [a1] ∧ Exa Z h a1 "java/lang/String" ∧ Fld Z h a1 "java/lang/String" "coder" "B" (.int 0) ∧ Fld Z h a1 "java/lang/String" "value" "[B" (.ref t) ∧ Arv Z h t kt .byte (0 : Int32) [] (.int 0)
set_option maxRecDepth 65536 in
set_option maxHeartbeats 40000000 in
theorem rm_new1_0 (l : Launch) (Z : State) (a0 : Array Value) (hw : ∀ d ∈ tables_1, d.before a0 Z = true) (hEL : EW Z a0 consts_1) (ws : List Jvm.Cond) (a1 : Addr) (a2 : Addr) (k_a2 : ClassId) (h0 : Heap) (n0 : Nat) (Z0 : n0 ≤ h0.size) (E_a1 : Exa Z h0 a1 "java/lang/String") (F_a1_value : Fld Z h0 a1 "java/lang/String" "value" "[B" .null) (F_a1_coder : Fld Z h0 a1 "java/lang/String" "coder" "B" (.int 0)) (V_a2 : Arv Z h0 a2 k_a2 .char (0 : Int32) [] (.int 0)) (O0 : Old Z n0 h0) (g_a1 : n0 ≤ a1) :
    MetFree l mn1 (head1 (Jvm.Cond.code mn1 jdk_42_method_3_code 2 none :: ws) ro1) (fun a U => a = #[(.ref a1), (.ref a2)] ∧ Z.Warmed39 U.vm ∧ U.heap = h0 ∧ CHv Z consts_1 U.vm h0) (fun _ _ _ _ _ => True) (fun _ U o U' => ∃ v L, o = .returned v ∧ Q_new1_0 Z a1 a2 k_a2 h0 n0 v U'.heap L ∧ CHr Z consts_1 U.vm U.heap U'.vm U'.heap ∧ ReturnedEndW U o U' L ro1.cells ro1.slots) := by
  refine MetFree.of_bodySF (plainFor_of_name pn_1) hisR ?_
  intro p e s m args below meth c s₁ Bd hml0 hP hK
  obtain ⟨rfl, hZ, hh, H0c⟩ := hP
  have hx := Bd.exec
  have hby := Bd.bytes
  have hml : c.maxLocals = 2 := hml0
  have hown : s.vm.findClass "java/lang/String" = some m.cls := findClass_of_methodNamed Bd.named
  have hnm := (name_of_methodNamed Bd.named Bd.method).1
  have X0 : Stand p l e ro1 (s.setVm s.vm) m #[(.ref a1), (.ref a2)] below meth c s₁ [] 0 0 := Stand.of_body Bd
  have e0 : s₁.heap = h0 := by rw [← hh, Bd.state]; rfl
  have N0 := Fr.nil n0
  have pre0 : ∀ t, Steps p.tables e below (s₁.setTop (mkF m 0 #[.val (.ref a1), .val (.ref a2)] [])) t → Steps p.tables e below (s₁.setTop (entryFrame m #[(.ref a1), (.ref a2)] 2)) t := fun t k => castTop (ef_1_RR m a1 a2) k
  have hS0 : s.Since s.vm 0 := (State.WarmedH.refl s).since 0
  have hk0 : 0 ≤ h0.size := Nat.zero_le _
  have C0c : CHr Z consts_1 s.vm h0 s.vm h0 := CHr.refl H0c
  obtain ⟨cl1, Ar1, -, S1, M1, -, -⟩ := id V_a2
  obtain ⟨_, _, ⟨T2, L2, k2, n2⟩, -, X2, hS2, gr2, ⟨Lc2, hQ2, l2, y2, z2, C2⟩, st2⟩ := X0.specialBackS hx (y := mn0) rfl hown (mvT hZ (hwi hw 7 rfl)) (mvT hZ (hwi hw 8 rfl)) (mvT hZ (hwi hw 10 rfl)) (by decide) (backOfSH (s := s) (vm0 := s.vm) (EL := consts_1) (W := 0) (rm_new4_0 l Z a0 hw hEL [] a1 a2 h0 n0 Z0 E_a1 F_a1_value F_a1_coder O0 g_a1) hZ (hwi hw 10 rfl) (hwi hw 3 rfl) (by decide) (by decide) hEL H0c) (g := (mkF m 6 #[.val (.ref a1), .val (.ref a2)] [.null, (.int 0), (.int 0), (.ref a2), (.ref a1)])) rfl (by rw [hml]; rfl) (Steps.refl _) (a := a1) (argsL := [(.ref a2), (.int 0), (.int 0), .null]) (rest := []) (lenOf pd_CIILjava_lang_Void__V_938 rfl) rfl (by show 2 * 0 + _ ≤ _; exact Nat.le_of_eq rfl) (hb hby d1_6) (fun _ _ => ⟨rfl, e0, (by decide : 0 + 4 ≤ _), (by decide : 0 + 8 ≤ _)⟩)
  dsimp only [Pt.U, Pt.locs, Pt.cells, Pt.slots] at X2 l2 y2 z2 st2 hQ2 hS2 gr2 C2
  subst l2 y2 z2
  obtain ⟨X2, hS2, hZ2, ho2⟩ := rebS hS0 (by rw [e0]; exact hk0) X2 hS2 gr2 hZ hown
  obtain ⟨t_2, kt_2, rfl, N2q, Kc2, g2_0, g2_1, g2_2, g2_3⟩ := hQ2
  have N2 := Fr.app N0 N2q
  have R3 := C2
  have CR3 := C0c.trans R3
  have sz4 : h0.size ≤ T2.heap.size := Kc2.1
  have Z4 : n0 ≤ T2.heap.size := Nat.le_trans Z0 sz4
  have O4 := O0.keep Kc2 (allS g_a1 all0)
  have K4 : Keep h0 T2.heap [a1] := (Keep.refl h0 [a1]).trans Kc2 (allS (Or.inl (List.mem_of_getElem? (i := 0) rfl)) (all0))
  have CRe := CR3.trans (CHv.at X2 hZ2 hEL R3.1)
  obtain ⟨fs, hr, hrun, hended, hRE⟩ := X2.leaveW hS2 (Nat.le_refl T2.heap.size) (v := none) (fun _ => rfl)
  refine ⟨_, _, pre0 _ ?_, hrun, hended, _, _, rfl, ?_, ?_, ⟨hRE.1, hRE.2.1, hRE.2.2.1, hRE.2.2.2.mono (by decide) (by decide)⟩⟩
  · show St p e below s₁ (mkF m 0 #[.val (.ref a1), .val (.ref a2)] []) _
    refine XS.aloadN X0.here hx rfl (hb hby d1_0) rfl rfl ?_
    refine XS.aloadN X0.here hx rfl (hb hby d1_1) rfl rfl ?_
    refine XS.iconst X0.here hx rfl (hb hby d1_2) ?_
    refine XS.aloadN X0.here hx rfl (hb hby d1_3) rfl rfl ?_
    refine X0.arraylength hx (by rw [e0]; exact Ar1.1) (State.isArrayOf_alike hZ.alike Ar1.2.1) (g := (mkF m 4 #[.val (.ref a1), .val (.ref a2)] [(.ref a2), (.int 0), (.ref a2), (.ref a1)])) rfl rfl (hb hby d1_4) _ ?_
    rw [len_of S1 M1]
    show St p e below s₁ (mkF m 5 #[.val (.ref a1), .val (.ref a2)] [(.int 0), (.int 0), (.ref a2), (.ref a1)]) _
    refine XS.aconstNull X0.here hx rfl (hb hby d1_5) ?_
    refine st2.trans ?_
    show St p e below T2 (mkF m 9 #[.val (.ref a1), .val (.ref a2)] []) _
    exact X2.returnOut hx Bd.returns (hb hby d1_9) hr
  · show Q_new1_0 Z a1 a2 k_a2 h0 n0 _ T2.heap _
    exact ⟨t_2, kt_2, rfl, N2, K4, g2_0, g2_1, g2_2, g2_3⟩
  · show CHr Z consts_1 s.vm s.heap T2.vm T2.heap
    rw [hh]
    exact CRe
theorem own_bb (x : Int32) : (x.toInt8.toInt32).toInt8.toInt32 = x.toInt8.toInt32 := by simp
theorem d41_0 : decode jdk_52_method_21_code 0 = .ok (.iconst 0, 1) := by decide +kernel
theorem d41_1 : decode jdk_52_method_21_code 1 = .ok (.istore 5, 2) := by decide +kernel
theorem d41_3 : decode jdk_52_method_21_code 3 = .ok (.iload 5, 2) := by decide +kernel
theorem d41_5 : decode jdk_52_method_21_code 5 = .ok (.iload 4, 2) := by decide +kernel
theorem d41_7 : decode jdk_52_method_21_code 7 = .ok (.if_icmp .ge 37, 3) := by decide +kernel
theorem d41_10 : decode jdk_52_method_21_code 10 = .ok (.aload_n 0, 1) := by decide +kernel
theorem d41_11 : decode jdk_52_method_21_code 11 = .ok (.iload_n 1, 1) := by decide +kernel
theorem d41_12 : decode jdk_52_method_21_code 12 = .ok (.caload, 1) := by decide +kernel
theorem d41_13 : decode jdk_52_method_21_code 13 = .ok (.istore 6, 2) := by decide +kernel
theorem d41_15 : decode jdk_52_method_21_code 15 = .ok (.iload 6, 2) := by decide +kernel
theorem d41_17 : decode jdk_52_method_21_code 17 = .ok (.sipush 255, 3) := by decide +kernel
theorem d41_20 : decode jdk_52_method_21_code 20 = .ok (.if_icmp .le 6, 3) := by decide +kernel
theorem d41_26 : decode jdk_52_method_21_code 26 = .ok (.aload_n 2, 1) := by decide +kernel
theorem d41_27 : decode jdk_52_method_21_code 27 = .ok (.iload_n 3, 1) := by decide +kernel
theorem d41_28 : decode jdk_52_method_21_code 28 = .ok (.iload 6, 2) := by decide +kernel
theorem d41_30 : decode jdk_52_method_21_code 30 = .ok (.i2b, 1) := by decide +kernel
theorem d41_31 : decode jdk_52_method_21_code 31 = .ok (.bastore, 1) := by decide +kernel
theorem d41_32 : decode jdk_52_method_21_code 32 = .ok (.iinc 1 1, 3) := by decide +kernel
theorem d41_35 : decode jdk_52_method_21_code 35 = .ok (.iinc 3 1, 3) := by decide +kernel
theorem d41_38 : decode jdk_52_method_21_code 38 = .ok (.iinc 5 1, 3) := by decide +kernel
theorem d41_41 : decode jdk_52_method_21_code 41 = .ok (.goto (-38), 3) := by decide +kernel
theorem d41_44 : decode jdk_52_method_21_code 44 = .ok (.iload 4, 2) := by decide +kernel
theorem d41_46 : decode jdk_52_method_21_code 46 = .ok (.ireturn, 1) := by decide +kernel
theorem pn_41 : plainName "java/lang/StringUTF16" = true := by first | (simp [plainName, overriddenIn]; done) | decide +kernel
theorem ef_41_RIRII (m : MethodId) (x0 : Addr) (x1 : Int32) (x2 : Addr) (x3 : Int32) (x4 : Int32) : entryFrame m #[(.ref x0), (.int x1), (.ref x2), (.int x3), (.int x4)] 7 = mkF m 0 #[.val (.ref x0), .val (.int x1), .val (.ref x2), .val (.int x3), .val (.int x4), .unset, .unset] [] := by first | (simp [entryFrame, mkF, argsToLocals, Value.category]; done) | rfl
def Q_cmp5_1 (Z : State) (a1 : Addr) (a3 : Addr) (k_a1 : ClassId) (c0 : Int32) (k_a3 : ClassId) (h0 : Heap) (n0 : Nat) (v : Option Value) (h : Heap) (L : List Loc) : Prop := v = some (.int 1) ∧ Fr n0 L ∧ Keep h0 h [a3] ∧ Arv Z h a3 k_a3 .byte (1 : Int32) [(.int (c0.toInt8.toInt32))] (.int 0)
set_option maxRecDepth 65536 in
set_option maxHeartbeats 40000000 in
theorem rm_cmp5_1 (l : Launch) (Z : State) (a0 : Array Value) (hw : ∀ d ∈ tables_1, d.before a0 Z = true) (ws : List Jvm.Cond) (a1 : Addr) (a3 : Addr) (k_a1 : ClassId) (c0 : Int32) (k_a3 : ClassId) (h0 : Heap) (n0 : Nat) (Z0 : n0 ≤ h0.size) (V_a1 : Arv Z h0 a1 k_a1 .char (1 : Int32) [(.int c0)] (.int 0)) (V_a3 : Arv Z h0 a3 k_a3 .byte (1 : Int32) [(.int 0)] (.int 0)) (hne : ¬ (a1 = a3)) (hb_c0 : ¬ ((255 : Int32) < c0)) (g_a3 : n0 ≤ a3) (O0 : Old Z n0 h0) :
    MetFree l mn2 (head1 (Jvm.Cond.code mn2 jdk_52_method_21_code 7 (some .int) :: ws) ro2) (fun a U => a = #[(.ref a1), (.int 0), (.ref a3), (.int 0), (.int 1)] ∧ Z.Warmed39 U.vm ∧ U.heap = h0) (fun _ _ _ _ _ => True) (fun _ U o U' => ∃ v L, o = .returned v ∧ Q_cmp5_1 Z a1 a3 k_a1 c0 k_a3 h0 n0 v U'.heap L ∧ FrameEnd U o U' L ro2.cells ro2.slots) := by
  refine MetFree.of_bodySF (plainFor_of_name pn_41) hisR ?_
  intro p e s m args below meth c s₁ Bd hml0 hP hK
  obtain ⟨rfl, hZ, hh⟩ := hP
  have hx := Bd.exec
  have hby := Bd.bytes
  have hml : c.maxLocals = 7 := hml0
  have hown : s.vm.findClass "java/lang/StringUTF16" = some m.cls := findClass_of_methodNamed Bd.named
  have hnm := (name_of_methodNamed Bd.named Bd.method).1
  have X0 : Stand p l e ro2 s m #[(.ref a1), (.int 0), (.ref a3), (.int 0), (.int 1)] below meth c s₁ [] 0 0 := Stand.of_body Bd
  have e0 : s₁.heap = h0 := by rw [← hh, Bd.state]; rfl
  have N0 := Fr.nil n0
  have pre0 : ∀ t, Steps p.tables e below (s₁.setTop (mkF m 0 #[.val (.ref a1), .val (.int 0), .val (.ref a3), .val (.int 0), .val (.int 1), .unset, .unset] [])) t → Steps p.tables e below (s₁.setTop (entryFrame m #[(.ref a1), (.int 0), (.ref a3), (.int 0), (.int 1)] 7)) t := fun t k => castTop (ef_41_RIRII m a1 (0 : Int32) a3 (0 : Int32) (1 : Int32)) k
  obtain ⟨cl1, Ar1, q1, S1, M1, H1, G1⟩ := id V_a1
  have hin1 : ¬ ((0 : Int32) < 0 ∨ cl1.slots.size ≤ ((0 : Int32)).toNatClampNeg) := inb_of S1 ⟨by decide, by decide⟩
  have hat1 : cl1.slots[((0 : Int32)).toNatClampNeg]? = some (.int c0) := H1.at hin1 rfl
  obtain ⟨cl2, Ar2, q2, S2, M2, H2, G2⟩ := id V_a3
  have hin2 : ¬ ((0 : Int32) < 0 ∨ cl2.slots.size ≤ ((0 : Int32)).toNatClampNeg) := inb_of S2 ⟨by decide, by decide⟩
  obtain ⟨T3, h3, X3, e3, W3, st3⟩ := stB X0 hx hZ e0 Ar2 (j := (0 : Int32)) hin2 (g := (mkF m 31 #[.val (.ref a1), .val (.int 0), .val (.ref a3), .val (.int 0), .val (.int 1), .val (.int 0), .val (.int c0)] [(.int (c0.toInt8.toInt32)), (.int 0), (.ref a3)])) rfl rfl (hb hby d41_31)
  have N3 := Fr.snoc X3 N0 g_a3
  have V3 : Arv Z h3 a3 k_a3 .byte (1 : Int32) [(.int ((c0.toInt8.toInt32).toInt8.toInt32))] (.int 0) := Arv.set Ar2 q2 S2 M2 H2 G2 (fits_nar_byte _) W3 0 rfl (Nat.le_of_ble_eq_true rfl)
  rw [own_bb] at V3
  have sz4 : h0.size ≤ h3.size := Nat.le_of_eq W3.size.symm
  have Z4 : n0 ≤ h3.size := Nat.le_trans Z0 sz4
  have O4 := O0.wr W3 g_a3
  have K4 : Keep h0 h3 [a3] := (Keep.refl h0 [a3]).wr W3 (Or.inl (List.mem_of_getElem? (i := 0) rfl))
  obtain ⟨fs, hr, hrun, hended, hW, hsame⟩ := X3.leave (v := some (.int 1)) (fun h => by rw [Bd.returns] at h; cases h)
  refine ⟨_, _, pre0 _ ?_, hrun, hended, _, _, rfl, ?_, ⟨_, rfl⟩, hW, hsame.mono (by decide) (by decide)⟩
  · show St p e below s₁ (mkF m 0 #[.val (.ref a1), .val (.int 0), .val (.ref a3), .val (.int 0), .val (.int 1), .unset, .unset] []) _
    refine XS.iconst X0.here hx rfl (hb hby d41_0) ?_
    refine XS.istore X0.here hx rfl (hb hby d41_1) rfl (l' := #[.val (.ref a1), .val (.int 0), .val (.ref a3), .val (.int 0), .val (.int 1), .val (.int 0), .unset]) rfl ?_
    refine XS.iload X0.here hx rfl (hb hby d41_3) rfl ?_
    refine XS.iload X0.here hx rfl (hb hby d41_5) rfl ?_
    refine XS.icmpNo X0.here hx rfl (hb hby d41_7) rfl (tlt (by decide : (0 : Int32) < (1 : Int32))).2.1 ?_
    refine XS.aloadN X0.here hx rfl (hb hby d41_10) rfl rfl ?_
    refine XS.iloadN X0.here hx rfl (hb hby d41_11) rfl ?_
    refine X0.caload hx (j := (0 : Int32)) (v := (.int c0)) (by rw [e0]; exact Ar1.1) (State.isArrayOf_alike hZ.alike Ar1.2.1) Ar1.2.2 hin1 hat1 (g := (mkF m 12 #[.val (.ref a1), .val (.int 0), .val (.ref a3), .val (.int 0), .val (.int 1), .val (.int 0), .unset] [(.int 0), (.ref a1)])) rfl rfl (hb hby d41_12) _ ?_
    show St p e below s₁ (mkF m 13 #[.val (.ref a1), .val (.int 0), .val (.ref a3), .val (.int 0), .val (.int 1), .val (.int 0), .unset] [(.int c0)]) _
    refine XS.istore X0.here hx rfl (hb hby d41_13) rfl (l' := #[.val (.ref a1), .val (.int 0), .val (.ref a3), .val (.int 0), .val (.int 1), .val (.int 0), .val (.int c0)]) rfl ?_
    refine XS.iload X0.here hx rfl (hb hby d41_15) rfl ?_
    refine XS.sipush X0.here hx rfl (hb hby d41_17) ?_
    refine XS.icmpYes X0.here hx rfl (pc0 := 20) (pc' := 26) rfl (hb hby d41_20) rfl (flt hb_c0).2.2.2 (by decide) (by decide) ?_
    refine XS.aloadN X0.here hx rfl (hb hby d41_26) rfl rfl ?_
    refine XS.iloadN X0.here hx rfl (hb hby d41_27) rfl ?_
    refine XS.iload X0.here hx rfl (hb hby d41_28) rfl ?_
    refine XS.i2b X0.here hx rfl (hb hby d41_30) rfl ?_
    show St p e below s₁ (mkF m 31 #[.val (.ref a1), .val (.int 0), .val (.ref a3), .val (.int 0), .val (.int 1), .val (.int 0), .val (.int c0)] [(.int (c0.toInt8.toInt32)), (.int 0), (.ref a3)]) _
    refine st3 _ ?_
    refine XS.iinc X3.here hx rfl (hb hby d41_32) rfl (l' := #[.val (.ref a1), .val (.int ((0 : Int32) + (1 : Int32))), .val (.ref a3), .val (.int 0), .val (.int 1), .val (.int 0), .val (.int c0)]) rfl ?_
    show St p e below T3 (mkF m 35 #[.val (.ref a1), .val (.int ((0 : Int32) + (1 : Int32))), .val (.ref a3), .val (.int 0), .val (.int 1), .val (.int 0), .val (.int c0)] []) _
    rw [(by decide : ((0 : Int32) + (1 : Int32)) = (1 : Int32))]
    show St p e below T3 (mkF m 35 #[.val (.ref a1), .val (.int 1), .val (.ref a3), .val (.int 0), .val (.int 1), .val (.int 0), .val (.int c0)] []) _
    refine XS.iinc X3.here hx rfl (hb hby d41_35) rfl (l' := #[.val (.ref a1), .val (.int 1), .val (.ref a3), .val (.int ((0 : Int32) + (1 : Int32))), .val (.int 1), .val (.int 0), .val (.int c0)]) rfl ?_
    show St p e below T3 (mkF m 38 #[.val (.ref a1), .val (.int 1), .val (.ref a3), .val (.int ((0 : Int32) + (1 : Int32))), .val (.int 1), .val (.int 0), .val (.int c0)] []) _
    rw [(by decide : ((0 : Int32) + (1 : Int32)) = (1 : Int32))]
    show St p e below T3 (mkF m 38 #[.val (.ref a1), .val (.int 1), .val (.ref a3), .val (.int 1), .val (.int 1), .val (.int 0), .val (.int c0)] []) _
    refine XS.iinc X3.here hx rfl (hb hby d41_38) rfl (l' := #[.val (.ref a1), .val (.int 1), .val (.ref a3), .val (.int 1), .val (.int 1), .val (.int ((0 : Int32) + (1 : Int32))), .val (.int c0)]) rfl ?_
    show St p e below T3 (mkF m 41 #[.val (.ref a1), .val (.int 1), .val (.ref a3), .val (.int 1), .val (.int 1), .val (.int ((0 : Int32) + (1 : Int32))), .val (.int c0)] []) _
    rw [(by decide : ((0 : Int32) + (1 : Int32)) = (1 : Int32))]
    show St p e below T3 (mkF m 41 #[.val (.ref a1), .val (.int 1), .val (.ref a3), .val (.int 1), .val (.int 1), .val (.int 1), .val (.int c0)] []) _
    refine XS.goto X3.here hx rfl (pc0 := 41) (pc' := 3) rfl (hb hby d41_41) (by decide) (by decide) ?_
    refine XS.iload X3.here hx rfl (hb hby d41_3) rfl ?_
    refine XS.iload X3.here hx rfl (hb hby d41_5) rfl ?_
    refine XS.icmpYes X3.here hx rfl (pc0 := 7) (pc' := 44) rfl (hb hby d41_7) rfl (flt (by decide : ¬ ((1 : Int32) < (1 : Int32)))).2.1 (by decide) (by decide) ?_
    refine XS.iload X3.here hx rfl (hb hby d41_44) rfl ?_
    show St p e below T3 (mkF m 46 #[.val (.ref a1), .val (.int 1), .val (.ref a3), .val (.int 1), .val (.int 1), .val (.int 1), .val (.int c0)] [(.int 1)]) _
    exact retI X3 hx Bd.returns (hb hby d41_46) hr
  · show Q_cmp5_1 Z a1 a3 k_a1 c0 k_a3 h0 n0 _ T3.heap _
    rw [e3]
    exact ⟨rfl, N3, K4, V3⟩
theorem pd_CI_BII_I_688 : parseMethodDescriptor "([CI[BII)I" = some ⟨[(.array .char), .int, (.array .byte), .int, .int], some .int⟩ := by decide +kernel
theorem d40_0 : decode jdk_52_method_16_code 0 = .ok (.iload_n 2, 1) := by decide +kernel
theorem d40_1 : decode jdk_52_method_16_code 1 = .ok (.newarray .byte, 2) := by decide +kernel
theorem d40_3 : decode jdk_52_method_16_code 3 = .ok (.astore_n 3, 1) := by decide +kernel
theorem d40_4 : decode jdk_52_method_16_code 4 = .ok (.aload_n 0, 1) := by decide +kernel
theorem d40_5 : decode jdk_52_method_16_code 5 = .ok (.iload_n 1, 1) := by decide +kernel
theorem d40_6 : decode jdk_52_method_16_code 6 = .ok (.aload_n 3, 1) := by decide +kernel
theorem d40_7 : decode jdk_52_method_16_code 7 = .ok (.iconst 0, 1) := by decide +kernel
theorem d40_8 : decode jdk_52_method_16_code 8 = .ok (.iload_n 2, 1) := by decide +kernel
theorem d40_9 : decode jdk_52_method_16_code 9 = .ok (.invokestatic 115, 3) := by decide +kernel
theorem d40_12 : decode jdk_52_method_16_code 12 = .ok (.istore 4, 2) := by decide +kernel
theorem d40_14 : decode jdk_52_method_16_code 14 = .ok (.iload 4, 2) := by decide +kernel
theorem d40_16 : decode jdk_52_method_16_code 16 = .ok (.iload_n 2, 1) := by decide +kernel
theorem d40_17 : decode jdk_52_method_16_code 17 = .ok (.if_icmp .eq 40, 3) := by decide +kernel
theorem d40_57 : decode jdk_52_method_16_code 57 = .ok (.aload_n 3, 1) := by decide +kernel
theorem d40_58 : decode jdk_52_method_16_code 58 = .ok (.areturn, 1) := by decide +kernel
theorem pn_40 : plainName "java/lang/StringUTF16" = true := by first | (simp [plainName, overriddenIn]; done) | decide +kernel
theorem ef_40_RII (m : MethodId) (x0 : Addr) (x1 : Int32) (x2 : Int32) : entryFrame m #[(.ref x0), (.int x1), (.int x2)] 6 = mkF m 0 #[.val (.ref x0), .val (.int x1), .val (.int x2), .unset, .unset, .unset] [] := by first | (simp [entryFrame, mkF, argsToLocals, Value.category]; done) | rfl
def Q_cmp3_1 (Z : State) (a1 : Addr) (k_a1 : ClassId) (c0 : Int32) (h0 : Heap) (n0 : Nat) (v : Option Value) (h : Heap) (L : List Loc) : Prop := ∃ (t : Addr) (kt : ClassId), v = some (.ref t) ∧ Fr n0 L ∧ Keep h0 h [] ∧ h0.size ≤ t ∧ Arv Z h t kt .byte (1 : Int32) [(.int (c0.toInt8.toInt32))] (.int 0)
set_option maxRecDepth 65536 in
set_option maxHeartbeats 40000000 in
theorem rm_cmp3_1 (l : Launch) (Z : State) (a0 : Array Value) (hw : ∀ d ∈ tables_1, d.before a0 Z = true) (ws : List Jvm.Cond) (a1 : Addr) (k_a1 : ClassId) (c0 : Int32) (h0 : Heap) (n0 : Nat) (Z0 : n0 ≤ h0.size) (V_a1 : Arv Z h0 a1 k_a1 .char (1 : Int32) [(.int c0)] (.int 0)) (hb_c0 : ¬ ((255 : Int32) < c0)) (O0 : Old Z n0 h0) :
    MetFree l mn3 (head1 (Jvm.Cond.code mn3 jdk_52_method_16_code 6 (some (.array .byte)) :: ws) ro3) (fun a U => a = #[(.ref a1), (.int 0), (.int 1)] ∧ Z.Warmed39 U.vm ∧ U.heap = h0) (fun _ _ _ _ _ => True) (fun _ U o U' => ∃ v L, o = .returned v ∧ Q_cmp3_1 Z a1 k_a1 c0 h0 n0 v U'.heap L ∧ FrameEnd U o U' L ro3.cells ro3.slots) := by
  refine MetFree.of_bodySF (plainFor_of_name pn_40) hisR ?_
  intro p e s m args below meth c s₁ Bd hml0 hP hK
  obtain ⟨rfl, hZ, hh⟩ := hP
  have hx := Bd.exec
  have hby := Bd.bytes
  have hml : c.maxLocals = 6 := hml0
  have hown : s.vm.findClass "java/lang/StringUTF16" = some m.cls := findClass_of_methodNamed Bd.named
  have hnm := (name_of_methodNamed Bd.named Bd.method).1
  have X0 : Stand p l e ro3 s m #[(.ref a1), (.int 0), (.int 1)] below meth c s₁ [] 0 0 := Stand.of_body Bd
  have e0 : s₁.heap = h0 := by rw [← hh, Bd.state]; rfl
  have N0 := Fr.nil n0
  have pre0 : ∀ t, Steps p.tables e below (s₁.setTop (mkF m 0 #[.val (.ref a1), .val (.int 0), .val (.int 1), .unset, .unset, .unset] [])) t → Steps p.tables e below (s₁.setTop (entryFrame m #[(.ref a1), (.int 0), (.int 1)] 6)) t := fun t k => castTop (ef_40_RII m a1 (0 : Int32) (1 : Int32)) k
  obtain ⟨T1, h1, k1, X1, e1, E1, A1, st1⟩ := newP X0 hx hZ (hwi hw 15 rfl) e0 (g := (mkF m 1 #[.val (.ref a1), .val (.int 0), .val (.int 1), .unset, .unset, .unset] [(.int 1)])) rfl (hb hby d40_1) rfl (by decide) (cap := 1) (by decide) (by decide) (by decide) (by decide)
  obtain ⟨b1, g1⟩ : ∃ z, z = h0.size := ⟨_, rfl⟩
  rw [← g1] at A1 st1
  have bn_b1 : h0.size ≤ b1 := Nat.le_of_eq g1.symm
  have sz2 : h0.size ≤ h1.size := E1.1
  have Z2 : n0 ≤ h1.size := Nat.le_trans Z0 sz2
  have O2 := O0.ext E1
  have K2 : Keep h0 h1 [] := (Keep.refl h0 []).ext E1
  have V1 : Arv Z h1 b1 k1 .byte (1 : Int32) [(.int 0)] (.int 0) := (Arv.new A1 (by decide)).pad (pad_rep [] (.int 0) 1)
  have fc4 := (V_a1.ext E1)
  obtain ⟨_, _, ⟨T3, L3, k3, n3⟩, -, X3, ⟨Lc3, hQ3, l3, y3, z3⟩, st3⟩ := Jvm.LawKit.callS X1 hx (y := mn2) hown (mvT hZ (hwi hw 211 rfl)) (mvT hZ (hwi hw 212 rfl)) (mvT hZ (hwi hw 209 rfl)) (mvT hZ (hwi hw 213 rfl)) (by decide) (backOf (W := 0) (rm_cmp5_1 l Z a0 hw [] a1 b1 k_a1 c0 k1 h1 n0 Z2 fc4 V1 (neN (by have := ltN V_a1.lt; have := ltN V1.lt; omega)) hb_c0 (Nat.le_trans Z0 bn_b1) O2) hZ (hwi hw 213 rfl) (hwi hw 209 rfl) (by decide) (by decide)) (g := (mkF m 9 #[.val (.ref a1), .val (.int 0), .val (.int 1), .val (.ref b1), .unset, .unset] [(.int 1), (.int 0), (.ref b1), (.int 0), (.ref a1)])) rfl (by rw [hml]; rfl) (argsL := [(.ref a1), (.int 0), (.ref b1), (.int 0), (.int 1)]) (rest := []) (lenOf pd_CI_BII_I_688 rfl) rfl (by show 2 * 0 + _ ≤ _; exact Nat.le_of_eq rfl) (hb hby d40_9) (fun _ _ => ⟨rfl, e1, (by decide : 1 + 0 ≤ _), (by decide : 1 + 0 ≤ _)⟩)
  dsimp only [Pt.U, Pt.locs, Pt.cells, Pt.slots] at X3 l3 y3 z3 st3 hQ3
  subst l3 y3 z3
  obtain ⟨rfl, N3q, Kc3, g3_0⟩ := hQ3
  have N3 := Fr.app N0 N3q
  have sz5 : h1.size ≤ T3.heap.size := Kc3.1
  have Z5 : n0 ≤ T3.heap.size := Nat.le_trans Z2 sz5
  have O5 := O2.keep Kc3 (allS (Nat.le_trans Z0 bn_b1) all0)
  have K5 : Keep h0 T3.heap [] := K2.trans Kc3 (allS (Or.inr bn_b1) (all0))
  obtain ⟨fs, hr, hrun, hended, hW, hsame⟩ := X3.leave (v := some (.ref b1)) (fun h => by rw [Bd.returns] at h; cases h)
  refine ⟨_, _, pre0 _ ?_, hrun, hended, _, _, rfl, ?_, ⟨_, rfl⟩, hW, hsame.mono (by decide) (by decide)⟩
  · show St p e below s₁ (mkF m 0 #[.val (.ref a1), .val (.int 0), .val (.int 1), .unset, .unset, .unset] []) _
    refine XS.iloadN X0.here hx rfl (hb hby d40_0) rfl ?_
    refine st1 _ ?_
    refine XS.astoreN X1.here hx rfl (hb hby d40_3) rfl rfl (l' := #[.val (.ref a1), .val (.int 0), .val (.int 1), .val (.ref b1), .unset, .unset]) rfl ?_
    refine XS.aloadN X1.here hx rfl (hb hby d40_4) rfl rfl ?_
    refine XS.iloadN X1.here hx rfl (hb hby d40_5) rfl ?_
    refine XS.aloadN X1.here hx rfl (hb hby d40_6) rfl rfl ?_
    refine XS.iconst X1.here hx rfl (hb hby d40_7) ?_
    refine XS.iloadN X1.here hx rfl (hb hby d40_8) rfl ?_
    show St p e below T1 (mkF m 9 #[.val (.ref a1), .val (.int 0), .val (.int 1), .val (.ref b1), .unset, .unset] [(.int 1), (.int 0), (.ref b1), (.int 0), (.ref a1)]) _
    refine st3 _ ?_
    refine XS.istore X3.here hx rfl (hb hby d40_12) rfl (l' := #[.val (.ref a1), .val (.int 0), .val (.int 1), .val (.ref b1), .val (.int 1), .unset]) rfl ?_
    refine XS.iload X3.here hx rfl (hb hby d40_14) rfl ?_
    refine XS.iloadN X3.here hx rfl (hb hby d40_16) rfl ?_
    refine XS.icmpYes X3.here hx rfl (pc0 := 17) (pc' := 57) rfl (hb hby d40_17) rfl (teq (by decide : (1 : Int32) = (1 : Int32))).1 (by decide) (by decide) ?_
    refine XS.aloadN X3.here hx rfl (hb hby d40_57) rfl rfl ?_
    show St p e below T3 (mkF m 58 #[.val (.ref a1), .val (.int 0), .val (.int 1), .val (.ref b1), .val (.int 1), .unset] [(.ref b1)]) _
    jvm_step X3.here [X3.here.top, hx, (hb hby d40_58), X3.method', Bd.returns, Value.isRef, FieldType.isReference]
    first | (intro acts; rw [hr _ acts rfl rfl rfl]) | rw [hr _ _ rfl rfl rfl]
    exact Steps.refl _
  · show Q_cmp3_1 Z a1 k_a1 c0 h0 n0 _ T3.heap _
    exact ⟨b1, k1, rfl, N3, K5, bn_b1, g3_0⟩
theorem d42_0 : decode jdk_52_method_15_code 0 = .ok (.iload_n 1, 1) := by decide +kernel
theorem d42_1 : decode jdk_52_method_15_code 1 = .ok (.aload_n 0, 1) := by decide +kernel
theorem d42_2 : decode jdk_52_method_15_code 2 = .ok (.arraylength, 1) := by decide +kernel
theorem d42_3 : decode jdk_52_method_15_code 3 = .ok (.isub, 1) := by decide +kernel
theorem d42_4 : decode jdk_52_method_15_code 4 = .ok (.bipush 31, 2) := by decide +kernel
theorem d42_6 : decode jdk_52_method_15_code 6 = .ok (.iushr, 1) := by decide +kernel
theorem d42_7 : decode jdk_52_method_15_code 7 = .ok (.i2b, 1) := by decide +kernel
theorem d42_8 : decode jdk_52_method_15_code 8 = .ok (.ireturn, 1) := by decide +kernel
theorem pn_42 : plainName "java/lang/StringUTF16" = true := by first | (simp [plainName, overriddenIn]; done) | decide +kernel
theorem ef_42_RI (m : MethodId) (x0 : Addr) (x1 : Int32) : entryFrame m #[(.ref x0), (.int x1)] 2 = mkF m 0 #[.val (.ref x0), .val (.int x1)] [] := by first | (simp [entryFrame, mkF, argsToLocals, Value.category]; done) | rfl
def Q_cod_1 (Z : State) (a1 : Addr) (k_a1 : ClassId) (by0 : Int32) (h0 : Heap) (n0 : Nat) (v : Option Value) (h : Heap) (L : List Loc) : Prop := v = some (.int 0) ∧ Fr n0 L ∧ h = h0
set_option maxRecDepth 65536 in
set_option maxHeartbeats 40000000 in
theorem rm_cod_1 (l : Launch) (Z : State) (a0 : Array Value) (hw : ∀ d ∈ tables_1, d.before a0 Z = true) (ws : List Jvm.Cond) (a1 : Addr) (k_a1 : ClassId) (by0 : Int32) (h0 : Heap) (n0 : Nat) (Z0 : n0 ≤ h0.size) (V_a1 : Arv Z h0 a1 k_a1 .byte (1 : Int32) [(.int by0)] (.int 0)) :
    MetFree l mn4 (head1 (Jvm.Cond.code mn4 jdk_52_method_15_code 2 (some .byte) :: ws) ro2) (fun a U => a = #[(.ref a1), (.int 1)] ∧ Z.Warmed39 U.vm ∧ U.heap = h0) (fun _ _ _ _ _ => True) (fun _ U o U' => ∃ v L, o = .returned v ∧ Q_cod_1 Z a1 k_a1 by0 h0 n0 v U'.heap L ∧ FrameEnd U o U' L ro2.cells ro2.slots) := by
  refine MetFree.of_bodySF (plainFor_of_name pn_42) hisR ?_
  intro p e s m args below meth c s₁ Bd hml0 hP hK
  obtain ⟨rfl, hZ, hh⟩ := hP
  have hx := Bd.exec
  have hby := Bd.bytes
  have hml : c.maxLocals = 2 := hml0
  have hown : s.vm.findClass "java/lang/StringUTF16" = some m.cls := findClass_of_methodNamed Bd.named
  have hnm := (name_of_methodNamed Bd.named Bd.method).1
  have X0 : Stand p l e ro2 s m #[(.ref a1), (.int 1)] below meth c s₁ [] 0 0 := Stand.of_body Bd
  have e0 : s₁.heap = h0 := by rw [← hh, Bd.state]; rfl
  have N0 := Fr.nil n0
  have pre0 : ∀ t, Steps p.tables e below (s₁.setTop (mkF m 0 #[.val (.ref a1), .val (.int 1)] [])) t → Steps p.tables e below (s₁.setTop (entryFrame m #[(.ref a1), (.int 1)] 2)) t := fun t k => castTop (ef_42_RI m a1 (1 : Int32)) k
  obtain ⟨cl1, Ar1, -, S1, M1, -, -⟩ := id V_a1
  obtain ⟨fs, hr, hrun, hended, hW, hsame⟩ := X0.leave (v := some (.int 0)) (fun h => by rw [Bd.returns] at h; cases h)
  refine ⟨_, _, pre0 _ ?_, hrun, hended, _, _, rfl, ?_, ⟨_, rfl⟩, hW, hsame.mono (by decide) (by decide)⟩
  · show St p e below s₁ (mkF m 0 #[.val (.ref a1), .val (.int 1)] []) _
    refine XS.iloadN X0.here hx rfl (hb hby d42_0) rfl ?_
    refine XS.aloadN X0.here hx rfl (hb hby d42_1) rfl rfl ?_
    refine X0.arraylength hx (by rw [e0]; exact Ar1.1) (State.isArrayOf_alike hZ.alike Ar1.2.1) (g := (mkF m 2 #[.val (.ref a1), .val (.int 1)] [(.ref a1), (.int 1)])) rfl rfl (hb hby d42_2) _ ?_
    rw [len_of S1 M1]
    show St p e below s₁ (mkF m 3 #[.val (.ref a1), .val (.int 1)] [(.int 1), (.int 1)]) _
    refine XS.isub X0.here hx rfl (hb hby d42_3) rfl ?_
    show St p e below s₁ (mkF m 4 #[.val (.ref a1), .val (.int 1)] [(.int ((1 : Int32) - (1 : Int32)))]) _
    rw [(by decide : ((1 : Int32) - (1 : Int32)) = (0 : Int32))]
    show St p e below s₁ (mkF m 4 #[.val (.ref a1), .val (.int 1)] [(.int 0)]) _
    refine XS.bipush X0.here hx rfl (hb hby d42_4) ?_
    refine XS.iushr X0.here hx rfl (hb hby d42_6) rfl ?_
    show St p e below s₁ (mkF m 7 #[.val (.ref a1), .val (.int 1)] [(.int (((0 : Int32).toUInt32 >>> ((31 : Int32) &&& 31).toUInt32).toInt32))]) _
    rw [(by decide : (((0 : Int32).toUInt32 >>> ((31 : Int32) &&& 31).toUInt32).toInt32) = (0 : Int32))]
    show St p e below s₁ (mkF m 7 #[.val (.ref a1), .val (.int 1)] [(.int 0)]) _
    refine XS.i2b X0.here hx rfl (hb hby d42_7) rfl ?_
    show St p e below s₁ (mkF m 8 #[.val (.ref a1), .val (.int 1)] [(.int ((0 : Int32).toInt8.toInt32))]) _
    rw [(by decide : ((0 : Int32).toInt8.toInt32) = (0 : Int32))]
    show St p e below s₁ (mkF m 8 #[.val (.ref a1), .val (.int 1)] [(.int 0)]) _
    exact retN X0 hx (t := .byte) Bd.returns (by simp) (hb hby d42_8) hr
  · show Q_cod_1 Z a1 k_a1 by0 h0 n0 _ s₁.heap _
    rw [e0]
    exact ⟨rfl, N0, rfl⟩
theorem pd_CII__B_542 : parseMethodDescriptor "([CII)[B" = some ⟨[(.array .char), .int, .int], some (.array .byte)⟩ := by decide +kernel
theorem pd_BI_B_377 : parseMethodDescriptor "([BI)B" = some ⟨[(.array .byte), .int], some .byte⟩ := by decide +kernel
theorem d2_27 : decode jdk_42_method_149_code 27 = .ok (.getstatic 38, 3) := by decide +kernel
theorem d2_30 : decode jdk_42_method_149_code 30 = .ok (.ifCond .eq 28, 3) := by decide +kernel
theorem d2_33 : decode jdk_42_method_149_code 33 = .ok (.aload_n 1, 1) := by decide +kernel
theorem d2_34 : decode jdk_42_method_149_code 34 = .ok (.iload_n 2, 1) := by decide +kernel
theorem d2_35 : decode jdk_42_method_149_code 35 = .ok (.iload_n 3, 1) := by decide +kernel
theorem d2_36 : decode jdk_42_method_149_code 36 = .ok (.invokestatic 177, 3) := by decide +kernel
theorem d2_39 : decode jdk_42_method_149_code 39 = .ok (.astore 5, 2) := by decide +kernel
theorem d2_41 : decode jdk_42_method_149_code 41 = .ok (.aload_n 0, 1) := by decide +kernel
theorem d2_42 : decode jdk_42_method_149_code 42 = .ok (.aload 5, 2) := by decide +kernel
theorem d2_44 : decode jdk_42_method_149_code 44 = .ok (.iload_n 3, 1) := by decide +kernel
theorem d2_45 : decode jdk_42_method_149_code 45 = .ok (.invokestatic 47, 3) := by decide +kernel
theorem d2_48 : decode jdk_42_method_149_code 48 = .ok (.putfield 15, 3) := by decide +kernel
theorem d2_51 : decode jdk_42_method_149_code 51 = .ok (.aload_n 0, 1) := by decide +kernel
theorem d2_52 : decode jdk_42_method_149_code 52 = .ok (.aload 5, 2) := by decide +kernel
theorem d2_54 : decode jdk_42_method_149_code 54 = .ok (.putfield 9, 3) := by decide +kernel
theorem d2_57 : decode jdk_42_method_149_code 57 = .ok (.return_, 1) := by decide +kernel
def Q_new4_1 (Z : State) (a1 : Addr) (a2 : Addr) (w_COMPACT_STRINGS : Int32) (k_a2 : ClassId) (c0 : Int32) (u_a1_coder : Value) (u_a1_value : Value) (h0 : Heap) (n0 : Nat) (v : Option Value) (h : Heap) (L : List Loc) : Prop := ∃ (t : Addr) (kt : ClassId), v = none ∧ Fr n0 L ∧ Keep h0 h [a1] ∧ Exa Z h a1 "java/lang/String" ∧ Fld Z h a1 "java/lang/String" "coder" "B" (.int 0) ∧ Fld Z h a1 "java/lang/String" "value" "[B" (.ref t) ∧ h0.size ≤ t ∧ Arv Z h t kt .byte (1 : Int32) [(.int (c0.toInt8.toInt32))] (.int 0)
set_option maxRecDepth 65536 in
set_option maxHeartbeats 40000000 in
theorem rm_new4_1 (l : Launch) (Z : State) (a0 : Array Value) (hw : ∀ d ∈ tables_1, d.before a0 Z = true) (ws : List Jvm.Cond) (a1 : Addr) (a2 : Addr) (w_COMPACT_STRINGS : Int32) (k_a2 : ClassId) (c0 : Int32) (u_a1_coder : Value) (u_a1_value : Value) (h0 : Heap) (n0 : Nat) (Z0 : n0 ≤ h0.size) (S_COMPACT_STRINGS : Sta Z Z.heap "java/lang/String" "COMPACT_STRINGS" "Z" (.int w_COMPACT_STRINGS)) (hcs : ¬ (w_COMPACT_STRINGS = (0 : Int32))) (V_a2 : Arv Z h0 a2 k_a2 .char (1 : Int32) [(.int c0)] (.int 0)) (hb_c0 : ¬ ((255 : Int32) < c0)) (O0 : Old Z n0 h0) (E_a1 : Exa Z h0 a1 "java/lang/String") (F_a1_coder : Fld Z h0 a1 "java/lang/String" "coder" "B" u_a1_coder) (g_a1 : n0 ≤ a1) (F_a1_value : Fld Z h0 a1 "java/lang/String" "value" "[B" u_a1_value) :
    MetFree l mn0 (head1 (Jvm.Cond.code mn0 jdk_42_method_149_code 6 none :: ws) ro4) (fun a U => a = #[(.ref a1), (.ref a2), (.int 0), (.int 1), .null] ∧ Z.Warmed39 U.vm ∧ U.heap = h0) (fun _ _ _ _ _ => True) (fun _ U o U' => ∃ v L, o = .returned v ∧ Q_new4_1 Z a1 a2 w_COMPACT_STRINGS k_a2 c0 u_a1_coder u_a1_value h0 n0 v U'.heap L ∧ FrameEnd U o U' L ro4.cells ro4.slots) := by
  refine MetFree.of_bodySF (plainFor_of_name pn_2) hisR ?_
  intro p e s m args below meth c s₁ Bd hml0 hP hK
  obtain ⟨rfl, hZ, hh⟩ := hP
  have hx := Bd.exec
  have hby := Bd.bytes
  have hml : c.maxLocals = 6 := hml0
  have hown : s.vm.findClass "java/lang/String" = some m.cls := findClass_of_methodNamed Bd.named
  have hnm := (name_of_methodNamed Bd.named Bd.method).1
  have X0 : Stand p l e ro4 s m #[(.ref a1), (.ref a2), (.int 0), (.int 1), .null] below meth c s₁ [] 0 0 := Stand.of_body Bd
  have e0 : s₁.heap = h0 := by rw [← hh, Bd.state]; rfl
  have N0 := Fr.nil n0
  have pre0 : ∀ t, Steps p.tables e below (s₁.setTop (mkF m 0 #[.val (.ref a1), .val (.ref a2), .val (.int 0), .val (.int 1), .val .null, .unset] [])) t → Steps p.tables e below (s₁.setTop (entryFrame m #[(.ref a1), (.ref a2), (.int 0), (.int 1), .null] 6)) t := fun t k => castTop (ef_2_RRIIn m a1 a2 (0 : Int32) (1 : Int32)) k
  obtain ⟨T1, X1, e1, st1⟩ := initO X0 hx hZ hown (hwi hw 11 rfl) (hwi hw 12 rfl) (hwi hw 13 rfl) e0 (g := (mkF m 1 #[.val (.ref a1), .val (.ref a2), .val (.int 0), .val (.int 1), .val .null, .unset] [(.ref a1)])) rfl (by rw [hml]; rfl) rfl (hb hby d2_1) (by decide) (W := 0) (by show 2 * 0 + _ ≤ _; exact Nat.le_of_eq rfl) (by decide)
  obtain ⟨T2, X2, e2, st2⟩ := getS2 X1 hx hZ hown (host := "") (Or.inl (hwi hw 81 rfl)) Via.refl e1 (S_COMPACT_STRINGS.ext O0.2) (g := (mkF m 27 #[.val (.ref a1), .val (.ref a2), .val (.int 0), .val (.int 1), .val .null, .unset] [])) rfl (hb hby d2_27)
  obtain ⟨_, _, ⟨T3, L3, k3, n3⟩, -, X3, ⟨Lc3, hQ3, l3, y3, z3⟩, st3⟩ := Jvm.LawKit.callS X2 hx (y := mn3) hown (mvT hZ (hwi hw 207 rfl)) (mvT hZ (hwi hw 208 rfl)) (mvT hZ (hwi hw 209 rfl)) (mvT hZ (hwi hw 210 rfl)) (by decide) (backOf (W := 0) (rm_cmp3_1 l Z a0 hw [] a2 k_a2 c0 h0 n0 Z0 V_a2 hb_c0 O0) hZ (hwi hw 210 rfl) (hwi hw 209 rfl) (by decide) (by decide)) (g := (mkF m 36 #[.val (.ref a1), .val (.ref a2), .val (.int 0), .val (.int 1), .val .null, .unset] [(.int 1), (.int 0), (.ref a2)])) rfl (by rw [hml]; rfl) (argsL := [(.ref a2), (.int 0), (.int 1)]) (rest := []) (lenOf pd_CII__B_542 rfl) rfl (by show 2 * 0 + _ ≤ _; exact Nat.le_of_eq rfl) (hb hby d2_36) (fun _ _ => ⟨rfl, e2, (by decide : 0 + 1 ≤ _), (by decide : 0 + 1 ≤ _)⟩)
  dsimp only [Pt.U, Pt.locs, Pt.cells, Pt.slots] at X3 l3 y3 z3 st3 hQ3
  subst l3 y3 z3
  obtain ⟨t_3, kt_3, rfl, N3q, Kc3, g3_0, g3_1⟩ := hQ3
  have N3 := Fr.app N0 N3q
  have sz4 : h0.size ≤ T3.heap.size := Kc3.1
  have Z4 : n0 ≤ T3.heap.size := Nat.le_trans Z0 sz4
  have O4 := O0.keep Kc3 all0
  have K4 : Keep h0 T3.heap [a1] := (Keep.refl h0 [a1]).trans Kc3 (all0)
  have bn_t_3 : h0.size ≤ t_3 := g3_0
  obtain ⟨_, _, ⟨T5, L5, k5, n5⟩, -, X5, ⟨Lc5, hQ5, l5, y5, z5⟩, st5⟩ := Jvm.LawKit.callS X3 hx (y := mn4) hown (mvT hZ (hwi hw 214 rfl)) (mvT hZ (hwi hw 215 rfl)) (mvT hZ (hwi hw 209 rfl)) (mvT hZ (hwi hw 216 rfl)) (by decide) (backOf (W := 1) (rm_cod_1 l Z a0 hw [] t_3 kt_3 (c0.toInt8.toInt32) T3.heap n0 Z4 g3_1) hZ (hwi hw 216 rfl) (hwi hw 209 rfl) (by decide) (by decide)) (g := (mkF m 45 #[.val (.ref a1), .val (.ref a2), .val (.int 0), .val (.int 1), .val .null, .val (.ref t_3)] [(.int 1), (.ref t_3), (.ref a1)])) rfl (by rw [hml]; rfl) (argsL := [(.ref t_3), (.int 1)]) (rest := [(.ref a1)]) (lenOf pd_BI_B_377 rfl) rfl (by show 2 * 0 + _ ≤ _; exact Nat.le_of_eq rfl) (hb hby d2_45) (fun _ _ => ⟨rfl, rfl, (by decide : 1 + 0 ≤ _), (by decide : 1 + 0 ≤ _)⟩)
  dsimp only [Pt.U, Pt.locs, Pt.cells, Pt.slots] at X5 l5 y5 z5 st5 hQ5
  subst l5 y5 z5
  obtain ⟨rfl, N5q, e5⟩ := hQ5
  have N5 := Fr.app N3 N5q
  have fc6 := (E_a1.keep Kc3)
  have fc7 := (F_a1_coder.keep Kc3 nin0)
  obtain ⟨T8, h8, X8, e8, W8, st8⟩ := putFN X5 hx hZ hown (hwi hw 21 rfl) Via.refl e5 fc7 fc6 (Or.inr ⟨(hwi hw 17 rfl), rfl, hnm⟩) (hwi hw 2 rfl) (ty := .byte) (v' := (.int 0)) (by decide) rfl (by decide) (g := (mkF m 48 #[.val (.ref a1), .val (.ref a2), .val (.int 0), .val (.int 1), .val .null, .val (.ref t_3)] [(.int 0), (.ref a1)])) rfl rfl (hb hby d2_48)
  have N8 := Fr.snoc X8 N5 g_a1
  have Fw8 := fc7.same W8
  have sz9 : T3.heap.size ≤ h8.size := Nat.le_of_eq W8.size.symm
  have Z9 : n0 ≤ h8.size := Nat.le_trans Z4 sz9
  have O9 := O4.wr W8 g_a1
  have K9 : Keep h0 h8 [a1] := K4.wr W8 (Or.inl (List.mem_of_getElem? (i := 0) rfl))
  have fc10 := (fc6.wr W8)
  have fc11 := ((F_a1_value.keep Kc3 nin0).other W8 (Or.inr (slot_ne (Or.inr (hwi hw 16 rfl)) (Or.inr (hwi hw 17 rfl)) (by decide) (t := (.array .byte)) (t' := .byte) (by decide) (by decide))))
  obtain ⟨T12, h12, X12, e12, W12, st12⟩ := putF X8 hx hZ hown (host := "") (Or.inl (hwi hw 20 rfl)) Via.refl e8 fc11 fc10 (Or.inr ⟨(hwi hw 16 rfl), rfl, hnm⟩) (hwi hw 2 rfl) (ty := (.array .byte)) (by decide) rfl rfl (g := (mkF m 54 #[.val (.ref a1), .val (.ref a2), .val (.int 0), .val (.int 1), .val .null, .val (.ref t_3)] [(.ref t_3), (.ref a1)])) rfl rfl (hb hby d2_54)
  have N12 := Fr.snoc X12 N8 g_a1
  have Fw12 := fc11.same W12
  have sz13 : h8.size ≤ h12.size := Nat.le_of_eq W12.size.symm
  have Z13 : n0 ≤ h12.size := Nat.le_trans Z9 sz13
  have O13 := O9.wr W12 g_a1
  have K13 : Keep h0 h12 [a1] := K9.wr W12 (Or.inl (List.mem_of_getElem? (i := 0) rfl))
  have fc14 := (fc10.wr W12)
  have fc15 := (Fw8.other W12 (Or.inr (slot_ne (Or.inr (hwi hw 17 rfl)) (Or.inr (hwi hw 16 rfl)) (by decide) (t := .byte) (t' := (.array .byte)) (by decide) (by decide))))
  have fc16 := ((g3_1.other W8 (neN (by have := ltN E_a1.lt; have := ltN g3_1.lt; omega))).other W12 (neN (by have := ltN E_a1.lt; have := ltN g3_1.lt; omega)))
  obtain ⟨fs, hr, hrun, hended, hW, hsame⟩ := X12.leave (v := none) (fun _ => rfl)
  refine ⟨_, _, pre0 _ ?_, hrun, hended, _, _, rfl, ?_, ⟨_, rfl⟩, hW, hsame.mono (by decide) (by decide)⟩
  · show St p e below s₁ (mkF m 0 #[.val (.ref a1), .val (.ref a2), .val (.int 0), .val (.int 1), .val .null, .unset] []) _
    refine XS.aloadN X0.here hx rfl (hb hby d2_0) rfl rfl ?_
    refine st1 _ ?_
    refine XS.iloadN X1.here hx rfl (hb hby d2_4) rfl ?_
    refine XS.ifYes X1.here hx rfl (pc0 := 5) (pc' := 27) rfl (hb hby d2_5) rfl ((if0 _ _).trans (feq (by decide : ¬ ((1 : Int32) = (0 : Int32)))).2) (by decide) (by decide) ?_
    refine st2 _ ?_
    refine XS.ifNo X2.here hx rfl (hb hby d2_30) rfl ((if0 _ _).trans (feq hcs).1) ?_
    refine XS.aloadN X2.here hx rfl (hb hby d2_33) rfl rfl ?_
    refine XS.iloadN X2.here hx rfl (hb hby d2_34) rfl ?_
    show St p e below T2 (mkF m 35 #[.val (.ref a1), .val (.ref a2), .val (.int 0), .val (.int 1), .val .null, .unset] [(.int 0), (.ref a2)]) _
    refine XS.iloadN X2.here hx rfl (hb hby d2_35) rfl ?_
    refine st3 _ ?_
    refine XS.astore X3.here hx rfl (hb hby d2_39) rfl rfl (l' := #[.val (.ref a1), .val (.ref a2), .val (.int 0), .val (.int 1), .val .null, .val (.ref t_3)]) rfl ?_
    refine XS.aloadN X3.here hx rfl (hb hby d2_41) rfl rfl ?_
    refine XS.aload X3.here hx rfl (hb hby d2_42) rfl rfl ?_
    refine XS.iloadN X3.here hx rfl (hb hby d2_44) rfl ?_
    refine st5 _ ?_
    refine st8 _ ?_
    show St p e below T8 (mkF m 51 #[.val (.ref a1), .val (.ref a2), .val (.int 0), .val (.int 1), .val .null, .val (.ref t_3)] []) _
    refine XS.aloadN X8.here hx rfl (hb hby d2_51) rfl rfl ?_
    refine XS.aload X8.here hx rfl (hb hby d2_52) rfl rfl ?_
    refine st12 _ ?_
    show St p e below T12 (mkF m 57 #[.val (.ref a1), .val (.ref a2), .val (.int 0), .val (.int 1), .val .null, .val (.ref t_3)] []) _
    exact X12.returnOut hx Bd.returns (hb hby d2_57) hr
  · show Q_new4_1 Z a1 a2 w_COMPACT_STRINGS k_a2 c0 u_a1_coder u_a1_value h0 n0 _ T12.heap _
    rw [e12]
    exact ⟨t_3, kt_3, rfl, N12, K13, fc14, fc15, Fw12, bn_t_3, fc16⟩
def Q_new1_1 (Z : State) (a1 : Addr) (a2 : Addr) (w_COMPACT_STRINGS : Int32) (k_a2 : ClassId) (c0 : Int32) (u_a1_coder : Value) (u_a1_value : Value) (h0 : Heap) (n0 : Nat) (v : Option Value) (h : Heap) (L : List Loc) : Prop := ∃ (t : Addr) (kt : ClassId), v = none ∧ Fr n0 L ∧ Keep h0 h [a1] ∧ Exa Z h a1 "java/lang/String" ∧ Fld Z h a1 "java/lang/String" "coder" "B" (.int 0) ∧ Fld Z h a1 "java/lang/String" "value" "[B" (.ref t) ∧ h0.size ≤ t ∧ Arv Z h t kt .byte (1 : Int32) [(.int (c0.toInt8.toInt32))] (.int 0)
set_option maxRecDepth 65536 in
set_option maxHeartbeats 40000000 in
theorem rm_new1_1 (l : Launch) (Z : State) (a0 : Array Value) (hw : ∀ d ∈ tables_1, d.before a0 Z = true) (ws : List Jvm.Cond) (a1 : Addr) (a2 : Addr) (w_COMPACT_STRINGS : Int32) (k_a2 : ClassId) (c0 : Int32) (u_a1_coder : Value) (u_a1_value : Value) (h0 : Heap) (n0 : Nat) (Z0 : n0 ≤ h0.size) (S_COMPACT_STRINGS : Sta Z Z.heap "java/lang/String" "COMPACT_STRINGS" "Z" (.int w_COMPACT_STRINGS)) (hcs : ¬ (w_COMPACT_STRINGS = (0 : Int32))) (V_a2 : Arv Z h0 a2 k_a2 .char (1 : Int32) [(.int c0)] (.int 0)) (hb_c0 : ¬ ((255 : Int32) < c0)) (O0 : Old Z n0 h0) (E_a1 : Exa Z h0 a1 "java/lang/String") (F_a1_coder : Fld Z h0 a1 "java/lang/String" "coder" "B" u_a1_coder) (g_a1 : n0 ≤ a1) (F_a1_value : Fld Z h0 a1 "java/lang/String" "value" "[B" u_a1_value) :
    MetFree l mn1 (head1 (Jvm.Cond.code mn1 jdk_42_method_3_code 2 none :: ws) ro5) (fun a U => a = #[(.ref a1), (.ref a2)] ∧ Z.Warmed39 U.vm ∧ U.heap = h0) (fun _ _ _ _ _ => True) (fun _ U o U' => ∃ v L, o = .returned v ∧ Q_new1_1 Z a1 a2 w_COMPACT_STRINGS k_a2 c0 u_a1_coder u_a1_value h0 n0 v U'.heap L ∧ FrameEnd U o U' L ro5.cells ro5.slots) := by
  refine MetFree.of_bodySF (plainFor_of_name pn_1) hisR ?_
  intro p e s m args below meth c s₁ Bd hml0 hP hK
  obtain ⟨rfl, hZ, hh⟩ := hP
  have hx := Bd.exec
  have hby := Bd.bytes
  have hml : c.maxLocals = 2 := hml0
  have hown : s.vm.findClass "java/lang/String" = some m.cls := findClass_of_methodNamed Bd.named
  have hnm := (name_of_methodNamed Bd.named Bd.method).1
  have X0 : Stand p l e ro5 s m #[(.ref a1), (.ref a2)] below meth c s₁ [] 0 0 := Stand.of_body Bd
  have e0 : s₁.heap = h0 := by rw [← hh, Bd.state]; rfl
  have N0 := Fr.nil n0
  have pre0 : ∀ t, Steps p.tables e below (s₁.setTop (mkF m 0 #[.val (.ref a1), .val (.ref a2)] [])) t → Steps p.tables e below (s₁.setTop (entryFrame m #[(.ref a1), (.ref a2)] 2)) t := fun t k => castTop (ef_1_RR m a1 a2) k
  obtain ⟨cl1, Ar1, -, S1, M1, -, -⟩ := id V_a2
  obtain ⟨_, _, ⟨T2, L2, k2, n2⟩, -, X2, ⟨Lc2, hQ2, l2, y2, z2⟩, st2⟩ := X0.specialBack hx (y := mn0) rfl hown (mvT hZ (hwi hw 7 rfl)) (mvT hZ (hwi hw 8 rfl)) (mvT hZ (hwi hw 10 rfl)) (by decide) (backOf (W := 0) (rm_new4_1 l Z a0 hw [] a1 a2 w_COMPACT_STRINGS k_a2 c0 u_a1_coder u_a1_value h0 n0 Z0 S_COMPACT_STRINGS hcs V_a2 hb_c0 O0 E_a1 F_a1_coder g_a1 F_a1_value) hZ (hwi hw 10 rfl) (hwi hw 3 rfl) (by decide) (by decide)) (g := (mkF m 6 #[.val (.ref a1), .val (.ref a2)] [.null, (.int 1), (.int 0), (.ref a2), (.ref a1)])) rfl (by rw [hml]; rfl) (Steps.refl _) (a := a1) (argsL := [(.ref a2), (.int 0), (.int 1), .null]) (rest := []) (lenOf pd_CIILjava_lang_Void__V_938 rfl) rfl (by show 2 * 0 + _ ≤ _; exact Nat.le_of_eq rfl) (hb hby d1_6) (fun _ _ => ⟨rfl, e0, (by decide : 0 + 1 ≤ _), (by decide : 0 + 1 ≤ _)⟩)
  dsimp only [Pt.U, Pt.locs, Pt.cells, Pt.slots] at X2 l2 y2 z2 st2 hQ2
  subst l2 y2 z2
  obtain ⟨t_2, kt_2, rfl, N2q, Kc2, g2_0, g2_1, g2_2, g2_3, g2_4⟩ := hQ2
  have N2 := Fr.app N0 N2q
  have sz3 : h0.size ≤ T2.heap.size := Kc2.1
  have Z3 : n0 ≤ T2.heap.size := Nat.le_trans Z0 sz3
  have O3 := O0.keep Kc2 (allS g_a1 all0)
  have K3 : Keep h0 T2.heap [a1] := (Keep.refl h0 [a1]).trans Kc2 (allS (Or.inl (List.mem_of_getElem? (i := 0) rfl)) (all0))
  have bn_t_2 : h0.size ≤ t_2 := g2_3
  obtain ⟨fs, hr, hrun, hended, hW, hsame⟩ := X2.leave (v := none) (fun _ => rfl)
  refine ⟨_, _, pre0 _ ?_, hrun, hended, _, _, rfl, ?_, ⟨_, rfl⟩, hW, hsame.mono (by decide) (by decide)⟩
  · show St p e below s₁ (mkF m 0 #[.val (.ref a1), .val (.ref a2)] []) _
    refine XS.aloadN X0.here hx rfl (hb hby d1_0) rfl rfl ?_
    refine XS.aloadN X0.here hx rfl (hb hby d1_1) rfl rfl ?_
    refine XS.iconst X0.here hx rfl (hb hby d1_2) ?_
    refine XS.aloadN X0.here hx rfl (hb hby d1_3) rfl rfl ?_
    refine X0.arraylength hx (by rw [e0]; exact Ar1.1) (State.isArrayOf_alike hZ.alike Ar1.2.1) (g := (mkF m 4 #[.val (.ref a1), .val (.ref a2)] [(.ref a2), (.int 0), (.ref a2), (.ref a1)])) rfl rfl (hb hby d1_4) _ ?_
    rw [len_of S1 M1]
    show St p e below s₁ (mkF m 5 #[.val (.ref a1), .val (.ref a2)] [(.int 1), (.int 0), (.ref a2), (.ref a1)]) _
    refine XS.aconstNull X0.here hx rfl (hb hby d1_5) ?_
    refine st2.trans ?_
    show St p e below T2 (mkF m 9 #[.val (.ref a1), .val (.ref a2)] []) _
    exact X2.returnOut hx Bd.returns (hb hby d1_9) hr
  · show Q_new1_1 Z a1 a2 w_COMPACT_STRINGS k_a2 c0 u_a1_coder u_a1_value h0 n0 _ T2.heap _
    exact ⟨t_2, kt_2, rfl, N2, K3, g2_0, g2_1, g2_2, bn_t_2, g2_4⟩
def Q_cmp5_2 (Z : State) (a1 : Addr) (a3 : Addr) (k_a1 : ClassId) (c0 : Int32) (c1 : Int32) (k_a3 : ClassId) (h0 : Heap) (n0 : Nat) (v : Option Value) (h : Heap) (L : List Loc) : Prop := v = some (.int 2) ∧ Fr n0 L ∧ Keep h0 h [a3] ∧ Arv Z h a3 k_a3 .byte (2 : Int32) [(.int (c0.toInt8.toInt32)), (.int (c1.toInt8.toInt32))] (.int 0)
set_option maxRecDepth 65536 in
set_option maxHeartbeats 40000000 in
theorem rm_cmp5_2 (l : Launch) (Z : State) (a0 : Array Value) (hw : ∀ d ∈ tables_1, d.before a0 Z = true) (ws : List Jvm.Cond) (a1 : Addr) (a3 : Addr) (k_a1 : ClassId) (c0 : Int32) (c1 : Int32) (k_a3 : ClassId) (h0 : Heap) (n0 : Nat) (Z0 : n0 ≤ h0.size) (V_a1 : Arv Z h0 a1 k_a1 .char (2 : Int32) [(.int c0), (.int c1)] (.int 0)) (V_a3 : Arv Z h0 a3 k_a3 .byte (2 : Int32) [(.int 0), (.int 0)] (.int 0)) (hne : ¬ (a1 = a3)) (hb_c0 : ¬ ((255 : Int32) < c0)) (hb_c1 : ¬ ((255 : Int32) < c1)) (g_a3 : n0 ≤ a3) (O0 : Old Z n0 h0) :
    MetFree l mn2 (head1 (Jvm.Cond.code mn2 jdk_52_method_21_code 7 (some .int) :: ws) ro2) (fun a U => a = #[(.ref a1), (.int 0), (.ref a3), (.int 0), (.int 2)] ∧ Z.Warmed39 U.vm ∧ U.heap = h0) (fun _ _ _ _ _ => True) (fun _ U o U' => ∃ v L, o = .returned v ∧ Q_cmp5_2 Z a1 a3 k_a1 c0 c1 k_a3 h0 n0 v U'.heap L ∧ FrameEnd U o U' L ro2.cells ro2.slots) := by
  refine MetFree.of_bodySF (plainFor_of_name pn_41) hisR ?_
  intro p e s m args below meth c s₁ Bd hml0 hP hK
  obtain ⟨rfl, hZ, hh⟩ := hP
  have hx := Bd.exec
  have hby := Bd.bytes
  have hml : c.maxLocals = 7 := hml0
  have hown : s.vm.findClass "java/lang/StringUTF16" = some m.cls := findClass_of_methodNamed Bd.named
  have hnm := (name_of_methodNamed Bd.named Bd.method).1
  have X0 : Stand p l e ro2 s m #[(.ref a1), (.int 0), (.ref a3), (.int 0), (.int 2)] below meth c s₁ [] 0 0 := Stand.of_body Bd
  have e0 : s₁.heap = h0 := by rw [← hh, Bd.state]; rfl
  have N0 := Fr.nil n0
  have pre0 : ∀ t, Steps p.tables e below (s₁.setTop (mkF m 0 #[.val (.ref a1), .val (.int 0), .val (.ref a3), .val (.int 0), .val (.int 2), .unset, .unset] [])) t → Steps p.tables e below (s₁.setTop (entryFrame m #[(.ref a1), (.int 0), (.ref a3), (.int 0), (.int 2)] 7)) t := fun t k => castTop (ef_41_RIRII m a1 (0 : Int32) a3 (0 : Int32) (2 : Int32)) k
  obtain ⟨cl1, Ar1, q1, S1, M1, H1, G1⟩ := id V_a1
  have hin1 : ¬ ((0 : Int32) < 0 ∨ cl1.slots.size ≤ ((0 : Int32)).toNatClampNeg) := inb_of S1 ⟨by decide, by decide⟩
  have hat1 : cl1.slots[((0 : Int32)).toNatClampNeg]? = some (.int c0) := H1.at hin1 rfl
  obtain ⟨cl2, Ar2, q2, S2, M2, H2, G2⟩ := id V_a3
  have hin2 : ¬ ((0 : Int32) < 0 ∨ cl2.slots.size ≤ ((0 : Int32)).toNatClampNeg) := inb_of S2 ⟨by decide, by decide⟩
  obtain ⟨T3, h3, X3, e3, W3, st3⟩ := stB X0 hx hZ e0 Ar2 (j := (0 : Int32)) hin2 (g := (mkF m 31 #[.val (.ref a1), .val (.int 0), .val (.ref a3), .val (.int 0), .val (.int 2), .val (.int 0), .val (.int c0)] [(.int (c0.toInt8.toInt32)), (.int 0), (.ref a3)])) rfl rfl (hb hby d41_31)
  have N3 := Fr.snoc X3 N0 g_a3
  have V3 : Arv Z h3 a3 k_a3 .byte (2 : Int32) [(.int ((c0.toInt8.toInt32).toInt8.toInt32)), (.int 0)] (.int 0) := Arv.set Ar2 q2 S2 M2 H2 G2 (fits_nar_byte _) W3 0 rfl (Nat.le_of_ble_eq_true rfl)
  rw [own_bb] at V3
  have sz4 : h0.size ≤ h3.size := Nat.le_of_eq W3.size.symm
  have Z4 : n0 ≤ h3.size := Nat.le_trans Z0 sz4
  have O4 := O0.wr W3 g_a3
  have K4 : Keep h0 h3 [a3] := (Keep.refl h0 [a3]).wr W3 (Or.inl (List.mem_of_getElem? (i := 0) rfl))
  have fc5 := (V_a1.other W3 (fun q => hne q))
  obtain ⟨cl6, Ar6, q6, S6, M6, H6, G6⟩ := id fc5
  have hin6 : ¬ ((1 : Int32) < 0 ∨ cl6.slots.size ≤ ((1 : Int32)).toNatClampNeg) := inb_of S6 ⟨by decide, by decide⟩
  have hat6 : cl6.slots[((1 : Int32)).toNatClampNeg]? = some (.int c1) := H6.at hin6 rfl
  obtain ⟨cl7, Ar7, q7, S7, M7, H7, G7⟩ := id V3
  have hin7 : ¬ ((1 : Int32) < 0 ∨ cl7.slots.size ≤ ((1 : Int32)).toNatClampNeg) := inb_of S7 ⟨by decide, by decide⟩
  obtain ⟨T8, h8, X8, e8, W8, st8⟩ := stB X3 hx hZ e3 Ar7 (j := (1 : Int32)) hin7 (g := (mkF m 31 #[.val (.ref a1), .val (.int 1), .val (.ref a3), .val (.int 1), .val (.int 2), .val (.int 1), .val (.int c1)] [(.int (c1.toInt8.toInt32)), (.int 1), (.ref a3)])) rfl rfl (hb hby d41_31)
  have N8 := Fr.snoc X8 N3 g_a3
  have V8 : Arv Z h8 a3 k_a3 .byte (2 : Int32) [(.int (c0.toInt8.toInt32)), (.int ((c1.toInt8.toInt32).toInt8.toInt32))] (.int 0) := Arv.set Ar7 q7 S7 M7 H7 G7 (fits_nar_byte _) W8 1 rfl (Nat.le_of_ble_eq_true rfl)
  rw [own_bb] at V8
  have sz9 : h3.size ≤ h8.size := Nat.le_of_eq W8.size.symm
  have Z9 : n0 ≤ h8.size := Nat.le_trans Z4 sz9
  have O9 := O4.wr W8 g_a3
  have K9 : Keep h0 h8 [a3] := K4.wr W8 (Or.inl (List.mem_of_getElem? (i := 0) rfl))
  obtain ⟨fs, hr, hrun, hended, hW, hsame⟩ := X8.leave (v := some (.int 2)) (fun h => by rw [Bd.returns] at h; cases h)
  refine ⟨_, _, pre0 _ ?_, hrun, hended, _, _, rfl, ?_, ⟨_, rfl⟩, hW, hsame.mono (by decide) (by decide)⟩
  · show St p e below s₁ (mkF m 0 #[.val (.ref a1), .val (.int 0), .val (.ref a3), .val (.int 0), .val (.int 2), .unset, .unset] []) _
    refine XS.iconst X0.here hx rfl (hb hby d41_0) ?_
    refine XS.istore X0.here hx rfl (hb hby d41_1) rfl (l' := #[.val (.ref a1), .val (.int 0), .val (.ref a3), .val (.int 0), .val (.int 2), .val (.int 0), .unset]) rfl ?_
    refine XS.iload X0.here hx rfl (hb hby d41_3) rfl ?_
    refine XS.iload X0.here hx rfl (hb hby d41_5) rfl ?_
    refine XS.icmpNo X0.here hx rfl (hb hby d41_7) rfl (tlt (by decide : (0 : Int32) < (2 : Int32))).2.1 ?_
    refine XS.aloadN X0.here hx rfl (hb hby d41_10) rfl rfl ?_
    refine XS.iloadN X0.here hx rfl (hb hby d41_11) rfl ?_
    refine X0.caload hx (j := (0 : Int32)) (v := (.int c0)) (by rw [e0]; exact Ar1.1) (State.isArrayOf_alike hZ.alike Ar1.2.1) Ar1.2.2 hin1 hat1 (g := (mkF m 12 #[.val (.ref a1), .val (.int 0), .val (.ref a3), .val (.int 0), .val (.int 2), .val (.int 0), .unset] [(.int 0), (.ref a1)])) rfl rfl (hb hby d41_12) _ ?_
    show St p e below s₁ (mkF m 13 #[.val (.ref a1), .val (.int 0), .val (.ref a3), .val (.int 0), .val (.int 2), .val (.int 0), .unset] [(.int c0)]) _
    refine XS.istore X0.here hx rfl (hb hby d41_13) rfl (l' := #[.val (.ref a1), .val (.int 0), .val (.ref a3), .val (.int 0), .val (.int 2), .val (.int 0), .val (.int c0)]) rfl ?_
    refine XS.iload X0.here hx rfl (hb hby d41_15) rfl ?_
    refine XS.sipush X0.here hx rfl (hb hby d41_17) ?_
    refine XS.icmpYes X0.here hx rfl (pc0 := 20) (pc' := 26) rfl (hb hby d41_20) rfl (flt hb_c0).2.2.2 (by decide) (by decide) ?_
    refine XS.aloadN X0.here hx rfl (hb hby d41_26) rfl rfl ?_
    refine XS.iloadN X0.here hx rfl (hb hby d41_27) rfl ?_
    refine XS.iload X0.here hx rfl (hb hby d41_28) rfl ?_
    refine XS.i2b X0.here hx rfl (hb hby d41_30) rfl ?_
    show St p e below s₁ (mkF m 31 #[.val (.ref a1), .val (.int 0), .val (.ref a3), .val (.int 0), .val (.int 2), .val (.int 0), .val (.int c0)] [(.int (c0.toInt8.toInt32)), (.int 0), (.ref a3)]) _
    refine st3 _ ?_
    refine XS.iinc X3.here hx rfl (hb hby d41_32) rfl (l' := #[.val (.ref a1), .val (.int ((0 : Int32) + (1 : Int32))), .val (.ref a3), .val (.int 0), .val (.int 2), .val (.int 0), .val (.int c0)]) rfl ?_
    show St p e below T3 (mkF m 35 #[.val (.ref a1), .val (.int ((0 : Int32) + (1 : Int32))), .val (.ref a3), .val (.int 0), .val (.int 2), .val (.int 0), .val (.int c0)] []) _
    rw [(by decide : ((0 : Int32) + (1 : Int32)) = (1 : Int32))]
    show St p e below T3 (mkF m 35 #[.val (.ref a1), .val (.int 1), .val (.ref a3), .val (.int 0), .val (.int 2), .val (.int 0), .val (.int c0)] []) _
    refine XS.iinc X3.here hx rfl (hb hby d41_35) rfl (l' := #[.val (.ref a1), .val (.int 1), .val (.ref a3), .val (.int ((0 : Int32) + (1 : Int32))), .val (.int 2), .val (.int 0), .val (.int c0)]) rfl ?_
    show St p e below T3 (mkF m 38 #[.val (.ref a1), .val (.int 1), .val (.ref a3), .val (.int ((0 : Int32) + (1 : Int32))), .val (.int 2), .val (.int 0), .val (.int c0)] []) _
    rw [(by decide : ((0 : Int32) + (1 : Int32)) = (1 : Int32))]
    show St p e below T3 (mkF m 38 #[.val (.ref a1), .val (.int 1), .val (.ref a3), .val (.int 1), .val (.int 2), .val (.int 0), .val (.int c0)] []) _
    refine XS.iinc X3.here hx rfl (hb hby d41_38) rfl (l' := #[.val (.ref a1), .val (.int 1), .val (.ref a3), .val (.int 1), .val (.int 2), .val (.int ((0 : Int32) + (1 : Int32))), .val (.int c0)]) rfl ?_
    show St p e below T3 (mkF m 41 #[.val (.ref a1), .val (.int 1), .val (.ref a3), .val (.int 1), .val (.int 2), .val (.int ((0 : Int32) + (1 : Int32))), .val (.int c0)] []) _
    rw [(by decide : ((0 : Int32) + (1 : Int32)) = (1 : Int32))]
    show St p e below T3 (mkF m 41 #[.val (.ref a1), .val (.int 1), .val (.ref a3), .val (.int 1), .val (.int 2), .val (.int 1), .val (.int c0)] []) _
    refine XS.goto X3.here hx rfl (pc0 := 41) (pc' := 3) rfl (hb hby d41_41) (by decide) (by decide) ?_
    refine XS.iload X3.here hx rfl (hb hby d41_3) rfl ?_
    refine XS.iload X3.here hx rfl (hb hby d41_5) rfl ?_
    refine XS.icmpNo X3.here hx rfl (hb hby d41_7) rfl (tlt (by decide : (1 : Int32) < (2 : Int32))).2.1 ?_
    refine XS.aloadN X3.here hx rfl (hb hby d41_10) rfl rfl ?_
    refine XS.iloadN X3.here hx rfl (hb hby d41_11) rfl ?_
    refine X3.caload hx (j := (1 : Int32)) (v := (.int c1)) (by rw [e3]; exact Ar6.1) (State.isArrayOf_alike hZ.alike Ar6.2.1) Ar6.2.2 hin6 hat6 (g := (mkF m 12 #[.val (.ref a1), .val (.int 1), .val (.ref a3), .val (.int 1), .val (.int 2), .val (.int 1), .val (.int c0)] [(.int 1), (.ref a1)])) rfl rfl (hb hby d41_12) _ ?_
    refine XS.istore X3.here hx rfl (hb hby d41_13) rfl (l' := #[.val (.ref a1), .val (.int 1), .val (.ref a3), .val (.int 1), .val (.int 2), .val (.int 1), .val (.int c1)]) rfl ?_
    show St p e below T3 (mkF m 15 #[.val (.ref a1), .val (.int 1), .val (.ref a3), .val (.int 1), .val (.int 2), .val (.int 1), .val (.int c1)] []) _
    refine XS.iload X3.here hx rfl (hb hby d41_15) rfl ?_
    refine XS.sipush X3.here hx rfl (hb hby d41_17) ?_
    refine XS.icmpYes X3.here hx rfl (pc0 := 20) (pc' := 26) rfl (hb hby d41_20) rfl (flt hb_c1).2.2.2 (by decide) (by decide) ?_
    refine XS.aloadN X3.here hx rfl (hb hby d41_26) rfl rfl ?_
    refine XS.iloadN X3.here hx rfl (hb hby d41_27) rfl ?_
    refine XS.iload X3.here hx rfl (hb hby d41_28) rfl ?_
    refine XS.i2b X3.here hx rfl (hb hby d41_30) rfl ?_
    refine st8 _ ?_
    show St p e below T8 (mkF m 32 #[.val (.ref a1), .val (.int 1), .val (.ref a3), .val (.int 1), .val (.int 2), .val (.int 1), .val (.int c1)] []) _
    refine XS.iinc X8.here hx rfl (hb hby d41_32) rfl (l' := #[.val (.ref a1), .val (.int ((1 : Int32) + (1 : Int32))), .val (.ref a3), .val (.int 1), .val (.int 2), .val (.int 1), .val (.int c1)]) rfl ?_
    show St p e below T8 (mkF m 35 #[.val (.ref a1), .val (.int ((1 : Int32) + (1 : Int32))), .val (.ref a3), .val (.int 1), .val (.int 2), .val (.int 1), .val (.int c1)] []) _
    rw [(by decide : ((1 : Int32) + (1 : Int32)) = (2 : Int32))]
    show St p e below T8 (mkF m 35 #[.val (.ref a1), .val (.int 2), .val (.ref a3), .val (.int 1), .val (.int 2), .val (.int 1), .val (.int c1)] []) _
    refine XS.iinc X8.here hx rfl (hb hby d41_35) rfl (l' := #[.val (.ref a1), .val (.int 2), .val (.ref a3), .val (.int ((1 : Int32) + (1 : Int32))), .val (.int 2), .val (.int 1), .val (.int c1)]) rfl ?_
    show St p e below T8 (mkF m 38 #[.val (.ref a1), .val (.int 2), .val (.ref a3), .val (.int ((1 : Int32) + (1 : Int32))), .val (.int 2), .val (.int 1), .val (.int c1)] []) _
    rw [(by decide : ((1 : Int32) + (1 : Int32)) = (2 : Int32))]
    show St p e below T8 (mkF m 38 #[.val (.ref a1), .val (.int 2), .val (.ref a3), .val (.int 2), .val (.int 2), .val (.int 1), .val (.int c1)] []) _
    refine XS.iinc X8.here hx rfl (hb hby d41_38) rfl (l' := #[.val (.ref a1), .val (.int 2), .val (.ref a3), .val (.int 2), .val (.int 2), .val (.int ((1 : Int32) + (1 : Int32))), .val (.int c1)]) rfl ?_
    show St p e below T8 (mkF m 41 #[.val (.ref a1), .val (.int 2), .val (.ref a3), .val (.int 2), .val (.int 2), .val (.int ((1 : Int32) + (1 : Int32))), .val (.int c1)] []) _
    rw [(by decide : ((1 : Int32) + (1 : Int32)) = (2 : Int32))]
    show St p e below T8 (mkF m 41 #[.val (.ref a1), .val (.int 2), .val (.ref a3), .val (.int 2), .val (.int 2), .val (.int 2), .val (.int c1)] []) _
    refine XS.goto X8.here hx rfl (pc0 := 41) (pc' := 3) rfl (hb hby d41_41) (by decide) (by decide) ?_
    refine XS.iload X8.here hx rfl (hb hby d41_3) rfl ?_
    refine XS.iload X8.here hx rfl (hb hby d41_5) rfl ?_
    refine XS.icmpYes X8.here hx rfl (pc0 := 7) (pc' := 44) rfl (hb hby d41_7) rfl (flt (by decide : ¬ ((2 : Int32) < (2 : Int32)))).2.1 (by decide) (by decide) ?_
    refine XS.iload X8.here hx rfl (hb hby d41_44) rfl ?_
    show St p e below T8 (mkF m 46 #[.val (.ref a1), .val (.int 2), .val (.ref a3), .val (.int 2), .val (.int 2), .val (.int 2), .val (.int c1)] [(.int 2)]) _
    exact retI X8 hx Bd.returns (hb hby d41_46) hr
  · show Q_cmp5_2 Z a1 a3 k_a1 c0 c1 k_a3 h0 n0 _ T8.heap _
    rw [e8]
    exact ⟨rfl, N8, K9, V8⟩
def Q_cmp3_2 (Z : State) (a1 : Addr) (k_a1 : ClassId) (c0 : Int32) (c1 : Int32) (h0 : Heap) (n0 : Nat) (v : Option Value) (h : Heap) (L : List Loc) : Prop := ∃ (t : Addr) (kt : ClassId), v = some (.ref t) ∧ Fr n0 L ∧ Keep h0 h [] ∧ h0.size ≤ t ∧ Arv Z h t kt .byte (2 : Int32) [(.int (c0.toInt8.toInt32)), (.int (c1.toInt8.toInt32))] (.int 0)
set_option maxRecDepth 65536 in
set_option maxHeartbeats 40000000 in
theorem rm_cmp3_2 (l : Launch) (Z : State) (a0 : Array Value) (hw : ∀ d ∈ tables_1, d.before a0 Z = true) (ws : List Jvm.Cond) (a1 : Addr) (k_a1 : ClassId) (c0 : Int32) (c1 : Int32) (h0 : Heap) (n0 : Nat) (Z0 : n0 ≤ h0.size) (V_a1 : Arv Z h0 a1 k_a1 .char (2 : Int32) [(.int c0), (.int c1)] (.int 0)) (hb_c0 : ¬ ((255 : Int32) < c0)) (hb_c1 : ¬ ((255 : Int32) < c1)) (O0 : Old Z n0 h0) :
    MetFree l mn3 (head1 (Jvm.Cond.code mn3 jdk_52_method_16_code 6 (some (.array .byte)) :: ws) ro6) (fun a U => a = #[(.ref a1), (.int 0), (.int 2)] ∧ Z.Warmed39 U.vm ∧ U.heap = h0) (fun _ _ _ _ _ => True) (fun _ U o U' => ∃ v L, o = .returned v ∧ Q_cmp3_2 Z a1 k_a1 c0 c1 h0 n0 v U'.heap L ∧ FrameEnd U o U' L ro6.cells ro6.slots) := by
  refine MetFree.of_bodySF (plainFor_of_name pn_40) hisR ?_
  intro p e s m args below meth c s₁ Bd hml0 hP hK
  obtain ⟨rfl, hZ, hh⟩ := hP
  have hx := Bd.exec
  have hby := Bd.bytes
  have hml : c.maxLocals = 6 := hml0
  have hown : s.vm.findClass "java/lang/StringUTF16" = some m.cls := findClass_of_methodNamed Bd.named
  have hnm := (name_of_methodNamed Bd.named Bd.method).1
  have X0 : Stand p l e ro6 s m #[(.ref a1), (.int 0), (.int 2)] below meth c s₁ [] 0 0 := Stand.of_body Bd
  have e0 : s₁.heap = h0 := by rw [← hh, Bd.state]; rfl
  have N0 := Fr.nil n0
  have pre0 : ∀ t, Steps p.tables e below (s₁.setTop (mkF m 0 #[.val (.ref a1), .val (.int 0), .val (.int 2), .unset, .unset, .unset] [])) t → Steps p.tables e below (s₁.setTop (entryFrame m #[(.ref a1), (.int 0), (.int 2)] 6)) t := fun t k => castTop (ef_40_RII m a1 (0 : Int32) (2 : Int32)) k
  obtain ⟨T1, h1, k1, X1, e1, E1, A1, st1⟩ := newP X0 hx hZ (hwi hw 15 rfl) e0 (g := (mkF m 1 #[.val (.ref a1), .val (.int 0), .val (.int 2), .unset, .unset, .unset] [(.int 2)])) rfl (hb hby d40_1) rfl (by decide) (cap := 2) (by decide) (by decide) (by decide) (by decide)
  obtain ⟨b1, g1⟩ : ∃ z, z = h0.size := ⟨_, rfl⟩
  rw [← g1] at A1 st1
  have bn_b1 : h0.size ≤ b1 := Nat.le_of_eq g1.symm
  have sz2 : h0.size ≤ h1.size := E1.1
  have Z2 : n0 ≤ h1.size := Nat.le_trans Z0 sz2
  have O2 := O0.ext E1
  have K2 : Keep h0 h1 [] := (Keep.refl h0 []).ext E1
  have V1 : Arv Z h1 b1 k1 .byte (2 : Int32) [(.int 0), (.int 0)] (.int 0) := (Arv.new A1 (by decide)).pad (pad_rep [] (.int 0) 2)
  have fc4 := (V_a1.ext E1)
  obtain ⟨_, _, ⟨T3, L3, k3, n3⟩, -, X3, ⟨Lc3, hQ3, l3, y3, z3⟩, st3⟩ := Jvm.LawKit.callS X1 hx (y := mn2) hown (mvT hZ (hwi hw 211 rfl)) (mvT hZ (hwi hw 212 rfl)) (mvT hZ (hwi hw 209 rfl)) (mvT hZ (hwi hw 213 rfl)) (by decide) (backOf (W := 0) (rm_cmp5_2 l Z a0 hw [] a1 b1 k_a1 c0 c1 k1 h1 n0 Z2 fc4 V1 (neN (by have := ltN V_a1.lt; have := ltN V1.lt; omega)) hb_c0 hb_c1 (Nat.le_trans Z0 bn_b1) O2) hZ (hwi hw 213 rfl) (hwi hw 209 rfl) (by decide) (by decide)) (g := (mkF m 9 #[.val (.ref a1), .val (.int 0), .val (.int 2), .val (.ref b1), .unset, .unset] [(.int 2), (.int 0), (.ref b1), (.int 0), (.ref a1)])) rfl (by rw [hml]; rfl) (argsL := [(.ref a1), (.int 0), (.ref b1), (.int 0), (.int 2)]) (rest := []) (lenOf pd_CI_BII_I_688 rfl) rfl (by show 2 * 0 + _ ≤ _; exact Nat.le_of_eq rfl) (hb hby d40_9) (fun _ _ => ⟨rfl, e1, (by decide : 1 + 0 ≤ _), (by decide : 2 + 0 ≤ _)⟩)
  dsimp only [Pt.U, Pt.locs, Pt.cells, Pt.slots] at X3 l3 y3 z3 st3 hQ3
  subst l3 y3 z3
  obtain ⟨rfl, N3q, Kc3, g3_0⟩ := hQ3
  have N3 := Fr.app N0 N3q
  have sz5 : h1.size ≤ T3.heap.size := Kc3.1
  have Z5 : n0 ≤ T3.heap.size := Nat.le_trans Z2 sz5
  have O5 := O2.keep Kc3 (allS (Nat.le_trans Z0 bn_b1) all0)
  have K5 : Keep h0 T3.heap [] := K2.trans Kc3 (allS (Or.inr bn_b1) (all0))
  obtain ⟨fs, hr, hrun, hended, hW, hsame⟩ := X3.leave (v := some (.ref b1)) (fun h => by rw [Bd.returns] at h; cases h)
  refine ⟨_, _, pre0 _ ?_, hrun, hended, _, _, rfl, ?_, ⟨_, rfl⟩, hW, hsame.mono (by decide) (by decide)⟩
  · show St p e below s₁ (mkF m 0 #[.val (.ref a1), .val (.int 0), .val (.int 2), .unset, .unset, .unset] []) _
    refine XS.iloadN X0.here hx rfl (hb hby d40_0) rfl ?_
    refine st1 _ ?_
    refine XS.astoreN X1.here hx rfl (hb hby d40_3) rfl rfl (l' := #[.val (.ref a1), .val (.int 0), .val (.int 2), .val (.ref b1), .unset, .unset]) rfl ?_
    refine XS.aloadN X1.here hx rfl (hb hby d40_4) rfl rfl ?_
    refine XS.iloadN X1.here hx rfl (hb hby d40_5) rfl ?_
    refine XS.aloadN X1.here hx rfl (hb hby d40_6) rfl rfl ?_
    refine XS.iconst X1.here hx rfl (hb hby d40_7) ?_
    refine XS.iloadN X1.here hx rfl (hb hby d40_8) rfl ?_
    show St p e below T1 (mkF m 9 #[.val (.ref a1), .val (.int 0), .val (.int 2), .val (.ref b1), .unset, .unset] [(.int 2), (.int 0), (.ref b1), (.int 0), (.ref a1)]) _
    refine st3 _ ?_
    refine XS.istore X3.here hx rfl (hb hby d40_12) rfl (l' := #[.val (.ref a1), .val (.int 0), .val (.int 2), .val (.ref b1), .val (.int 2), .unset]) rfl ?_
    refine XS.iload X3.here hx rfl (hb hby d40_14) rfl ?_
    refine XS.iloadN X3.here hx rfl (hb hby d40_16) rfl ?_
    refine XS.icmpYes X3.here hx rfl (pc0 := 17) (pc' := 57) rfl (hb hby d40_17) rfl (teq (by decide : (2 : Int32) = (2 : Int32))).1 (by decide) (by decide) ?_
    refine XS.aloadN X3.here hx rfl (hb hby d40_57) rfl rfl ?_
    show St p e below T3 (mkF m 58 #[.val (.ref a1), .val (.int 0), .val (.int 2), .val (.ref b1), .val (.int 2), .unset] [(.ref b1)]) _
    jvm_step X3.here [X3.here.top, hx, (hb hby d40_58), X3.method', Bd.returns, Value.isRef, FieldType.isReference]
    first | (intro acts; rw [hr _ acts rfl rfl rfl]) | rw [hr _ _ rfl rfl rfl]
    exact Steps.refl _
  · show Q_cmp3_2 Z a1 k_a1 c0 c1 h0 n0 _ T3.heap _
    exact ⟨b1, k1, rfl, N3, K5, bn_b1, g3_0⟩
def Q_cod_2 (Z : State) (a1 : Addr) (k_a1 : ClassId) (by0 : Int32) (by1 : Int32) (h0 : Heap) (n0 : Nat) (v : Option Value) (h : Heap) (L : List Loc) : Prop := v = some (.int 0) ∧ Fr n0 L ∧ h = h0
set_option maxRecDepth 65536 in
set_option maxHeartbeats 40000000 in
theorem rm_cod_2 (l : Launch) (Z : State) (a0 : Array Value) (hw : ∀ d ∈ tables_1, d.before a0 Z = true) (ws : List Jvm.Cond) (a1 : Addr) (k_a1 : ClassId) (by0 : Int32) (by1 : Int32) (h0 : Heap) (n0 : Nat) (Z0 : n0 ≤ h0.size) (V_a1 : Arv Z h0 a1 k_a1 .byte (2 : Int32) [(.int by0), (.int by1)] (.int 0)) :
    MetFree l mn4 (head1 (Jvm.Cond.code mn4 jdk_52_method_15_code 2 (some .byte) :: ws) ro2) (fun a U => a = #[(.ref a1), (.int 2)] ∧ Z.Warmed39 U.vm ∧ U.heap = h0) (fun _ _ _ _ _ => True) (fun _ U o U' => ∃ v L, o = .returned v ∧ Q_cod_2 Z a1 k_a1 by0 by1 h0 n0 v U'.heap L ∧ FrameEnd U o U' L ro2.cells ro2.slots) := by
  refine MetFree.of_bodySF (plainFor_of_name pn_42) hisR ?_
  intro p e s m args below meth c s₁ Bd hml0 hP hK
  obtain ⟨rfl, hZ, hh⟩ := hP
  have hx := Bd.exec
  have hby := Bd.bytes
  have hml : c.maxLocals = 2 := hml0
  have hown : s.vm.findClass "java/lang/StringUTF16" = some m.cls := findClass_of_methodNamed Bd.named
  have hnm := (name_of_methodNamed Bd.named Bd.method).1
  have X0 : Stand p l e ro2 s m #[(.ref a1), (.int 2)] below meth c s₁ [] 0 0 := Stand.of_body Bd
  have e0 : s₁.heap = h0 := by rw [← hh, Bd.state]; rfl
  have N0 := Fr.nil n0
  have pre0 : ∀ t, Steps p.tables e below (s₁.setTop (mkF m 0 #[.val (.ref a1), .val (.int 2)] [])) t → Steps p.tables e below (s₁.setTop (entryFrame m #[(.ref a1), (.int 2)] 2)) t := fun t k => castTop (ef_42_RI m a1 (2 : Int32)) k
  obtain ⟨cl1, Ar1, -, S1, M1, -, -⟩ := id V_a1
  obtain ⟨fs, hr, hrun, hended, hW, hsame⟩ := X0.leave (v := some (.int 0)) (fun h => by rw [Bd.returns] at h; cases h)
  refine ⟨_, _, pre0 _ ?_, hrun, hended, _, _, rfl, ?_, ⟨_, rfl⟩, hW, hsame.mono (by decide) (by decide)⟩
  · show St p e below s₁ (mkF m 0 #[.val (.ref a1), .val (.int 2)] []) _
    refine XS.iloadN X0.here hx rfl (hb hby d42_0) rfl ?_
    refine XS.aloadN X0.here hx rfl (hb hby d42_1) rfl rfl ?_
    refine X0.arraylength hx (by rw [e0]; exact Ar1.1) (State.isArrayOf_alike hZ.alike Ar1.2.1) (g := (mkF m 2 #[.val (.ref a1), .val (.int 2)] [(.ref a1), (.int 2)])) rfl rfl (hb hby d42_2) _ ?_
    rw [len_of S1 M1]
    show St p e below s₁ (mkF m 3 #[.val (.ref a1), .val (.int 2)] [(.int 2), (.int 2)]) _
    refine XS.isub X0.here hx rfl (hb hby d42_3) rfl ?_
    show St p e below s₁ (mkF m 4 #[.val (.ref a1), .val (.int 2)] [(.int ((2 : Int32) - (2 : Int32)))]) _
    rw [(by decide : ((2 : Int32) - (2 : Int32)) = (0 : Int32))]
    show St p e below s₁ (mkF m 4 #[.val (.ref a1), .val (.int 2)] [(.int 0)]) _
    refine XS.bipush X0.here hx rfl (hb hby d42_4) ?_
    refine XS.iushr X0.here hx rfl (hb hby d42_6) rfl ?_
    show St p e below s₁ (mkF m 7 #[.val (.ref a1), .val (.int 2)] [(.int (((0 : Int32).toUInt32 >>> ((31 : Int32) &&& 31).toUInt32).toInt32))]) _
    rw [(by decide : (((0 : Int32).toUInt32 >>> ((31 : Int32) &&& 31).toUInt32).toInt32) = (0 : Int32))]
    show St p e below s₁ (mkF m 7 #[.val (.ref a1), .val (.int 2)] [(.int 0)]) _
    refine XS.i2b X0.here hx rfl (hb hby d42_7) rfl ?_
    show St p e below s₁ (mkF m 8 #[.val (.ref a1), .val (.int 2)] [(.int ((0 : Int32).toInt8.toInt32))]) _
    rw [(by decide : ((0 : Int32).toInt8.toInt32) = (0 : Int32))]
    show St p e below s₁ (mkF m 8 #[.val (.ref a1), .val (.int 2)] [(.int 0)]) _
    exact retN X0 hx (t := .byte) Bd.returns (by simp) (hb hby d42_8) hr
  · show Q_cod_2 Z a1 k_a1 by0 by1 h0 n0 _ s₁.heap _
    rw [e0]
    exact ⟨rfl, N0, rfl⟩
def Q_new4_2 (Z : State) (a1 : Addr) (a2 : Addr) (w_COMPACT_STRINGS : Int32) (k_a2 : ClassId) (c0 : Int32) (c1 : Int32) (u_a1_coder : Value) (u_a1_value : Value) (h0 : Heap) (n0 : Nat) (v : Option Value) (h : Heap) (L : List Loc) : Prop := ∃ (t : Addr) (kt : ClassId), v = none ∧ Fr n0 L ∧ Keep h0 h [a1] ∧ Exa Z h a1 "java/lang/String" ∧ Fld Z h a1 "java/lang/String" "coder" "B" (.int 0) ∧ Fld Z h a1 "java/lang/String" "value" "[B" (.ref t) ∧ h0.size ≤ t ∧ Arv Z h t kt .byte (2 : Int32) [(.int (c0.toInt8.toInt32)), (.int (c1.toInt8.toInt32))] (.int 0)
set_option maxRecDepth 65536 in
set_option maxHeartbeats 40000000 in
theorem rm_new4_2 (l : Launch) (Z : State) (a0 : Array Value) (hw : ∀ d ∈ tables_1, d.before a0 Z = true) (ws : List Jvm.Cond) (a1 : Addr) (a2 : Addr) (w_COMPACT_STRINGS : Int32) (k_a2 : ClassId) (c0 : Int32) (c1 : Int32) (u_a1_coder : Value) (u_a1_value : Value) (h0 : Heap) (n0 : Nat) (Z0 : n0 ≤ h0.size) (S_COMPACT_STRINGS : Sta Z Z.heap "java/lang/String" "COMPACT_STRINGS" "Z" (.int w_COMPACT_STRINGS)) (hcs : ¬ (w_COMPACT_STRINGS = (0 : Int32))) (V_a2 : Arv Z h0 a2 k_a2 .char (2 : Int32) [(.int c0), (.int c1)] (.int 0)) (hb_c0 : ¬ ((255 : Int32) < c0)) (hb_c1 : ¬ ((255 : Int32) < c1)) (O0 : Old Z n0 h0) (E_a1 : Exa Z h0 a1 "java/lang/String") (F_a1_coder : Fld Z h0 a1 "java/lang/String" "coder" "B" u_a1_coder) (g_a1 : n0 ≤ a1) (F_a1_value : Fld Z h0 a1 "java/lang/String" "value" "[B" u_a1_value) :
    MetFree l mn0 (head1 (Jvm.Cond.code mn0 jdk_42_method_149_code 6 none :: ws) ro7) (fun a U => a = #[(.ref a1), (.ref a2), (.int 0), (.int 2), .null] ∧ Z.Warmed39 U.vm ∧ U.heap = h0) (fun _ _ _ _ _ => True) (fun _ U o U' => ∃ v L, o = .returned v ∧ Q_new4_2 Z a1 a2 w_COMPACT_STRINGS k_a2 c0 c1 u_a1_coder u_a1_value h0 n0 v U'.heap L ∧ FrameEnd U o U' L ro7.cells ro7.slots) := by
  refine MetFree.of_bodySF (plainFor_of_name pn_2) hisR ?_
  intro p e s m args below meth c s₁ Bd hml0 hP hK
  obtain ⟨rfl, hZ, hh⟩ := hP
  have hx := Bd.exec
  have hby := Bd.bytes
  have hml : c.maxLocals = 6 := hml0
  have hown : s.vm.findClass "java/lang/String" = some m.cls := findClass_of_methodNamed Bd.named
  have hnm := (name_of_methodNamed Bd.named Bd.method).1
  have X0 : Stand p l e ro7 s m #[(.ref a1), (.ref a2), (.int 0), (.int 2), .null] below meth c s₁ [] 0 0 := Stand.of_body Bd
  have e0 : s₁.heap = h0 := by rw [← hh, Bd.state]; rfl
  have N0 := Fr.nil n0
  have pre0 : ∀ t, Steps p.tables e below (s₁.setTop (mkF m 0 #[.val (.ref a1), .val (.ref a2), .val (.int 0), .val (.int 2), .val .null, .unset] [])) t → Steps p.tables e below (s₁.setTop (entryFrame m #[(.ref a1), (.ref a2), (.int 0), (.int 2), .null] 6)) t := fun t k => castTop (ef_2_RRIIn m a1 a2 (0 : Int32) (2 : Int32)) k
  obtain ⟨T1, X1, e1, st1⟩ := initO X0 hx hZ hown (hwi hw 11 rfl) (hwi hw 12 rfl) (hwi hw 13 rfl) e0 (g := (mkF m 1 #[.val (.ref a1), .val (.ref a2), .val (.int 0), .val (.int 2), .val .null, .unset] [(.ref a1)])) rfl (by rw [hml]; rfl) rfl (hb hby d2_1) (by decide) (W := 0) (by show 2 * 0 + _ ≤ _; exact Nat.le_of_eq rfl) (by decide)
  obtain ⟨T2, X2, e2, st2⟩ := getS2 X1 hx hZ hown (host := "") (Or.inl (hwi hw 81 rfl)) Via.refl e1 (S_COMPACT_STRINGS.ext O0.2) (g := (mkF m 27 #[.val (.ref a1), .val (.ref a2), .val (.int 0), .val (.int 2), .val .null, .unset] [])) rfl (hb hby d2_27)
  obtain ⟨_, _, ⟨T3, L3, k3, n3⟩, -, X3, ⟨Lc3, hQ3, l3, y3, z3⟩, st3⟩ := Jvm.LawKit.callS X2 hx (y := mn3) hown (mvT hZ (hwi hw 207 rfl)) (mvT hZ (hwi hw 208 rfl)) (mvT hZ (hwi hw 209 rfl)) (mvT hZ (hwi hw 210 rfl)) (by decide) (backOf (W := 0) (rm_cmp3_2 l Z a0 hw [] a2 k_a2 c0 c1 h0 n0 Z0 V_a2 hb_c0 hb_c1 O0) hZ (hwi hw 210 rfl) (hwi hw 209 rfl) (by decide) (by decide)) (g := (mkF m 36 #[.val (.ref a1), .val (.ref a2), .val (.int 0), .val (.int 2), .val .null, .unset] [(.int 2), (.int 0), (.ref a2)])) rfl (by rw [hml]; rfl) (argsL := [(.ref a2), (.int 0), (.int 2)]) (rest := []) (lenOf pd_CII__B_542 rfl) rfl (by show 2 * 0 + _ ≤ _; exact Nat.le_of_eq rfl) (hb hby d2_36) (fun _ _ => ⟨rfl, e2, (by decide : 0 + 1 ≤ _), (by decide : 0 + 2 ≤ _)⟩)
  dsimp only [Pt.U, Pt.locs, Pt.cells, Pt.slots] at X3 l3 y3 z3 st3 hQ3
  subst l3 y3 z3
  obtain ⟨t_3, kt_3, rfl, N3q, Kc3, g3_0, g3_1⟩ := hQ3
  have N3 := Fr.app N0 N3q
  have sz4 : h0.size ≤ T3.heap.size := Kc3.1
  have Z4 : n0 ≤ T3.heap.size := Nat.le_trans Z0 sz4
  have O4 := O0.keep Kc3 all0
  have K4 : Keep h0 T3.heap [a1] := (Keep.refl h0 [a1]).trans Kc3 (all0)
  have bn_t_3 : h0.size ≤ t_3 := g3_0
  obtain ⟨_, _, ⟨T5, L5, k5, n5⟩, -, X5, ⟨Lc5, hQ5, l5, y5, z5⟩, st5⟩ := Jvm.LawKit.callS X3 hx (y := mn4) hown (mvT hZ (hwi hw 214 rfl)) (mvT hZ (hwi hw 215 rfl)) (mvT hZ (hwi hw 209 rfl)) (mvT hZ (hwi hw 216 rfl)) (by decide) (backOf (W := 1) (rm_cod_2 l Z a0 hw [] t_3 kt_3 (c0.toInt8.toInt32) (c1.toInt8.toInt32) T3.heap n0 Z4 g3_1) hZ (hwi hw 216 rfl) (hwi hw 209 rfl) (by decide) (by decide)) (g := (mkF m 45 #[.val (.ref a1), .val (.ref a2), .val (.int 0), .val (.int 2), .val .null, .val (.ref t_3)] [(.int 2), (.ref t_3), (.ref a1)])) rfl (by rw [hml]; rfl) (argsL := [(.ref t_3), (.int 2)]) (rest := [(.ref a1)]) (lenOf pd_BI_B_377 rfl) rfl (by show 2 * 0 + _ ≤ _; exact Nat.le_of_eq rfl) (hb hby d2_45) (fun _ _ => ⟨rfl, rfl, (by decide : 1 + 0 ≤ _), (by decide : 2 + 0 ≤ _)⟩)
  dsimp only [Pt.U, Pt.locs, Pt.cells, Pt.slots] at X5 l5 y5 z5 st5 hQ5
  subst l5 y5 z5
  obtain ⟨rfl, N5q, e5⟩ := hQ5
  have N5 := Fr.app N3 N5q
  have fc6 := (E_a1.keep Kc3)
  have fc7 := (F_a1_coder.keep Kc3 nin0)
  obtain ⟨T8, h8, X8, e8, W8, st8⟩ := putFN X5 hx hZ hown (hwi hw 21 rfl) Via.refl e5 fc7 fc6 (Or.inr ⟨(hwi hw 17 rfl), rfl, hnm⟩) (hwi hw 2 rfl) (ty := .byte) (v' := (.int 0)) (by decide) rfl (by decide) (g := (mkF m 48 #[.val (.ref a1), .val (.ref a2), .val (.int 0), .val (.int 2), .val .null, .val (.ref t_3)] [(.int 0), (.ref a1)])) rfl rfl (hb hby d2_48)
  have N8 := Fr.snoc X8 N5 g_a1
  have Fw8 := fc7.same W8
  have sz9 : T3.heap.size ≤ h8.size := Nat.le_of_eq W8.size.symm
  have Z9 : n0 ≤ h8.size := Nat.le_trans Z4 sz9
  have O9 := O4.wr W8 g_a1
  have K9 : Keep h0 h8 [a1] := K4.wr W8 (Or.inl (List.mem_of_getElem? (i := 0) rfl))
  have fc10 := (fc6.wr W8)
  have fc11 := ((F_a1_value.keep Kc3 nin0).other W8 (Or.inr (slot_ne (Or.inr (hwi hw 16 rfl)) (Or.inr (hwi hw 17 rfl)) (by decide) (t := (.array .byte)) (t' := .byte) (by decide) (by decide))))
  obtain ⟨T12, h12, X12, e12, W12, st12⟩ := putF X8 hx hZ hown (host := "") (Or.inl (hwi hw 20 rfl)) Via.refl e8 fc11 fc10 (Or.inr ⟨(hwi hw 16 rfl), rfl, hnm⟩) (hwi hw 2 rfl) (ty := (.array .byte)) (by decide) rfl rfl (g := (mkF m 54 #[.val (.ref a1), .val (.ref a2), .val (.int 0), .val (.int 2), .val .null, .val (.ref t_3)] [(.ref t_3), (.ref a1)])) rfl rfl (hb hby d2_54)
  have N12 := Fr.snoc X12 N8 g_a1
  have Fw12 := fc11.same W12
  have sz13 : h8.size ≤ h12.size := Nat.le_of_eq W12.size.symm
  have Z13 : n0 ≤ h12.size := Nat.le_trans Z9 sz13
  have O13 := O9.wr W12 g_a1
  have K13 : Keep h0 h12 [a1] := K9.wr W12 (Or.inl (List.mem_of_getElem? (i := 0) rfl))
  have fc14 := (fc10.wr W12)
  have fc15 := (Fw8.other W12 (Or.inr (slot_ne (Or.inr (hwi hw 17 rfl)) (Or.inr (hwi hw 16 rfl)) (by decide) (t := .byte) (t' := (.array .byte)) (by decide) (by decide))))
  have fc16 := ((g3_1.other W8 (neN (by have := ltN E_a1.lt; have := ltN g3_1.lt; omega))).other W12 (neN (by have := ltN E_a1.lt; have := ltN g3_1.lt; omega)))
  obtain ⟨fs, hr, hrun, hended, hW, hsame⟩ := X12.leave (v := none) (fun _ => rfl)
  refine ⟨_, _, pre0 _ ?_, hrun, hended, _, _, rfl, ?_, ⟨_, rfl⟩, hW, hsame.mono (by decide) (by decide)⟩
  · show St p e below s₁ (mkF m 0 #[.val (.ref a1), .val (.ref a2), .val (.int 0), .val (.int 2), .val .null, .unset] []) _
    refine XS.aloadN X0.here hx rfl (hb hby d2_0) rfl rfl ?_
    refine st1 _ ?_
    refine XS.iloadN X1.here hx rfl (hb hby d2_4) rfl ?_
    refine XS.ifYes X1.here hx rfl (pc0 := 5) (pc' := 27) rfl (hb hby d2_5) rfl ((if0 _ _).trans (feq (by decide : ¬ ((2 : Int32) = (0 : Int32)))).2) (by decide) (by decide) ?_
    refine st2 _ ?_
    refine XS.ifNo X2.here hx rfl (hb hby d2_30) rfl ((if0 _ _).trans (feq hcs).1) ?_
    refine XS.aloadN X2.here hx rfl (hb hby d2_33) rfl rfl ?_
    refine XS.iloadN X2.here hx rfl (hb hby d2_34) rfl ?_
    show St p e below T2 (mkF m 35 #[.val (.ref a1), .val (.ref a2), .val (.int 0), .val (.int 2), .val .null, .unset] [(.int 0), (.ref a2)]) _
    refine XS.iloadN X2.here hx rfl (hb hby d2_35) rfl ?_
    refine st3 _ ?_
    refine XS.astore X3.here hx rfl (hb hby d2_39) rfl rfl (l' := #[.val (.ref a1), .val (.ref a2), .val (.int 0), .val (.int 2), .val .null, .val (.ref t_3)]) rfl ?_
    refine XS.aloadN X3.here hx rfl (hb hby d2_41) rfl rfl ?_
    refine XS.aload X3.here hx rfl (hb hby d2_42) rfl rfl ?_
    refine XS.iloadN X3.here hx rfl (hb hby d2_44) rfl ?_
    refine st5 _ ?_
    refine st8 _ ?_
    show St p e below T8 (mkF m 51 #[.val (.ref a1), .val (.ref a2), .val (.int 0), .val (.int 2), .val .null, .val (.ref t_3)] []) _
    refine XS.aloadN X8.here hx rfl (hb hby d2_51) rfl rfl ?_
    refine XS.aload X8.here hx rfl (hb hby d2_52) rfl rfl ?_
    refine st12 _ ?_
    show St p e below T12 (mkF m 57 #[.val (.ref a1), .val (.ref a2), .val (.int 0), .val (.int 2), .val .null, .val (.ref t_3)] []) _
    exact X12.returnOut hx Bd.returns (hb hby d2_57) hr
  · show Q_new4_2 Z a1 a2 w_COMPACT_STRINGS k_a2 c0 c1 u_a1_coder u_a1_value h0 n0 _ T12.heap _
    rw [e12]
    exact ⟨t_3, kt_3, rfl, N12, K13, fc14, fc15, Fw12, bn_t_3, fc16⟩
def Q_new1_2 (Z : State) (a1 : Addr) (a2 : Addr) (w_COMPACT_STRINGS : Int32) (k_a2 : ClassId) (c0 : Int32) (c1 : Int32) (u_a1_coder : Value) (u_a1_value : Value) (h0 : Heap) (n0 : Nat) (v : Option Value) (h : Heap) (L : List Loc) : Prop := ∃ (t : Addr) (kt : ClassId), v = none ∧ Fr n0 L ∧ Keep h0 h [a1] ∧ Exa Z h a1 "java/lang/String" ∧ Fld Z h a1 "java/lang/String" "coder" "B" (.int 0) ∧ Fld Z h a1 "java/lang/String" "value" "[B" (.ref t) ∧ h0.size ≤ t ∧ Arv Z h t kt .byte (2 : Int32) [(.int (c0.toInt8.toInt32)), (.int (c1.toInt8.toInt32))] (.int 0)
set_option maxRecDepth 65536 in
set_option maxHeartbeats 40000000 in
theorem rm_new1_2 (l : Launch) (Z : State) (a0 : Array Value) (hw : ∀ d ∈ tables_1, d.before a0 Z = true) (ws : List Jvm.Cond) (a1 : Addr) (a2 : Addr) (w_COMPACT_STRINGS : Int32) (k_a2 : ClassId) (c0 : Int32) (c1 : Int32) (u_a1_coder : Value) (u_a1_value : Value) (h0 : Heap) (n0 : Nat) (Z0 : n0 ≤ h0.size) (S_COMPACT_STRINGS : Sta Z Z.heap "java/lang/String" "COMPACT_STRINGS" "Z" (.int w_COMPACT_STRINGS)) (hcs : ¬ (w_COMPACT_STRINGS = (0 : Int32))) (V_a2 : Arv Z h0 a2 k_a2 .char (2 : Int32) [(.int c0), (.int c1)] (.int 0)) (hb_c0 : ¬ ((255 : Int32) < c0)) (hb_c1 : ¬ ((255 : Int32) < c1)) (O0 : Old Z n0 h0) (E_a1 : Exa Z h0 a1 "java/lang/String") (F_a1_coder : Fld Z h0 a1 "java/lang/String" "coder" "B" u_a1_coder) (g_a1 : n0 ≤ a1) (F_a1_value : Fld Z h0 a1 "java/lang/String" "value" "[B" u_a1_value) :
    MetFree l mn1 (head1 (Jvm.Cond.code mn1 jdk_42_method_3_code 2 none :: ws) ro8) (fun a U => a = #[(.ref a1), (.ref a2)] ∧ Z.Warmed39 U.vm ∧ U.heap = h0) (fun _ _ _ _ _ => True) (fun _ U o U' => ∃ v L, o = .returned v ∧ Q_new1_2 Z a1 a2 w_COMPACT_STRINGS k_a2 c0 c1 u_a1_coder u_a1_value h0 n0 v U'.heap L ∧ FrameEnd U o U' L ro8.cells ro8.slots) := by
  refine MetFree.of_bodySF (plainFor_of_name pn_1) hisR ?_
  intro p e s m args below meth c s₁ Bd hml0 hP hK
  obtain ⟨rfl, hZ, hh⟩ := hP
  have hx := Bd.exec
  have hby := Bd.bytes
  have hml : c.maxLocals = 2 := hml0
  have hown : s.vm.findClass "java/lang/String" = some m.cls := findClass_of_methodNamed Bd.named
  have hnm := (name_of_methodNamed Bd.named Bd.method).1
  have X0 : Stand p l e ro8 s m #[(.ref a1), (.ref a2)] below meth c s₁ [] 0 0 := Stand.of_body Bd
  have e0 : s₁.heap = h0 := by rw [← hh, Bd.state]; rfl
  have N0 := Fr.nil n0
  have pre0 : ∀ t, Steps p.tables e below (s₁.setTop (mkF m 0 #[.val (.ref a1), .val (.ref a2)] [])) t → Steps p.tables e below (s₁.setTop (entryFrame m #[(.ref a1), (.ref a2)] 2)) t := fun t k => castTop (ef_1_RR m a1 a2) k
  obtain ⟨cl1, Ar1, -, S1, M1, -, -⟩ := id V_a2
  obtain ⟨_, _, ⟨T2, L2, k2, n2⟩, -, X2, ⟨Lc2, hQ2, l2, y2, z2⟩, st2⟩ := X0.specialBack hx (y := mn0) rfl hown (mvT hZ (hwi hw 7 rfl)) (mvT hZ (hwi hw 8 rfl)) (mvT hZ (hwi hw 10 rfl)) (by decide) (backOf (W := 0) (rm_new4_2 l Z a0 hw [] a1 a2 w_COMPACT_STRINGS k_a2 c0 c1 u_a1_coder u_a1_value h0 n0 Z0 S_COMPACT_STRINGS hcs V_a2 hb_c0 hb_c1 O0 E_a1 F_a1_coder g_a1 F_a1_value) hZ (hwi hw 10 rfl) (hwi hw 3 rfl) (by decide) (by decide)) (g := (mkF m 6 #[.val (.ref a1), .val (.ref a2)] [.null, (.int 2), (.int 0), (.ref a2), (.ref a1)])) rfl (by rw [hml]; rfl) (Steps.refl _) (a := a1) (argsL := [(.ref a2), (.int 0), (.int 2), .null]) (rest := []) (lenOf pd_CIILjava_lang_Void__V_938 rfl) rfl (by show 2 * 0 + _ ≤ _; exact Nat.le_of_eq rfl) (hb hby d1_6) (fun _ _ => ⟨rfl, e0, (by decide : 0 + 1 ≤ _), (by decide : 0 + 2 ≤ _)⟩)
  dsimp only [Pt.U, Pt.locs, Pt.cells, Pt.slots] at X2 l2 y2 z2 st2 hQ2
  subst l2 y2 z2
  obtain ⟨t_2, kt_2, rfl, N2q, Kc2, g2_0, g2_1, g2_2, g2_3, g2_4⟩ := hQ2
  have N2 := Fr.app N0 N2q
  have sz3 : h0.size ≤ T2.heap.size := Kc2.1
  have Z3 : n0 ≤ T2.heap.size := Nat.le_trans Z0 sz3
  have O3 := O0.keep Kc2 (allS g_a1 all0)
  have K3 : Keep h0 T2.heap [a1] := (Keep.refl h0 [a1]).trans Kc2 (allS (Or.inl (List.mem_of_getElem? (i := 0) rfl)) (all0))
  have bn_t_2 : h0.size ≤ t_2 := g2_3
  obtain ⟨fs, hr, hrun, hended, hW, hsame⟩ := X2.leave (v := none) (fun _ => rfl)
  refine ⟨_, _, pre0 _ ?_, hrun, hended, _, _, rfl, ?_, ⟨_, rfl⟩, hW, hsame.mono (by decide) (by decide)⟩
  · show St p e below s₁ (mkF m 0 #[.val (.ref a1), .val (.ref a2)] []) _
    refine XS.aloadN X0.here hx rfl (hb hby d1_0) rfl rfl ?_
    refine XS.aloadN X0.here hx rfl (hb hby d1_1) rfl rfl ?_
    refine XS.iconst X0.here hx rfl (hb hby d1_2) ?_
    refine XS.aloadN X0.here hx rfl (hb hby d1_3) rfl rfl ?_
    refine X0.arraylength hx (by rw [e0]; exact Ar1.1) (State.isArrayOf_alike hZ.alike Ar1.2.1) (g := (mkF m 4 #[.val (.ref a1), .val (.ref a2)] [(.ref a2), (.int 0), (.ref a2), (.ref a1)])) rfl rfl (hb hby d1_4) _ ?_
    rw [len_of S1 M1]
    show St p e below s₁ (mkF m 5 #[.val (.ref a1), .val (.ref a2)] [(.int 2), (.int 0), (.ref a2), (.ref a1)]) _
    refine XS.aconstNull X0.here hx rfl (hb hby d1_5) ?_
    refine st2.trans ?_
    show St p e below T2 (mkF m 9 #[.val (.ref a1), .val (.ref a2)] []) _
    exact X2.returnOut hx Bd.returns (hb hby d1_9) hr
  · show Q_new1_2 Z a1 a2 w_COMPACT_STRINGS k_a2 c0 c1 u_a1_coder u_a1_value h0 n0 _ T2.heap _
    exact ⟨t_2, kt_2, rfl, N2, K3, g2_0, g2_1, g2_2, bn_t_2, g2_4⟩
def Q_cmp5_3 (Z : State) (a1 : Addr) (a3 : Addr) (k_a1 : ClassId) (c0 : Int32) (c1 : Int32) (c2 : Int32) (k_a3 : ClassId) (h0 : Heap) (n0 : Nat) (v : Option Value) (h : Heap) (L : List Loc) : Prop := v = some (.int 3) ∧ Fr n0 L ∧ Keep h0 h [a3] ∧ Arv Z h a3 k_a3 .byte (3 : Int32) [(.int (c0.toInt8.toInt32)), (.int (c1.toInt8.toInt32)), (.int (c2.toInt8.toInt32))] (.int 0)
set_option maxRecDepth 65536 in
set_option maxHeartbeats 40000000 in
theorem rm_cmp5_3 (l : Launch) (Z : State) (a0 : Array Value) (hw : ∀ d ∈ tables_1, d.before a0 Z = true) (ws : List Jvm.Cond) (a1 : Addr) (a3 : Addr) (k_a1 : ClassId) (c0 : Int32) (c1 : Int32) (c2 : Int32) (k_a3 : ClassId) (h0 : Heap) (n0 : Nat) (Z0 : n0 ≤ h0.size) (V_a1 : Arv Z h0 a1 k_a1 .char (3 : Int32) [(.int c0), (.int c1), (.int c2)] (.int 0)) (V_a3 : Arv Z h0 a3 k_a3 .byte (3 : Int32) [(.int 0), (.int 0), (.int 0)] (.int 0)) (hne : ¬ (a1 = a3)) (hb_c0 : ¬ ((255 : Int32) < c0)) (hb_c1 : ¬ ((255 : Int32) < c1)) (hb_c2 : ¬ ((255 : Int32) < c2)) (g_a3 : n0 ≤ a3) (O0 : Old Z n0 h0) :
    MetFree l mn2 (head1 (Jvm.Cond.code mn2 jdk_52_method_21_code 7 (some .int) :: ws) ro2) (fun a U => a = #[(.ref a1), (.int 0), (.ref a3), (.int 0), (.int 3)] ∧ Z.Warmed39 U.vm ∧ U.heap = h0) (fun _ _ _ _ _ => True) (fun _ U o U' => ∃ v L, o = .returned v ∧ Q_cmp5_3 Z a1 a3 k_a1 c0 c1 c2 k_a3 h0 n0 v U'.heap L ∧ FrameEnd U o U' L ro2.cells ro2.slots) := by
  refine MetFree.of_bodySF (plainFor_of_name pn_41) hisR ?_
  intro p e s m args below meth c s₁ Bd hml0 hP hK
  obtain ⟨rfl, hZ, hh⟩ := hP
  have hx := Bd.exec
  have hby := Bd.bytes
  have hml : c.maxLocals = 7 := hml0
  have hown : s.vm.findClass "java/lang/StringUTF16" = some m.cls := findClass_of_methodNamed Bd.named
  have hnm := (name_of_methodNamed Bd.named Bd.method).1
  have X0 : Stand p l e ro2 s m #[(.ref a1), (.int 0), (.ref a3), (.int 0), (.int 3)] below meth c s₁ [] 0 0 := Stand.of_body Bd
  have e0 : s₁.heap = h0 := by rw [← hh, Bd.state]; rfl
  have N0 := Fr.nil n0
  have pre0 : ∀ t, Steps p.tables e below (s₁.setTop (mkF m 0 #[.val (.ref a1), .val (.int 0), .val (.ref a3), .val (.int 0), .val (.int 3), .unset, .unset] [])) t → Steps p.tables e below (s₁.setTop (entryFrame m #[(.ref a1), (.int 0), (.ref a3), (.int 0), (.int 3)] 7)) t := fun t k => castTop (ef_41_RIRII m a1 (0 : Int32) a3 (0 : Int32) (3 : Int32)) k
  obtain ⟨cl1, Ar1, q1, S1, M1, H1, G1⟩ := id V_a1
  have hin1 : ¬ ((0 : Int32) < 0 ∨ cl1.slots.size ≤ ((0 : Int32)).toNatClampNeg) := inb_of S1 ⟨by decide, by decide⟩
  have hat1 : cl1.slots[((0 : Int32)).toNatClampNeg]? = some (.int c0) := H1.at hin1 rfl
  obtain ⟨cl2, Ar2, q2, S2, M2, H2, G2⟩ := id V_a3
  have hin2 : ¬ ((0 : Int32) < 0 ∨ cl2.slots.size ≤ ((0 : Int32)).toNatClampNeg) := inb_of S2 ⟨by decide, by decide⟩
  obtain ⟨T3, h3, X3, e3, W3, st3⟩ := stB X0 hx hZ e0 Ar2 (j := (0 : Int32)) hin2 (g := (mkF m 31 #[.val (.ref a1), .val (.int 0), .val (.ref a3), .val (.int 0), .val (.int 3), .val (.int 0), .val (.int c0)] [(.int (c0.toInt8.toInt32)), (.int 0), (.ref a3)])) rfl rfl (hb hby d41_31)
  have N3 := Fr.snoc X3 N0 g_a3
  have V3 : Arv Z h3 a3 k_a3 .byte (3 : Int32) [(.int ((c0.toInt8.toInt32).toInt8.toInt32)), (.int 0), (.int 0)] (.int 0) := Arv.set Ar2 q2 S2 M2 H2 G2 (fits_nar_byte _) W3 0 rfl (Nat.le_of_ble_eq_true rfl)
  rw [own_bb] at V3
  have sz4 : h0.size ≤ h3.size := Nat.le_of_eq W3.size.symm
  have Z4 : n0 ≤ h3.size := Nat.le_trans Z0 sz4
  have O4 := O0.wr W3 g_a3
  have K4 : Keep h0 h3 [a3] := (Keep.refl h0 [a3]).wr W3 (Or.inl (List.mem_of_getElem? (i := 0) rfl))
  have fc5 := (V_a1.other W3 (fun q => hne q))
  obtain ⟨cl6, Ar6, q6, S6, M6, H6, G6⟩ := id fc5
  have hin6 : ¬ ((1 : Int32) < 0 ∨ cl6.slots.size ≤ ((1 : Int32)).toNatClampNeg) := inb_of S6 ⟨by decide, by decide⟩
  have hat6 : cl6.slots[((1 : Int32)).toNatClampNeg]? = some (.int c1) := H6.at hin6 rfl
  obtain ⟨cl7, Ar7, q7, S7, M7, H7, G7⟩ := id V3
  have hin7 : ¬ ((1 : Int32) < 0 ∨ cl7.slots.size ≤ ((1 : Int32)).toNatClampNeg) := inb_of S7 ⟨by decide, by decide⟩
  obtain ⟨T8, h8, X8, e8, W8, st8⟩ := stB X3 hx hZ e3 Ar7 (j := (1 : Int32)) hin7 (g := (mkF m 31 #[.val (.ref a1), .val (.int 1), .val (.ref a3), .val (.int 1), .val (.int 3), .val (.int 1), .val (.int c1)] [(.int (c1.toInt8.toInt32)), (.int 1), (.ref a3)])) rfl rfl (hb hby d41_31)
  have N8 := Fr.snoc X8 N3 g_a3
  have V8 : Arv Z h8 a3 k_a3 .byte (3 : Int32) [(.int (c0.toInt8.toInt32)), (.int ((c1.toInt8.toInt32).toInt8.toInt32)), (.int 0)] (.int 0) := Arv.set Ar7 q7 S7 M7 H7 G7 (fits_nar_byte _) W8 1 rfl (Nat.le_of_ble_eq_true rfl)
  rw [own_bb] at V8
  have sz9 : h3.size ≤ h8.size := Nat.le_of_eq W8.size.symm
  have Z9 : n0 ≤ h8.size := Nat.le_trans Z4 sz9
  have O9 := O4.wr W8 g_a3
  have K9 : Keep h0 h8 [a3] := K4.wr W8 (Or.inl (List.mem_of_getElem? (i := 0) rfl))
  have fc10 := (fc5.other W8 (fun q => hne q))
  obtain ⟨cl11, Ar11, q11, S11, M11, H11, G11⟩ := id fc10
  have hin11 : ¬ ((2 : Int32) < 0 ∨ cl11.slots.size ≤ ((2 : Int32)).toNatClampNeg) := inb_of S11 ⟨by decide, by decide⟩
  have hat11 : cl11.slots[((2 : Int32)).toNatClampNeg]? = some (.int c2) := H11.at hin11 rfl
  obtain ⟨cl12, Ar12, q12, S12, M12, H12, G12⟩ := id V8
  have hin12 : ¬ ((2 : Int32) < 0 ∨ cl12.slots.size ≤ ((2 : Int32)).toNatClampNeg) := inb_of S12 ⟨by decide, by decide⟩
  obtain ⟨T13, h13, X13, e13, W13, st13⟩ := stB X8 hx hZ e8 Ar12 (j := (2 : Int32)) hin12 (g := (mkF m 31 #[.val (.ref a1), .val (.int 2), .val (.ref a3), .val (.int 2), .val (.int 3), .val (.int 2), .val (.int c2)] [(.int (c2.toInt8.toInt32)), (.int 2), (.ref a3)])) rfl rfl (hb hby d41_31)
  have N13 := Fr.snoc X13 N8 g_a3
  have V13 : Arv Z h13 a3 k_a3 .byte (3 : Int32) [(.int (c0.toInt8.toInt32)), (.int (c1.toInt8.toInt32)), (.int ((c2.toInt8.toInt32).toInt8.toInt32))] (.int 0) := Arv.set Ar12 q12 S12 M12 H12 G12 (fits_nar_byte _) W13 2 rfl (Nat.le_of_ble_eq_true rfl)
  rw [own_bb] at V13
  have sz14 : h8.size ≤ h13.size := Nat.le_of_eq W13.size.symm
  have Z14 : n0 ≤ h13.size := Nat.le_trans Z9 sz14
  have O14 := O9.wr W13 g_a3
  have K14 : Keep h0 h13 [a3] := K9.wr W13 (Or.inl (List.mem_of_getElem? (i := 0) rfl))
  obtain ⟨fs, hr, hrun, hended, hW, hsame⟩ := X13.leave (v := some (.int 3)) (fun h => by rw [Bd.returns] at h; cases h)
  refine ⟨_, _, pre0 _ ?_, hrun, hended, _, _, rfl, ?_, ⟨_, rfl⟩, hW, hsame.mono (by decide) (by decide)⟩
  · show St p e below s₁ (mkF m 0 #[.val (.ref a1), .val (.int 0), .val (.ref a3), .val (.int 0), .val (.int 3), .unset, .unset] []) _
    refine XS.iconst X0.here hx rfl (hb hby d41_0) ?_
    refine XS.istore X0.here hx rfl (hb hby d41_1) rfl (l' := #[.val (.ref a1), .val (.int 0), .val (.ref a3), .val (.int 0), .val (.int 3), .val (.int 0), .unset]) rfl ?_
    refine XS.iload X0.here hx rfl (hb hby d41_3) rfl ?_
    refine XS.iload X0.here hx rfl (hb hby d41_5) rfl ?_
    refine XS.icmpNo X0.here hx rfl (hb hby d41_7) rfl (tlt (by decide : (0 : Int32) < (3 : Int32))).2.1 ?_
    refine XS.aloadN X0.here hx rfl (hb hby d41_10) rfl rfl ?_
    refine XS.iloadN X0.here hx rfl (hb hby d41_11) rfl ?_
    refine X0.caload hx (j := (0 : Int32)) (v := (.int c0)) (by rw [e0]; exact Ar1.1) (State.isArrayOf_alike hZ.alike Ar1.2.1) Ar1.2.2 hin1 hat1 (g := (mkF m 12 #[.val (.ref a1), .val (.int 0), .val (.ref a3), .val (.int 0), .val (.int 3), .val (.int 0), .unset] [(.int 0), (.ref a1)])) rfl rfl (hb hby d41_12) _ ?_
    show St p e below s₁ (mkF m 13 #[.val (.ref a1), .val (.int 0), .val (.ref a3), .val (.int 0), .val (.int 3), .val (.int 0), .unset] [(.int c0)]) _
    refine XS.istore X0.here hx rfl (hb hby d41_13) rfl (l' := #[.val (.ref a1), .val (.int 0), .val (.ref a3), .val (.int 0), .val (.int 3), .val (.int 0), .val (.int c0)]) rfl ?_
    refine XS.iload X0.here hx rfl (hb hby d41_15) rfl ?_
    refine XS.sipush X0.here hx rfl (hb hby d41_17) ?_
    refine XS.icmpYes X0.here hx rfl (pc0 := 20) (pc' := 26) rfl (hb hby d41_20) rfl (flt hb_c0).2.2.2 (by decide) (by decide) ?_
    refine XS.aloadN X0.here hx rfl (hb hby d41_26) rfl rfl ?_
    refine XS.iloadN X0.here hx rfl (hb hby d41_27) rfl ?_
    refine XS.iload X0.here hx rfl (hb hby d41_28) rfl ?_
    refine XS.i2b X0.here hx rfl (hb hby d41_30) rfl ?_
    show St p e below s₁ (mkF m 31 #[.val (.ref a1), .val (.int 0), .val (.ref a3), .val (.int 0), .val (.int 3), .val (.int 0), .val (.int c0)] [(.int (c0.toInt8.toInt32)), (.int 0), (.ref a3)]) _
    refine st3 _ ?_
    refine XS.iinc X3.here hx rfl (hb hby d41_32) rfl (l' := #[.val (.ref a1), .val (.int ((0 : Int32) + (1 : Int32))), .val (.ref a3), .val (.int 0), .val (.int 3), .val (.int 0), .val (.int c0)]) rfl ?_
    show St p e below T3 (mkF m 35 #[.val (.ref a1), .val (.int ((0 : Int32) + (1 : Int32))), .val (.ref a3), .val (.int 0), .val (.int 3), .val (.int 0), .val (.int c0)] []) _
    rw [(by decide : ((0 : Int32) + (1 : Int32)) = (1 : Int32))]
    show St p e below T3 (mkF m 35 #[.val (.ref a1), .val (.int 1), .val (.ref a3), .val (.int 0), .val (.int 3), .val (.int 0), .val (.int c0)] []) _
    refine XS.iinc X3.here hx rfl (hb hby d41_35) rfl (l' := #[.val (.ref a1), .val (.int 1), .val (.ref a3), .val (.int ((0 : Int32) + (1 : Int32))), .val (.int 3), .val (.int 0), .val (.int c0)]) rfl ?_
    show St p e below T3 (mkF m 38 #[.val (.ref a1), .val (.int 1), .val (.ref a3), .val (.int ((0 : Int32) + (1 : Int32))), .val (.int 3), .val (.int 0), .val (.int c0)] []) _
    rw [(by decide : ((0 : Int32) + (1 : Int32)) = (1 : Int32))]
    show St p e below T3 (mkF m 38 #[.val (.ref a1), .val (.int 1), .val (.ref a3), .val (.int 1), .val (.int 3), .val (.int 0), .val (.int c0)] []) _
    refine XS.iinc X3.here hx rfl (hb hby d41_38) rfl (l' := #[.val (.ref a1), .val (.int 1), .val (.ref a3), .val (.int 1), .val (.int 3), .val (.int ((0 : Int32) + (1 : Int32))), .val (.int c0)]) rfl ?_
    show St p e below T3 (mkF m 41 #[.val (.ref a1), .val (.int 1), .val (.ref a3), .val (.int 1), .val (.int 3), .val (.int ((0 : Int32) + (1 : Int32))), .val (.int c0)] []) _
    rw [(by decide : ((0 : Int32) + (1 : Int32)) = (1 : Int32))]
    show St p e below T3 (mkF m 41 #[.val (.ref a1), .val (.int 1), .val (.ref a3), .val (.int 1), .val (.int 3), .val (.int 1), .val (.int c0)] []) _
    refine XS.goto X3.here hx rfl (pc0 := 41) (pc' := 3) rfl (hb hby d41_41) (by decide) (by decide) ?_
    refine XS.iload X3.here hx rfl (hb hby d41_3) rfl ?_
    refine XS.iload X3.here hx rfl (hb hby d41_5) rfl ?_
    refine XS.icmpNo X3.here hx rfl (hb hby d41_7) rfl (tlt (by decide : (1 : Int32) < (3 : Int32))).2.1 ?_
    refine XS.aloadN X3.here hx rfl (hb hby d41_10) rfl rfl ?_
    refine XS.iloadN X3.here hx rfl (hb hby d41_11) rfl ?_
    refine X3.caload hx (j := (1 : Int32)) (v := (.int c1)) (by rw [e3]; exact Ar6.1) (State.isArrayOf_alike hZ.alike Ar6.2.1) Ar6.2.2 hin6 hat6 (g := (mkF m 12 #[.val (.ref a1), .val (.int 1), .val (.ref a3), .val (.int 1), .val (.int 3), .val (.int 1), .val (.int c0)] [(.int 1), (.ref a1)])) rfl rfl (hb hby d41_12) _ ?_
    refine XS.istore X3.here hx rfl (hb hby d41_13) rfl (l' := #[.val (.ref a1), .val (.int 1), .val (.ref a3), .val (.int 1), .val (.int 3), .val (.int 1), .val (.int c1)]) rfl ?_
    show St p e below T3 (mkF m 15 #[.val (.ref a1), .val (.int 1), .val (.ref a3), .val (.int 1), .val (.int 3), .val (.int 1), .val (.int c1)] []) _
    refine XS.iload X3.here hx rfl (hb hby d41_15) rfl ?_
    refine XS.sipush X3.here hx rfl (hb hby d41_17) ?_
    refine XS.icmpYes X3.here hx rfl (pc0 := 20) (pc' := 26) rfl (hb hby d41_20) rfl (flt hb_c1).2.2.2 (by decide) (by decide) ?_
    refine XS.aloadN X3.here hx rfl (hb hby d41_26) rfl rfl ?_
    refine XS.iloadN X3.here hx rfl (hb hby d41_27) rfl ?_
    refine XS.iload X3.here hx rfl (hb hby d41_28) rfl ?_
    refine XS.i2b X3.here hx rfl (hb hby d41_30) rfl ?_
    refine st8 _ ?_
    show St p e below T8 (mkF m 32 #[.val (.ref a1), .val (.int 1), .val (.ref a3), .val (.int 1), .val (.int 3), .val (.int 1), .val (.int c1)] []) _
    refine XS.iinc X8.here hx rfl (hb hby d41_32) rfl (l' := #[.val (.ref a1), .val (.int ((1 : Int32) + (1 : Int32))), .val (.ref a3), .val (.int 1), .val (.int 3), .val (.int 1), .val (.int c1)]) rfl ?_
    show St p e below T8 (mkF m 35 #[.val (.ref a1), .val (.int ((1 : Int32) + (1 : Int32))), .val (.ref a3), .val (.int 1), .val (.int 3), .val (.int 1), .val (.int c1)] []) _
    rw [(by decide : ((1 : Int32) + (1 : Int32)) = (2 : Int32))]
    show St p e below T8 (mkF m 35 #[.val (.ref a1), .val (.int 2), .val (.ref a3), .val (.int 1), .val (.int 3), .val (.int 1), .val (.int c1)] []) _
    refine XS.iinc X8.here hx rfl (hb hby d41_35) rfl (l' := #[.val (.ref a1), .val (.int 2), .val (.ref a3), .val (.int ((1 : Int32) + (1 : Int32))), .val (.int 3), .val (.int 1), .val (.int c1)]) rfl ?_
    show St p e below T8 (mkF m 38 #[.val (.ref a1), .val (.int 2), .val (.ref a3), .val (.int ((1 : Int32) + (1 : Int32))), .val (.int 3), .val (.int 1), .val (.int c1)] []) _
    rw [(by decide : ((1 : Int32) + (1 : Int32)) = (2 : Int32))]
    show St p e below T8 (mkF m 38 #[.val (.ref a1), .val (.int 2), .val (.ref a3), .val (.int 2), .val (.int 3), .val (.int 1), .val (.int c1)] []) _
    refine XS.iinc X8.here hx rfl (hb hby d41_38) rfl (l' := #[.val (.ref a1), .val (.int 2), .val (.ref a3), .val (.int 2), .val (.int 3), .val (.int ((1 : Int32) + (1 : Int32))), .val (.int c1)]) rfl ?_
    show St p e below T8 (mkF m 41 #[.val (.ref a1), .val (.int 2), .val (.ref a3), .val (.int 2), .val (.int 3), .val (.int ((1 : Int32) + (1 : Int32))), .val (.int c1)] []) _
    rw [(by decide : ((1 : Int32) + (1 : Int32)) = (2 : Int32))]
    show St p e below T8 (mkF m 41 #[.val (.ref a1), .val (.int 2), .val (.ref a3), .val (.int 2), .val (.int 3), .val (.int 2), .val (.int c1)] []) _
    refine XS.goto X8.here hx rfl (pc0 := 41) (pc' := 3) rfl (hb hby d41_41) (by decide) (by decide) ?_
    refine XS.iload X8.here hx rfl (hb hby d41_3) rfl ?_
    refine XS.iload X8.here hx rfl (hb hby d41_5) rfl ?_
    refine XS.icmpNo X8.here hx rfl (hb hby d41_7) rfl (tlt (by decide : (2 : Int32) < (3 : Int32))).2.1 ?_
    refine XS.aloadN X8.here hx rfl (hb hby d41_10) rfl rfl ?_
    refine XS.iloadN X8.here hx rfl (hb hby d41_11) rfl ?_
    refine X8.caload hx (j := (2 : Int32)) (v := (.int c2)) (by rw [e8]; exact Ar11.1) (State.isArrayOf_alike hZ.alike Ar11.2.1) Ar11.2.2 hin11 hat11 (g := (mkF m 12 #[.val (.ref a1), .val (.int 2), .val (.ref a3), .val (.int 2), .val (.int 3), .val (.int 2), .val (.int c1)] [(.int 2), (.ref a1)])) rfl rfl (hb hby d41_12) _ ?_
    refine XS.istore X8.here hx rfl (hb hby d41_13) rfl (l' := #[.val (.ref a1), .val (.int 2), .val (.ref a3), .val (.int 2), .val (.int 3), .val (.int 2), .val (.int c2)]) rfl ?_
    show St p e below T8 (mkF m 15 #[.val (.ref a1), .val (.int 2), .val (.ref a3), .val (.int 2), .val (.int 3), .val (.int 2), .val (.int c2)] []) _
    refine XS.iload X8.here hx rfl (hb hby d41_15) rfl ?_
    refine XS.sipush X8.here hx rfl (hb hby d41_17) ?_
    refine XS.icmpYes X8.here hx rfl (pc0 := 20) (pc' := 26) rfl (hb hby d41_20) rfl (flt hb_c2).2.2.2 (by decide) (by decide) ?_
    refine XS.aloadN X8.here hx rfl (hb hby d41_26) rfl rfl ?_
    refine XS.iloadN X8.here hx rfl (hb hby d41_27) rfl ?_
    refine XS.iload X8.here hx rfl (hb hby d41_28) rfl ?_
    refine XS.i2b X8.here hx rfl (hb hby d41_30) rfl ?_
    refine st13 _ ?_
    show St p e below T13 (mkF m 32 #[.val (.ref a1), .val (.int 2), .val (.ref a3), .val (.int 2), .val (.int 3), .val (.int 2), .val (.int c2)] []) _
    refine XS.iinc X13.here hx rfl (hb hby d41_32) rfl (l' := #[.val (.ref a1), .val (.int ((2 : Int32) + (1 : Int32))), .val (.ref a3), .val (.int 2), .val (.int 3), .val (.int 2), .val (.int c2)]) rfl ?_
    show St p e below T13 (mkF m 35 #[.val (.ref a1), .val (.int ((2 : Int32) + (1 : Int32))), .val (.ref a3), .val (.int 2), .val (.int 3), .val (.int 2), .val (.int c2)] []) _
    rw [(by decide : ((2 : Int32) + (1 : Int32)) = (3 : Int32))]
    show St p e below T13 (mkF m 35 #[.val (.ref a1), .val (.int 3), .val (.ref a3), .val (.int 2), .val (.int 3), .val (.int 2), .val (.int c2)] []) _
    refine XS.iinc X13.here hx rfl (hb hby d41_35) rfl (l' := #[.val (.ref a1), .val (.int 3), .val (.ref a3), .val (.int ((2 : Int32) + (1 : Int32))), .val (.int 3), .val (.int 2), .val (.int c2)]) rfl ?_
    show St p e below T13 (mkF m 38 #[.val (.ref a1), .val (.int 3), .val (.ref a3), .val (.int ((2 : Int32) + (1 : Int32))), .val (.int 3), .val (.int 2), .val (.int c2)] []) _
    rw [(by decide : ((2 : Int32) + (1 : Int32)) = (3 : Int32))]
    show St p e below T13 (mkF m 38 #[.val (.ref a1), .val (.int 3), .val (.ref a3), .val (.int 3), .val (.int 3), .val (.int 2), .val (.int c2)] []) _
    refine XS.iinc X13.here hx rfl (hb hby d41_38) rfl (l' := #[.val (.ref a1), .val (.int 3), .val (.ref a3), .val (.int 3), .val (.int 3), .val (.int ((2 : Int32) + (1 : Int32))), .val (.int c2)]) rfl ?_
    show St p e below T13 (mkF m 41 #[.val (.ref a1), .val (.int 3), .val (.ref a3), .val (.int 3), .val (.int 3), .val (.int ((2 : Int32) + (1 : Int32))), .val (.int c2)] []) _
    rw [(by decide : ((2 : Int32) + (1 : Int32)) = (3 : Int32))]
    show St p e below T13 (mkF m 41 #[.val (.ref a1), .val (.int 3), .val (.ref a3), .val (.int 3), .val (.int 3), .val (.int 3), .val (.int c2)] []) _
    refine XS.goto X13.here hx rfl (pc0 := 41) (pc' := 3) rfl (hb hby d41_41) (by decide) (by decide) ?_
    refine XS.iload X13.here hx rfl (hb hby d41_3) rfl ?_
    refine XS.iload X13.here hx rfl (hb hby d41_5) rfl ?_
    refine XS.icmpYes X13.here hx rfl (pc0 := 7) (pc' := 44) rfl (hb hby d41_7) rfl (flt (by decide : ¬ ((3 : Int32) < (3 : Int32)))).2.1 (by decide) (by decide) ?_
    refine XS.iload X13.here hx rfl (hb hby d41_44) rfl ?_
    show St p e below T13 (mkF m 46 #[.val (.ref a1), .val (.int 3), .val (.ref a3), .val (.int 3), .val (.int 3), .val (.int 3), .val (.int c2)] [(.int 3)]) _
    exact retI X13 hx Bd.returns (hb hby d41_46) hr
  · show Q_cmp5_3 Z a1 a3 k_a1 c0 c1 c2 k_a3 h0 n0 _ T13.heap _
    rw [e13]
    exact ⟨rfl, N13, K14, V13⟩
def Q_cmp3_3 (Z : State) (a1 : Addr) (k_a1 : ClassId) (c0 : Int32) (c1 : Int32) (c2 : Int32) (h0 : Heap) (n0 : Nat) (v : Option Value) (h : Heap) (L : List Loc) : Prop := ∃ (t : Addr) (kt : ClassId), v = some (.ref t) ∧ Fr n0 L ∧ Keep h0 h [] ∧ h0.size ≤ t ∧ Arv Z h t kt .byte (3 : Int32) [(.int (c0.toInt8.toInt32)), (.int (c1.toInt8.toInt32)), (.int (c2.toInt8.toInt32))] (.int 0)
set_option maxRecDepth 65536 in
set_option maxHeartbeats 40000000 in
theorem rm_cmp3_3 (l : Launch) (Z : State) (a0 : Array Value) (hw : ∀ d ∈ tables_1, d.before a0 Z = true) (ws : List Jvm.Cond) (a1 : Addr) (k_a1 : ClassId) (c0 : Int32) (c1 : Int32) (c2 : Int32) (h0 : Heap) (n0 : Nat) (Z0 : n0 ≤ h0.size) (V_a1 : Arv Z h0 a1 k_a1 .char (3 : Int32) [(.int c0), (.int c1), (.int c2)] (.int 0)) (hb_c0 : ¬ ((255 : Int32) < c0)) (hb_c1 : ¬ ((255 : Int32) < c1)) (hb_c2 : ¬ ((255 : Int32) < c2)) (O0 : Old Z n0 h0) :
    MetFree l mn3 (head1 (Jvm.Cond.code mn3 jdk_52_method_16_code 6 (some (.array .byte)) :: ws) ro9) (fun a U => a = #[(.ref a1), (.int 0), (.int 3)] ∧ Z.Warmed39 U.vm ∧ U.heap = h0) (fun _ _ _ _ _ => True) (fun _ U o U' => ∃ v L, o = .returned v ∧ Q_cmp3_3 Z a1 k_a1 c0 c1 c2 h0 n0 v U'.heap L ∧ FrameEnd U o U' L ro9.cells ro9.slots) := by
  refine MetFree.of_bodySF (plainFor_of_name pn_40) hisR ?_
  intro p e s m args below meth c s₁ Bd hml0 hP hK
  obtain ⟨rfl, hZ, hh⟩ := hP
  have hx := Bd.exec
  have hby := Bd.bytes
  have hml : c.maxLocals = 6 := hml0
  have hown : s.vm.findClass "java/lang/StringUTF16" = some m.cls := findClass_of_methodNamed Bd.named
  have hnm := (name_of_methodNamed Bd.named Bd.method).1
  have X0 : Stand p l e ro9 s m #[(.ref a1), (.int 0), (.int 3)] below meth c s₁ [] 0 0 := Stand.of_body Bd
  have e0 : s₁.heap = h0 := by rw [← hh, Bd.state]; rfl
  have N0 := Fr.nil n0
  have pre0 : ∀ t, Steps p.tables e below (s₁.setTop (mkF m 0 #[.val (.ref a1), .val (.int 0), .val (.int 3), .unset, .unset, .unset] [])) t → Steps p.tables e below (s₁.setTop (entryFrame m #[(.ref a1), (.int 0), (.int 3)] 6)) t := fun t k => castTop (ef_40_RII m a1 (0 : Int32) (3 : Int32)) k
  obtain ⟨T1, h1, k1, X1, e1, E1, A1, st1⟩ := newP X0 hx hZ (hwi hw 15 rfl) e0 (g := (mkF m 1 #[.val (.ref a1), .val (.int 0), .val (.int 3), .unset, .unset, .unset] [(.int 3)])) rfl (hb hby d40_1) rfl (by decide) (cap := 3) (by decide) (by decide) (by decide) (by decide)
  obtain ⟨b1, g1⟩ : ∃ z, z = h0.size := ⟨_, rfl⟩
  rw [← g1] at A1 st1
  have bn_b1 : h0.size ≤ b1 := Nat.le_of_eq g1.symm
  have sz2 : h0.size ≤ h1.size := E1.1
  have Z2 : n0 ≤ h1.size := Nat.le_trans Z0 sz2
  have O2 := O0.ext E1
  have K2 : Keep h0 h1 [] := (Keep.refl h0 []).ext E1
  have V1 : Arv Z h1 b1 k1 .byte (3 : Int32) [(.int 0), (.int 0), (.int 0)] (.int 0) := (Arv.new A1 (by decide)).pad (pad_rep [] (.int 0) 3)
  have fc4 := (V_a1.ext E1)
  obtain ⟨_, _, ⟨T3, L3, k3, n3⟩, -, X3, ⟨Lc3, hQ3, l3, y3, z3⟩, st3⟩ := Jvm.LawKit.callS X1 hx (y := mn2) hown (mvT hZ (hwi hw 211 rfl)) (mvT hZ (hwi hw 212 rfl)) (mvT hZ (hwi hw 209 rfl)) (mvT hZ (hwi hw 213 rfl)) (by decide) (backOf (W := 0) (rm_cmp5_3 l Z a0 hw [] a1 b1 k_a1 c0 c1 c2 k1 h1 n0 Z2 fc4 V1 (neN (by have := ltN V_a1.lt; have := ltN V1.lt; omega)) hb_c0 hb_c1 hb_c2 (Nat.le_trans Z0 bn_b1) O2) hZ (hwi hw 213 rfl) (hwi hw 209 rfl) (by decide) (by decide)) (g := (mkF m 9 #[.val (.ref a1), .val (.int 0), .val (.int 3), .val (.ref b1), .unset, .unset] [(.int 3), (.int 0), (.ref b1), (.int 0), (.ref a1)])) rfl (by rw [hml]; rfl) (argsL := [(.ref a1), (.int 0), (.ref b1), (.int 0), (.int 3)]) (rest := []) (lenOf pd_CI_BII_I_688 rfl) rfl (by show 2 * 0 + _ ≤ _; exact Nat.le_of_eq rfl) (hb hby d40_9) (fun _ _ => ⟨rfl, e1, (by decide : 1 + 0 ≤ _), (by decide : 3 + 0 ≤ _)⟩)
  dsimp only [Pt.U, Pt.locs, Pt.cells, Pt.slots] at X3 l3 y3 z3 st3 hQ3
  subst l3 y3 z3
  obtain ⟨rfl, N3q, Kc3, g3_0⟩ := hQ3
  have N3 := Fr.app N0 N3q
  have sz5 : h1.size ≤ T3.heap.size := Kc3.1
  have Z5 : n0 ≤ T3.heap.size := Nat.le_trans Z2 sz5
  have O5 := O2.keep Kc3 (allS (Nat.le_trans Z0 bn_b1) all0)
  have K5 : Keep h0 T3.heap [] := K2.trans Kc3 (allS (Or.inr bn_b1) (all0))
  obtain ⟨fs, hr, hrun, hended, hW, hsame⟩ := X3.leave (v := some (.ref b1)) (fun h => by rw [Bd.returns] at h; cases h)
  refine ⟨_, _, pre0 _ ?_, hrun, hended, _, _, rfl, ?_, ⟨_, rfl⟩, hW, hsame.mono (by decide) (by decide)⟩
  · show St p e below s₁ (mkF m 0 #[.val (.ref a1), .val (.int 0), .val (.int 3), .unset, .unset, .unset] []) _
    refine XS.iloadN X0.here hx rfl (hb hby d40_0) rfl ?_
    refine st1 _ ?_
    refine XS.astoreN X1.here hx rfl (hb hby d40_3) rfl rfl (l' := #[.val (.ref a1), .val (.int 0), .val (.int 3), .val (.ref b1), .unset, .unset]) rfl ?_
    refine XS.aloadN X1.here hx rfl (hb hby d40_4) rfl rfl ?_
    refine XS.iloadN X1.here hx rfl (hb hby d40_5) rfl ?_
    refine XS.aloadN X1.here hx rfl (hb hby d40_6) rfl rfl ?_
    refine XS.iconst X1.here hx rfl (hb hby d40_7) ?_
    refine XS.iloadN X1.here hx rfl (hb hby d40_8) rfl ?_
    show St p e below T1 (mkF m 9 #[.val (.ref a1), .val (.int 0), .val (.int 3), .val (.ref b1), .unset, .unset] [(.int 3), (.int 0), (.ref b1), (.int 0), (.ref a1)]) _
    refine st3 _ ?_
    refine XS.istore X3.here hx rfl (hb hby d40_12) rfl (l' := #[.val (.ref a1), .val (.int 0), .val (.int 3), .val (.ref b1), .val (.int 3), .unset]) rfl ?_
    refine XS.iload X3.here hx rfl (hb hby d40_14) rfl ?_
    refine XS.iloadN X3.here hx rfl (hb hby d40_16) rfl ?_
    refine XS.icmpYes X3.here hx rfl (pc0 := 17) (pc' := 57) rfl (hb hby d40_17) rfl (teq (by decide : (3 : Int32) = (3 : Int32))).1 (by decide) (by decide) ?_
    refine XS.aloadN X3.here hx rfl (hb hby d40_57) rfl rfl ?_
    show St p e below T3 (mkF m 58 #[.val (.ref a1), .val (.int 0), .val (.int 3), .val (.ref b1), .val (.int 3), .unset] [(.ref b1)]) _
    jvm_step X3.here [X3.here.top, hx, (hb hby d40_58), X3.method', Bd.returns, Value.isRef, FieldType.isReference]
    first | (intro acts; rw [hr _ acts rfl rfl rfl]) | rw [hr _ _ rfl rfl rfl]
    exact Steps.refl _
  · show Q_cmp3_3 Z a1 k_a1 c0 c1 c2 h0 n0 _ T3.heap _
    exact ⟨b1, k1, rfl, N3, K5, bn_b1, g3_0⟩
def Q_cod_3 (Z : State) (a1 : Addr) (k_a1 : ClassId) (by0 : Int32) (by1 : Int32) (by2 : Int32) (h0 : Heap) (n0 : Nat) (v : Option Value) (h : Heap) (L : List Loc) : Prop := v = some (.int 0) ∧ Fr n0 L ∧ h = h0
set_option maxRecDepth 65536 in
set_option maxHeartbeats 40000000 in
theorem rm_cod_3 (l : Launch) (Z : State) (a0 : Array Value) (hw : ∀ d ∈ tables_1, d.before a0 Z = true) (ws : List Jvm.Cond) (a1 : Addr) (k_a1 : ClassId) (by0 : Int32) (by1 : Int32) (by2 : Int32) (h0 : Heap) (n0 : Nat) (Z0 : n0 ≤ h0.size) (V_a1 : Arv Z h0 a1 k_a1 .byte (3 : Int32) [(.int by0), (.int by1), (.int by2)] (.int 0)) :
    MetFree l mn4 (head1 (Jvm.Cond.code mn4 jdk_52_method_15_code 2 (some .byte) :: ws) ro2) (fun a U => a = #[(.ref a1), (.int 3)] ∧ Z.Warmed39 U.vm ∧ U.heap = h0) (fun _ _ _ _ _ => True) (fun _ U o U' => ∃ v L, o = .returned v ∧ Q_cod_3 Z a1 k_a1 by0 by1 by2 h0 n0 v U'.heap L ∧ FrameEnd U o U' L ro2.cells ro2.slots) := by
  refine MetFree.of_bodySF (plainFor_of_name pn_42) hisR ?_
  intro p e s m args below meth c s₁ Bd hml0 hP hK
  obtain ⟨rfl, hZ, hh⟩ := hP
  have hx := Bd.exec
  have hby := Bd.bytes
  have hml : c.maxLocals = 2 := hml0
  have hown : s.vm.findClass "java/lang/StringUTF16" = some m.cls := findClass_of_methodNamed Bd.named
  have hnm := (name_of_methodNamed Bd.named Bd.method).1
  have X0 : Stand p l e ro2 s m #[(.ref a1), (.int 3)] below meth c s₁ [] 0 0 := Stand.of_body Bd
  have e0 : s₁.heap = h0 := by rw [← hh, Bd.state]; rfl
  have N0 := Fr.nil n0
  have pre0 : ∀ t, Steps p.tables e below (s₁.setTop (mkF m 0 #[.val (.ref a1), .val (.int 3)] [])) t → Steps p.tables e below (s₁.setTop (entryFrame m #[(.ref a1), (.int 3)] 2)) t := fun t k => castTop (ef_42_RI m a1 (3 : Int32)) k
  obtain ⟨cl1, Ar1, -, S1, M1, -, -⟩ := id V_a1
  obtain ⟨fs, hr, hrun, hended, hW, hsame⟩ := X0.leave (v := some (.int 0)) (fun h => by rw [Bd.returns] at h; cases h)
  refine ⟨_, _, pre0 _ ?_, hrun, hended, _, _, rfl, ?_, ⟨_, rfl⟩, hW, hsame.mono (by decide) (by decide)⟩
  · show St p e below s₁ (mkF m 0 #[.val (.ref a1), .val (.int 3)] []) _
    refine XS.iloadN X0.here hx rfl (hb hby d42_0) rfl ?_
    refine XS.aloadN X0.here hx rfl (hb hby d42_1) rfl rfl ?_
    refine X0.arraylength hx (by rw [e0]; exact Ar1.1) (State.isArrayOf_alike hZ.alike Ar1.2.1) (g := (mkF m 2 #[.val (.ref a1), .val (.int 3)] [(.ref a1), (.int 3)])) rfl rfl (hb hby d42_2) _ ?_
    rw [len_of S1 M1]
    show St p e below s₁ (mkF m 3 #[.val (.ref a1), .val (.int 3)] [(.int 3), (.int 3)]) _
    refine XS.isub X0.here hx rfl (hb hby d42_3) rfl ?_
    show St p e below s₁ (mkF m 4 #[.val (.ref a1), .val (.int 3)] [(.int ((3 : Int32) - (3 : Int32)))]) _
    rw [(by decide : ((3 : Int32) - (3 : Int32)) = (0 : Int32))]
    show St p e below s₁ (mkF m 4 #[.val (.ref a1), .val (.int 3)] [(.int 0)]) _
    refine XS.bipush X0.here hx rfl (hb hby d42_4) ?_
    refine XS.iushr X0.here hx rfl (hb hby d42_6) rfl ?_
    show St p e below s₁ (mkF m 7 #[.val (.ref a1), .val (.int 3)] [(.int (((0 : Int32).toUInt32 >>> ((31 : Int32) &&& 31).toUInt32).toInt32))]) _
    rw [(by decide : (((0 : Int32).toUInt32 >>> ((31 : Int32) &&& 31).toUInt32).toInt32) = (0 : Int32))]
    show St p e below s₁ (mkF m 7 #[.val (.ref a1), .val (.int 3)] [(.int 0)]) _
    refine XS.i2b X0.here hx rfl (hb hby d42_7) rfl ?_
    show St p e below s₁ (mkF m 8 #[.val (.ref a1), .val (.int 3)] [(.int ((0 : Int32).toInt8.toInt32))]) _
    rw [(by decide : ((0 : Int32).toInt8.toInt32) = (0 : Int32))]
    show St p e below s₁ (mkF m 8 #[.val (.ref a1), .val (.int 3)] [(.int 0)]) _
    exact retN X0 hx (t := .byte) Bd.returns (by simp) (hb hby d42_8) hr
  · show Q_cod_3 Z a1 k_a1 by0 by1 by2 h0 n0 _ s₁.heap _
    rw [e0]
    exact ⟨rfl, N0, rfl⟩
def Q_new4_3 (Z : State) (a1 : Addr) (a2 : Addr) (w_COMPACT_STRINGS : Int32) (k_a2 : ClassId) (c0 : Int32) (c1 : Int32) (c2 : Int32) (u_a1_coder : Value) (u_a1_value : Value) (h0 : Heap) (n0 : Nat) (v : Option Value) (h : Heap) (L : List Loc) : Prop := ∃ (t : Addr) (kt : ClassId), v = none ∧ Fr n0 L ∧ Keep h0 h [a1] ∧ Exa Z h a1 "java/lang/String" ∧ Fld Z h a1 "java/lang/String" "coder" "B" (.int 0) ∧ Fld Z h a1 "java/lang/String" "value" "[B" (.ref t) ∧ h0.size ≤ t ∧ Arv Z h t kt .byte (3 : Int32) [(.int (c0.toInt8.toInt32)), (.int (c1.toInt8.toInt32)), (.int (c2.toInt8.toInt32))] (.int 0)
set_option maxRecDepth 65536 in
set_option maxHeartbeats 40000000 in
theorem rm_new4_3 (l : Launch) (Z : State) (a0 : Array Value) (hw : ∀ d ∈ tables_1, d.before a0 Z = true) (ws : List Jvm.Cond) (a1 : Addr) (a2 : Addr) (w_COMPACT_STRINGS : Int32) (k_a2 : ClassId) (c0 : Int32) (c1 : Int32) (c2 : Int32) (u_a1_coder : Value) (u_a1_value : Value) (h0 : Heap) (n0 : Nat) (Z0 : n0 ≤ h0.size) (S_COMPACT_STRINGS : Sta Z Z.heap "java/lang/String" "COMPACT_STRINGS" "Z" (.int w_COMPACT_STRINGS)) (hcs : ¬ (w_COMPACT_STRINGS = (0 : Int32))) (V_a2 : Arv Z h0 a2 k_a2 .char (3 : Int32) [(.int c0), (.int c1), (.int c2)] (.int 0)) (hb_c0 : ¬ ((255 : Int32) < c0)) (hb_c1 : ¬ ((255 : Int32) < c1)) (hb_c2 : ¬ ((255 : Int32) < c2)) (O0 : Old Z n0 h0) (E_a1 : Exa Z h0 a1 "java/lang/String") (F_a1_coder : Fld Z h0 a1 "java/lang/String" "coder" "B" u_a1_coder) (g_a1 : n0 ≤ a1) (F_a1_value : Fld Z h0 a1 "java/lang/String" "value" "[B" u_a1_value) :
    MetFree l mn0 (head1 (Jvm.Cond.code mn0 jdk_42_method_149_code 6 none :: ws) ro10) (fun a U => a = #[(.ref a1), (.ref a2), (.int 0), (.int 3), .null] ∧ Z.Warmed39 U.vm ∧ U.heap = h0) (fun _ _ _ _ _ => True) (fun _ U o U' => ∃ v L, o = .returned v ∧ Q_new4_3 Z a1 a2 w_COMPACT_STRINGS k_a2 c0 c1 c2 u_a1_coder u_a1_value h0 n0 v U'.heap L ∧ FrameEnd U o U' L ro10.cells ro10.slots) := by
  refine MetFree.of_bodySF (plainFor_of_name pn_2) hisR ?_
  intro p e s m args below meth c s₁ Bd hml0 hP hK
  obtain ⟨rfl, hZ, hh⟩ := hP
  have hx := Bd.exec
  have hby := Bd.bytes
  have hml : c.maxLocals = 6 := hml0
  have hown : s.vm.findClass "java/lang/String" = some m.cls := findClass_of_methodNamed Bd.named
  have hnm := (name_of_methodNamed Bd.named Bd.method).1
  have X0 : Stand p l e ro10 s m #[(.ref a1), (.ref a2), (.int 0), (.int 3), .null] below meth c s₁ [] 0 0 := Stand.of_body Bd
  have e0 : s₁.heap = h0 := by rw [← hh, Bd.state]; rfl
  have N0 := Fr.nil n0
  have pre0 : ∀ t, Steps p.tables e below (s₁.setTop (mkF m 0 #[.val (.ref a1), .val (.ref a2), .val (.int 0), .val (.int 3), .val .null, .unset] [])) t → Steps p.tables e below (s₁.setTop (entryFrame m #[(.ref a1), (.ref a2), (.int 0), (.int 3), .null] 6)) t := fun t k => castTop (ef_2_RRIIn m a1 a2 (0 : Int32) (3 : Int32)) k
  obtain ⟨T1, X1, e1, st1⟩ := initO X0 hx hZ hown (hwi hw 11 rfl) (hwi hw 12 rfl) (hwi hw 13 rfl) e0 (g := (mkF m 1 #[.val (.ref a1), .val (.ref a2), .val (.int 0), .val (.int 3), .val .null, .unset] [(.ref a1)])) rfl (by rw [hml]; rfl) rfl (hb hby d2_1) (by decide) (W := 0) (by show 2 * 0 + _ ≤ _; exact Nat.le_of_eq rfl) (by decide)
  obtain ⟨T2, X2, e2, st2⟩ := getS2 X1 hx hZ hown (host := "") (Or.inl (hwi hw 81 rfl)) Via.refl e1 (S_COMPACT_STRINGS.ext O0.2) (g := (mkF m 27 #[.val (.ref a1), .val (.ref a2), .val (.int 0), .val (.int 3), .val .null, .unset] [])) rfl (hb hby d2_27)
  obtain ⟨_, _, ⟨T3, L3, k3, n3⟩, -, X3, ⟨Lc3, hQ3, l3, y3, z3⟩, st3⟩ := Jvm.LawKit.callS X2 hx (y := mn3) hown (mvT hZ (hwi hw 207 rfl)) (mvT hZ (hwi hw 208 rfl)) (mvT hZ (hwi hw 209 rfl)) (mvT hZ (hwi hw 210 rfl)) (by decide) (backOf (W := 0) (rm_cmp3_3 l Z a0 hw [] a2 k_a2 c0 c1 c2 h0 n0 Z0 V_a2 hb_c0 hb_c1 hb_c2 O0) hZ (hwi hw 210 rfl) (hwi hw 209 rfl) (by decide) (by decide)) (g := (mkF m 36 #[.val (.ref a1), .val (.ref a2), .val (.int 0), .val (.int 3), .val .null, .unset] [(.int 3), (.int 0), (.ref a2)])) rfl (by rw [hml]; rfl) (argsL := [(.ref a2), (.int 0), (.int 3)]) (rest := []) (lenOf pd_CII__B_542 rfl) rfl (by show 2 * 0 + _ ≤ _; exact Nat.le_of_eq rfl) (hb hby d2_36) (fun _ _ => ⟨rfl, e2, (by decide : 0 + 1 ≤ _), (by decide : 0 + 3 ≤ _)⟩)
  dsimp only [Pt.U, Pt.locs, Pt.cells, Pt.slots] at X3 l3 y3 z3 st3 hQ3
  subst l3 y3 z3
  obtain ⟨t_3, kt_3, rfl, N3q, Kc3, g3_0, g3_1⟩ := hQ3
  have N3 := Fr.app N0 N3q
  have sz4 : h0.size ≤ T3.heap.size := Kc3.1
  have Z4 : n0 ≤ T3.heap.size := Nat.le_trans Z0 sz4
  have O4 := O0.keep Kc3 all0
  have K4 : Keep h0 T3.heap [a1] := (Keep.refl h0 [a1]).trans Kc3 (all0)
  have bn_t_3 : h0.size ≤ t_3 := g3_0
  obtain ⟨_, _, ⟨T5, L5, k5, n5⟩, -, X5, ⟨Lc5, hQ5, l5, y5, z5⟩, st5⟩ := Jvm.LawKit.callS X3 hx (y := mn4) hown (mvT hZ (hwi hw 214 rfl)) (mvT hZ (hwi hw 215 rfl)) (mvT hZ (hwi hw 209 rfl)) (mvT hZ (hwi hw 216 rfl)) (by decide) (backOf (W := 1) (rm_cod_3 l Z a0 hw [] t_3 kt_3 (c0.toInt8.toInt32) (c1.toInt8.toInt32) (c2.toInt8.toInt32) T3.heap n0 Z4 g3_1) hZ (hwi hw 216 rfl) (hwi hw 209 rfl) (by decide) (by decide)) (g := (mkF m 45 #[.val (.ref a1), .val (.ref a2), .val (.int 0), .val (.int 3), .val .null, .val (.ref t_3)] [(.int 3), (.ref t_3), (.ref a1)])) rfl (by rw [hml]; rfl) (argsL := [(.ref t_3), (.int 3)]) (rest := [(.ref a1)]) (lenOf pd_BI_B_377 rfl) rfl (by show 2 * 0 + _ ≤ _; exact Nat.le_of_eq rfl) (hb hby d2_45) (fun _ _ => ⟨rfl, rfl, (by decide : 1 + 0 ≤ _), (by decide : 3 + 0 ≤ _)⟩)
  dsimp only [Pt.U, Pt.locs, Pt.cells, Pt.slots] at X5 l5 y5 z5 st5 hQ5
  subst l5 y5 z5
  obtain ⟨rfl, N5q, e5⟩ := hQ5
  have N5 := Fr.app N3 N5q
  have fc6 := (E_a1.keep Kc3)
  have fc7 := (F_a1_coder.keep Kc3 nin0)
  obtain ⟨T8, h8, X8, e8, W8, st8⟩ := putFN X5 hx hZ hown (hwi hw 21 rfl) Via.refl e5 fc7 fc6 (Or.inr ⟨(hwi hw 17 rfl), rfl, hnm⟩) (hwi hw 2 rfl) (ty := .byte) (v' := (.int 0)) (by decide) rfl (by decide) (g := (mkF m 48 #[.val (.ref a1), .val (.ref a2), .val (.int 0), .val (.int 3), .val .null, .val (.ref t_3)] [(.int 0), (.ref a1)])) rfl rfl (hb hby d2_48)
  have N8 := Fr.snoc X8 N5 g_a1
  have Fw8 := fc7.same W8
  have sz9 : T3.heap.size ≤ h8.size := Nat.le_of_eq W8.size.symm
  have Z9 : n0 ≤ h8.size := Nat.le_trans Z4 sz9
  have O9 := O4.wr W8 g_a1
  have K9 : Keep h0 h8 [a1] := K4.wr W8 (Or.inl (List.mem_of_getElem? (i := 0) rfl))
  have fc10 := (fc6.wr W8)
  have fc11 := ((F_a1_value.keep Kc3 nin0).other W8 (Or.inr (slot_ne (Or.inr (hwi hw 16 rfl)) (Or.inr (hwi hw 17 rfl)) (by decide) (t := (.array .byte)) (t' := .byte) (by decide) (by decide))))
  obtain ⟨T12, h12, X12, e12, W12, st12⟩ := putF X8 hx hZ hown (host := "") (Or.inl (hwi hw 20 rfl)) Via.refl e8 fc11 fc10 (Or.inr ⟨(hwi hw 16 rfl), rfl, hnm⟩) (hwi hw 2 rfl) (ty := (.array .byte)) (by decide) rfl rfl (g := (mkF m 54 #[.val (.ref a1), .val (.ref a2), .val (.int 0), .val (.int 3), .val .null, .val (.ref t_3)] [(.ref t_3), (.ref a1)])) rfl rfl (hb hby d2_54)
  have N12 := Fr.snoc X12 N8 g_a1
  have Fw12 := fc11.same W12
  have sz13 : h8.size ≤ h12.size := Nat.le_of_eq W12.size.symm
  have Z13 : n0 ≤ h12.size := Nat.le_trans Z9 sz13
  have O13 := O9.wr W12 g_a1
  have K13 : Keep h0 h12 [a1] := K9.wr W12 (Or.inl (List.mem_of_getElem? (i := 0) rfl))
  have fc14 := (fc10.wr W12)
  have fc15 := (Fw8.other W12 (Or.inr (slot_ne (Or.inr (hwi hw 17 rfl)) (Or.inr (hwi hw 16 rfl)) (by decide) (t := .byte) (t' := (.array .byte)) (by decide) (by decide))))
  have fc16 := ((g3_1.other W8 (neN (by have := ltN E_a1.lt; have := ltN g3_1.lt; omega))).other W12 (neN (by have := ltN E_a1.lt; have := ltN g3_1.lt; omega)))
  obtain ⟨fs, hr, hrun, hended, hW, hsame⟩ := X12.leave (v := none) (fun _ => rfl)
  refine ⟨_, _, pre0 _ ?_, hrun, hended, _, _, rfl, ?_, ⟨_, rfl⟩, hW, hsame.mono (by decide) (by decide)⟩
  · show St p e below s₁ (mkF m 0 #[.val (.ref a1), .val (.ref a2), .val (.int 0), .val (.int 3), .val .null, .unset] []) _
    refine XS.aloadN X0.here hx rfl (hb hby d2_0) rfl rfl ?_
    refine st1 _ ?_
    refine XS.iloadN X1.here hx rfl (hb hby d2_4) rfl ?_
    refine XS.ifYes X1.here hx rfl (pc0 := 5) (pc' := 27) rfl (hb hby d2_5) rfl ((if0 _ _).trans (feq (by decide : ¬ ((3 : Int32) = (0 : Int32)))).2) (by decide) (by decide) ?_
    refine st2 _ ?_
    refine XS.ifNo X2.here hx rfl (hb hby d2_30) rfl ((if0 _ _).trans (feq hcs).1) ?_
    refine XS.aloadN X2.here hx rfl (hb hby d2_33) rfl rfl ?_
    refine XS.iloadN X2.here hx rfl (hb hby d2_34) rfl ?_
    show St p e below T2 (mkF m 35 #[.val (.ref a1), .val (.ref a2), .val (.int 0), .val (.int 3), .val .null, .unset] [(.int 0), (.ref a2)]) _
    refine XS.iloadN X2.here hx rfl (hb hby d2_35) rfl ?_
    refine st3 _ ?_
    refine XS.astore X3.here hx rfl (hb hby d2_39) rfl rfl (l' := #[.val (.ref a1), .val (.ref a2), .val (.int 0), .val (.int 3), .val .null, .val (.ref t_3)]) rfl ?_
    refine XS.aloadN X3.here hx rfl (hb hby d2_41) rfl rfl ?_
    refine XS.aload X3.here hx rfl (hb hby d2_42) rfl rfl ?_
    refine XS.iloadN X3.here hx rfl (hb hby d2_44) rfl ?_
    refine st5 _ ?_
    refine st8 _ ?_
    show St p e below T8 (mkF m 51 #[.val (.ref a1), .val (.ref a2), .val (.int 0), .val (.int 3), .val .null, .val (.ref t_3)] []) _
    refine XS.aloadN X8.here hx rfl (hb hby d2_51) rfl rfl ?_
    refine XS.aload X8.here hx rfl (hb hby d2_52) rfl rfl ?_
    refine st12 _ ?_
    show St p e below T12 (mkF m 57 #[.val (.ref a1), .val (.ref a2), .val (.int 0), .val (.int 3), .val .null, .val (.ref t_3)] []) _
    exact X12.returnOut hx Bd.returns (hb hby d2_57) hr
  · show Q_new4_3 Z a1 a2 w_COMPACT_STRINGS k_a2 c0 c1 c2 u_a1_coder u_a1_value h0 n0 _ T12.heap _
    rw [e12]
    exact ⟨t_3, kt_3, rfl, N12, K13, fc14, fc15, Fw12, bn_t_3, fc16⟩
def Q_new1_3 (Z : State) (a1 : Addr) (a2 : Addr) (w_COMPACT_STRINGS : Int32) (k_a2 : ClassId) (c0 : Int32) (c1 : Int32) (c2 : Int32) (u_a1_coder : Value) (u_a1_value : Value) (h0 : Heap) (n0 : Nat) (v : Option Value) (h : Heap) (L : List Loc) : Prop := ∃ (t : Addr) (kt : ClassId), v = none ∧ Fr n0 L ∧ Keep h0 h [a1] ∧ Exa Z h a1 "java/lang/String" ∧ Fld Z h a1 "java/lang/String" "coder" "B" (.int 0) ∧ Fld Z h a1 "java/lang/String" "value" "[B" (.ref t) ∧ h0.size ≤ t ∧ Arv Z h t kt .byte (3 : Int32) [(.int (c0.toInt8.toInt32)), (.int (c1.toInt8.toInt32)), (.int (c2.toInt8.toInt32))] (.int 0)
set_option maxRecDepth 65536 in
set_option maxHeartbeats 40000000 in
theorem rm_new1_3 (l : Launch) (Z : State) (a0 : Array Value) (hw : ∀ d ∈ tables_1, d.before a0 Z = true) (ws : List Jvm.Cond) (a1 : Addr) (a2 : Addr) (w_COMPACT_STRINGS : Int32) (k_a2 : ClassId) (c0 : Int32) (c1 : Int32) (c2 : Int32) (u_a1_coder : Value) (u_a1_value : Value) (h0 : Heap) (n0 : Nat) (Z0 : n0 ≤ h0.size) (S_COMPACT_STRINGS : Sta Z Z.heap "java/lang/String" "COMPACT_STRINGS" "Z" (.int w_COMPACT_STRINGS)) (hcs : ¬ (w_COMPACT_STRINGS = (0 : Int32))) (V_a2 : Arv Z h0 a2 k_a2 .char (3 : Int32) [(.int c0), (.int c1), (.int c2)] (.int 0)) (hb_c0 : ¬ ((255 : Int32) < c0)) (hb_c1 : ¬ ((255 : Int32) < c1)) (hb_c2 : ¬ ((255 : Int32) < c2)) (O0 : Old Z n0 h0) (E_a1 : Exa Z h0 a1 "java/lang/String") (F_a1_coder : Fld Z h0 a1 "java/lang/String" "coder" "B" u_a1_coder) (g_a1 : n0 ≤ a1) (F_a1_value : Fld Z h0 a1 "java/lang/String" "value" "[B" u_a1_value) :
    MetFree l mn1 (head1 (Jvm.Cond.code mn1 jdk_42_method_3_code 2 none :: ws) ro11) (fun a U => a = #[(.ref a1), (.ref a2)] ∧ Z.Warmed39 U.vm ∧ U.heap = h0) (fun _ _ _ _ _ => True) (fun _ U o U' => ∃ v L, o = .returned v ∧ Q_new1_3 Z a1 a2 w_COMPACT_STRINGS k_a2 c0 c1 c2 u_a1_coder u_a1_value h0 n0 v U'.heap L ∧ FrameEnd U o U' L ro11.cells ro11.slots) := by
  refine MetFree.of_bodySF (plainFor_of_name pn_1) hisR ?_
  intro p e s m args below meth c s₁ Bd hml0 hP hK
  obtain ⟨rfl, hZ, hh⟩ := hP
  have hx := Bd.exec
  have hby := Bd.bytes
  have hml : c.maxLocals = 2 := hml0
  have hown : s.vm.findClass "java/lang/String" = some m.cls := findClass_of_methodNamed Bd.named
  have hnm := (name_of_methodNamed Bd.named Bd.method).1
  have X0 : Stand p l e ro11 s m #[(.ref a1), (.ref a2)] below meth c s₁ [] 0 0 := Stand.of_body Bd
  have e0 : s₁.heap = h0 := by rw [← hh, Bd.state]; rfl
  have N0 := Fr.nil n0
  have pre0 : ∀ t, Steps p.tables e below (s₁.setTop (mkF m 0 #[.val (.ref a1), .val (.ref a2)] [])) t → Steps p.tables e below (s₁.setTop (entryFrame m #[(.ref a1), (.ref a2)] 2)) t := fun t k => castTop (ef_1_RR m a1 a2) k
  obtain ⟨cl1, Ar1, -, S1, M1, -, -⟩ := id V_a2
  obtain ⟨_, _, ⟨T2, L2, k2, n2⟩, -, X2, ⟨Lc2, hQ2, l2, y2, z2⟩, st2⟩ := X0.specialBack hx (y := mn0) rfl hown (mvT hZ (hwi hw 7 rfl)) (mvT hZ (hwi hw 8 rfl)) (mvT hZ (hwi hw 10 rfl)) (by decide) (backOf (W := 0) (rm_new4_3 l Z a0 hw [] a1 a2 w_COMPACT_STRINGS k_a2 c0 c1 c2 u_a1_coder u_a1_value h0 n0 Z0 S_COMPACT_STRINGS hcs V_a2 hb_c0 hb_c1 hb_c2 O0 E_a1 F_a1_coder g_a1 F_a1_value) hZ (hwi hw 10 rfl) (hwi hw 3 rfl) (by decide) (by decide)) (g := (mkF m 6 #[.val (.ref a1), .val (.ref a2)] [.null, (.int 3), (.int 0), (.ref a2), (.ref a1)])) rfl (by rw [hml]; rfl) (Steps.refl _) (a := a1) (argsL := [(.ref a2), (.int 0), (.int 3), .null]) (rest := []) (lenOf pd_CIILjava_lang_Void__V_938 rfl) rfl (by show 2 * 0 + _ ≤ _; exact Nat.le_of_eq rfl) (hb hby d1_6) (fun _ _ => ⟨rfl, e0, (by decide : 0 + 1 ≤ _), (by decide : 0 + 3 ≤ _)⟩)
  dsimp only [Pt.U, Pt.locs, Pt.cells, Pt.slots] at X2 l2 y2 z2 st2 hQ2
  subst l2 y2 z2
  obtain ⟨t_2, kt_2, rfl, N2q, Kc2, g2_0, g2_1, g2_2, g2_3, g2_4⟩ := hQ2
  have N2 := Fr.app N0 N2q
  have sz3 : h0.size ≤ T2.heap.size := Kc2.1
  have Z3 : n0 ≤ T2.heap.size := Nat.le_trans Z0 sz3
  have O3 := O0.keep Kc2 (allS g_a1 all0)
  have K3 : Keep h0 T2.heap [a1] := (Keep.refl h0 [a1]).trans Kc2 (allS (Or.inl (List.mem_of_getElem? (i := 0) rfl)) (all0))
  have bn_t_2 : h0.size ≤ t_2 := g2_3
  obtain ⟨fs, hr, hrun, hended, hW, hsame⟩ := X2.leave (v := none) (fun _ => rfl)
  refine ⟨_, _, pre0 _ ?_, hrun, hended, _, _, rfl, ?_, ⟨_, rfl⟩, hW, hsame.mono (by decide) (by decide)⟩
  · show St p e below s₁ (mkF m 0 #[.val (.ref a1), .val (.ref a2)] []) _
    refine XS.aloadN X0.here hx rfl (hb hby d1_0) rfl rfl ?_
    refine XS.aloadN X0.here hx rfl (hb hby d1_1) rfl rfl ?_
    refine XS.iconst X0.here hx rfl (hb hby d1_2) ?_
    refine XS.aloadN X0.here hx rfl (hb hby d1_3) rfl rfl ?_
    refine X0.arraylength hx (by rw [e0]; exact Ar1.1) (State.isArrayOf_alike hZ.alike Ar1.2.1) (g := (mkF m 4 #[.val (.ref a1), .val (.ref a2)] [(.ref a2), (.int 0), (.ref a2), (.ref a1)])) rfl rfl (hb hby d1_4) _ ?_
    rw [len_of S1 M1]
    show St p e below s₁ (mkF m 5 #[.val (.ref a1), .val (.ref a2)] [(.int 3), (.int 0), (.ref a2), (.ref a1)]) _
    refine XS.aconstNull X0.here hx rfl (hb hby d1_5) ?_
    refine st2.trans ?_
    show St p e below T2 (mkF m 9 #[.val (.ref a1), .val (.ref a2)] []) _
    exact X2.returnOut hx Bd.returns (hb hby d1_9) hr
  · show Q_new1_3 Z a1 a2 w_COMPACT_STRINGS k_a2 c0 c1 c2 u_a1_coder u_a1_value h0 n0 _ T2.heap _
    exact ⟨t_2, kt_2, rfl, N2, K3, g2_0, g2_1, g2_2, bn_t_2, g2_4⟩
theorem d12_0 : decode jdk_42_method_152_code 0 = .ok (.getstatic 38, 3) := by decide +kernel
theorem d12_3 : decode jdk_42_method_152_code 3 = .ok (.ifCond .eq 10, 3) := by decide +kernel
theorem d12_6 : decode jdk_42_method_152_code 6 = .ok (.aload_n 0, 1) := by decide +kernel
theorem d12_7 : decode jdk_42_method_152_code 7 = .ok (.getfield 15, 3) := by decide +kernel
theorem d12_10 : decode jdk_42_method_152_code 10 = .ok (.goto 4, 3) := by decide +kernel
theorem d12_14 : decode jdk_42_method_152_code 14 = .ok (.ireturn, 1) := by decide +kernel
theorem pn_12 : plainName "java/lang/String" = true := by first | (simp [plainName, overriddenIn]; done) | decide +kernel
theorem ef_12_R (m : MethodId) (x0 : Addr) : entryFrame m #[(.ref x0)] 1 = mkF m 0 #[.val (.ref x0)] [] := by first | (simp [entryFrame, mkF, argsToLocals, Value.category]; done) | rfl
def Q_coder0 (Z : State) (a1 : Addr) (w_COMPACT_STRINGS : Int32) (h0 : Heap) (n0 : Nat) (v : Option Value) (h : Heap) (L : List Loc) : Prop := v = some (.int 0) ∧ Fr n0 L ∧ h = h0
set_option maxRecDepth 65536 in
set_option maxHeartbeats 40000000 in
theorem rm_coder0 (l : Launch) (Z : State) (a0 : Array Value) (hw : ∀ d ∈ tables_1, d.before a0 Z = true) (ws : List Jvm.Cond) (a1 : Addr) (w_COMPACT_STRINGS : Int32) (h0 : Heap) (n0 : Nat) (Z0 : n0 ≤ h0.size) (S_COMPACT_STRINGS : Sta Z Z.heap "java/lang/String" "COMPACT_STRINGS" "Z" (.int w_COMPACT_STRINGS)) (hcs : ¬ (w_COMPACT_STRINGS = (0 : Int32))) (F_a1_coder : Fld Z h0 a1 "java/lang/String" "coder" "B" (.int 0)) (O0 : Old Z n0 h0) :
    MetFree l mn5 (head1 (Jvm.Cond.code mn5 jdk_42_method_152_code 1 (some .byte) :: ws) ro2) (fun a U => a = #[(.ref a1)] ∧ Z.Warmed39 U.vm ∧ U.heap = h0) (fun _ _ _ _ _ => True) (fun _ U o U' => ∃ v L, o = .returned v ∧ Q_coder0 Z a1 w_COMPACT_STRINGS h0 n0 v U'.heap L ∧ FrameEnd U o U' L ro2.cells ro2.slots) := by
  refine MetFree.of_bodySF (plainFor_of_name pn_12) hisR ?_
  intro p e s m args below meth c s₁ Bd hml0 hP hK
  obtain ⟨rfl, hZ, hh⟩ := hP
  have hx := Bd.exec
  have hby := Bd.bytes
  have hml : c.maxLocals = 1 := hml0
  have hown : s.vm.findClass "java/lang/String" = some m.cls := findClass_of_methodNamed Bd.named
  have hnm := (name_of_methodNamed Bd.named Bd.method).1
  have X0 : Stand p l e ro2 s m #[(.ref a1)] below meth c s₁ [] 0 0 := Stand.of_body Bd
  have e0 : s₁.heap = h0 := by rw [← hh, Bd.state]; rfl
  have N0 := Fr.nil n0
  have pre0 : ∀ t, Steps p.tables e below (s₁.setTop (mkF m 0 #[.val (.ref a1)] [])) t → Steps p.tables e below (s₁.setTop (entryFrame m #[(.ref a1)] 1)) t := fun t k => castTop (ef_12_R m a1) k
  obtain ⟨T1, X1, e1, st1⟩ := getS2 X0 hx hZ hown (host := "") (Or.inl (hwi hw 81 rfl)) Via.refl e0 (S_COMPACT_STRINGS.ext O0.2) (g := (mkF m 0 #[.val (.ref a1)] [])) rfl (hb hby d12_0)
  obtain ⟨T2, X2, e2, st2⟩ := getF X1 hx hZ hown (host := "") (Or.inl (hwi hw 21 rfl)) Via.refl e1 F_a1_coder (g := (mkF m 7 #[.val (.ref a1)] [(.ref a1)])) rfl rfl (hb hby d12_7)
  obtain ⟨fs, hr, hrun, hended, hW, hsame⟩ := X2.leave (v := some (.int 0)) (fun h => by rw [Bd.returns] at h; cases h)
  refine ⟨_, _, pre0 _ ?_, hrun, hended, _, _, rfl, ?_, ⟨_, rfl⟩, hW, hsame.mono (by decide) (by decide)⟩
  · show St p e below s₁ (mkF m 0 #[.val (.ref a1)] []) _
    refine st1 _ ?_
    refine XS.ifNo X1.here hx rfl (hb hby d12_3) rfl ((if0 _ _).trans (feq hcs).1) ?_
    refine XS.aloadN X1.here hx rfl (hb hby d12_6) rfl rfl ?_
    refine st2 _ ?_
    refine XS.goto X2.here hx rfl (pc0 := 10) (pc' := 14) rfl (hb hby d12_10) (by decide) (by decide) ?_
    show St p e below T2 (mkF m 14 #[.val (.ref a1)] [(.int 0)]) _
    exact retN X2 hx (t := .byte) Bd.returns (by simp) (hb hby d12_14) hr
  · show Q_coder0 Z a1 w_COMPACT_STRINGS h0 n0 _ T2.heap _
    rw [e2]
    exact ⟨rfl, N0, rfl⟩
theorem pd_B_147 : parseMethodDescriptor "()B" = some ⟨[], some .byte⟩ := by decide +kernel
theorem d11_0 : decode jdk_42_method_54_code 0 = .ok (.aload_n 0, 1) := by decide +kernel
theorem d11_1 : decode jdk_42_method_54_code 1 = .ok (.getfield 9, 3) := by decide +kernel
theorem d11_4 : decode jdk_42_method_54_code 4 = .ok (.arraylength, 1) := by decide +kernel
theorem d11_5 : decode jdk_42_method_54_code 5 = .ok (.aload_n 0, 1) := by decide +kernel
theorem d11_6 : decode jdk_42_method_54_code 6 = .ok (.invokevirtual 335, 3) := by decide +kernel
theorem d11_9 : decode jdk_42_method_54_code 9 = .ok (.ishr, 1) := by decide +kernel
theorem d11_10 : decode jdk_42_method_54_code 10 = .ok (.ireturn, 1) := by decide +kernel
theorem pn_11 : plainName "java/lang/String" = true := by first | (simp [plainName, overriddenIn]; done) | decide +kernel
theorem ef_11_R (m : MethodId) (x0 : Addr) : entryFrame m #[(.ref x0)] 1 = mkF m 0 #[.val (.ref x0)] [] := by first | (simp [entryFrame, mkF, argsToLocals, Value.category]; done) | rfl
def Q_slen (Z : State) (a1 : Addr) (w_COMPACT_STRINGS : Int32) (t_a1 : Addr) (k_t_a1 : ClassId) (vs : List Value) (N : Int32) (h0 : Heap) (n0 : Nat) (v : Option Value) (h : Heap) (L : List Loc) : Prop := v = some (.int N) ∧ Fr n0 L ∧ h = h0
set_option maxRecDepth 65536 in
set_option maxHeartbeats 40000000 in
theorem rm_slen (l : Launch) (Z : State) (a0 : Array Value) (hw : ∀ d ∈ tables_1, d.before a0 Z = true) (ws : List Jvm.Cond) (a1 : Addr) (w_COMPACT_STRINGS : Int32) (t_a1 : Addr) (k_t_a1 : ClassId) (vs : List Value) (N : Int32) (h0 : Heap) (n0 : Nat) (Z0 : n0 ≤ h0.size) (S_COMPACT_STRINGS : Sta Z Z.heap "java/lang/String" "COMPACT_STRINGS" "Z" (.int w_COMPACT_STRINGS)) (hcs : ¬ (w_COMPACT_STRINGS = (0 : Int32))) (E_a1 : Exa Z h0 a1 "java/lang/String") (F_a1_coder : Fld Z h0 a1 "java/lang/String" "coder" "B" (.int 0)) (F_a1_value : Fld Z h0 a1 "java/lang/String" "value" "[B" (.ref t_a1)) (V_t_a1 : Arv Z h0 t_a1 k_t_a1 .byte N vs (.int 0)) (O0 : Old Z n0 h0) (hN : (N >>> ((0 : Int32) &&& 31)) = N) :
    MetFree l mn6 (head1 (Jvm.Cond.code mn6 jdk_42_method_54_code 1 (some .int) :: ws) ro12) (fun a U => a = #[(.ref a1)] ∧ Z.Warmed39 U.vm ∧ U.heap = h0) (fun _ _ _ _ _ => True) (fun _ U o U' => ∃ v L, o = .returned v ∧ Q_slen Z a1 w_COMPACT_STRINGS t_a1 k_t_a1 vs N h0 n0 v U'.heap L ∧ FrameEnd U o U' L ro12.cells ro12.slots) := by
  refine MetFree.of_bodySF (plainFor_of_name pn_11) hisR ?_
  intro p e s m args below meth c s₁ Bd hml0 hP hK
  obtain ⟨rfl, hZ, hh⟩ := hP
  have hx := Bd.exec
  have hby := Bd.bytes
  have hml : c.maxLocals = 1 := hml0
  have hown : s.vm.findClass "java/lang/String" = some m.cls := findClass_of_methodNamed Bd.named
  have hnm := (name_of_methodNamed Bd.named Bd.method).1
  have X0 : Stand p l e ro12 s m #[(.ref a1)] below meth c s₁ [] 0 0 := Stand.of_body Bd
  have e0 : s₁.heap = h0 := by rw [← hh, Bd.state]; rfl
  have N0 := Fr.nil n0
  have pre0 : ∀ t, Steps p.tables e below (s₁.setTop (mkF m 0 #[.val (.ref a1)] [])) t → Steps p.tables e below (s₁.setTop (entryFrame m #[(.ref a1)] 1)) t := fun t k => castTop (ef_11_R m a1) k
  obtain ⟨T1, X1, e1, st1⟩ := getF X0 hx hZ hown (host := "") (Or.inl (hwi hw 20 rfl)) Via.refl e0 F_a1_value (g := (mkF m 1 #[.val (.ref a1)] [(.ref a1)])) rfl rfl (hb hby d11_1)
  obtain ⟨cl2, Ar2, -, S2, M2, -, -⟩ := id V_t_a1
  obtain ⟨cq3, kq3, q3a, q3b, q3c⟩ := isOf hZ e1 E_a1
  obtain ⟨_, _, ⟨T3, L3, k3, n3⟩, -, X3, ⟨Lc3, hQ3, l3, y3, z3⟩, st3⟩ := X1.virtualBack hx (y := mn5) (z := mn5) hown (mvT hZ (hwi hw 76 rfl)) (mvT hZ (hwi hw 77 rfl)) (notFace_of_selects (args := #[]) (mvT hZ (hwi hw 79 rfl))) (mvT hZ (hwi hw 79 rfl)) (mvT hZ (hwi hw 78 rfl)) (by decide) (backOf (W := 1) (rm_coder0 l Z a0 hw [] a1 w_COMPACT_STRINGS h0 n0 Z0 S_COMPACT_STRINGS hcs F_a1_coder O0) hZ (hwi hw 80 rfl) (hwi hw 3 rfl) (by decide) (by decide)) q3a q3c (g := (mkF m 6 #[.val (.ref a1)] [(.ref a1), (.int N)])) rfl (by rw [hml]; rfl) (Steps.refl _) (argsL := []) (rest := [(.int N)]) (lenOf pd_B_147 rfl) rfl (by show 2 * 0 + _ ≤ _; exact Nat.le_of_eq rfl) (hb hby d11_6) (fun _ _ => ⟨rfl, e1, (by decide : 0 + 0 ≤ _), (by decide : 0 + 0 ≤ _)⟩)
  dsimp only [Pt.U, Pt.locs, Pt.cells, Pt.slots] at X3 l3 y3 z3 st3 hQ3
  subst l3 y3 z3
  obtain ⟨rfl, N3q, e3⟩ := hQ3
  have N3 := Fr.app N0 N3q
  obtain ⟨fs, hr, hrun, hended, hW, hsame⟩ := X3.leave (v := some (.int N)) (fun h => by rw [Bd.returns] at h; cases h)
  refine ⟨_, _, pre0 _ ?_, hrun, hended, _, _, rfl, ?_, ⟨_, rfl⟩, hW, hsame.mono (by decide) (by decide)⟩
  · show St p e below s₁ (mkF m 0 #[.val (.ref a1)] []) _
    refine XS.aloadN X0.here hx rfl (hb hby d11_0) rfl rfl ?_
    refine st1 _ ?_
    refine X1.arraylength hx (by rw [e1]; exact Ar2.1) (State.isArrayOf_alike hZ.alike Ar2.2.1) (g := (mkF m 4 #[.val (.ref a1)] [(.ref t_a1)])) rfl rfl (hb hby d11_4) _ ?_
    rw [len_of S2 M2]
    show St p e below T1 (mkF m 5 #[.val (.ref a1)] [(.int N)]) _
    refine XS.aloadN X1.here hx rfl (hb hby d11_5) rfl rfl ?_
    refine st3.trans ?_
    refine XS.ishr X3.here hx rfl (hb hby d11_9) rfl ?_
    show St p e below T3 (mkF m 10 #[.val (.ref a1)] [(.int (N >>> ((0 : Int32) &&& 31)))]) _
    rw [hN]
    show St p e below T3 (mkF m 10 #[.val (.ref a1)] [(.int N)]) _
    exact retI X3 hx Bd.returns (hb hby d11_10) hr
  · show Q_slen Z a1 w_COMPACT_STRINGS t_a1 k_t_a1 vs N h0 n0 _ T3.heap _
    rw [e3]
    exact ⟨rfl, N3, rfl⟩
theorem d37_0 : decode jdk_41_method_11_code 0 = .ok (.iload_n 0, 1) := by decide +kernel
theorem d37_1 : decode jdk_41_method_11_code 1 = .ok (.ifCond .lt 8, 3) := by decide +kernel
theorem d37_4 : decode jdk_41_method_11_code 4 = .ok (.iload_n 0, 1) := by decide +kernel
theorem d37_5 : decode jdk_41_method_11_code 5 = .ok (.iload_n 1, 1) := by decide +kernel
theorem d37_6 : decode jdk_41_method_11_code 6 = .ok (.if_icmp .lt 10, 3) := by decide +kernel
theorem d37_16 : decode jdk_41_method_11_code 16 = .ok (.iload_n 0, 1) := by decide +kernel
theorem d37_17 : decode jdk_41_method_11_code 17 = .ok (.ireturn, 1) := by decide +kernel
theorem pn_37 : plainName "jdk/internal/util/Preconditions" = true := by first | (simp [plainName, overriddenIn]; done) | decide +kernel
theorem ef_37_IIR (m : MethodId) (x0 : Int32) (x1 : Int32) (x2 : Addr) : entryFrame m #[(.int x0), (.int x1), (.ref x2)] 3 = mkF m 0 #[.val (.int x0), .val (.int x1), .val (.ref x2)] [] := by first | (simp [entryFrame, mkF, argsToLocals, Value.category]; done) | rfl
def Q_pchk_ref (Z : State) (p1 : Int32) (p2 : Int32) (a3 : Addr) (h0 : Heap) (n0 : Nat) (v : Option Value) (h : Heap) (L : List Loc) : Prop := v = some (.int p1) ∧ Fr n0 L ∧ h = h0
set_option maxRecDepth 65536 in
set_option maxHeartbeats 40000000 in
theorem rm_pchk_ref (l : Launch) (Z : State) (a0 : Array Value) (hw : ∀ d ∈ tables_1, d.before a0 Z = true) (ws : List Jvm.Cond) (p1 : Int32) (p2 : Int32) (a3 : Addr) (h0 : Heap) (n0 : Nat) (Z0 : n0 ≤ h0.size) (hj0 : ¬ (p1 < (0 : Int32))) (hj1 : p1 < p2) :
    MetFree l mn7 (head1 (Jvm.Cond.code mn7 jdk_41_method_11_code 3 (some .int) :: ws) ro2) (fun a U => a = #[(.int p1), (.int p2), (.ref a3)] ∧ Z.Warmed39 U.vm ∧ U.heap = h0) (fun _ _ _ _ _ => True) (fun _ U o U' => ∃ v L, o = .returned v ∧ Q_pchk_ref Z p1 p2 a3 h0 n0 v U'.heap L ∧ FrameEnd U o U' L ro2.cells ro2.slots) := by
  refine MetFree.of_bodySF (plainFor_of_name pn_37) hisR ?_
  intro p e s m args below meth c s₁ Bd hml0 hP hK
  obtain ⟨rfl, hZ, hh⟩ := hP
  have hx := Bd.exec
  have hby := Bd.bytes
  have hml : c.maxLocals = 3 := hml0
  have hown : s.vm.findClass "jdk/internal/util/Preconditions" = some m.cls := findClass_of_methodNamed Bd.named
  have hnm := (name_of_methodNamed Bd.named Bd.method).1
  have X0 : Stand p l e ro2 s m #[(.int p1), (.int p2), (.ref a3)] below meth c s₁ [] 0 0 := Stand.of_body Bd
  have e0 : s₁.heap = h0 := by rw [← hh, Bd.state]; rfl
  have N0 := Fr.nil n0
  have pre0 : ∀ t, Steps p.tables e below (s₁.setTop (mkF m 0 #[.val (.int p1), .val (.int p2), .val (.ref a3)] [])) t → Steps p.tables e below (s₁.setTop (entryFrame m #[(.int p1), (.int p2), (.ref a3)] 3)) t := fun t k => castTop (ef_37_IIR m p1 p2 a3) k
  obtain ⟨fs, hr, hrun, hended, hW, hsame⟩ := X0.leave (v := some (.int p1)) (fun h => by rw [Bd.returns] at h; cases h)
  refine ⟨_, _, pre0 _ ?_, hrun, hended, _, _, rfl, ?_, ⟨_, rfl⟩, hW, hsame.mono (by decide) (by decide)⟩
  · show St p e below s₁ (mkF m 0 #[.val (.int p1), .val (.int p2), .val (.ref a3)] []) _
    refine XS.iloadN X0.here hx rfl (hb hby d37_0) rfl ?_
    refine XS.ifNo X0.here hx rfl (hb hby d37_1) rfl ((if0 _ _).trans (flt hj0).1) ?_
    refine XS.iloadN X0.here hx rfl (hb hby d37_4) rfl ?_
    refine XS.iloadN X0.here hx rfl (hb hby d37_5) rfl ?_
    refine XS.icmpYes X0.here hx rfl (pc0 := 6) (pc' := 16) rfl (hb hby d37_6) rfl (tlt hj1).1 (by decide) (by decide) ?_
    refine XS.iloadN X0.here hx rfl (hb hby d37_16) rfl ?_
    show St p e below s₁ (mkF m 17 #[.val (.int p1), .val (.int p2), .val (.ref a3)] [(.int p1)]) _
    exact retI X0 hx Bd.returns (hb hby d37_17) hr
  · show Q_pchk_ref Z p1 p2 a3 h0 n0 _ s₁.heap _
    rw [e0]
    exact ⟨rfl, N0, rfl⟩
theorem pd_IILjava_util_function_BiFunction__I_319 : parseMethodDescriptor "(IILjava/util/function/BiFunction;)I" = some ⟨[.int, .int, (.object "java/util/function/BiFunction")], some .int⟩ := by decide +kernel
theorem d36_0 : decode jdk_42_method_155_code 0 = .ok (.iload_n 0, 1) := by decide +kernel
theorem d36_1 : decode jdk_42_method_155_code 1 = .ok (.iload_n 1, 1) := by decide +kernel
theorem d36_2 : decode jdk_42_method_155_code 2 = .ok (.getstatic 1053, 3) := by decide +kernel
theorem d36_5 : decode jdk_42_method_155_code 5 = .ok (.invokestatic 1059, 3) := by decide +kernel
theorem d36_8 : decode jdk_42_method_155_code 8 = .ok (.pop, 1) := by decide +kernel
theorem d36_9 : decode jdk_42_method_155_code 9 = .ok (.return_, 1) := by decide +kernel
theorem pn_36 : plainName "java/lang/String" = true := by first | (simp [plainName, overriddenIn]; done) | decide +kernel
theorem ef_36_II (m : MethodId) (x0 : Int32) (x1 : Int32) : entryFrame m #[(.int x0), (.int x1)] 2 = mkF m 0 #[.val (.int x0), .val (.int x1)] [] := by first | (simp [entryFrame, mkF, argsToLocals, Value.category]; done) | rfl
def Q_pure (r : Option Value) (h0 : Heap) (n0 : Nat) (v : Option Value) (h : Heap) (L : List Loc) : Prop := v = r ∧ Fr n0 L ∧ h = h0
set_option maxRecDepth 65536 in
set_option maxHeartbeats 40000000 in
theorem rm_schk_ref (l : Launch) (Z : State) (a0 : Array Value) (hw : ∀ d ∈ tables_1, d.before a0 Z = true) (ws : List Jvm.Cond) (p1 : Int32) (p2 : Int32) (fa : Addr) (h0 : Heap) (n0 : Nat) (Z0 : n0 ≤ h0.size) (hj0 : ¬ (p1 < (0 : Int32))) (hj1 : p1 < p2) (S_SIOOBE_FORMATTER : Sta Z Z.heap "jdk/internal/util/Preconditions" "SIOOBE_FORMATTER" "Ljava/util/function/BiFunction;" (.ref fa)) (O0 : Old Z n0 h0) :
    MetFree l mn8 (head1 (Jvm.Cond.code mn8 jdk_42_method_155_code 2 none :: ws) ro13) (fun a U => a = #[(.int p1), (.int p2)] ∧ Z.Warmed39 U.vm ∧ U.heap = h0) (fun _ _ _ _ _ => True) (fun _ U o U' => ∃ v L, o = .returned v ∧ Q_pure none h0 n0 v U'.heap L ∧ FrameEnd U o U' L ro13.cells ro13.slots) := by
  refine MetFree.of_bodySF (plainFor_of_name pn_36) hisR ?_
  intro p e s m args below meth c s₁ Bd hml0 hP hK
  obtain ⟨rfl, hZ, hh⟩ := hP
  have hx := Bd.exec
  have hby := Bd.bytes
  have hml : c.maxLocals = 2 := hml0
  have hown : s.vm.findClass "java/lang/String" = some m.cls := findClass_of_methodNamed Bd.named
  have hnm := (name_of_methodNamed Bd.named Bd.method).1
  have X0 : Stand p l e ro13 s m #[(.int p1), (.int p2)] below meth c s₁ [] 0 0 := Stand.of_body Bd
  have e0 : s₁.heap = h0 := by rw [← hh, Bd.state]; rfl
  have N0 := Fr.nil n0
  have pre0 : ∀ t, Steps p.tables e below (s₁.setTop (mkF m 0 #[.val (.int p1), .val (.int p2)] [])) t → Steps p.tables e below (s₁.setTop (entryFrame m #[(.int p1), (.int p2)] 2)) t := fun t k => castTop (ef_36_II m p1 p2) k
  obtain ⟨T1, X1, e1, st1⟩ := getS2 X0 hx hZ hown (host := "") (Or.inl (hwi hw 196 rfl)) Via.refl e0 (S_SIOOBE_FORMATTER.ext O0.2) (g := (mkF m 2 #[.val (.int p1), .val (.int p2)] [(.int p2), (.int p1)])) rfl (hb hby d36_2)
  obtain ⟨_, _, ⟨T2, L2, k2, n2⟩, -, X2, ⟨Lc2, hQ2, l2, y2, z2⟩, st2⟩ := Jvm.LawKit.callS X1 hx (y := mn7) hown (mvT hZ (hwi hw 198 rfl)) (mvT hZ (hwi hw 199 rfl)) (mvT hZ (hwi hw 197 rfl)) (mvT hZ (hwi hw 200 rfl)) (by decide) (backOf (W := 0) (rm_pchk_ref l Z a0 hw [] p1 p2 fa h0 n0 Z0 hj0 hj1) hZ (hwi hw 200 rfl) (hwi hw 197 rfl) (by decide) (by decide)) (g := (mkF m 5 #[.val (.int p1), .val (.int p2)] [(.ref fa), (.int p2), (.int p1)])) rfl (by rw [hml]; rfl) (argsL := [(.int p1), (.int p2), (.ref fa)]) (rest := []) (lenOf pd_IILjava_util_function_BiFunction__I_319 rfl) rfl (by show 2 * 0 + _ ≤ _; exact Nat.le_of_eq rfl) (hb hby d36_5) (fun _ _ => ⟨rfl, e1, (by decide : 0 + 0 ≤ _), (by decide : 0 + 0 ≤ _)⟩)
  dsimp only [Pt.U, Pt.locs, Pt.cells, Pt.slots] at X2 l2 y2 z2 st2 hQ2
  subst l2 y2 z2
  obtain ⟨rfl, N2q, e2⟩ := hQ2
  have N2 := Fr.app N0 N2q
  obtain ⟨fs, hr, hrun, hended, hW, hsame⟩ := X2.leave (v := none) (fun _ => rfl)
  refine ⟨_, _, pre0 _ ?_, hrun, hended, _, _, rfl, ?_, ⟨_, rfl⟩, hW, hsame.mono (by decide) (by decide)⟩
  · show St p e below s₁ (mkF m 0 #[.val (.int p1), .val (.int p2)] []) _
    refine XS.iloadN X0.here hx rfl (hb hby d36_0) rfl ?_
    refine XS.iloadN X0.here hx rfl (hb hby d36_1) rfl ?_
    refine st1 _ ?_
    refine st2 _ ?_
    refine XS.pop X2.here hx rfl (hb hby d36_8) rfl rfl ?_
    show St p e below T2 (mkF m 9 #[.val (.int p1), .val (.int p2)] []) _
    exact X2.returnOut hx Bd.returns (hb hby d36_9) hr
  · show Q_pure none h0 n0 _ T2.heap _
    rw [e2]
    exact ⟨rfl, N2, rfl⟩
theorem ef_37_IIn (m : MethodId) (x0 : Int32) (x1 : Int32) : entryFrame m #[(.int x0), (.int x1), .null] 3 = mkF m 0 #[.val (.int x0), .val (.int x1), .val .null] [] := by first | (simp [entryFrame, mkF, argsToLocals, Value.category]; done) | rfl
def Q_pchk_null (Z : State) (p1 : Int32) (p2 : Int32) (h0 : Heap) (n0 : Nat) (v : Option Value) (h : Heap) (L : List Loc) : Prop := v = some (.int p1) ∧ Fr n0 L ∧ h = h0
set_option maxRecDepth 65536 in
set_option maxHeartbeats 40000000 in
theorem rm_pchk_null (l : Launch) (Z : State) (a0 : Array Value) (hw : ∀ d ∈ tables_1, d.before a0 Z = true) (ws : List Jvm.Cond) (p1 : Int32) (p2 : Int32) (h0 : Heap) (n0 : Nat) (Z0 : n0 ≤ h0.size) (hj0 : ¬ (p1 < (0 : Int32))) (hj1 : p1 < p2) :
    MetFree l mn7 (head1 (Jvm.Cond.code mn7 jdk_41_method_11_code 3 (some .int) :: ws) ro2) (fun a U => a = #[(.int p1), (.int p2), .null] ∧ Z.Warmed39 U.vm ∧ U.heap = h0) (fun _ _ _ _ _ => True) (fun _ U o U' => ∃ v L, o = .returned v ∧ Q_pchk_null Z p1 p2 h0 n0 v U'.heap L ∧ FrameEnd U o U' L ro2.cells ro2.slots) := by
  refine MetFree.of_bodySF (plainFor_of_name pn_37) hisR ?_
  intro p e s m args below meth c s₁ Bd hml0 hP hK
  obtain ⟨rfl, hZ, hh⟩ := hP
  have hx := Bd.exec
  have hby := Bd.bytes
  have hml : c.maxLocals = 3 := hml0
  have hown : s.vm.findClass "jdk/internal/util/Preconditions" = some m.cls := findClass_of_methodNamed Bd.named
  have hnm := (name_of_methodNamed Bd.named Bd.method).1
  have X0 : Stand p l e ro2 s m #[(.int p1), (.int p2), .null] below meth c s₁ [] 0 0 := Stand.of_body Bd
  have e0 : s₁.heap = h0 := by rw [← hh, Bd.state]; rfl
  have N0 := Fr.nil n0
  have pre0 : ∀ t, Steps p.tables e below (s₁.setTop (mkF m 0 #[.val (.int p1), .val (.int p2), .val .null] [])) t → Steps p.tables e below (s₁.setTop (entryFrame m #[(.int p1), (.int p2), .null] 3)) t := fun t k => castTop (ef_37_IIn m p1 p2) k
  obtain ⟨fs, hr, hrun, hended, hW, hsame⟩ := X0.leave (v := some (.int p1)) (fun h => by rw [Bd.returns] at h; cases h)
  refine ⟨_, _, pre0 _ ?_, hrun, hended, _, _, rfl, ?_, ⟨_, rfl⟩, hW, hsame.mono (by decide) (by decide)⟩
  · show St p e below s₁ (mkF m 0 #[.val (.int p1), .val (.int p2), .val .null] []) _
    refine XS.iloadN X0.here hx rfl (hb hby d37_0) rfl ?_
    refine XS.ifNo X0.here hx rfl (hb hby d37_1) rfl ((if0 _ _).trans (flt hj0).1) ?_
    refine XS.iloadN X0.here hx rfl (hb hby d37_4) rfl ?_
    refine XS.iloadN X0.here hx rfl (hb hby d37_5) rfl ?_
    refine XS.icmpYes X0.here hx rfl (pc0 := 6) (pc' := 16) rfl (hb hby d37_6) rfl (tlt hj1).1 (by decide) (by decide) ?_
    refine XS.iloadN X0.here hx rfl (hb hby d37_16) rfl ?_
    show St p e below s₁ (mkF m 17 #[.val (.int p1), .val (.int p2), .val .null] [(.int p1)]) _
    exact retI X0 hx Bd.returns (hb hby d37_17) hr
  · show Q_pchk_null Z p1 p2 h0 n0 _ s₁.heap _
    rw [e0]
    exact ⟨rfl, N0, rfl⟩
set_option maxRecDepth 65536 in
set_option maxHeartbeats 40000000 in
theorem rm_schk_null (l : Launch) (Z : State) (a0 : Array Value) (hw : ∀ d ∈ tables_1, d.before a0 Z = true) (ws : List Jvm.Cond) (p1 : Int32) (p2 : Int32) (h0 : Heap) (n0 : Nat) (Z0 : n0 ≤ h0.size) (hj0 : ¬ (p1 < (0 : Int32))) (hj1 : p1 < p2) (S_SIOOBE_FORMATTER : Sta Z Z.heap "jdk/internal/util/Preconditions" "SIOOBE_FORMATTER" "Ljava/util/function/BiFunction;" .null) (O0 : Old Z n0 h0) :
    MetFree l mn8 (head1 (Jvm.Cond.code mn8 jdk_42_method_155_code 2 none :: ws) ro13) (fun a U => a = #[(.int p1), (.int p2)] ∧ Z.Warmed39 U.vm ∧ U.heap = h0) (fun _ _ _ _ _ => True) (fun _ U o U' => ∃ v L, o = .returned v ∧ Q_pure none h0 n0 v U'.heap L ∧ FrameEnd U o U' L ro13.cells ro13.slots) := by
  refine MetFree.of_bodySF (plainFor_of_name pn_36) hisR ?_
  intro p e s m args below meth c s₁ Bd hml0 hP hK
  obtain ⟨rfl, hZ, hh⟩ := hP
  have hx := Bd.exec
  have hby := Bd.bytes
  have hml : c.maxLocals = 2 := hml0
  have hown : s.vm.findClass "java/lang/String" = some m.cls := findClass_of_methodNamed Bd.named
  have hnm := (name_of_methodNamed Bd.named Bd.method).1
  have X0 : Stand p l e ro13 s m #[(.int p1), (.int p2)] below meth c s₁ [] 0 0 := Stand.of_body Bd
  have e0 : s₁.heap = h0 := by rw [← hh, Bd.state]; rfl
  have N0 := Fr.nil n0
  have pre0 : ∀ t, Steps p.tables e below (s₁.setTop (mkF m 0 #[.val (.int p1), .val (.int p2)] [])) t → Steps p.tables e below (s₁.setTop (entryFrame m #[(.int p1), (.int p2)] 2)) t := fun t k => castTop (ef_36_II m p1 p2) k
  obtain ⟨T1, X1, e1, st1⟩ := getS2 X0 hx hZ hown (host := "") (Or.inl (hwi hw 196 rfl)) Via.refl e0 (S_SIOOBE_FORMATTER.ext O0.2) (g := (mkF m 2 #[.val (.int p1), .val (.int p2)] [(.int p2), (.int p1)])) rfl (hb hby d36_2)
  obtain ⟨_, _, ⟨T2, L2, k2, n2⟩, -, X2, ⟨Lc2, hQ2, l2, y2, z2⟩, st2⟩ := Jvm.LawKit.callS X1 hx (y := mn7) hown (mvT hZ (hwi hw 198 rfl)) (mvT hZ (hwi hw 199 rfl)) (mvT hZ (hwi hw 197 rfl)) (mvT hZ (hwi hw 200 rfl)) (by decide) (backOf (W := 0) (rm_pchk_null l Z a0 hw [] p1 p2 h0 n0 Z0 hj0 hj1) hZ (hwi hw 200 rfl) (hwi hw 197 rfl) (by decide) (by decide)) (g := (mkF m 5 #[.val (.int p1), .val (.int p2)] [.null, (.int p2), (.int p1)])) rfl (by rw [hml]; rfl) (argsL := [(.int p1), (.int p2), .null]) (rest := []) (lenOf pd_IILjava_util_function_BiFunction__I_319 rfl) rfl (by show 2 * 0 + _ ≤ _; exact Nat.le_of_eq rfl) (hb hby d36_5) (fun _ _ => ⟨rfl, e1, (by decide : 0 + 0 ≤ _), (by decide : 0 + 0 ≤ _)⟩)
  dsimp only [Pt.U, Pt.locs, Pt.cells, Pt.slots] at X2 l2 y2 z2 st2 hQ2
  subst l2 y2 z2
  obtain ⟨rfl, N2q, e2⟩ := hQ2
  have N2 := Fr.app N0 N2q
  obtain ⟨fs, hr, hrun, hended, hW, hsame⟩ := X2.leave (v := none) (fun _ => rfl)
  refine ⟨_, _, pre0 _ ?_, hrun, hended, _, _, rfl, ?_, ⟨_, rfl⟩, hW, hsame.mono (by decide) (by decide)⟩
  · show St p e below s₁ (mkF m 0 #[.val (.int p1), .val (.int p2)] []) _
    refine XS.iloadN X0.here hx rfl (hb hby d36_0) rfl ?_
    refine XS.iloadN X0.here hx rfl (hb hby d36_1) rfl ?_
    refine st1 _ ?_
    refine st2 _ ?_
    refine XS.pop X2.here hx rfl (hb hby d36_8) rfl rfl ?_
    show St p e below T2 (mkF m 9 #[.val (.int p1), .val (.int p2)] []) _
    exact X2.returnOut hx Bd.returns (hb hby d36_9) hr
  · show Q_pure none h0 n0 _ T2.heap _
    rw [e2]
    exact ⟨rfl, N2, rfl⟩
theorem rm_schk (l : Launch) (Z : State) (a0 : Array Value) (hw : ∀ d ∈ tables_1, d.before a0 Z = true) (ws : List Jvm.Cond) (p1 : Int32) (p2 : Int32) (w_SIOOBE_FORMATTER : Value) (h0 : Heap) (n0 : Nat) (Z0 : n0 ≤ h0.size) (hj0 : ¬ (p1 < (0 : Int32))) (hj1 : p1 < p2) (O0 : Old Z n0 h0) (S_SIOOBE_FORMATTER : Sta Z Z.heap "jdk/internal/util/Preconditions" "SIOOBE_FORMATTER" "Ljava/util/function/BiFunction;" w_SIOOBE_FORMATTER) (hr_SIOOBE_FORMATTER : w_SIOOBE_FORMATTER.isRef = true) :
    MetFree l mn8 (head1 (Jvm.Cond.code mn8 jdk_42_method_155_code 2 none :: ws) ro13) (fun a U => a = #[(.int p1), (.int p2)] ∧ Z.Warmed39 U.vm ∧ U.heap = h0) (fun _ _ _ _ _ => True) (fun _ U o U' => ∃ v L, o = .returned v ∧ Q_pure none h0 n0 v U'.heap L ∧ FrameEnd U o U' L ro13.cells ro13.slots) := by
  rcases ref_cases hr_SIOOBE_FORMATTER with rfl | ⟨fa, rfl⟩
  · exact rm_schk_null l Z a0 hw ws p1 p2 h0 n0 Z0 hj0 hj1 S_SIOOBE_FORMATTER O0
  · exact rm_schk_ref l Z a0 hw ws p1 p2 fa h0 n0 Z0 hj0 hj1 S_SIOOBE_FORMATTER O0
theorem pd_II_V_313 : parseMethodDescriptor "(II)V" = some ⟨[.int, .int], none⟩ := by decide +kernel
theorem d35_0 : decode jdk_43_method_2_code 0 = .ok (.iload_n 1, 1) := by decide +kernel
theorem d35_1 : decode jdk_43_method_2_code 1 = .ok (.aload_n 0, 1) := by decide +kernel
theorem d35_2 : decode jdk_43_method_2_code 2 = .ok (.arraylength, 1) := by decide +kernel
theorem d35_3 : decode jdk_43_method_2_code 3 = .ok (.invokestatic 9, 3) := by decide +kernel
theorem d35_6 : decode jdk_43_method_2_code 6 = .ok (.aload_n 0, 1) := by decide +kernel
theorem d35_7 : decode jdk_43_method_2_code 7 = .ok (.iload_n 1, 1) := by decide +kernel
theorem d35_8 : decode jdk_43_method_2_code 8 = .ok (.baload, 1) := by decide +kernel
theorem d35_9 : decode jdk_43_method_2_code 9 = .ok (.sipush 255, 3) := by decide +kernel
theorem d35_12 : decode jdk_43_method_2_code 12 = .ok (.iand, 1) := by decide +kernel
theorem d35_13 : decode jdk_43_method_2_code 13 = .ok (.i2c, 1) := by decide +kernel
theorem d35_14 : decode jdk_43_method_2_code 14 = .ok (.ireturn, 1) := by decide +kernel
theorem pn_35 : plainName "java/lang/StringLatin1" = true := by first | (simp [plainName, overriddenIn]; done) | decide +kernel
theorem ef_35_RI (m : MethodId) (x0 : Addr) (x1 : Int32) : entryFrame m #[(.ref x0), (.int x1)] 2 = mkF m 0 #[.val (.ref x0), .val (.int x1)] [] := by first | (simp [entryFrame, mkF, argsToLocals, Value.category]; done) | rfl
def Q_l1chr (Z : State) (a1 : Addr) (p2 : Int32) (k_a1 : ClassId) (vs : List Value) (N : Int32) (xb : Int32) (ch : Int32) (w_SIOOBE_FORMATTER : Value) (h0 : Heap) (n0 : Nat) (v : Option Value) (h : Heap) (L : List Loc) : Prop := v = some (.int ch) ∧ Fr n0 L ∧ h = h0
set_option maxRecDepth 65536 in
set_option maxHeartbeats 40000000 in
theorem rm_l1chr (l : Launch) (Z : State) (a0 : Array Value) (hw : ∀ d ∈ tables_1, d.before a0 Z = true) (ws : List Jvm.Cond) (a1 : Addr) (p2 : Int32) (k_a1 : ClassId) (vs : List Value) (N : Int32) (xb : Int32) (ch : Int32) (w_SIOOBE_FORMATTER : Value) (h0 : Heap) (n0 : Nat) (Z0 : n0 ≤ h0.size) (V_a1 : Arv Z h0 a1 k_a1 .byte N vs (.int 0)) (hj0 : ¬ (p2 < (0 : Int32))) (hj1 : p2 < N) (hxb : (vs).getD p2.toNatClampNeg (.int 0) = .int xb) (O0 : Old Z n0 h0) (hr_SIOOBE_FORMATTER : w_SIOOBE_FORMATTER.isRef = true) (S_SIOOBE_FORMATTER : Sta Z Z.heap "jdk/internal/util/Preconditions" "SIOOBE_FORMATTER" "Ljava/util/function/BiFunction;" w_SIOOBE_FORMATTER) (hch : ((xb &&& (255 : Int32)).toUInt32.toUInt16.toUInt32.toInt32) = ch) (hcn : (ch.toUInt32.toUInt16.toUInt32.toInt32) = ch) :
    MetFree l mn9 (head1 (Jvm.Cond.code mn9 jdk_43_method_2_code 2 (some .char) :: ws) ro14) (fun a U => a = #[(.ref a1), (.int p2)] ∧ Z.Warmed39 U.vm ∧ U.heap = h0) (fun _ _ _ _ _ => True) (fun _ U o U' => ∃ v L, o = .returned v ∧ Q_l1chr Z a1 p2 k_a1 vs N xb ch w_SIOOBE_FORMATTER h0 n0 v U'.heap L ∧ FrameEnd U o U' L ro14.cells ro14.slots) := by
  refine MetFree.of_bodySF (plainFor_of_name pn_35) hisR ?_
  intro p e s m args below meth c s₁ Bd hml0 hP hK
  obtain ⟨rfl, hZ, hh⟩ := hP
  have hx := Bd.exec
  have hby := Bd.bytes
  have hml : c.maxLocals = 2 := hml0
  have hown : s.vm.findClass "java/lang/StringLatin1" = some m.cls := findClass_of_methodNamed Bd.named
  have hnm := (name_of_methodNamed Bd.named Bd.method).1
  have X0 : Stand p l e ro14 s m #[(.ref a1), (.int p2)] below meth c s₁ [] 0 0 := Stand.of_body Bd
  have e0 : s₁.heap = h0 := by rw [← hh, Bd.state]; rfl
  have N0 := Fr.nil n0
  have pre0 : ∀ t, Steps p.tables e below (s₁.setTop (mkF m 0 #[.val (.ref a1), .val (.int p2)] [])) t → Steps p.tables e below (s₁.setTop (entryFrame m #[(.ref a1), (.int p2)] 2)) t := fun t k => castTop (ef_35_RI m a1 p2) k
  obtain ⟨cl1, Ar1, -, S1, M1, -, -⟩ := id V_a1
  obtain ⟨_, _, ⟨T2, L2, k2, n2⟩, -, X2, ⟨Lc2, hQ2, l2, y2, z2⟩, st2⟩ := Jvm.LawKit.callS X0 hx (y := mn8) hown (mvT hZ (hwi hw 193 rfl)) (mvT hZ (hwi hw 194 rfl)) (mvT hZ (hwi hw 3 rfl)) (mvT hZ (hwi hw 195 rfl)) (by decide) (backOf (W := 0) (rm_schk l Z a0 hw [] p2 N w_SIOOBE_FORMATTER h0 n0 Z0 hj0 hj1 O0 S_SIOOBE_FORMATTER hr_SIOOBE_FORMATTER) hZ (hwi hw 195 rfl) (hwi hw 3 rfl) (by decide) (by decide)) (g := (mkF m 3 #[.val (.ref a1), .val (.int p2)] [(.int N), (.int p2)])) rfl (by rw [hml]; rfl) (argsL := [(.int p2), (.int N)]) (rest := []) (lenOf pd_II_V_313 rfl) rfl (by show 2 * 0 + _ ≤ _; exact Nat.le_of_eq rfl) (hb hby d35_3) (fun _ _ => ⟨rfl, e0, (by decide : 0 + 0 ≤ _), (by decide : 0 + 0 ≤ _)⟩)
  dsimp only [Pt.U, Pt.locs, Pt.cells, Pt.slots] at X2 l2 y2 z2 st2 hQ2
  subst l2 y2 z2
  obtain ⟨rfl, N2q, e2⟩ := hQ2
  have N2 := Fr.app N0 N2q
  obtain ⟨cl3, Ar3, q3, S3, M3, H3, G3⟩ := id V_a1
  have hin3 : ¬ (p2 < 0 ∨ cl3.slots.size ≤ (p2).toNatClampNeg) := inb_of S3 ⟨hj0, hj1⟩
  have hat3 : cl3.slots[(p2).toNatClampNeg]? = some (.int xb) := H3.at hin3 hxb
  obtain ⟨fs, hr, hrun, hended, hW, hsame⟩ := X2.leave (v := some (.int (ch.toUInt32.toUInt16.toUInt32.toInt32))) (fun h => by rw [Bd.returns] at h; cases h)
  refine ⟨_, _, pre0 _ ?_, hrun, hended, _, _, rfl, ?_, ⟨_, rfl⟩, hW, hsame.mono (by decide) (by decide)⟩
  · show St p e below s₁ (mkF m 0 #[.val (.ref a1), .val (.int p2)] []) _
    refine XS.iloadN X0.here hx rfl (hb hby d35_0) rfl ?_
    refine XS.aloadN X0.here hx rfl (hb hby d35_1) rfl rfl ?_
    refine X0.arraylength hx (by rw [e0]; exact Ar1.1) (State.isArrayOf_alike hZ.alike Ar1.2.1) (g := (mkF m 2 #[.val (.ref a1), .val (.int p2)] [(.ref a1), (.int p2)])) rfl rfl (hb hby d35_2) _ ?_
    rw [len_of S1 M1]
    show St p e below s₁ (mkF m 3 #[.val (.ref a1), .val (.int p2)] [(.int N), (.int p2)]) _
    refine st2 _ ?_
    refine XS.aloadN X2.here hx rfl (hb hby d35_6) rfl rfl ?_
    refine XS.iloadN X2.here hx rfl (hb hby d35_7) rfl ?_
    refine X2.baloadBytes hx (j := p2) (v := (.int xb)) (by rw [e2]; exact Ar3.1) (State.isArrayOf_alike hZ.alike Ar3.2.1) Ar3.2.2 hin3 hat3 (g := (mkF m 8 #[.val (.ref a1), .val (.int p2)] [(.int p2), (.ref a1)])) rfl rfl (hb hby d35_8) _ ?_
    refine XS.sipush X2.here hx rfl (hb hby d35_9) ?_
    refine XS.iand X2.here hx rfl (hb hby d35_12) rfl ?_
    refine XS.i2c X2.here hx rfl (hb hby d35_13) rfl ?_
    show St p e below T2 (mkF m 14 #[.val (.ref a1), .val (.int p2)] [(.int ((xb &&& (255 : Int32)).toUInt32.toUInt16.toUInt32.toInt32))]) _
    rw [hch]
    show St p e below T2 (mkF m 14 #[.val (.ref a1), .val (.int p2)] [(.int ch)]) _
    exact retN X2 hx (t := .char) Bd.returns (by simp) (hb hby d35_14) hr
  · show Q_l1chr Z a1 p2 k_a1 vs N xb ch w_SIOOBE_FORMATTER h0 n0 _ T2.heap _
    rw [e2]
    exact ⟨by rw [hcn], N2, rfl⟩
theorem d34_0 : decode jdk_42_method_154_code 0 = .ok (.getstatic 38, 3) := by decide +kernel
theorem d34_3 : decode jdk_42_method_154_code 3 = .ok (.ifCond .eq 14, 3) := by decide +kernel
theorem d34_6 : decode jdk_42_method_154_code 6 = .ok (.aload_n 0, 1) := by decide +kernel
theorem d34_7 : decode jdk_42_method_154_code 7 = .ok (.getfield 15, 3) := by decide +kernel
theorem d34_10 : decode jdk_42_method_154_code 10 = .ok (.ifCond .ne 7, 3) := by decide +kernel
theorem d34_13 : decode jdk_42_method_154_code 13 = .ok (.iconst 1, 1) := by decide +kernel
theorem d34_14 : decode jdk_42_method_154_code 14 = .ok (.goto 4, 3) := by decide +kernel
theorem d34_18 : decode jdk_42_method_154_code 18 = .ok (.ireturn, 1) := by decide +kernel
theorem pn_34 : plainName "java/lang/String" = true := by first | (simp [plainName, overriddenIn]; done) | decide +kernel
theorem ef_34_R (m : MethodId) (x0 : Addr) : entryFrame m #[(.ref x0)] 1 = mkF m 0 #[.val (.ref x0)] [] := by first | (simp [entryFrame, mkF, argsToLocals, Value.category]; done) | rfl
def Q_islat (Z : State) (a1 : Addr) (w_COMPACT_STRINGS : Int32) (h0 : Heap) (n0 : Nat) (v : Option Value) (h : Heap) (L : List Loc) : Prop := v = some (.int 1) ∧ Fr n0 L ∧ h = h0
set_option maxRecDepth 65536 in
set_option maxHeartbeats 40000000 in
theorem rm_islat (l : Launch) (Z : State) (a0 : Array Value) (hw : ∀ d ∈ tables_1, d.before a0 Z = true) (ws : List Jvm.Cond) (a1 : Addr) (w_COMPACT_STRINGS : Int32) (h0 : Heap) (n0 : Nat) (Z0 : n0 ≤ h0.size) (S_COMPACT_STRINGS : Sta Z Z.heap "java/lang/String" "COMPACT_STRINGS" "Z" (.int w_COMPACT_STRINGS)) (hcs : ¬ (w_COMPACT_STRINGS = (0 : Int32))) (F_a1_coder : Fld Z h0 a1 "java/lang/String" "coder" "B" (.int 0)) (O0 : Old Z n0 h0) :
    MetFree l mn10 (head1 (Jvm.Cond.code mn10 jdk_42_method_154_code 1 (some .boolean) :: ws) ro2) (fun a U => a = #[(.ref a1)] ∧ Z.Warmed39 U.vm ∧ U.heap = h0) (fun _ _ _ _ _ => True) (fun _ U o U' => ∃ v L, o = .returned v ∧ Q_islat Z a1 w_COMPACT_STRINGS h0 n0 v U'.heap L ∧ FrameEnd U o U' L ro2.cells ro2.slots) := by
  refine MetFree.of_bodySF (plainFor_of_name pn_34) hisR ?_
  intro p e s m args below meth c s₁ Bd hml0 hP hK
  obtain ⟨rfl, hZ, hh⟩ := hP
  have hx := Bd.exec
  have hby := Bd.bytes
  have hml : c.maxLocals = 1 := hml0
  have hown : s.vm.findClass "java/lang/String" = some m.cls := findClass_of_methodNamed Bd.named
  have hnm := (name_of_methodNamed Bd.named Bd.method).1
  have X0 : Stand p l e ro2 s m #[(.ref a1)] below meth c s₁ [] 0 0 := Stand.of_body Bd
  have e0 : s₁.heap = h0 := by rw [← hh, Bd.state]; rfl
  have N0 := Fr.nil n0
  have pre0 : ∀ t, Steps p.tables e below (s₁.setTop (mkF m 0 #[.val (.ref a1)] [])) t → Steps p.tables e below (s₁.setTop (entryFrame m #[(.ref a1)] 1)) t := fun t k => castTop (ef_34_R m a1) k
  obtain ⟨T1, X1, e1, st1⟩ := getS2 X0 hx hZ hown (host := "") (Or.inl (hwi hw 81 rfl)) Via.refl e0 (S_COMPACT_STRINGS.ext O0.2) (g := (mkF m 0 #[.val (.ref a1)] [])) rfl (hb hby d34_0)
  obtain ⟨T2, X2, e2, st2⟩ := getF X1 hx hZ hown (host := "") (Or.inl (hwi hw 21 rfl)) Via.refl e1 F_a1_coder (g := (mkF m 7 #[.val (.ref a1)] [(.ref a1)])) rfl rfl (hb hby d34_7)
  obtain ⟨fs, hr, hrun, hended, hW, hsame⟩ := X2.leave (v := some (.int 1)) (fun h => by rw [Bd.returns] at h; cases h)
  refine ⟨_, _, pre0 _ ?_, hrun, hended, _, _, rfl, ?_, ⟨_, rfl⟩, hW, hsame.mono (by decide) (by decide)⟩
  · show St p e below s₁ (mkF m 0 #[.val (.ref a1)] []) _
    refine st1 _ ?_
    refine XS.ifNo X1.here hx rfl (hb hby d34_3) rfl ((if0 _ _).trans (feq hcs).1) ?_
    refine XS.aloadN X1.here hx rfl (hb hby d34_6) rfl rfl ?_
    refine st2 _ ?_
    refine XS.ifNo X2.here hx rfl (hb hby d34_10) rfl ((if0 _ _).trans (teq (by decide : (0 : Int32) = (0 : Int32))).2) ?_
    refine XS.iconst X2.here hx rfl (hb hby d34_13) ?_
    refine XS.goto X2.here hx rfl (pc0 := 14) (pc' := 18) rfl (hb hby d34_14) (by decide) (by decide) ?_
    show St p e below T2 (mkF m 18 #[.val (.ref a1)] [(.int 1)]) _
    exact retN X2 hx (t := .boolean) Bd.returns (by simp) (hb hby d34_18) hr
  · show Q_islat Z a1 w_COMPACT_STRINGS h0 n0 _ T2.heap _
    rw [e2]
    exact ⟨rfl, N0, rfl⟩
theorem pd_Z_171 : parseMethodDescriptor "()Z" = some ⟨[], some .boolean⟩ := by decide +kernel
theorem pd_BI_C_378 : parseMethodDescriptor "([BI)C" = some ⟨[(.array .byte), .int], some .char⟩ := by decide +kernel
theorem d33_0 : decode jdk_42_method_56_code 0 = .ok (.aload_n 0, 1) := by decide +kernel
theorem d33_1 : decode jdk_42_method_56_code 1 = .ok (.invokevirtual 492, 3) := by decide +kernel
theorem d33_4 : decode jdk_42_method_56_code 4 = .ok (.ifCond .eq 12, 3) := by decide +kernel
theorem d33_7 : decode jdk_42_method_56_code 7 = .ok (.aload_n 0, 1) := by decide +kernel
theorem d33_8 : decode jdk_42_method_56_code 8 = .ok (.getfield 9, 3) := by decide +kernel
theorem d33_11 : decode jdk_42_method_56_code 11 = .ok (.iload_n 1, 1) := by decide +kernel
theorem d33_12 : decode jdk_42_method_56_code 12 = .ok (.invokestatic 495, 3) := by decide +kernel
theorem d33_15 : decode jdk_42_method_56_code 15 = .ok (.ireturn, 1) := by decide +kernel
theorem pn_33 : plainName "java/lang/String" = true := by first | (simp [plainName, overriddenIn]; done) | decide +kernel
theorem ef_33_RI (m : MethodId) (x0 : Addr) (x1 : Int32) : entryFrame m #[(.ref x0), (.int x1)] 2 = mkF m 0 #[.val (.ref x0), .val (.int x1)] [] := by first | (simp [entryFrame, mkF, argsToLocals, Value.category]; done) | rfl
def Q_schr (Z : State) (a1 : Addr) (p2 : Int32) (w_COMPACT_STRINGS : Int32) (t_a1 : Addr) (k_t_a1 : ClassId) (vs : List Value) (N : Int32) (xb : Int32) (ch : Int32) (w_SIOOBE_FORMATTER : Value) (h0 : Heap) (n0 : Nat) (v : Option Value) (h : Heap) (L : List Loc) : Prop := v = some (.int ch) ∧ Fr n0 L ∧ h = h0
set_option maxRecDepth 65536 in
set_option maxHeartbeats 40000000 in
theorem rm_schr (l : Launch) (Z : State) (a0 : Array Value) (hw : ∀ d ∈ tables_1, d.before a0 Z = true) (ws : List Jvm.Cond) (a1 : Addr) (p2 : Int32) (w_COMPACT_STRINGS : Int32) (t_a1 : Addr) (k_t_a1 : ClassId) (vs : List Value) (N : Int32) (xb : Int32) (ch : Int32) (w_SIOOBE_FORMATTER : Value) (h0 : Heap) (n0 : Nat) (Z0 : n0 ≤ h0.size) (S_COMPACT_STRINGS : Sta Z Z.heap "java/lang/String" "COMPACT_STRINGS" "Z" (.int w_COMPACT_STRINGS)) (hcs : ¬ (w_COMPACT_STRINGS = (0 : Int32))) (E_a1 : Exa Z h0 a1 "java/lang/String") (F_a1_coder : Fld Z h0 a1 "java/lang/String" "coder" "B" (.int 0)) (F_a1_value : Fld Z h0 a1 "java/lang/String" "value" "[B" (.ref t_a1)) (V_t_a1 : Arv Z h0 t_a1 k_t_a1 .byte N vs (.int 0)) (hj0 : ¬ (p2 < (0 : Int32))) (hj1 : p2 < N) (hxb : (vs).getD p2.toNatClampNeg (.int 0) = .int xb) (O0 : Old Z n0 h0) (hr_SIOOBE_FORMATTER : w_SIOOBE_FORMATTER.isRef = true) (S_SIOOBE_FORMATTER : Sta Z Z.heap "jdk/internal/util/Preconditions" "SIOOBE_FORMATTER" "Ljava/util/function/BiFunction;" w_SIOOBE_FORMATTER) (hch : ((xb &&& (255 : Int32)).toUInt32.toUInt16.toUInt32.toInt32) = ch) (hcn : (ch.toUInt32.toUInt16.toUInt32.toInt32) = ch) :
    MetFree l mn11 (head1 (Jvm.Cond.code mn11 jdk_42_method_56_code 2 (some .char) :: ws) ro15) (fun a U => a = #[(.ref a1), (.int p2)] ∧ Z.Warmed39 U.vm ∧ U.heap = h0) (fun _ _ _ _ _ => True) (fun _ U o U' => ∃ v L, o = .returned v ∧ Q_schr Z a1 p2 w_COMPACT_STRINGS t_a1 k_t_a1 vs N xb ch w_SIOOBE_FORMATTER h0 n0 v U'.heap L ∧ FrameEnd U o U' L ro15.cells ro15.slots) := by
  refine MetFree.of_bodySF (plainFor_of_name pn_33) hisR ?_
  intro p e s m args below meth c s₁ Bd hml0 hP hK
  obtain ⟨rfl, hZ, hh⟩ := hP
  have hx := Bd.exec
  have hby := Bd.bytes
  have hml : c.maxLocals = 2 := hml0
  have hown : s.vm.findClass "java/lang/String" = some m.cls := findClass_of_methodNamed Bd.named
  have hnm := (name_of_methodNamed Bd.named Bd.method).1
  have X0 : Stand p l e ro15 s m #[(.ref a1), (.int p2)] below meth c s₁ [] 0 0 := Stand.of_body Bd
  have e0 : s₁.heap = h0 := by rw [← hh, Bd.state]; rfl
  have N0 := Fr.nil n0
  have pre0 : ∀ t, Steps p.tables e below (s₁.setTop (mkF m 0 #[.val (.ref a1), .val (.int p2)] [])) t → Steps p.tables e below (s₁.setTop (entryFrame m #[(.ref a1), (.int p2)] 2)) t := fun t k => castTop (ef_33_RI m a1 p2) k
  obtain ⟨cq1, kq1, q1a, q1b, q1c⟩ := isOf hZ e0 E_a1
  obtain ⟨_, _, ⟨T1, L1, k1, n1⟩, -, X1, ⟨Lc1, hQ1, l1, y1, z1⟩, st1⟩ := X0.virtualBack hx (y := mn10) (z := mn10) hown (mvT hZ (hwi hw 184 rfl)) (mvT hZ (hwi hw 185 rfl)) (notFace_of_selects (args := #[]) (mvT hZ (hwi hw 187 rfl))) (mvT hZ (hwi hw 187 rfl)) (mvT hZ (hwi hw 186 rfl)) (by decide) (backOf (W := 0) (rm_islat l Z a0 hw [] a1 w_COMPACT_STRINGS h0 n0 Z0 S_COMPACT_STRINGS hcs F_a1_coder O0) hZ (hwi hw 188 rfl) (hwi hw 3 rfl) (by decide) (by decide)) q1a q1c (g := (mkF m 1 #[.val (.ref a1), .val (.int p2)] [(.ref a1)])) rfl (by rw [hml]; rfl) (Steps.refl _) (argsL := []) (rest := []) (lenOf pd_Z_171 rfl) rfl (by show 2 * 0 + _ ≤ _; exact Nat.le_of_eq rfl) (hb hby d33_1) (fun _ _ => ⟨rfl, e0, (by decide : 0 + 0 ≤ _), (by decide : 0 + 0 ≤ _)⟩)
  dsimp only [Pt.U, Pt.locs, Pt.cells, Pt.slots] at X1 l1 y1 z1 st1 hQ1
  subst l1 y1 z1
  obtain ⟨rfl, N1q, e1⟩ := hQ1
  have N1 := Fr.app N0 N1q
  obtain ⟨T2, X2, e2, st2⟩ := getF X1 hx hZ hown (host := "") (Or.inl (hwi hw 20 rfl)) Via.refl e1 F_a1_value (g := (mkF m 8 #[.val (.ref a1), .val (.int p2)] [(.ref a1)])) rfl rfl (hb hby d33_8)
  obtain ⟨_, _, ⟨T3, L3, k3, n3⟩, -, X3, ⟨Lc3, hQ3, l3, y3, z3⟩, st3⟩ := Jvm.LawKit.callS X2 hx (y := mn9) hown (mvT hZ (hwi hw 189 rfl)) (mvT hZ (hwi hw 190 rfl)) (mvT hZ (hwi hw 191 rfl)) (mvT hZ (hwi hw 192 rfl)) (by decide) (backOf (W := 0) (rm_l1chr l Z a0 hw [] t_a1 p2 k_t_a1 vs N xb ch w_SIOOBE_FORMATTER h0 n0 Z0 V_t_a1 hj0 hj1 hxb O0 hr_SIOOBE_FORMATTER S_SIOOBE_FORMATTER hch hcn) hZ (hwi hw 192 rfl) (hwi hw 191 rfl) (by decide) (by decide)) (g := (mkF m 12 #[.val (.ref a1), .val (.int p2)] [(.int p2), (.ref t_a1)])) rfl (by rw [hml]; rfl) (argsL := [(.ref t_a1), (.int p2)]) (rest := []) (lenOf pd_BI_C_378 rfl) rfl (by show 2 * 0 + _ ≤ _; exact Nat.le_of_eq rfl) (hb hby d33_12) (fun _ _ => ⟨rfl, e2, (by decide : 0 + 0 ≤ _), (by decide : 0 + 0 ≤ _)⟩)
  dsimp only [Pt.U, Pt.locs, Pt.cells, Pt.slots] at X3 l3 y3 z3 st3 hQ3
  subst l3 y3 z3
  obtain ⟨rfl, N3q, e3⟩ := hQ3
  have N3 := Fr.app N1 N3q
  obtain ⟨fs, hr, hrun, hended, hW, hsame⟩ := X3.leave (v := some (.int (ch.toUInt32.toUInt16.toUInt32.toInt32))) (fun h => by rw [Bd.returns] at h; cases h)
  refine ⟨_, _, pre0 _ ?_, hrun, hended, _, _, rfl, ?_, ⟨_, rfl⟩, hW, hsame.mono (by decide) (by decide)⟩
  · show St p e below s₁ (mkF m 0 #[.val (.ref a1), .val (.int p2)] []) _
    refine XS.aloadN X0.here hx rfl (hb hby d33_0) rfl rfl ?_
    refine st1.trans ?_
    refine XS.ifNo X1.here hx rfl (hb hby d33_4) rfl ((if0 _ _).trans (feq (by decide : ¬ ((1 : Int32) = (0 : Int32)))).1) ?_
    refine XS.aloadN X1.here hx rfl (hb hby d33_7) rfl rfl ?_
    refine st2 _ ?_
    refine XS.iloadN X2.here hx rfl (hb hby d33_11) rfl ?_
    refine st3 _ ?_
    show St p e below T3 (mkF m 15 #[.val (.ref a1), .val (.int p2)] [(.int ch)]) _
    exact retN X3 hx (t := .char) Bd.returns (by simp) (hb hby d33_15) hr
  · show Q_schr Z a1 p2 w_COMPACT_STRINGS t_a1 k_t_a1 vs N xb ch w_SIOOBE_FORMATTER h0 n0 _ T3.heap _
    rw [e3]
    exact ⟨by rw [hcn], N3, rfl⟩
theorem d8_0 : decode jdk_68_method_2_code 0 = .ok (.aload_n 0, 1) := by decide +kernel
theorem d8_1 : decode jdk_68_method_2_code 1 = .ok (.invokespecial 3, 3) := by decide +kernel
theorem d8_4 : decode jdk_68_method_2_code 4 = .ok (.getstatic 18, 3) := by decide +kernel
theorem d8_7 : decode jdk_68_method_2_code 7 = .ok (.ifCond .eq 18, 3) := by decide +kernel
theorem d8_10 : decode jdk_68_method_2_code 10 = .ok (.aload_n 0, 1) := by decide +kernel
theorem d8_11 : decode jdk_68_method_2_code 11 = .ok (.iload_n 1, 1) := by decide +kernel
theorem d8_12 : decode jdk_68_method_2_code 12 = .ok (.newarray .byte, 2) := by decide +kernel
theorem d8_14 : decode jdk_68_method_2_code 14 = .ok (.putfield 15, 3) := by decide +kernel
theorem d8_17 : decode jdk_68_method_2_code 17 = .ok (.aload_n 0, 1) := by decide +kernel
theorem d8_18 : decode jdk_68_method_2_code 18 = .ok (.iconst 0, 1) := by decide +kernel
theorem d8_19 : decode jdk_68_method_2_code 19 = .ok (.putfield 22, 3) := by decide +kernel
theorem d8_22 : decode jdk_68_method_2_code 22 = .ok (.goto 16, 3) := by decide +kernel
theorem d8_38 : decode jdk_68_method_2_code 38 = .ok (.return_, 1) := by decide +kernel
theorem pn_8 : plainName "java/lang/AbstractStringBuilder" = true := by first | (simp [plainName, overriddenIn]; done) | decide +kernel
theorem ef_8_RI (m : MethodId) (x0 : Addr) (x1 : Int32) : entryFrame m #[(.ref x0), (.int x1)] 2 = mkF m 0 #[.val (.ref x0), .val (.int x1)] [] := by first | (simp [entryFrame, mkF, argsToLocals, Value.category]; done) | rfl
def Q_abinit (Z : State) (a1 : Addr) (w_COMPACT_STRINGS : Int32) (u_a1_value : Value) (u_a1_coder : Value) (h0 : Heap) (n0 : Nat) (v : Option Value) (h : Heap) (L : List Loc) : Prop := ∃ (t : Addr) (kt : ClassId), v = none ∧ Fr n0 L ∧ Keep h0 h [a1] ∧ h0.size ≤ t ∧ Exa Z h a1 "java/lang/StringBuilder" ∧ Fld Z h a1 "java/lang/AbstractStringBuilder" "value" "[B" (.ref t) ∧ Fld Z h a1 "java/lang/AbstractStringBuilder" "coder" "B" (.int 0) ∧ Fld Z h a1 "java/lang/AbstractStringBuilder" "count" "I" (.int 0) ∧ Arv Z h t kt .byte (16 : Int32) [(.int 0), (.int 0), (.int 0), (.int 0), (.int 0), (.int 0), (.int 0), (.int 0), (.int 0), (.int 0), (.int 0), (.int 0), (.int 0), (.int 0), (.int 0), (.int 0)] (.int 0)
set_option maxRecDepth 65536 in
set_option maxHeartbeats 40000000 in
theorem rm_abinit (l : Launch) (Z : State) (a0 : Array Value) (hw : ∀ d ∈ tables_1, d.before a0 Z = true) (ws : List Jvm.Cond) (a1 : Addr) (w_COMPACT_STRINGS : Int32) (u_a1_value : Value) (u_a1_coder : Value) (h0 : Heap) (n0 : Nat) (Z0 : n0 ≤ h0.size) (S_COMPACT_STRINGS : Sta Z Z.heap "java/lang/String" "COMPACT_STRINGS" "Z" (.int w_COMPACT_STRINGS)) (hcs : ¬ (w_COMPACT_STRINGS = (0 : Int32))) (E_a1 : Exa Z h0 a1 "java/lang/StringBuilder") (F_a1_count : Fld Z h0 a1 "java/lang/AbstractStringBuilder" "count" "I" (.int 0)) (O0 : Old Z n0 h0) (F_a1_value : Fld Z h0 a1 "java/lang/AbstractStringBuilder" "value" "[B" u_a1_value) (g_a1 : n0 ≤ a1) (F_a1_coder : Fld Z h0 a1 "java/lang/AbstractStringBuilder" "coder" "B" u_a1_coder) :
    MetFree l mn12 (head1 (Jvm.Cond.code mn12 jdk_68_method_2_code 2 none :: ws) ro16) (fun a U => a = #[(.ref a1), (.int 16)] ∧ Z.Warmed39 U.vm ∧ U.heap = h0) (fun _ _ _ _ _ => True) (fun _ U o U' => ∃ v L, o = .returned v ∧ Q_abinit Z a1 w_COMPACT_STRINGS u_a1_value u_a1_coder h0 n0 v U'.heap L ∧ FrameEnd U o U' L ro16.cells ro16.slots) := by
  refine MetFree.of_bodySF (plainFor_of_name pn_8) hisR ?_
  intro p e s m args below meth c s₁ Bd hml0 hP hK
  obtain ⟨rfl, hZ, hh⟩ := hP
  have hx := Bd.exec
  have hby := Bd.bytes
  have hml : c.maxLocals = 2 := hml0
  have hown : s.vm.findClass "java/lang/AbstractStringBuilder" = some m.cls := findClass_of_methodNamed Bd.named
  have hnm := (name_of_methodNamed Bd.named Bd.method).1
  have X0 : Stand p l e ro16 s m #[(.ref a1), (.int 16)] below meth c s₁ [] 0 0 := Stand.of_body Bd
  have e0 : s₁.heap = h0 := by rw [← hh, Bd.state]; rfl
  have N0 := Fr.nil n0
  have pre0 : ∀ t, Steps p.tables e below (s₁.setTop (mkF m 0 #[.val (.ref a1), .val (.int 16)] [])) t → Steps p.tables e below (s₁.setTop (entryFrame m #[(.ref a1), (.int 16)] 2)) t := fun t k => castTop (ef_8_RI m a1 (16 : Int32)) k
  obtain ⟨T1, X1, e1, st1⟩ := initO X0 hx hZ hown (hwi hw 55 rfl) (hwi hw 12 rfl) (hwi hw 13 rfl) e0 (g := (mkF m 1 #[.val (.ref a1), .val (.int 16)] [(.ref a1)])) rfl (by rw [hml]; rfl) rfl (hb hby d8_1) (by decide) (W := 0) (by show 2 * 0 + _ ≤ _; exact Nat.le_of_eq rfl) (by decide)
  obtain ⟨T2, X2, e2, st2⟩ := getS2 X1 hx hZ hown (host := "") (Or.inl (hwi hw 56 rfl)) Via.refl e1 (S_COMPACT_STRINGS.ext O0.2) (g := (mkF m 4 #[.val (.ref a1), .val (.int 16)] [])) rfl (hb hby d8_4)
  obtain ⟨T3, h3, k3, X3, e3, E3, A3, st3⟩ := newP X2 hx hZ (hwi hw 15 rfl) e2 (g := (mkF m 12 #[.val (.ref a1), .val (.int 16)] [(.int 16), (.ref a1)])) rfl (hb hby d8_12) rfl (by decide) (cap := 16) (by decide) (by decide) (by decide) (by decide)
  obtain ⟨b3, g3⟩ : ∃ z, z = h0.size := ⟨_, rfl⟩
  rw [← g3] at A3 st3
  have bn_b3 : h0.size ≤ b3 := Nat.le_of_eq g3.symm
  have sz4 : h0.size ≤ h3.size := E3.1
  have Z4 : n0 ≤ h3.size := Nat.le_trans Z0 sz4
  have O4 := O0.ext E3
  have K4 : Keep h0 h3 [a1] := (Keep.refl h0 [a1]).ext E3
  have V3 : Arv Z h3 b3 k3 .byte (16 : Int32) [(.int 0), (.int 0), (.int 0), (.int 0), (.int 0), (.int 0), (.int 0), (.int 0), (.int 0), (.int 0), (.int 0), (.int 0), (.int 0), (.int 0), (.int 0), (.int 0)] (.int 0) := (Arv.new A3 (by decide)).pad (pad_rep [] (.int 0) 16)
  have fc5 := (E_a1.ext E3)
  have fc6 := (F_a1_value.ext E3)
  obtain ⟨T7, h7, X7, e7, W7, st7⟩ := putF X3 hx hZ hown (host := "") (Or.inl (hwi hw 57 rfl)) Via.refl e3 fc6 fc5 (Or.inl (hwi hw 58 rfl)) (hwi hw 44 rfl) (ty := (.array .byte)) (by decide) rfl rfl (g := (mkF m 14 #[.val (.ref a1), .val (.int 16)] [(.ref b3), (.ref a1)])) rfl rfl (hb hby d8_14)
  have N7 := Fr.snoc X7 N0 g_a1
  have Fw7 := fc6.same W7
  have sz8 : h3.size ≤ h7.size := Nat.le_of_eq W7.size.symm
  have Z8 : n0 ≤ h7.size := Nat.le_trans Z4 sz8
  have O8 := O4.wr W7 g_a1
  have K8 : Keep h0 h7 [a1] := K4.wr W7 (Or.inl (List.mem_of_getElem? (i := 0) rfl))
  have fc9 := (fc5.wr W7)
  have fc10 := ((F_a1_coder.ext E3).other W7 (Or.inr (slot_ne (Or.inl (hwi hw 60 rfl)) (Or.inl (hwi hw 58 rfl)) (by decide) (t := .byte) (t' := (.array .byte)) (by decide) (by decide))))
  obtain ⟨T11, h11, X11, e11, W11, st11⟩ := putFN X7 hx hZ hown (hwi hw 59 rfl) Via.refl e7 fc10 fc9 (Or.inl (hwi hw 60 rfl)) (hwi hw 44 rfl) (ty := .byte) (v' := (.int 0)) (by decide) rfl (by decide) (g := (mkF m 19 #[.val (.ref a1), .val (.int 16)] [(.int 0), (.ref a1)])) rfl rfl (hb hby d8_19)
  have N11 := Fr.snoc X11 N7 g_a1
  have Fw11 := fc10.same W11
  have sz12 : h7.size ≤ h11.size := Nat.le_of_eq W11.size.symm
  have Z12 : n0 ≤ h11.size := Nat.le_trans Z8 sz12
  have O12 := O8.wr W11 g_a1
  have K12 : Keep h0 h11 [a1] := K8.wr W11 (Or.inl (List.mem_of_getElem? (i := 0) rfl))
  have fc13 := (fc9.wr W11)
  have fc14 := (Fw7.other W11 (Or.inr (slot_ne (Or.inl (hwi hw 58 rfl)) (Or.inl (hwi hw 60 rfl)) (by decide) (t := (.array .byte)) (t' := .byte) (by decide) (by decide))))
  have fc15 := (((F_a1_count.ext E3).other W7 (Or.inr (slot_ne (Or.inl (hwi hw 83 rfl)) (Or.inl (hwi hw 58 rfl)) (by decide) (t := .int) (t' := (.array .byte)) (by decide) (by decide)))).other W11 (Or.inr (slot_ne (Or.inl (hwi hw 83 rfl)) (Or.inl (hwi hw 60 rfl)) (by decide) (t := .int) (t' := .byte) (by decide) (by decide))))
  have fc16 := ((V3.other W7 (neN (by have := ltN E_a1.lt; have := ltN V3.lt; omega))).other W11 (neN (by have := ltN E_a1.lt; have := ltN V3.lt; omega)))
  obtain ⟨fs, hr, hrun, hended, hW, hsame⟩ := X11.leave (v := none) (fun _ => rfl)
  refine ⟨_, _, pre0 _ ?_, hrun, hended, _, _, rfl, ?_, ⟨_, rfl⟩, hW, hsame.mono (by decide) (by decide)⟩
  · show St p e below s₁ (mkF m 0 #[.val (.ref a1), .val (.int 16)] []) _
    refine XS.aloadN X0.here hx rfl (hb hby d8_0) rfl rfl ?_
    refine st1 _ ?_
    refine st2 _ ?_
    refine XS.ifNo X2.here hx rfl (hb hby d8_7) rfl ((if0 _ _).trans (feq hcs).1) ?_
    refine XS.aloadN X2.here hx rfl (hb hby d8_10) rfl rfl ?_
    refine XS.iloadN X2.here hx rfl (hb hby d8_11) rfl ?_
    refine st3 _ ?_
    refine st7 _ ?_
    show St p e below T7 (mkF m 17 #[.val (.ref a1), .val (.int 16)] []) _
    refine XS.aloadN X7.here hx rfl (hb hby d8_17) rfl rfl ?_
    refine XS.iconst X7.here hx rfl (hb hby d8_18) ?_
    refine st11 _ ?_
    refine XS.goto X11.here hx rfl (pc0 := 22) (pc' := 38) rfl (hb hby d8_22) (by decide) (by decide) ?_
    show St p e below T11 (mkF m 38 #[.val (.ref a1), .val (.int 16)] []) _
    exact X11.returnOut hx Bd.returns (hb hby d8_38) hr
  · show Q_abinit Z a1 w_COMPACT_STRINGS u_a1_value u_a1_coder h0 n0 _ T11.heap _
    rw [e11]
    exact ⟨b3, k3, rfl, N11, K12, bn_b3, fc13, fc14, Fw11, fc15, fc16⟩
theorem pd_I_V_240 : parseMethodDescriptor "(I)V" = some ⟨[.int], none⟩ := by decide +kernel
theorem d7_0 : decode jdk_67_method_1_code 0 = .ok (.aload_n 0, 1) := by decide +kernel
theorem d7_1 : decode jdk_67_method_1_code 1 = .ok (.bipush 16, 2) := by decide +kernel
theorem d7_3 : decode jdk_67_method_1_code 3 = .ok (.invokespecial 1, 3) := by decide +kernel
theorem d7_6 : decode jdk_67_method_1_code 6 = .ok (.return_, 1) := by decide +kernel
theorem pn_7 : plainName "java/lang/StringBuilder" = true := by first | (simp [plainName, overriddenIn]; done) | decide +kernel
theorem ef_7_R (m : MethodId) (x0 : Addr) : entryFrame m #[(.ref x0)] 1 = mkF m 0 #[.val (.ref x0)] [] := by first | (simp [entryFrame, mkF, argsToLocals, Value.category]; done) | rfl
def Q_sbinit (Z : State) (a1 : Addr) (w_COMPACT_STRINGS : Int32) (u_a1_value : Value) (u_a1_coder : Value) (h0 : Heap) (n0 : Nat) (v : Option Value) (h : Heap) (L : List Loc) : Prop := ∃ (t : Addr) (kt : ClassId), v = none ∧ Fr n0 L ∧ Keep h0 h [a1] ∧ h0.size ≤ t ∧ Exa Z h a1 "java/lang/StringBuilder" ∧ Fld Z h a1 "java/lang/AbstractStringBuilder" "value" "[B" (.ref t) ∧ Fld Z h a1 "java/lang/AbstractStringBuilder" "coder" "B" (.int 0) ∧ Fld Z h a1 "java/lang/AbstractStringBuilder" "count" "I" (.int 0) ∧ Arv Z h t kt .byte (16 : Int32) [(.int 0), (.int 0), (.int 0), (.int 0), (.int 0), (.int 0), (.int 0), (.int 0), (.int 0), (.int 0), (.int 0), (.int 0), (.int 0), (.int 0), (.int 0), (.int 0)] (.int 0)
set_option maxRecDepth 65536 in
set_option maxHeartbeats 40000000 in
theorem rm_sbinit (l : Launch) (Z : State) (a0 : Array Value) (hw : ∀ d ∈ tables_1, d.before a0 Z = true) (ws : List Jvm.Cond) (a1 : Addr) (w_COMPACT_STRINGS : Int32) (u_a1_value : Value) (u_a1_coder : Value) (h0 : Heap) (n0 : Nat) (Z0 : n0 ≤ h0.size) (S_COMPACT_STRINGS : Sta Z Z.heap "java/lang/String" "COMPACT_STRINGS" "Z" (.int w_COMPACT_STRINGS)) (hcs : ¬ (w_COMPACT_STRINGS = (0 : Int32))) (E_a1 : Exa Z h0 a1 "java/lang/StringBuilder") (F_a1_count : Fld Z h0 a1 "java/lang/AbstractStringBuilder" "count" "I" (.int 0)) (O0 : Old Z n0 h0) (F_a1_value : Fld Z h0 a1 "java/lang/AbstractStringBuilder" "value" "[B" u_a1_value) (g_a1 : n0 ≤ a1) (F_a1_coder : Fld Z h0 a1 "java/lang/AbstractStringBuilder" "coder" "B" u_a1_coder) :
    MetFree l mn13 (head1 (Jvm.Cond.code mn13 jdk_67_method_1_code 1 none :: ws) ro17) (fun a U => a = #[(.ref a1)] ∧ Z.Warmed39 U.vm ∧ U.heap = h0) (fun _ _ _ _ _ => True) (fun _ U o U' => ∃ v L, o = .returned v ∧ Q_sbinit Z a1 w_COMPACT_STRINGS u_a1_value u_a1_coder h0 n0 v U'.heap L ∧ FrameEnd U o U' L ro17.cells ro17.slots) := by
  refine MetFree.of_bodySF (plainFor_of_name pn_7) hisR ?_
  intro p e s m args below meth c s₁ Bd hml0 hP hK
  obtain ⟨rfl, hZ, hh⟩ := hP
  have hx := Bd.exec
  have hby := Bd.bytes
  have hml : c.maxLocals = 1 := hml0
  have hown : s.vm.findClass "java/lang/StringBuilder" = some m.cls := findClass_of_methodNamed Bd.named
  have hnm := (name_of_methodNamed Bd.named Bd.method).1
  have X0 : Stand p l e ro17 s m #[(.ref a1)] below meth c s₁ [] 0 0 := Stand.of_body Bd
  have e0 : s₁.heap = h0 := by rw [← hh, Bd.state]; rfl
  have N0 := Fr.nil n0
  have pre0 : ∀ t, Steps p.tables e below (s₁.setTop (mkF m 0 #[.val (.ref a1)] [])) t → Steps p.tables e below (s₁.setTop (entryFrame m #[(.ref a1)] 1)) t := fun t k => castTop (ef_7_R m a1) k
  obtain ⟨_, _, ⟨T1, L1, k1, n1⟩, -, X1, ⟨Lc1, hQ1, l1, y1, z1⟩, st1⟩ := X0.specialBack hx (y := mn12) rfl hown (mvT hZ (hwi hw 49 rfl)) (mvT hZ (hwi hw 50 rfl)) (mvT hZ (hwi hw 54 rfl)) (by decide) (backOf (W := 0) (rm_abinit l Z a0 hw [] a1 w_COMPACT_STRINGS u_a1_value u_a1_coder h0 n0 Z0 S_COMPACT_STRINGS hcs E_a1 F_a1_count O0 F_a1_value g_a1 F_a1_coder) hZ (hwi hw 54 rfl) (hwi hw 53 rfl) (by decide) (by decide)) (g := (mkF m 3 #[.val (.ref a1)] [(.int 16), (.ref a1)])) rfl (by rw [hml]; rfl) (Steps.refl _) (a := a1) (argsL := [(.int 16)]) (rest := []) (lenOf pd_I_V_240 rfl) rfl (by show 2 * 0 + _ ≤ _; exact Nat.le_of_eq rfl) (hb hby d7_3) (fun _ _ => ⟨rfl, e0, (by decide : 0 + 1 ≤ _), (by decide : 0 + 16 ≤ _)⟩)
  dsimp only [Pt.U, Pt.locs, Pt.cells, Pt.slots] at X1 l1 y1 z1 st1 hQ1
  subst l1 y1 z1
  obtain ⟨t_1, kt_1, rfl, N1q, Kc1, g1_0, g1_1, g1_2, g1_3, g1_4, g1_5⟩ := hQ1
  have N1 := Fr.app N0 N1q
  have sz2 : h0.size ≤ T1.heap.size := Kc1.1
  have Z2 : n0 ≤ T1.heap.size := Nat.le_trans Z0 sz2
  have O2 := O0.keep Kc1 (allS g_a1 all0)
  have K2 : Keep h0 T1.heap [a1] := (Keep.refl h0 [a1]).trans Kc1 (allS (Or.inl (List.mem_of_getElem? (i := 0) rfl)) (all0))
  have bn_t_1 : h0.size ≤ t_1 := g1_0
  obtain ⟨fs, hr, hrun, hended, hW, hsame⟩ := X1.leave (v := none) (fun _ => rfl)
  refine ⟨_, _, pre0 _ ?_, hrun, hended, _, _, rfl, ?_, ⟨_, rfl⟩, hW, hsame.mono (by decide) (by decide)⟩
  · show St p e below s₁ (mkF m 0 #[.val (.ref a1)] []) _
    refine XS.aloadN X0.here hx rfl (hb hby d7_0) rfl rfl ?_
    refine XS.bipush X0.here hx rfl (hb hby d7_1) ?_
    refine st1.trans ?_
    show St p e below T1 (mkF m 6 #[.val (.ref a1)] []) _
    exact X1.returnOut hx Bd.returns (hb hby d7_6) hr
  · show Q_sbinit Z a1 w_COMPACT_STRINGS u_a1_value u_a1_coder h0 n0 _ T1.heap _
    exact ⟨t_1, kt_1, rfl, N1, K2, bn_t_1, g1_1, g1_2, g1_3, g1_4, g1_5⟩
theorem d16_0 : decode jdk_42_method_147_code 0 = .ok (.aload_n 0, 1) := by decide +kernel
theorem d16_1 : decode jdk_42_method_147_code 1 = .ok (.invokevirtual 335, 3) := by decide +kernel
theorem d16_4 : decode jdk_42_method_147_code 4 = .ok (.iload_n 3, 1) := by decide +kernel
theorem d16_5 : decode jdk_42_method_147_code 5 = .ok (.if_icmp .ne 23, 3) := by decide +kernel
theorem d16_8 : decode jdk_42_method_147_code 8 = .ok (.aload_n 0, 1) := by decide +kernel
theorem d16_9 : decode jdk_42_method_147_code 9 = .ok (.getfield 9, 3) := by decide +kernel
theorem d16_12 : decode jdk_42_method_147_code 12 = .ok (.iconst 0, 1) := by decide +kernel
theorem d16_13 : decode jdk_42_method_147_code 13 = .ok (.aload_n 1, 1) := by decide +kernel
theorem d16_14 : decode jdk_42_method_147_code 14 = .ok (.iload_n 2, 1) := by decide +kernel
theorem d16_15 : decode jdk_42_method_147_code 15 = .ok (.iload_n 3, 1) := by decide +kernel
theorem d16_16 : decode jdk_42_method_147_code 16 = .ok (.ishl, 1) := by decide +kernel
theorem d16_17 : decode jdk_42_method_147_code 17 = .ok (.aload_n 0, 1) := by decide +kernel
theorem d16_18 : decode jdk_42_method_147_code 18 = .ok (.getfield 9, 3) := by decide +kernel
theorem d16_21 : decode jdk_42_method_147_code 21 = .ok (.arraylength, 1) := by decide +kernel
theorem d16_22 : decode jdk_42_method_147_code 22 = .ok (.invokestatic 212, 3) := by decide +kernel
theorem d16_25 : decode jdk_42_method_147_code 25 = .ok (.goto 18, 3) := by decide +kernel
theorem d16_43 : decode jdk_42_method_147_code 43 = .ok (.return_, 1) := by decide +kernel
theorem pn_16 : plainName "java/lang/String" = true := by first | (simp [plainName, overriddenIn]; done) | decide +kernel
theorem ef_16_RRII (m : MethodId) (x0 : Addr) (x1 : Addr) (x2 : Int32) (x3 : Int32) : entryFrame m #[(.ref x0), (.ref x1), (.int x2), (.int x3)] 4 = mkF m 0 #[.val (.ref x0), .val (.ref x1), .val (.int x2), .val (.int x3)] [] := by first | (simp [entryFrame, mkF, argsToLocals, Value.category]; done) | rfl
def Q_getb (Z : State) (a1 : Addr) (a2 : Addr) (p3 : Int32) (w_COMPACT_STRINGS : Int32) (t_a1 : Addr) (k_t_a1 : ClassId) (vs : List Value) (N : Int32) (k_a2 : ClassId) (vd : List Value) (h0 : Heap) (n0 : Nat) (v : Option Value) (h : Heap) (L : List Loc) : Prop := v = none ∧ Fr n0 L ∧ Keep h0 h [a2] ∧ Arv Z h a2 k_a2 .byte (16 : Int32) (own_ap vd vs p3 N) (.int 0)
set_option maxRecDepth 65536 in
set_option maxHeartbeats 40000000 in
theorem rm_getb (l : Launch) (Z : State) (a0 : Array Value) (hw : ∀ d ∈ tables_1, d.before a0 Z = true) (ws : List Jvm.Cond) (a1 : Addr) (a2 : Addr) (p3 : Int32) (w_COMPACT_STRINGS : Int32) (t_a1 : Addr) (k_t_a1 : ClassId) (vs : List Value) (N : Int32) (k_a2 : ClassId) (vd : List Value) (h0 : Heap) (n0 : Nat) (Z0 : n0 ≤ h0.size) (S_COMPACT_STRINGS : Sta Z Z.heap "java/lang/String" "COMPACT_STRINGS" "Z" (.int w_COMPACT_STRINGS)) (hcs : ¬ (w_COMPACT_STRINGS = (0 : Int32))) (E_a1 : Exa Z h0 a1 "java/lang/String") (F_a1_coder : Fld Z h0 a1 "java/lang/String" "coder" "B" (.int 0)) (F_a1_value : Fld Z h0 a1 "java/lang/String" "value" "[B" (.ref t_a1)) (V_t_a1 : Arv Z h0 t_a1 k_t_a1 .byte N vs (.int 0)) (V_a2 : Arv Z h0 a2 k_a2 .byte (16 : Int32) vd (.int 0)) (hdp : ¬ (p3 < (0 : Int32))) (hfit : p3.toNatClampNeg + N.toNatClampNeg ≤ (16 : Int32).toNatClampNeg) (hlen : p3.toNatClampNeg + N.toNatClampNeg ≤ (vd).length) (hnn : ¬ (N < (0 : Int32))) (hne : ¬ (t_a1 = a2)) (O0 : Old Z n0 h0) (hsl : (p3 <<< ((0 : Int32) &&& 31)) = p3) (g_a2 : n0 ≤ a2) :
    MetFree l mn14 (head1 (Jvm.Cond.code mn14 jdk_42_method_147_code 4 none :: ws) ro18) (fun a U => a = #[(.ref a1), (.ref a2), (.int p3), (.int 0)] ∧ Z.Warmed39 U.vm ∧ U.heap = h0) (fun _ _ _ _ _ => True) (fun _ U o U' => ∃ v L, o = .returned v ∧ Q_getb Z a1 a2 p3 w_COMPACT_STRINGS t_a1 k_t_a1 vs N k_a2 vd h0 n0 v U'.heap L ∧ FrameEnd U o U' L ro18.cells ro18.slots) := by
  refine MetFree.of_bodySF (plainFor_of_name pn_16) hisR ?_
  intro p e s m args below meth c s₁ Bd hml0 hP hK
  obtain ⟨rfl, hZ, hh⟩ := hP
  have hx := Bd.exec
  have hby := Bd.bytes
  have hml : c.maxLocals = 4 := hml0
  have hown : s.vm.findClass "java/lang/String" = some m.cls := findClass_of_methodNamed Bd.named
  have hnm := (name_of_methodNamed Bd.named Bd.method).1
  have X0 : Stand p l e ro18 s m #[(.ref a1), (.ref a2), (.int p3), (.int 0)] below meth c s₁ [] 0 0 := Stand.of_body Bd
  have e0 : s₁.heap = h0 := by rw [← hh, Bd.state]; rfl
  have N0 := Fr.nil n0
  have pre0 : ∀ t, Steps p.tables e below (s₁.setTop (mkF m 0 #[.val (.ref a1), .val (.ref a2), .val (.int p3), .val (.int 0)] [])) t → Steps p.tables e below (s₁.setTop (entryFrame m #[(.ref a1), (.ref a2), (.int p3), (.int 0)] 4)) t := fun t k => castTop (ef_16_RRII m a1 a2 p3 (0 : Int32)) k
  obtain ⟨cq1, kq1, q1a, q1b, q1c⟩ := isOf hZ e0 E_a1
  obtain ⟨_, _, ⟨T1, L1, k1, n1⟩, -, X1, ⟨Lc1, hQ1, l1, y1, z1⟩, st1⟩ := X0.virtualBack hx (y := mn5) (z := mn5) hown (mvT hZ (hwi hw 76 rfl)) (mvT hZ (hwi hw 77 rfl)) (notFace_of_selects (args := #[]) (mvT hZ (hwi hw 79 rfl))) (mvT hZ (hwi hw 79 rfl)) (mvT hZ (hwi hw 78 rfl)) (by decide) (backOf (W := 0) (rm_coder0 l Z a0 hw [] a1 w_COMPACT_STRINGS h0 n0 Z0 S_COMPACT_STRINGS hcs F_a1_coder O0) hZ (hwi hw 80 rfl) (hwi hw 3 rfl) (by decide) (by decide)) q1a q1c (g := (mkF m 1 #[.val (.ref a1), .val (.ref a2), .val (.int p3), .val (.int 0)] [(.ref a1)])) rfl (by rw [hml]; rfl) (Steps.refl _) (argsL := []) (rest := []) (lenOf pd_B_147 rfl) rfl (by show 2 * 0 + _ ≤ _; exact Nat.le_of_eq rfl) (hb hby d16_1) (fun _ _ => ⟨rfl, e0, (by decide : 0 + 0 ≤ _), (by decide : 0 + 0 ≤ _)⟩)
  dsimp only [Pt.U, Pt.locs, Pt.cells, Pt.slots] at X1 l1 y1 z1 st1 hQ1
  subst l1 y1 z1
  obtain ⟨rfl, N1q, e1⟩ := hQ1
  have N1 := Fr.app N0 N1q
  obtain ⟨T2, X2, e2, st2⟩ := getF X1 hx hZ hown (host := "") (Or.inl (hwi hw 20 rfl)) Via.refl e1 F_a1_value (g := (mkF m 9 #[.val (.ref a1), .val (.ref a2), .val (.int p3), .val (.int 0)] [(.ref a1)])) rfl rfl (hb hby d16_9)
  obtain ⟨T3, X3, e3, st3⟩ := getF X2 hx hZ hown (host := "") (Or.inl (hwi hw 20 rfl)) Via.refl e2 F_a1_value (g := (mkF m 18 #[.val (.ref a1), .val (.ref a2), .val (.int p3), .val (.int 0)] [(.ref a1), (.int p3), (.ref a2), (.int 0), (.ref t_a1)])) rfl rfl (hb hby d16_18)
  obtain ⟨cl4, Ar4, -, S4, M4, -, -⟩ := id V_t_a1
  obtain ⟨T5, h5, L5, X5, e5, N5, Kc5, V5, st5⟩ := cpA X3 hx hZ hown (hwi hw 105 rfl) (hwi hw 108 rfl) (hwi hw 106 rfl) (hwi hw 107 rfl) e3 V_t_a1 V_a2 (sp := (0 : Int32)) (dp := p3) (nn := N) (us := (List.range N.toNatClampNeg).map fun i => (vs : List Value).getD ((0 : Int32).toNatClampNeg + i) (.int 0)) (Or.inl ⟨rfl, rfl⟩) (by decide) hdp hnn (Nat.le_of_eq (Nat.zero_add _)) hfit rfl hlen N1 g_a2 (g := (mkF m 22 #[.val (.ref a1), .val (.ref a2), .val (.int p3), .val (.int 0)] [(.int N), (.int p3), (.ref a2), (.int 0), (.ref t_a1)])) rfl (by rw [hml]; rfl) rfl (hb hby d16_22) (by decide) (W := 0) (by show 2 * 0 + _ ≤ _; exact Nat.le_of_eq rfl) (by decide)
  have Vd5 : Arv Z h5 a2 k_a2 .byte (16 : Int32) (own_ap vd vs p3 N) (.int 0) := V5
  have sz6 : h0.size ≤ h5.size := Kc5.1
  have Z6 : n0 ≤ h5.size := Nat.le_trans Z0 sz6
  have O6 := O0.keep Kc5 (allS g_a2 all0)
  have K6 : Keep h0 h5 [a2] := (Keep.refl h0 [a2]).trans Kc5 (allS (Or.inl (List.mem_of_getElem? (i := 0) rfl)) (all0))
  obtain ⟨fs, hr, hrun, hended, hW, hsame⟩ := X5.leave (v := none) (fun _ => rfl)
  refine ⟨_, _, pre0 _ ?_, hrun, hended, _, _, rfl, ?_, ⟨_, rfl⟩, hW, hsame.mono (by decide) (by decide)⟩
  · show St p e below s₁ (mkF m 0 #[.val (.ref a1), .val (.ref a2), .val (.int p3), .val (.int 0)] []) _
    refine XS.aloadN X0.here hx rfl (hb hby d16_0) rfl rfl ?_
    refine st1.trans ?_
    refine XS.iloadN X1.here hx rfl (hb hby d16_4) rfl ?_
    refine XS.icmpNo X1.here hx rfl (hb hby d16_5) rfl (teq (by decide : (0 : Int32) = (0 : Int32))).2 ?_
    refine XS.aloadN X1.here hx rfl (hb hby d16_8) rfl rfl ?_
    refine st2 _ ?_
    refine XS.iconst X2.here hx rfl (hb hby d16_12) ?_
    refine XS.aloadN X2.here hx rfl (hb hby d16_13) rfl rfl ?_
    show St p e below T2 (mkF m 14 #[.val (.ref a1), .val (.ref a2), .val (.int p3), .val (.int 0)] [(.ref a2), (.int 0), (.ref t_a1)]) _
    refine XS.iloadN X2.here hx rfl (hb hby d16_14) rfl ?_
    refine XS.iloadN X2.here hx rfl (hb hby d16_15) rfl ?_
    refine XS.ishl X2.here hx rfl (hb hby d16_16) rfl ?_
    show St p e below T2 (mkF m 17 #[.val (.ref a1), .val (.ref a2), .val (.int p3), .val (.int 0)] [(.int (p3 <<< ((0 : Int32) &&& 31))), (.ref a2), (.int 0), (.ref t_a1)]) _
    rw [hsl]
    show St p e below T2 (mkF m 17 #[.val (.ref a1), .val (.ref a2), .val (.int p3), .val (.int 0)] [(.int p3), (.ref a2), (.int 0), (.ref t_a1)]) _
    refine XS.aloadN X2.here hx rfl (hb hby d16_17) rfl rfl ?_
    refine st3 _ ?_
    refine X3.arraylength hx (by rw [e3]; exact Ar4.1) (State.isArrayOf_alike hZ.alike Ar4.2.1) (g := (mkF m 21 #[.val (.ref a1), .val (.ref a2), .val (.int p3), .val (.int 0)] [(.ref t_a1), (.int p3), (.ref a2), (.int 0), (.ref t_a1)])) rfl rfl (hb hby d16_21) _ ?_
    rw [len_of S4 M4]
    show St p e below T3 (mkF m 22 #[.val (.ref a1), .val (.ref a2), .val (.int p3), .val (.int 0)] [(.int N), (.int p3), (.ref a2), (.int 0), (.ref t_a1)]) _
    refine st5 _ ?_
    refine XS.goto X5.here hx rfl (pc0 := 25) (pc' := 43) rfl (hb hby d16_25) (by decide) (by decide) ?_
    show St p e below T5 (mkF m 43 #[.val (.ref a1), .val (.ref a2), .val (.int p3), .val (.int 0)] []) _
    exact X5.returnOut hx Bd.returns (hb hby d16_43) hr
  · show Q_getb Z a1 a2 p3 w_COMPACT_STRINGS t_a1 k_t_a1 vs N k_a2 vd h0 n0 _ T5.heap _
    rw [e5]
    exact ⟨rfl, N5, K6, Vd5⟩
theorem d15_0 : decode jdk_68_method_71_code 0 = .ok (.getstatic 18, 3) := by decide +kernel
theorem d15_3 : decode jdk_68_method_71_code 3 = .ok (.ifCond .eq 18, 3) := by decide +kernel
theorem d15_6 : decode jdk_68_method_71_code 6 = .ok (.aload_n 0, 1) := by decide +kernel
theorem d15_7 : decode jdk_68_method_71_code 7 = .ok (.getfield 22, 3) := by decide +kernel
theorem d15_10 : decode jdk_68_method_71_code 10 = .ok (.aload_n 1, 1) := by decide +kernel
theorem d15_11 : decode jdk_68_method_71_code 11 = .ok (.invokevirtual 40, 3) := by decide +kernel
theorem d15_14 : decode jdk_68_method_71_code 14 = .ok (.if_icmp .eq 7, 3) := by decide +kernel
theorem d15_21 : decode jdk_68_method_71_code 21 = .ok (.return_, 1) := by decide +kernel
theorem pn_15 : plainName "java/lang/AbstractStringBuilder" = true := by first | (simp [plainName, overriddenIn]; done) | decide +kernel
theorem ef_15_RR (m : MethodId) (x0 : Addr) (x1 : Addr) : entryFrame m #[(.ref x0), (.ref x1)] 2 = mkF m 0 #[.val (.ref x0), .val (.ref x1)] [] := by first | (simp [entryFrame, mkF, argsToLocals, Value.category]; done) | rfl
def Q_infl (Z : State) (a1 : Addr) (a2 : Addr) (w_COMPACT_STRINGS : Int32) (h0 : Heap) (n0 : Nat) (v : Option Value) (h : Heap) (L : List Loc) : Prop := v = none ∧ Fr n0 L ∧ h = h0
set_option maxRecDepth 65536 in
set_option maxHeartbeats 40000000 in
theorem rm_infl (l : Launch) (Z : State) (a0 : Array Value) (hw : ∀ d ∈ tables_1, d.before a0 Z = true) (ws : List Jvm.Cond) (a1 : Addr) (a2 : Addr) (w_COMPACT_STRINGS : Int32) (h0 : Heap) (n0 : Nat) (Z0 : n0 ≤ h0.size) (S_COMPACT_STRINGS : Sta Z Z.heap "java/lang/String" "COMPACT_STRINGS" "Z" (.int w_COMPACT_STRINGS)) (hcs : ¬ (w_COMPACT_STRINGS = (0 : Int32))) (E_a1 : Exa Z h0 a1 "java/lang/StringBuilder") (F_a1_coder : Fld Z h0 a1 "java/lang/AbstractStringBuilder" "coder" "B" (.int 0)) (E_a2 : Exa Z h0 a2 "java/lang/String") (F_a2_coder : Fld Z h0 a2 "java/lang/String" "coder" "B" (.int 0)) (O0 : Old Z n0 h0) :
    MetFree l mn15 (head1 (Jvm.Cond.code mn15 jdk_68_method_71_code 2 none :: ws) ro12) (fun a U => a = #[(.ref a1), (.ref a2)] ∧ Z.Warmed39 U.vm ∧ U.heap = h0) (fun _ _ _ _ _ => True) (fun _ U o U' => ∃ v L, o = .returned v ∧ Q_infl Z a1 a2 w_COMPACT_STRINGS h0 n0 v U'.heap L ∧ FrameEnd U o U' L ro12.cells ro12.slots) := by
  refine MetFree.of_bodySF (plainFor_of_name pn_15) hisR ?_
  intro p e s m args below meth c s₁ Bd hml0 hP hK
  obtain ⟨rfl, hZ, hh⟩ := hP
  have hx := Bd.exec
  have hby := Bd.bytes
  have hml : c.maxLocals = 2 := hml0
  have hown : s.vm.findClass "java/lang/AbstractStringBuilder" = some m.cls := findClass_of_methodNamed Bd.named
  have hnm := (name_of_methodNamed Bd.named Bd.method).1
  have X0 : Stand p l e ro12 s m #[(.ref a1), (.ref a2)] below meth c s₁ [] 0 0 := Stand.of_body Bd
  have e0 : s₁.heap = h0 := by rw [← hh, Bd.state]; rfl
  have N0 := Fr.nil n0
  have pre0 : ∀ t, Steps p.tables e below (s₁.setTop (mkF m 0 #[.val (.ref a1), .val (.ref a2)] [])) t → Steps p.tables e below (s₁.setTop (entryFrame m #[(.ref a1), (.ref a2)] 2)) t := fun t k => castTop (ef_15_RR m a1 a2) k
  obtain ⟨T1, X1, e1, st1⟩ := getS2 X0 hx hZ hown (host := "") (Or.inl (hwi hw 56 rfl)) Via.refl e0 (S_COMPACT_STRINGS.ext O0.2) (g := (mkF m 0 #[.val (.ref a1), .val (.ref a2)] [])) rfl (hb hby d15_0)
  obtain ⟨T2, X2, e2, st2⟩ := getF X1 hx hZ hown (host := "") (Or.inl (hwi hw 59 rfl)) Via.refl e1 F_a1_coder (g := (mkF m 7 #[.val (.ref a1), .val (.ref a2)] [(.ref a1)])) rfl rfl (hb hby d15_7)
  obtain ⟨cq3, kq3, q3a, q3b, q3c⟩ := isOf hZ e2 E_a2
  obtain ⟨_, _, ⟨T3, L3, k3, n3⟩, -, X3, ⟨Lc3, hQ3, l3, y3, z3⟩, st3⟩ := X2.virtualBack hx (y := mn5) (z := mn5) hown (mvT hZ (hwi hw 99 rfl)) (mvT hZ (hwi hw 77 rfl)) (notFace_of_selects (args := #[]) (mvT hZ (hwi hw 79 rfl))) (mvT hZ (hwi hw 79 rfl)) (mvT hZ (hwi hw 78 rfl)) (by decide) (backOf (W := 1) (rm_coder0 l Z a0 hw [] a2 w_COMPACT_STRINGS h0 n0 Z0 S_COMPACT_STRINGS hcs F_a2_coder O0) hZ (hwi hw 80 rfl) (hwi hw 3 rfl) (by decide) (by decide)) q3a q3c (g := (mkF m 11 #[.val (.ref a1), .val (.ref a2)] [(.ref a2), (.int 0)])) rfl (by rw [hml]; rfl) (Steps.refl _) (argsL := []) (rest := [(.int 0)]) (lenOf pd_B_147 rfl) rfl (by show 2 * 0 + _ ≤ _; exact Nat.le_of_eq rfl) (hb hby d15_11) (fun _ _ => ⟨rfl, e2, (by decide : 0 + 0 ≤ _), (by decide : 0 + 0 ≤ _)⟩)
  dsimp only [Pt.U, Pt.locs, Pt.cells, Pt.slots] at X3 l3 y3 z3 st3 hQ3
  subst l3 y3 z3
  obtain ⟨rfl, N3q, e3⟩ := hQ3
  have N3 := Fr.app N0 N3q
  obtain ⟨fs, hr, hrun, hended, hW, hsame⟩ := X3.leave (v := none) (fun _ => rfl)
  refine ⟨_, _, pre0 _ ?_, hrun, hended, _, _, rfl, ?_, ⟨_, rfl⟩, hW, hsame.mono (by decide) (by decide)⟩
  · show St p e below s₁ (mkF m 0 #[.val (.ref a1), .val (.ref a2)] []) _
    refine st1 _ ?_
    refine XS.ifNo X1.here hx rfl (hb hby d15_3) rfl ((if0 _ _).trans (feq hcs).1) ?_
    refine XS.aloadN X1.here hx rfl (hb hby d15_6) rfl rfl ?_
    refine st2 _ ?_
    refine XS.aloadN X2.here hx rfl (hb hby d15_10) rfl rfl ?_
    refine st3.trans ?_
    refine XS.icmpYes X3.here hx rfl (pc0 := 14) (pc' := 21) rfl (hb hby d15_14) rfl (teq (by decide : (0 : Int32) = (0 : Int32))).1 (by decide) (by decide) ?_
    show St p e below T3 (mkF m 21 #[.val (.ref a1), .val (.ref a2)] []) _
    exact X3.returnOut hx Bd.returns (hb hby d15_21) hr
  · show Q_infl Z a1 a2 w_COMPACT_STRINGS h0 n0 _ T3.heap _
    rw [e3]
    exact ⟨rfl, N3, rfl⟩
theorem pd_Ljava_lang_String__V_863 : parseMethodDescriptor "(Ljava/lang/String;)V" = some ⟨[(.object "java/lang/String")], none⟩ := by decide +kernel
theorem own_declares {Z : State} {a0 : Array Value} {y : MethodName} {bytes : ByteArray} {mx : Nat} {rt : Option FieldType} (wi : (Jvm.Cond.instanceMethod y).before a0 Z = true) (wc : (Jvm.Cond.code y bytes mx rt).before a0 Z = true) : (Jvm.Cond.declares y).before a0 Z = true := by
  obtain ⟨m, meth, h1, h2, h3, h4⟩ := Cond.instanceMethod_spec wi
  obtain ⟨meth', c, g1, -, -, -, -, -, -, g8⟩ := Cond.code_spec h1 wc
  cases h2.symm.trans g1
  simp [Cond.before, Cond.holds, Cond.value, h1, h2, h3, g8]
theorem own_same {Z : State} {a0 : Array Value} {y z0 z1 : MethodName} {C : String} (wi : (Jvm.Cond.instanceMethod y).before a0 Z = true) (ws : (Jvm.Cond.selects C z0 z1).before a0 Z = true) (hc : z1.cls = y.cls) (hy : y.cls ≠ "java/lang/invoke/MethodHandle" ∧ y.cls ≠ "java/lang/invoke/VarHandle") : (Jvm.Cond.sameMethod y.cls y.cls y.name y.desc).before a0 Z = true := by
  obtain ⟨m, meth, h1, h2, h3, h4⟩ := Cond.instanceMethod_spec wi
  have hf := State.methodFound?_of_named h1 hy
  have hcl := findClass_of_methodNamed h1
  obtain ⟨c, r, m', -, -, q3, -, mk, hk, hni⟩ := Cond.selects_spec ws
  have hcl' := findClass_of_methodNamed q3
  rw [hc, hcl] at hcl'
  have e : m.cls = m'.cls := Option.some.inj hcl'
  have h1' : Z.methodNamed? ⟨y.cls, y.name, y.desc⟩ = some m := h1
  rw [← e] at hk
  simp [Cond.before, Cond.holds, Cond.value, hcl, hf, h1', hk, hni]
theorem own_nf {s : State} {args : Array Value} {y z0 z1 : MethodName} {C : String} (ws : (Jvm.Cond.selects C z0 z1).before args s = true) (hc : z1.cls = y.cls) : NotFace s y := fun r0 h0 => by
  obtain ⟨c, r, m', -, -, q3, -, mk, hk, hni⟩ := Cond.selects_spec ws
  have hcl := findClass_of_methodNamed h0
  have hcl' := findClass_of_methodNamed q3
  rw [hc, hcl] at hcl'
  have e : r0.cls = m'.cls := Option.some.inj hcl'
  exact ⟨mk, by rw [e]; exact hk, hni⟩
theorem pd_BIB_V_463 : parseMethodDescriptor "([BIB)V" = some ⟨[(.array .byte), .int, .byte], none⟩ := by decide +kernel
theorem d14_0 : decode jdk_68_method_73_code 0 = .ok (.aload_n 0, 1) := by decide +kernel
theorem d14_1 : decode jdk_68_method_73_code 1 = .ok (.aload_n 2, 1) := by decide +kernel
theorem d14_2 : decode jdk_68_method_73_code 2 = .ok (.invokevirtual 397, 3) := by decide +kernel
theorem d14_5 : decode jdk_68_method_73_code 5 = .ok (.aload_n 2, 1) := by decide +kernel
theorem d14_6 : decode jdk_68_method_73_code 6 = .ok (.aload_n 0, 1) := by decide +kernel
theorem d14_7 : decode jdk_68_method_73_code 7 = .ok (.getfield 15, 3) := by decide +kernel
theorem d14_10 : decode jdk_68_method_73_code 10 = .ok (.iload_n 1, 1) := by decide +kernel
theorem d14_11 : decode jdk_68_method_73_code 11 = .ok (.aload_n 0, 1) := by decide +kernel
theorem d14_12 : decode jdk_68_method_73_code 12 = .ok (.getfield 22, 3) := by decide +kernel
theorem d14_15 : decode jdk_68_method_73_code 15 = .ok (.invokevirtual 399, 3) := by decide +kernel
theorem d14_18 : decode jdk_68_method_73_code 18 = .ok (.return_, 1) := by decide +kernel
theorem pn_14 : plainName "java/lang/AbstractStringBuilder" = true := by first | (simp [plainName, overriddenIn]; done) | decide +kernel
theorem ef_14_RIR (m : MethodId) (x0 : Addr) (x1 : Int32) (x2 : Addr) : entryFrame m #[(.ref x0), (.int x1), (.ref x2)] 3 = mkF m 0 #[.val (.ref x0), .val (.int x1), .val (.ref x2)] [] := by first | (simp [entryFrame, mkF, argsToLocals, Value.category]; done) | rfl
def Q_putst (Z : State) (a1 : Addr) (p2 : Int32) (a3 : Addr) (w_COMPACT_STRINGS : Int32) (t_a1 : Addr) (k_t_a1 : ClassId) (vd : List Value) (t_a3 : Addr) (k_t_a3 : ClassId) (vs : List Value) (N : Int32) (h0 : Heap) (n0 : Nat) (v : Option Value) (h : Heap) (L : List Loc) : Prop := v = none ∧ Fr n0 L ∧ Keep h0 h [t_a1] ∧ Arv Z h t_a1 k_t_a1 .byte (16 : Int32) (own_ap vd vs p2 N) (.int 0)
set_option maxRecDepth 65536 in
set_option maxHeartbeats 40000000 in
theorem rm_putst (l : Launch) (Z : State) (a0 : Array Value) (hw : ∀ d ∈ tables_1, d.before a0 Z = true) (ws : List Jvm.Cond) (a1 : Addr) (p2 : Int32) (a3 : Addr) (w_COMPACT_STRINGS : Int32) (t_a1 : Addr) (k_t_a1 : ClassId) (vd : List Value) (t_a3 : Addr) (k_t_a3 : ClassId) (vs : List Value) (N : Int32) (h0 : Heap) (n0 : Nat) (Z0 : n0 ≤ h0.size) (S_COMPACT_STRINGS : Sta Z Z.heap "java/lang/String" "COMPACT_STRINGS" "Z" (.int w_COMPACT_STRINGS)) (hcs : ¬ (w_COMPACT_STRINGS = (0 : Int32))) (E_a1 : Exa Z h0 a1 "java/lang/StringBuilder") (F_a1_coder : Fld Z h0 a1 "java/lang/AbstractStringBuilder" "coder" "B" (.int 0)) (F_a1_value : Fld Z h0 a1 "java/lang/AbstractStringBuilder" "value" "[B" (.ref t_a1)) (V_t_a1 : Arv Z h0 t_a1 k_t_a1 .byte (16 : Int32) vd (.int 0)) (E_a3 : Exa Z h0 a3 "java/lang/String") (F_a3_coder : Fld Z h0 a3 "java/lang/String" "coder" "B" (.int 0)) (F_a3_value : Fld Z h0 a3 "java/lang/String" "value" "[B" (.ref t_a3)) (V_t_a3 : Arv Z h0 t_a3 k_t_a3 .byte N vs (.int 0)) (hdp : ¬ (p2 < (0 : Int32))) (hfit : p2.toNatClampNeg + N.toNatClampNeg ≤ (16 : Int32).toNatClampNeg) (hlen : p2.toNatClampNeg + N.toNatClampNeg ≤ (vd).length) (hnn : ¬ (N < (0 : Int32))) (hne : ¬ (t_a3 = t_a1)) (O0 : Old Z n0 h0) (g_t_a1 : n0 ≤ t_a1) (hsl : (p2 <<< ((0 : Int32) &&& 31)) = p2) :
    MetFree l mn16 (head1 (Jvm.Cond.code mn16 jdk_68_method_73_code 3 none :: ws) ro19) (fun a U => a = #[(.ref a1), (.int p2), (.ref a3)] ∧ Z.Warmed39 U.vm ∧ U.heap = h0) (fun _ _ _ _ _ => True) (fun _ U o U' => ∃ v L, o = .returned v ∧ Q_putst Z a1 p2 a3 w_COMPACT_STRINGS t_a1 k_t_a1 vd t_a3 k_t_a3 vs N h0 n0 v U'.heap L ∧ FrameEnd U o U' L ro19.cells ro19.slots) := by
  refine MetFree.of_bodySF (plainFor_of_name pn_14) hisR ?_
  intro p e s m args below meth c s₁ Bd hml0 hP hK
  obtain ⟨rfl, hZ, hh⟩ := hP
  have hx := Bd.exec
  have hby := Bd.bytes
  have hml : c.maxLocals = 3 := hml0
  have hown : s.vm.findClass "java/lang/AbstractStringBuilder" = some m.cls := findClass_of_methodNamed Bd.named
  have hnm := (name_of_methodNamed Bd.named Bd.method).1
  have X0 : Stand p l e ro19 s m #[(.ref a1), (.int p2), (.ref a3)] below meth c s₁ [] 0 0 := Stand.of_body Bd
  have e0 : s₁.heap = h0 := by rw [← hh, Bd.state]; rfl
  have N0 := Fr.nil n0
  have pre0 : ∀ t, Steps p.tables e below (s₁.setTop (mkF m 0 #[.val (.ref a1), .val (.int p2), .val (.ref a3)] [])) t → Steps p.tables e below (s₁.setTop (entryFrame m #[(.ref a1), (.int p2), (.ref a3)] 3)) t := fun t k => castTop (ef_14_RIR m a1 p2 a3) k
  obtain ⟨cq1, kq1, q1a, q1b, q1c⟩ := isOf hZ e0 E_a1
  obtain ⟨_, _, ⟨T1, L1, k1, n1⟩, -, X1, ⟨Lc1, hQ1, l1, y1, z1⟩, st1⟩ := X0.virtualBack hx (y := mn15) (z := mn15) hown (mvT hZ (hwi hw 94 rfl)) (mvT hZ (own_declares (hwi hw 95 rfl) (hwi hw 98 rfl))) (notFace_of_selects (args := #[]) (mvT hZ (hwi hw 97 rfl))) (mvT hZ (hwi hw 97 rfl)) (mvT hZ (hwi hw 95 rfl)) (by decide) (backOf (W := 0) (rm_infl l Z a0 hw [] a1 a3 w_COMPACT_STRINGS h0 n0 Z0 S_COMPACT_STRINGS hcs E_a1 F_a1_coder E_a3 F_a3_coder O0) hZ (hwi hw 98 rfl) (hwi hw 53 rfl) (by decide) (by decide)) q1a q1c (g := (mkF m 2 #[.val (.ref a1), .val (.int p2), .val (.ref a3)] [(.ref a3), (.ref a1)])) rfl (by rw [hml]; rfl) (Steps.refl _) (argsL := [(.ref a3)]) (rest := []) (lenOf pd_Ljava_lang_String__V_863 rfl) rfl (by show 2 * 0 + _ ≤ _; exact Nat.le_of_eq rfl) (hb hby d14_2) (fun _ _ => ⟨rfl, e0, (by decide : 0 + 0 ≤ _), (by decide : 0 + 0 ≤ _)⟩)
  dsimp only [Pt.U, Pt.locs, Pt.cells, Pt.slots] at X1 l1 y1 z1 st1 hQ1
  subst l1 y1 z1
  obtain ⟨rfl, N1q, e1⟩ := hQ1
  have N1 := Fr.app N0 N1q
  obtain ⟨T2, X2, e2, st2⟩ := getF X1 hx hZ hown (host := "") (Or.inl (hwi hw 57 rfl)) Via.refl e1 F_a1_value (g := (mkF m 7 #[.val (.ref a1), .val (.int p2), .val (.ref a3)] [(.ref a1), (.ref a3)])) rfl rfl (hb hby d14_7)
  obtain ⟨T3, X3, e3, st3⟩ := getF X2 hx hZ hown (host := "") (Or.inl (hwi hw 59 rfl)) Via.refl e2 F_a1_coder (g := (mkF m 12 #[.val (.ref a1), .val (.int p2), .val (.ref a3)] [(.ref a1), (.int p2), (.ref t_a1), (.ref a3)])) rfl rfl (hb hby d14_12)
  obtain ⟨cq4, kq4, q4a, q4b, q4c⟩ := isOf hZ e3 E_a3
  obtain ⟨_, _, ⟨T4, L4, k4, n4⟩, -, X4, ⟨Lc4, hQ4, l4, y4, z4⟩, st4⟩ := X3.virtualBack hx (y := mn14) (z := mn14) hown (mvT hZ (hwi hw 100 rfl)) (mvT hZ (hwi hw 101 rfl)) (notFace_of_selects (args := #[]) (mvT hZ (hwi hw 103 rfl))) (mvT hZ (hwi hw 103 rfl)) (mvT hZ (hwi hw 102 rfl)) (by decide) (backOf (W := 0) (rm_getb l Z a0 hw [] a3 t_a1 p2 w_COMPACT_STRINGS t_a3 k_t_a3 vs N k_t_a1 vd h0 n0 Z0 S_COMPACT_STRINGS hcs E_a3 F_a3_coder F_a3_value V_t_a3 V_t_a1 hdp hfit hlen hnn hne O0 hsl g_t_a1) hZ (hwi hw 104 rfl) (hwi hw 3 rfl) (by decide) (by decide)) q4a q4c (g := (mkF m 15 #[.val (.ref a1), .val (.int p2), .val (.ref a3)] [(.int 0), (.int p2), (.ref t_a1), (.ref a3)])) rfl (by rw [hml]; rfl) (Steps.refl _) (argsL := [(.ref t_a1), (.int p2), (.int 0)]) (rest := []) (lenOf pd_BIB_V_463 rfl) rfl (by show 2 * 0 + _ ≤ _; exact Nat.le_of_eq rfl) (hb hby d14_15) (fun _ _ => ⟨rfl, e3, (by decide : 0 + 0 ≤ _), (by decide : 0 + 0 ≤ _)⟩)
  dsimp only [Pt.U, Pt.locs, Pt.cells, Pt.slots] at X4 l4 y4 z4 st4 hQ4
  subst l4 y4 z4
  obtain ⟨rfl, N4q, Kc4, g4_0⟩ := hQ4
  have N4 := Fr.app N1 N4q
  have sz5 : h0.size ≤ T4.heap.size := Kc4.1
  have Z5 : n0 ≤ T4.heap.size := Nat.le_trans Z0 sz5
  have O5 := O0.keep Kc4 (allS g_t_a1 all0)
  have K5 : Keep h0 T4.heap [t_a1] := (Keep.refl h0 [t_a1]).trans Kc4 (allS (Or.inl (List.mem_of_getElem? (i := 0) rfl)) (all0))
  obtain ⟨fs, hr, hrun, hended, hW, hsame⟩ := X4.leave (v := none) (fun _ => rfl)
  refine ⟨_, _, pre0 _ ?_, hrun, hended, _, _, rfl, ?_, ⟨_, rfl⟩, hW, hsame.mono (by decide) (by decide)⟩
  · show St p e below s₁ (mkF m 0 #[.val (.ref a1), .val (.int p2), .val (.ref a3)] []) _
    refine XS.aloadN X0.here hx rfl (hb hby d14_0) rfl rfl ?_
    refine XS.aloadN X0.here hx rfl (hb hby d14_1) rfl rfl ?_
    refine st1.trans ?_
    refine XS.aloadN X1.here hx rfl (hb hby d14_5) rfl rfl ?_
    refine XS.aloadN X1.here hx rfl (hb hby d14_6) rfl rfl ?_
    refine st2 _ ?_
    refine XS.iloadN X2.here hx rfl (hb hby d14_10) rfl ?_
    refine XS.aloadN X2.here hx rfl (hb hby d14_11) rfl rfl ?_
    show St p e below T2 (mkF m 12 #[.val (.ref a1), .val (.int p2), .val (.ref a3)] [(.ref a1), (.int p2), (.ref t_a1), (.ref a3)]) _
    refine st3 _ ?_
    refine st4.trans ?_
    show St p e below T4 (mkF m 18 #[.val (.ref a1), .val (.int p2), .val (.ref a3)] []) _
    exact X4.returnOut hx Bd.returns (hb hby d14_18) hr
  · show Q_putst Z a1 p2 a3 w_COMPACT_STRINGS t_a1 k_t_a1 vd t_a3 k_t_a3 vs N h0 n0 _ T4.heap _
    exact ⟨rfl, N4, K5, g4_0⟩
theorem d13_0 : decode jdk_68_method_9_code 0 = .ok (.aload_n 0, 1) := by decide +kernel
theorem d13_1 : decode jdk_68_method_9_code 1 = .ok (.getfield 15, 3) := by decide +kernel
theorem d13_4 : decode jdk_68_method_9_code 4 = .ok (.arraylength, 1) := by decide +kernel
theorem d13_5 : decode jdk_68_method_9_code 5 = .ok (.aload_n 0, 1) := by decide +kernel
theorem d13_6 : decode jdk_68_method_9_code 6 = .ok (.getfield 22, 3) := by decide +kernel
theorem d13_9 : decode jdk_68_method_9_code 9 = .ok (.ishr, 1) := by decide +kernel
theorem d13_10 : decode jdk_68_method_9_code 10 = .ok (.istore_n 2, 1) := by decide +kernel
theorem d13_11 : decode jdk_68_method_9_code 11 = .ok (.iload_n 1, 1) := by decide +kernel
theorem d13_12 : decode jdk_68_method_9_code 12 = .ok (.iload_n 2, 1) := by decide +kernel
theorem d13_13 : decode jdk_68_method_9_code 13 = .ok (.isub, 1) := by decide +kernel
theorem d13_14 : decode jdk_68_method_9_code 14 = .ok (.ifCond .le 24, 3) := by decide +kernel
theorem d13_38 : decode jdk_68_method_9_code 38 = .ok (.return_, 1) := by decide +kernel
theorem pn_13 : plainName "java/lang/AbstractStringBuilder" = true := by first | (simp [plainName, overriddenIn]; done) | decide +kernel
theorem ef_13_RI (m : MethodId) (x0 : Addr) (x1 : Int32) : entryFrame m #[(.ref x0), (.int x1)] 3 = mkF m 0 #[.val (.ref x0), .val (.int x1), .unset] [] := by first | (simp [entryFrame, mkF, argsToLocals, Value.category]; done) | rfl
def Q_ensc (Z : State) (a1 : Addr) (p2 : Int32) (t_a1 : Addr) (k_t_a1 : ClassId) (vd : List Value) (h0 : Heap) (n0 : Nat) (v : Option Value) (h : Heap) (L : List Loc) : Prop := v = none ∧ Fr n0 L ∧ h = h0
set_option maxRecDepth 65536 in
set_option maxHeartbeats 40000000 in
theorem rm_ensc (l : Launch) (Z : State) (a0 : Array Value) (hw : ∀ d ∈ tables_1, d.before a0 Z = true) (ws : List Jvm.Cond) (a1 : Addr) (p2 : Int32) (t_a1 : Addr) (k_t_a1 : ClassId) (vd : List Value) (h0 : Heap) (n0 : Nat) (Z0 : n0 ≤ h0.size) (E_a1 : Exa Z h0 a1 "java/lang/StringBuilder") (F_a1_coder : Fld Z h0 a1 "java/lang/AbstractStringBuilder" "coder" "B" (.int 0)) (F_a1_value : Fld Z h0 a1 "java/lang/AbstractStringBuilder" "value" "[B" (.ref t_a1)) (V_t_a1 : Arv Z h0 t_a1 k_t_a1 .byte (16 : Int32) vd (.int 0)) (hcap : ¬ ((0 : Int32) < (p2 - (16 : Int32)))) :
    MetFree l mn17 (head1 (Jvm.Cond.code mn17 jdk_68_method_9_code 3 none :: ws) ro2) (fun a U => a = #[(.ref a1), (.int p2)] ∧ Z.Warmed39 U.vm ∧ U.heap = h0) (fun _ _ _ _ _ => True) (fun _ U o U' => ∃ v L, o = .returned v ∧ Q_ensc Z a1 p2 t_a1 k_t_a1 vd h0 n0 v U'.heap L ∧ FrameEnd U o U' L ro2.cells ro2.slots) := by
  refine MetFree.of_bodySF (plainFor_of_name pn_13) hisR ?_
  intro p e s m args below meth c s₁ Bd hml0 hP hK
  obtain ⟨rfl, hZ, hh⟩ := hP
  have hx := Bd.exec
  have hby := Bd.bytes
  have hml : c.maxLocals = 3 := hml0
  have hown : s.vm.findClass "java/lang/AbstractStringBuilder" = some m.cls := findClass_of_methodNamed Bd.named
  have hnm := (name_of_methodNamed Bd.named Bd.method).1
  have X0 : Stand p l e ro2 s m #[(.ref a1), (.int p2)] below meth c s₁ [] 0 0 := Stand.of_body Bd
  have e0 : s₁.heap = h0 := by rw [← hh, Bd.state]; rfl
  have N0 := Fr.nil n0
  have pre0 : ∀ t, Steps p.tables e below (s₁.setTop (mkF m 0 #[.val (.ref a1), .val (.int p2), .unset] [])) t → Steps p.tables e below (s₁.setTop (entryFrame m #[(.ref a1), (.int p2)] 3)) t := fun t k => castTop (ef_13_RI m a1 p2) k
  obtain ⟨T1, X1, e1, st1⟩ := getF X0 hx hZ hown (host := "") (Or.inl (hwi hw 57 rfl)) Via.refl e0 F_a1_value (g := (mkF m 1 #[.val (.ref a1), .val (.int p2), .unset] [(.ref a1)])) rfl rfl (hb hby d13_1)
  obtain ⟨cl2, Ar2, -, S2, M2, -, -⟩ := id V_t_a1
  obtain ⟨T3, X3, e3, st3⟩ := getF X1 hx hZ hown (host := "") (Or.inl (hwi hw 59 rfl)) Via.refl e1 F_a1_coder (g := (mkF m 6 #[.val (.ref a1), .val (.int p2), .unset] [(.ref a1), (.int 16)])) rfl rfl (hb hby d13_6)
  obtain ⟨fs, hr, hrun, hended, hW, hsame⟩ := X3.leave (v := none) (fun _ => rfl)
  refine ⟨_, _, pre0 _ ?_, hrun, hended, _, _, rfl, ?_, ⟨_, rfl⟩, hW, hsame.mono (by decide) (by decide)⟩
  · show St p e below s₁ (mkF m 0 #[.val (.ref a1), .val (.int p2), .unset] []) _
    refine XS.aloadN X0.here hx rfl (hb hby d13_0) rfl rfl ?_
    refine st1 _ ?_
    refine X1.arraylength hx (by rw [e1]; exact Ar2.1) (State.isArrayOf_alike hZ.alike Ar2.2.1) (g := (mkF m 4 #[.val (.ref a1), .val (.int p2), .unset] [(.ref t_a1)])) rfl rfl (hb hby d13_4) _ ?_
    rw [len_of S2 M2]
    show St p e below T1 (mkF m 5 #[.val (.ref a1), .val (.int p2), .unset] [(.int 16)]) _
    refine XS.aloadN X1.here hx rfl (hb hby d13_5) rfl rfl ?_
    refine st3 _ ?_
    refine XS.ishr X3.here hx rfl (hb hby d13_9) rfl ?_
    show St p e below T3 (mkF m 10 #[.val (.ref a1), .val (.int p2), .unset] [(.int ((16 : Int32) >>> ((0 : Int32) &&& 31)))]) _
    rw [(by decide : ((16 : Int32) >>> ((0 : Int32) &&& 31)) = (16 : Int32))]
    show St p e below T3 (mkF m 10 #[.val (.ref a1), .val (.int p2), .unset] [(.int 16)]) _
    refine XS.istoreN X3.here hx rfl (hb hby d13_10) rfl (l' := #[.val (.ref a1), .val (.int p2), .val (.int 16)]) rfl ?_
    refine XS.iloadN X3.here hx rfl (hb hby d13_11) rfl ?_
    refine XS.iloadN X3.here hx rfl (hb hby d13_12) rfl ?_
    refine XS.isub X3.here hx rfl (hb hby d13_13) rfl ?_
    refine XS.ifYes X3.here hx rfl (pc0 := 14) (pc' := 38) rfl (hb hby d13_14) rfl ((if0 _ _).trans (flt hcap).2.2.2) (by decide) (by decide) ?_
    show St p e below T3 (mkF m 38 #[.val (.ref a1), .val (.int p2), .val (.int 16)] []) _
    exact X3.returnOut hx Bd.returns (hb hby d13_38) hr
  · show Q_ensc Z a1 p2 t_a1 k_t_a1 vd h0 n0 _ T3.heap _
    rw [e3]
    exact ⟨rfl, N0, rfl⟩
theorem pd_I_154 : parseMethodDescriptor "()I" = some ⟨[], some .int⟩ := by decide +kernel
theorem pd_ILjava_lang_String__V_936 : parseMethodDescriptor "(ILjava/lang/String;)V" = some ⟨[.int, (.object "java/lang/String")], none⟩ := by decide +kernel
theorem d10_0 : decode jdk_68_method_22_code 0 = .ok (.aload_n 1, 1) := by decide +kernel
theorem d10_1 : decode jdk_68_method_22_code 1 = .ok (.ifnonnull 8, 3) := by decide +kernel
theorem d10_9 : decode jdk_68_method_22_code 9 = .ok (.aload_n 1, 1) := by decide +kernel
theorem d10_10 : decode jdk_68_method_22_code 10 = .ok (.invokevirtual 32, 3) := by decide +kernel
theorem d10_13 : decode jdk_68_method_22_code 13 = .ok (.istore_n 2, 1) := by decide +kernel
theorem d10_14 : decode jdk_68_method_22_code 14 = .ok (.aload_n 0, 1) := by decide +kernel
theorem d10_15 : decode jdk_68_method_22_code 15 = .ok (.aload_n 0, 1) := by decide +kernel
theorem d10_16 : decode jdk_68_method_22_code 16 = .ok (.getfield 79, 3) := by decide +kernel
theorem d10_19 : decode jdk_68_method_22_code 19 = .ok (.iload_n 2, 1) := by decide +kernel
theorem d10_20 : decode jdk_68_method_22_code 20 = .ok (.iadd, 1) := by decide +kernel
theorem d10_21 : decode jdk_68_method_22_code 21 = .ok (.invokevirtual 100, 3) := by decide +kernel
theorem d10_24 : decode jdk_68_method_22_code 24 = .ok (.aload_n 0, 1) := by decide +kernel
theorem d10_25 : decode jdk_68_method_22_code 25 = .ok (.aload_n 0, 1) := by decide +kernel
theorem d10_26 : decode jdk_68_method_22_code 26 = .ok (.getfield 79, 3) := by decide +kernel
theorem d10_29 : decode jdk_68_method_22_code 29 = .ok (.aload_n 1, 1) := by decide +kernel
theorem d10_30 : decode jdk_68_method_22_code 30 = .ok (.invokevirtual 208, 3) := by decide +kernel
theorem d10_33 : decode jdk_68_method_22_code 33 = .ok (.aload_n 0, 1) := by decide +kernel
theorem d10_34 : decode jdk_68_method_22_code 34 = .ok (.dup, 1) := by decide +kernel
theorem d10_35 : decode jdk_68_method_22_code 35 = .ok (.getfield 79, 3) := by decide +kernel
theorem d10_38 : decode jdk_68_method_22_code 38 = .ok (.iload_n 2, 1) := by decide +kernel
theorem d10_39 : decode jdk_68_method_22_code 39 = .ok (.iadd, 1) := by decide +kernel
theorem d10_40 : decode jdk_68_method_22_code 40 = .ok (.putfield 79, 3) := by decide +kernel
theorem d10_43 : decode jdk_68_method_22_code 43 = .ok (.aload_n 0, 1) := by decide +kernel
theorem d10_44 : decode jdk_68_method_22_code 44 = .ok (.areturn, 1) := by decide +kernel
theorem pn_10 : plainName "java/lang/AbstractStringBuilder" = true := by first | (simp [plainName, overriddenIn]; done) | decide +kernel
theorem ef_10_RR (m : MethodId) (x0 : Addr) (x1 : Addr) : entryFrame m #[(.ref x0), (.ref x1)] 3 = mkF m 0 #[.val (.ref x0), .val (.ref x1), .unset] [] := by first | (simp [entryFrame, mkF, argsToLocals, Value.category]; done) | rfl
def Q_abapp (Z : State) (a1 : Addr) (a2 : Addr) (w_COMPACT_STRINGS : Int32) (t_a1 : Addr) (k_t_a1 : ClassId) (vd : List Value) (cn : Int32) (t_a2 : Addr) (k_t_a2 : ClassId) (vs : List Value) (N : Int32) (h0 : Heap) (n0 : Nat) (v : Option Value) (h : Heap) (L : List Loc) : Prop := v = some (.ref a1) ∧ Fr n0 L ∧ Keep h0 h [t_a1, a1] ∧ Exa Z h a1 "java/lang/StringBuilder" ∧ Fld Z h a1 "java/lang/AbstractStringBuilder" "value" "[B" (.ref t_a1) ∧ Fld Z h a1 "java/lang/AbstractStringBuilder" "coder" "B" (.int 0) ∧ Fld Z h a1 "java/lang/AbstractStringBuilder" "count" "I" (.int (cn + N)) ∧ Arv Z h t_a1 k_t_a1 .byte (16 : Int32) (own_ap vd vs cn N) (.int 0)
set_option maxRecDepth 65536 in
set_option maxHeartbeats 40000000 in
theorem rm_abapp (l : Launch) (Z : State) (a0 : Array Value) (hw : ∀ d ∈ tables_1, d.before a0 Z = true) (ws : List Jvm.Cond) (a1 : Addr) (a2 : Addr) (w_COMPACT_STRINGS : Int32) (t_a1 : Addr) (k_t_a1 : ClassId) (vd : List Value) (cn : Int32) (t_a2 : Addr) (k_t_a2 : ClassId) (vs : List Value) (N : Int32) (h0 : Heap) (n0 : Nat) (Z0 : n0 ≤ h0.size) (S_COMPACT_STRINGS : Sta Z Z.heap "java/lang/String" "COMPACT_STRINGS" "Z" (.int w_COMPACT_STRINGS)) (hcs : ¬ (w_COMPACT_STRINGS = (0 : Int32))) (E_a1 : Exa Z h0 a1 "java/lang/StringBuilder") (F_a1_coder : Fld Z h0 a1 "java/lang/AbstractStringBuilder" "coder" "B" (.int 0)) (F_a1_value : Fld Z h0 a1 "java/lang/AbstractStringBuilder" "value" "[B" (.ref t_a1)) (V_t_a1 : Arv Z h0 t_a1 k_t_a1 .byte (16 : Int32) vd (.int 0)) (F_a1_count : Fld Z h0 a1 "java/lang/AbstractStringBuilder" "count" "I" (.int cn)) (E_a2 : Exa Z h0 a2 "java/lang/String") (F_a2_coder : Fld Z h0 a2 "java/lang/String" "coder" "B" (.int 0)) (F_a2_value : Fld Z h0 a2 "java/lang/String" "value" "[B" (.ref t_a2)) (V_t_a2 : Arv Z h0 t_a2 k_t_a2 .byte N vs (.int 0)) (hdp : ¬ (cn < (0 : Int32))) (hfit : cn.toNatClampNeg + N.toNatClampNeg ≤ (16 : Int32).toNatClampNeg) (hlen : cn.toNatClampNeg + N.toNatClampNeg ≤ (vd).length) (hnn : ¬ (N < (0 : Int32))) (hcap : ¬ ((0 : Int32) < ((cn + N) - (16 : Int32)))) (hne : ¬ (t_a2 = t_a1)) (hno : ¬ (a2 = a1)) (g_t_a1 : n0 ≤ t_a1) (O0 : Old Z n0 h0) (hN : (N >>> ((0 : Int32) &&& 31)) = N) (hsl : (cn <<< ((0 : Int32) &&& 31)) = cn) (g_a1 : n0 ≤ a1) :
    MetFree l mn18 (head1 (Jvm.Cond.code mn18 jdk_68_method_22_code 3 (some (.object "java/lang/AbstractStringBuilder")) :: ws) ro20) (fun a U => a = #[(.ref a1), (.ref a2)] ∧ Z.Warmed39 U.vm ∧ U.heap = h0) (fun _ _ _ _ _ => True) (fun _ U o U' => ∃ v L, o = .returned v ∧ Q_abapp Z a1 a2 w_COMPACT_STRINGS t_a1 k_t_a1 vd cn t_a2 k_t_a2 vs N h0 n0 v U'.heap L ∧ FrameEnd U o U' L ro20.cells ro20.slots) := by
  refine MetFree.of_bodySF (plainFor_of_name pn_10) hisR ?_
  intro p e s m args below meth c s₁ Bd hml0 hP hK
  obtain ⟨rfl, hZ, hh⟩ := hP
  have hx := Bd.exec
  have hby := Bd.bytes
  have hml : c.maxLocals = 3 := hml0
  have hown : s.vm.findClass "java/lang/AbstractStringBuilder" = some m.cls := findClass_of_methodNamed Bd.named
  have hnm := (name_of_methodNamed Bd.named Bd.method).1
  have X0 : Stand p l e ro20 s m #[(.ref a1), (.ref a2)] below meth c s₁ [] 0 0 := Stand.of_body Bd
  have e0 : s₁.heap = h0 := by rw [← hh, Bd.state]; rfl
  have N0 := Fr.nil n0
  have pre0 : ∀ t, Steps p.tables e below (s₁.setTop (mkF m 0 #[.val (.ref a1), .val (.ref a2), .unset] [])) t → Steps p.tables e below (s₁.setTop (entryFrame m #[(.ref a1), (.ref a2)] 3)) t := fun t k => castTop (ef_10_RR m a1 a2) k
  obtain ⟨cq1, kq1, q1a, q1b, q1c⟩ := isOf hZ e0 E_a2
  obtain ⟨_, _, ⟨T1, L1, k1, n1⟩, -, X1, ⟨Lc1, hQ1, l1, y1, z1⟩, st1⟩ := X0.virtualBack hx (y := mn6) (z := mn6) hown (mvT hZ (hwi hw 71 rfl)) (mvT hZ (hwi hw 72 rfl)) (notFace_of_selects (args := #[]) (mvT hZ (hwi hw 74 rfl))) (mvT hZ (hwi hw 74 rfl)) (mvT hZ (hwi hw 73 rfl)) (by decide) (backOf (W := 0) (rm_slen l Z a0 hw [] a2 w_COMPACT_STRINGS t_a2 k_t_a2 vs N h0 n0 Z0 S_COMPACT_STRINGS hcs E_a2 F_a2_coder F_a2_value V_t_a2 O0 hN) hZ (hwi hw 75 rfl) (hwi hw 3 rfl) (by decide) (by decide)) q1a q1c (g := (mkF m 10 #[.val (.ref a1), .val (.ref a2), .unset] [(.ref a2)])) rfl (by rw [hml]; rfl) (Steps.refl _) (argsL := []) (rest := []) (lenOf pd_I_154 rfl) rfl (by show 2 * 0 + _ ≤ _; exact Nat.le_of_eq rfl) (hb hby d10_10) (fun _ _ => ⟨rfl, e0, (by decide : 0 + 0 ≤ _), (by decide : 0 + 0 ≤ _)⟩)
  dsimp only [Pt.U, Pt.locs, Pt.cells, Pt.slots] at X1 l1 y1 z1 st1 hQ1
  subst l1 y1 z1
  obtain ⟨rfl, N1q, e1⟩ := hQ1
  have N1 := Fr.app N0 N1q
  obtain ⟨T2, X2, e2, st2⟩ := getF X1 hx hZ hown (host := "") (Or.inl (hwi hw 82 rfl)) Via.refl e1 F_a1_count (g := (mkF m 16 #[.val (.ref a1), .val (.ref a2), .val (.int N)] [(.ref a1), (.ref a1)])) rfl rfl (hb hby d10_16)
  obtain ⟨cq3, kq3, q3a, q3b, q3c⟩ := isOf hZ e2 E_a1
  obtain ⟨_, _, ⟨T3, L3, k3, n3⟩, -, X3, ⟨Lc3, hQ3, l3, y3, z3⟩, st3⟩ := X2.virtualBack hx (y := mn17) (z := mn17) hown (mvT hZ (hwi hw 84 rfl)) (mvT hZ (own_declares (hwi hw 85 rfl) (hwi hw 88 rfl))) (notFace_of_selects (args := #[]) (mvT hZ (hwi hw 87 rfl))) (mvT hZ (hwi hw 87 rfl)) (mvT hZ (hwi hw 85 rfl)) (by decide) (backOf (W := 0) (rm_ensc l Z a0 hw [] a1 (cn + N) t_a1 k_t_a1 vd h0 n0 Z0 E_a1 F_a1_coder F_a1_value V_t_a1 hcap) hZ (hwi hw 88 rfl) (hwi hw 53 rfl) (by decide) (by decide)) q3a q3c (g := (mkF m 21 #[.val (.ref a1), .val (.ref a2), .val (.int N)] [(.int (cn + N)), (.ref a1)])) rfl (by rw [hml]; rfl) (Steps.refl _) (argsL := [(.int (cn + N))]) (rest := []) (lenOf pd_I_V_240 rfl) rfl (by show 2 * 0 + _ ≤ _; exact Nat.le_of_eq rfl) (hb hby d10_21) (fun _ _ => ⟨rfl, e2, (by decide : 0 + 0 ≤ _), (by decide : 0 + 0 ≤ _)⟩)
  dsimp only [Pt.U, Pt.locs, Pt.cells, Pt.slots] at X3 l3 y3 z3 st3 hQ3
  subst l3 y3 z3
  obtain ⟨rfl, N3q, e3⟩ := hQ3
  have N3 := Fr.app N1 N3q
  obtain ⟨T4, X4, e4, st4⟩ := getF X3 hx hZ hown (host := "") (Or.inl (hwi hw 82 rfl)) Via.refl e3 F_a1_count (g := (mkF m 26 #[.val (.ref a1), .val (.ref a2), .val (.int N)] [(.ref a1), (.ref a1)])) rfl rfl (hb hby d10_26)
  obtain ⟨cq5, kq5, q5a, q5b, q5c⟩ := isOf hZ e4 E_a1
  obtain ⟨_, _, ⟨T5, L5, k5, n5⟩, -, X5, ⟨Lc5, hQ5, l5, y5, z5⟩, st5⟩ := X4.virtualBack hx (y := mn16) (z := mn16) hown (mvT hZ (hwi hw 89 rfl)) (mvT hZ (own_declares (hwi hw 90 rfl) (hwi hw 93 rfl))) (notFace_of_selects (args := #[]) (mvT hZ (hwi hw 92 rfl))) (mvT hZ (hwi hw 92 rfl)) (mvT hZ (hwi hw 90 rfl)) (by decide) (backOf (W := 0) (rm_putst l Z a0 hw [] a1 cn a2 w_COMPACT_STRINGS t_a1 k_t_a1 vd t_a2 k_t_a2 vs N h0 n0 Z0 S_COMPACT_STRINGS hcs E_a1 F_a1_coder F_a1_value V_t_a1 E_a2 F_a2_coder F_a2_value V_t_a2 hdp hfit hlen hnn hne O0 g_t_a1 hsl) hZ (hwi hw 93 rfl) (hwi hw 53 rfl) (by decide) (by decide)) q5a q5c (g := (mkF m 30 #[.val (.ref a1), .val (.ref a2), .val (.int N)] [(.ref a2), (.int cn), (.ref a1)])) rfl (by rw [hml]; rfl) (Steps.refl _) (argsL := [(.int cn), (.ref a2)]) (rest := []) (lenOf pd_ILjava_lang_String__V_936 rfl) rfl (by show 2 * 0 + _ ≤ _; exact Nat.le_of_eq rfl) (hb hby d10_30) (fun _ _ => ⟨rfl, e4, (by decide : 0 + 0 ≤ _), (by decide : 0 + 0 ≤ _)⟩)
  dsimp only [Pt.U, Pt.locs, Pt.cells, Pt.slots] at X5 l5 y5 z5 st5 hQ5
  subst l5 y5 z5
  obtain ⟨rfl, N5q, Kc5, g5_0⟩ := hQ5
  have N5 := Fr.app N3 N5q
  have sz6 : h0.size ≤ T5.heap.size := Kc5.1
  have Z6 : n0 ≤ T5.heap.size := Nat.le_trans Z0 sz6
  have O6 := O0.keep Kc5 (allS g_t_a1 all0)
  have K6 : Keep h0 T5.heap [t_a1, a1] := (Keep.refl h0 [t_a1, a1]).trans Kc5 (allS (Or.inl (List.mem_of_getElem? (i := 0) rfl)) (all0))
  have fc7 := (E_a1.keep Kc5)
  have fc8 := (F_a1_count.keep Kc5 (ninS (Exa.neArv fc7 g5_0 (hwi hw 44 rfl)) nin0))
  obtain ⟨T9, X9, e9, st9⟩ := getF X5 hx hZ hown (host := "") (Or.inl (hwi hw 82 rfl)) Via.refl rfl fc8 (g := (mkF m 35 #[.val (.ref a1), .val (.ref a2), .val (.int N)] [(.ref a1), (.ref a1)])) rfl rfl (hb hby d10_35)
  obtain ⟨T10, h10, X10, e10, W10, st10⟩ := putF X9 hx hZ hown (host := "") (Or.inl (hwi hw 82 rfl)) Via.refl e9 fc8 fc7 (Or.inl (hwi hw 83 rfl)) (hwi hw 44 rfl) (ty := .int) (by decide) rfl rfl (g := (mkF m 40 #[.val (.ref a1), .val (.ref a2), .val (.int N)] [(.int (cn + N)), (.ref a1)])) rfl rfl (hb hby d10_40)
  have N10 := Fr.snoc X10 N5 g_a1
  have Fw10 := fc8.same W10
  have sz11 : T5.heap.size ≤ h10.size := Nat.le_of_eq W10.size.symm
  have Z11 : n0 ≤ h10.size := Nat.le_trans Z6 sz11
  have O11 := O6.wr W10 g_a1
  have K11 : Keep h0 h10 [t_a1, a1] := K6.wr W10 (Or.inl (List.mem_of_getElem? (i := 1) rfl))
  have fc12 := (fc7.wr W10)
  have fc13 := (g5_0.other W10 (Ne.symm (Exa.neArv E_a1 V_t_a1 (hwi hw 44 rfl))))
  have fc14 := ((F_a1_value.keep Kc5 (ninS (Exa.neArv fc12 fc13 (hwi hw 44 rfl)) nin0)).other W10 (Or.inr (slot_ne (Or.inl (hwi hw 58 rfl)) (Or.inl (hwi hw 83 rfl)) (by decide) (t := (.array .byte)) (t' := .int) (by decide) (by decide))))
  have fc15 := ((F_a1_coder.keep Kc5 (ninS (Exa.neArv fc12 fc13 (hwi hw 44 rfl)) nin0)).other W10 (Or.inr (slot_ne (Or.inl (hwi hw 60 rfl)) (Or.inl (hwi hw 83 rfl)) (by decide) (t := .byte) (t' := .int) (by decide) (by decide))))
  obtain ⟨fs, hr, hrun, hended, hW, hsame⟩ := X10.leave (v := some (.ref a1)) (fun h => by rw [Bd.returns] at h; cases h)
  refine ⟨_, _, pre0 _ ?_, hrun, hended, _, _, rfl, ?_, ⟨_, rfl⟩, hW, hsame.mono (by decide) (by decide)⟩
  · show St p e below s₁ (mkF m 0 #[.val (.ref a1), .val (.ref a2), .unset] []) _
    refine XS.aloadN X0.here hx rfl (hb hby d10_0) rfl rfl ?_
    refine XS.ifnonnullYes X0.here hx rfl (pc0 := 1) (pc' := 9) rfl (hb hby d10_1) rfl (by decide) (by decide) ?_
    refine XS.aloadN X0.here hx rfl (hb hby d10_9) rfl rfl ?_
    refine st1.trans ?_
    refine XS.istoreN X1.here hx rfl (hb hby d10_13) rfl (l' := #[.val (.ref a1), .val (.ref a2), .val (.int N)]) rfl ?_
    refine XS.aloadN X1.here hx rfl (hb hby d10_14) rfl rfl ?_
    refine XS.aloadN X1.here hx rfl (hb hby d10_15) rfl rfl ?_
    refine st2 _ ?_
    show St p e below T2 (mkF m 19 #[.val (.ref a1), .val (.ref a2), .val (.int N)] [(.int cn), (.ref a1)]) _
    refine XS.iloadN X2.here hx rfl (hb hby d10_19) rfl ?_
    refine XS.iadd X2.here hx rfl (hb hby d10_20) rfl ?_
    refine st3.trans ?_
    refine XS.aloadN X3.here hx rfl (hb hby d10_24) rfl rfl ?_
    refine XS.aloadN X3.here hx rfl (hb hby d10_25) rfl rfl ?_
    refine st4 _ ?_
    refine XS.aloadN X4.here hx rfl (hb hby d10_29) rfl rfl ?_
    refine st5.trans ?_
    show St p e below T5 (mkF m 33 #[.val (.ref a1), .val (.ref a2), .val (.int N)] []) _
    refine XS.aloadN X5.here hx rfl (hb hby d10_33) rfl rfl ?_
    refine XS.dup X5.here hx rfl (hb hby d10_34) rfl rfl ?_
    refine st9 _ ?_
    refine XS.iloadN X9.here hx rfl (hb hby d10_38) rfl ?_
    refine XS.iadd X9.here hx rfl (hb hby d10_39) rfl ?_
    refine st10 _ ?_
    refine XS.aloadN X10.here hx rfl (hb hby d10_43) rfl rfl ?_
    show St p e below T10 (mkF m 44 #[.val (.ref a1), .val (.ref a2), .val (.int N)] [(.ref a1)]) _
    jvm_step X10.here [X10.here.top, hx, (hb hby d10_44), X10.method', Bd.returns, Value.isRef, FieldType.isReference]
    first | (intro acts; rw [hr _ acts rfl rfl rfl]) | rw [hr _ _ rfl rfl rfl]
    exact Steps.refl _
  · show Q_abapp Z a1 a2 w_COMPACT_STRINGS t_a1 k_t_a1 vd cn t_a2 k_t_a2 vs N h0 n0 _ T10.heap _
    rw [e10]
    exact ⟨rfl, N10, K11, fc12, fc14, fc15, Fw10, fc13⟩
theorem pd_Ljava_lang_String__Ljava_lang_AbstractStringBuilder_4 : parseMethodDescriptor "(Ljava/lang/String;)Ljava/lang/AbstractStringBuilder;" = some ⟨[(.object "java/lang/String")], some (.object "java/lang/AbstractStringBuilder")⟩ := by decide +kernel
theorem d9_0 : decode jdk_67_method_7_code 0 = .ok (.aload_n 0, 1) := by decide +kernel
theorem d9_1 : decode jdk_67_method_7_code 1 = .ok (.aload_n 1, 1) := by decide +kernel
theorem d9_2 : decode jdk_67_method_7_code 2 = .ok (.invokespecial 29, 3) := by decide +kernel
theorem d9_5 : decode jdk_67_method_7_code 5 = .ok (.pop, 1) := by decide +kernel
theorem d9_6 : decode jdk_67_method_7_code 6 = .ok (.aload_n 0, 1) := by decide +kernel
theorem d9_7 : decode jdk_67_method_7_code 7 = .ok (.areturn, 1) := by decide +kernel
theorem pn_9 : plainName "java/lang/StringBuilder" = true := by first | (simp [plainName, overriddenIn]; done) | decide +kernel
theorem ef_9_RR (m : MethodId) (x0 : Addr) (x1 : Addr) : entryFrame m #[(.ref x0), (.ref x1)] 2 = mkF m 0 #[.val (.ref x0), .val (.ref x1)] [] := by first | (simp [entryFrame, mkF, argsToLocals, Value.category]; done) | rfl
def Q_sbapp (Z : State) (a1 : Addr) (a2 : Addr) (w_COMPACT_STRINGS : Int32) (t_a1 : Addr) (k_t_a1 : ClassId) (vd : List Value) (cn : Int32) (t_a2 : Addr) (k_t_a2 : ClassId) (vs : List Value) (N : Int32) (h0 : Heap) (n0 : Nat) (v : Option Value) (h : Heap) (L : List Loc) : Prop := v = some (.ref a1) ∧ Fr n0 L ∧ Keep h0 h [a1, t_a1] ∧ Exa Z h a1 "java/lang/StringBuilder" ∧ Fld Z h a1 "java/lang/AbstractStringBuilder" "value" "[B" (.ref t_a1) ∧ Fld Z h a1 "java/lang/AbstractStringBuilder" "coder" "B" (.int 0) ∧ Fld Z h a1 "java/lang/AbstractStringBuilder" "count" "I" (.int (cn + N)) ∧ Arv Z h t_a1 k_t_a1 .byte (16 : Int32) (own_ap vd vs cn N) (.int 0)
set_option maxRecDepth 65536 in
set_option maxHeartbeats 40000000 in
theorem rm_sbapp (l : Launch) (Z : State) (a0 : Array Value) (hw : ∀ d ∈ tables_1, d.before a0 Z = true) (ws : List Jvm.Cond) (a1 : Addr) (a2 : Addr) (w_COMPACT_STRINGS : Int32) (t_a1 : Addr) (k_t_a1 : ClassId) (vd : List Value) (cn : Int32) (t_a2 : Addr) (k_t_a2 : ClassId) (vs : List Value) (N : Int32) (h0 : Heap) (n0 : Nat) (Z0 : n0 ≤ h0.size) (S_COMPACT_STRINGS : Sta Z Z.heap "java/lang/String" "COMPACT_STRINGS" "Z" (.int w_COMPACT_STRINGS)) (hcs : ¬ (w_COMPACT_STRINGS = (0 : Int32))) (E_a1 : Exa Z h0 a1 "java/lang/StringBuilder") (F_a1_coder : Fld Z h0 a1 "java/lang/AbstractStringBuilder" "coder" "B" (.int 0)) (F_a1_value : Fld Z h0 a1 "java/lang/AbstractStringBuilder" "value" "[B" (.ref t_a1)) (V_t_a1 : Arv Z h0 t_a1 k_t_a1 .byte (16 : Int32) vd (.int 0)) (F_a1_count : Fld Z h0 a1 "java/lang/AbstractStringBuilder" "count" "I" (.int cn)) (E_a2 : Exa Z h0 a2 "java/lang/String") (F_a2_coder : Fld Z h0 a2 "java/lang/String" "coder" "B" (.int 0)) (F_a2_value : Fld Z h0 a2 "java/lang/String" "value" "[B" (.ref t_a2)) (V_t_a2 : Arv Z h0 t_a2 k_t_a2 .byte N vs (.int 0)) (hdp : ¬ (cn < (0 : Int32))) (hfit : cn.toNatClampNeg + N.toNatClampNeg ≤ (16 : Int32).toNatClampNeg) (hlen : cn.toNatClampNeg + N.toNatClampNeg ≤ (vd).length) (hnn : ¬ (N < (0 : Int32))) (hcap : ¬ ((0 : Int32) < ((cn + N) - (16 : Int32)))) (hne : ¬ (t_a2 = t_a1)) (hno : ¬ (a2 = a1)) (g_t_a1 : n0 ≤ t_a1) (O0 : Old Z n0 h0) (g_a1 : n0 ≤ a1) (hN : (N >>> ((0 : Int32) &&& 31)) = N) (hsl : (cn <<< ((0 : Int32) &&& 31)) = cn) :
    MetFree l mn19 (head1 (Jvm.Cond.code mn19 jdk_67_method_7_code 2 (some (.object "java/lang/StringBuilder")) :: ws) ro21) (fun a U => a = #[(.ref a1), (.ref a2)] ∧ Z.Warmed39 U.vm ∧ U.heap = h0) (fun _ _ _ _ _ => True) (fun _ U o U' => ∃ v L, o = .returned v ∧ Q_sbapp Z a1 a2 w_COMPACT_STRINGS t_a1 k_t_a1 vd cn t_a2 k_t_a2 vs N h0 n0 v U'.heap L ∧ FrameEnd U o U' L ro21.cells ro21.slots) := by
  refine MetFree.of_bodySF (plainFor_of_name pn_9) hisR ?_
  intro p e s m args below meth c s₁ Bd hml0 hP hK
  obtain ⟨rfl, hZ, hh⟩ := hP
  have hx := Bd.exec
  have hby := Bd.bytes
  have hml : c.maxLocals = 2 := hml0
  have hown : s.vm.findClass "java/lang/StringBuilder" = some m.cls := findClass_of_methodNamed Bd.named
  have hnm := (name_of_methodNamed Bd.named Bd.method).1
  have X0 : Stand p l e ro21 s m #[(.ref a1), (.ref a2)] below meth c s₁ [] 0 0 := Stand.of_body Bd
  have e0 : s₁.heap = h0 := by rw [← hh, Bd.state]; rfl
  have N0 := Fr.nil n0
  have pre0 : ∀ t, Steps p.tables e below (s₁.setTop (mkF m 0 #[.val (.ref a1), .val (.ref a2)] [])) t → Steps p.tables e below (s₁.setTop (entryFrame m #[(.ref a1), (.ref a2)] 2)) t := fun t k => castTop (ef_9_RR m a1 a2) k
  obtain ⟨_, _, ⟨T1, L1, k1, n1⟩, -, X1, ⟨Lc1, hQ1, l1, y1, z1⟩, st1⟩ := superBack X0 hx hZ (y := mn18) hown (hwi hw 66 rfl) (own_same (y := mn18) (hwi hw 67 rfl) (hwi hw 87 rfl) rfl (by decide)) (hwi hw 67 rfl) (hwi hw 68 rfl) (by decide) (backOf (W := 0) (rm_abapp l Z a0 hw [] a1 a2 w_COMPACT_STRINGS t_a1 k_t_a1 vd cn t_a2 k_t_a2 vs N h0 n0 Z0 S_COMPACT_STRINGS hcs E_a1 F_a1_coder F_a1_value V_t_a1 F_a1_count E_a2 F_a2_coder F_a2_value V_t_a2 hdp hfit hlen hnn hcap hne hno g_t_a1 O0 hN hsl g_a1) hZ (hwi hw 70 rfl) (hwi hw 53 rfl) (by decide) (by decide)) e0 (Ins.self E_a1) (g := (mkF m 2 #[.val (.ref a1), .val (.ref a2)] [(.ref a2), (.ref a1)])) rfl (by rw [hml]; rfl) (hwi hw 70 rfl) (argsL := [(.ref a2)]) (rest := []) (lenOf pd_Ljava_lang_String__Ljava_lang_AbstractStringBuilder_4 rfl) rfl (by show 2 * 0 + _ ≤ _; exact Nat.le_of_eq rfl) (hb hby d9_2) (fun _ _ => ⟨rfl, e0, (by decide : 0 + 0 ≤ _), (by decide : 0 + 0 ≤ _)⟩)
  dsimp only [Pt.U, Pt.locs, Pt.cells, Pt.slots] at X1 l1 y1 z1 st1 hQ1
  subst l1 y1 z1
  obtain ⟨rfl, N1q, Kc1, g1_0, g1_1, g1_2, g1_3, g1_4⟩ := hQ1
  have N1 := Fr.app N0 N1q
  have sz2 : h0.size ≤ T1.heap.size := Kc1.1
  have Z2 : n0 ≤ T1.heap.size := Nat.le_trans Z0 sz2
  have O2 := O0.keep Kc1 (allS g_t_a1 (allS g_a1 all0))
  have K2 : Keep h0 T1.heap [a1, t_a1] := (Keep.refl h0 [a1, t_a1]).trans Kc1 (allS (Or.inl (List.mem_of_getElem? (i := 1) rfl)) (allS (Or.inl (List.mem_of_getElem? (i := 0) rfl)) (all0)))
  obtain ⟨fs, hr, hrun, hended, hW, hsame⟩ := X1.leave (v := some (.ref a1)) (fun h => by rw [Bd.returns] at h; cases h)
  refine ⟨_, _, pre0 _ ?_, hrun, hended, _, _, rfl, ?_, ⟨_, rfl⟩, hW, hsame.mono (by decide) (by decide)⟩
  · show St p e below s₁ (mkF m 0 #[.val (.ref a1), .val (.ref a2)] []) _
    refine XS.aloadN X0.here hx rfl (hb hby d9_0) rfl rfl ?_
    refine XS.aloadN X0.here hx rfl (hb hby d9_1) rfl rfl ?_
    refine st1.trans ?_
    refine XS.pop X1.here hx rfl (hb hby d9_5) rfl rfl ?_
    refine XS.aloadN X1.here hx rfl (hb hby d9_6) rfl rfl ?_
    show St p e below T1 (mkF m 7 #[.val (.ref a1), .val (.ref a2)] [(.ref a1)]) _
    jvm_step X1.here [X1.here.top, hx, (hb hby d9_7), X1.method', Bd.returns, Value.isRef, FieldType.isReference]
    first | (intro acts; rw [hr _ acts rfl rfl rfl]) | rw [hr _ _ rfl rfl rfl]
    exact Steps.refl _
  · show Q_sbapp Z a1 a2 w_COMPACT_STRINGS t_a1 k_t_a1 vd cn t_a2 k_t_a2 vs N h0 n0 _ T1.heap _
    exact ⟨rfl, N1, K2, g1_0, g1_1, g1_2, g1_3, g1_4⟩
theorem own_met {l : Launch} {y : MethodName} {S : Spec} {P P' : Array Value → State → Prop} {Q Q' : Array Value → State → Outcome → State → Prop} {ws : List Jvm.Cond} {rm : Room} (h : MetFree l y S P (fun _ _ _ _ _ => True) Q)
    (hf : S.room.frames ≤ rm.frames) (hl : S.room.locals ≤ rm.locals) (hc : S.room.cells ≤ rm.cells) (hs : S.room.slots ≤ rm.slots) (hP : ∀ a s, P' a s → S.pre.before a s = true ∧ P a s) (hQ : ∀ a s o s', P' a s → Q a s o s' → Q' a s o s') :
    MetFree l y (head1 ws rm) P' (fun _ _ _ _ _ => True) Q' := by
  intro p e ha hcs hk s m args below hfr happ hp hK
  obtain ⟨a1, a2, a3, a4, a5, a6, a7, a8⟩ := (Spec.appliesLoose_iff hfr).mp happ
  obtain ⟨n, o, h1, h2, h3, h4⟩ := h p e ha hcs hk s m args below hfr ((Spec.appliesLoose_iff hfr).mpr ⟨a1, a2, a3, a4, a5, a6, hasRoom_mono hf hl hc hs a7, (hP _ _ hp).1⟩) (hP _ _ hp).2 hK
  exact ⟨n, o, h1, h2, h3, hQ _ _ _ _ hp h4⟩
theorem own_arr {Z : State} {c c' : Cell} {ty : FieldType} (h : Z.isArrayOf c ty) (h1 : c'.cls = c.cls) (h2 : c'.vm = c.vm) : Z.isArrayOf c' ty := by
  unfold State.isArrayOf at h ⊢; rw [h1, h2]; exact h
theorem own_tl {xs : Array Value} {j : Nat} {v d : Value} (h : xs[j]? = some v) : xs.toList.getD j d = v := by
  rw [List.getD_eq_getElem?_getD, Array.getElem?_toList, h]; rfl
theorem own_gd {xs : Array Value} {j : Nat} {v e : Value} (h : xs[j]? = some v) : xs.getD j e = v := by
  obtain ⟨hj, rfl⟩ := Array.getElem?_eq_some_iff.mp h; simp [Array.getD, hj]
theorem own_gl {xs : Array Value} {j : Nat} {d e : Value} (hj : j < xs.size) : xs.toList.getD j d = xs.getD j e := by
  rw [own_tl (Array.getElem?_eq_getElem hj), own_gd (Array.getElem?_eq_getElem hj)]
/-- the digits' tables of the start -/
def own_B (Z : State) : Prop := ∃ (st d1 : Addr) (D1 : Cell) (d2 : Addr) (D2 : Cell), Jvm.Free.SBG.Tbl Z "DigitOnes" st d1 D1 ∧ Jvm.Free.SBG.Ones D1 ∧ Jvm.Free.SBG.Tbl Z "DigitTens" st d2 D2 ∧ Jvm.Free.SBG.Tens D2
/-- n is x without its sign; the text ends at ix, and began at kk -/
def own_N (x : Int32) (n kk ix : Nat) : Prop := n ≤ 2 ^ 31 ∧ (if x < 0 then x else -x) = Jvm.Free.SBG.negI n ∧ ix = kk + (Jvm.Free.SBG.digits n + Jvm.Free.SBG.GetChars.sgn x) ∧ ix ≤ 15
/-- vs: the first kk of vd, the sign, the digits up to ix -/
def own_T (vs vd : List Value) (kk : Nat) (x : Int32) (n ix : Nat) : Prop := (∀ j, j < kk → vs.getD j (.int 0) = vd.getD j (.int 0)) ∧ (x < 0 → vs.getD kk (.int 0) = .int (45 : Int32)) ∧ ∀ i, i < Jvm.Free.SBG.digits n → vs.getD (ix - 1 - i) (.int 0) = .int (Int32.ofNat (48 + n / 10 ^ i % 10))
def Q_ssize (p1 : Int32) (h0 : Heap) (n0 : Nat) (v : Option Value) (h : Heap) (L : List Loc) : Prop := v = some (.int (Jvm.Free.SBG.strSizeOf p1)) ∧ Fr n0 L ∧ h = h0
def Q_getc (Z : State) (p1 : Int32) (a3 : Addr) (k_a3 : ClassId) (vd : List Value) (n kk ix : Nat) (h0 : Heap) (n0 : Nat) (v : Option Value) (h : Heap) (L : List Loc) : Prop := ∃ (rv : Int32) (vo : List Value), v = some (.int rv) ∧ Fr n0 L ∧ Keep h0 h [a3] ∧ Arv Z h a3 k_a3 .byte (16 : Int32) vo (.int 0) ∧ own_T vo vd kk p1 n ix
set_option maxRecDepth 65536 in
theorem rm_ssize (l : Launch) (Z : State) (a0 : Array Value) (hw : ∀ d ∈ tables_1, d.before a0 Z = true) (ws : List Jvm.Cond) (p1 : Int32) (h0 : Heap) (n0 : Nat) (Z0 : n0 ≤ h0.size) :
    MetFree l mn20 (head1 (Jvm.Cond.code mn20 jdk_33_method_13_code 4 (some .int) :: ws) ro22) (fun a U => a = #[.int p1] ∧ Z.Warmed39 U.vm ∧ U.heap = h0) (fun _ _ _ _ _ => True) (fun _ U o U' => ∃ v L, o = .returned v ∧ Q_ssize p1 h0 n0 v U'.heap L ∧ FrameEnd U o U' L ro22.cells ro22.slots) := by
  have wc : (Jvm.Cond.code Jvm.Free.SBG.StrSize.ssN Jvm.Free.SBG.StrSize.ssB 4 (some .int)).before a0 Z = true := (hwi hw 122 rfl)
  refine own_met (Jvm.Free.SBG.StrSize.gets l p1) (by decide) (by decide) (by decide) (by decide) ?_ ?_
  · rintro a s ⟨rfl, hZ, hh⟩
    refine ⟨?_, rfl⟩
    show (Jvm.Cond.and (.count 1) Jvm.Free.SBG.StrSize.tab).before _ s = true
    rw [Cond.before_and, Bool.and_eq_true]
    exact ⟨by simp [Cond.before, Cond.holds, Cond.value], mvT hZ wc⟩
  · rintro a s o s' ⟨rfl, hZ, hh⟩ ⟨h1, h2, h3⟩
    exact ⟨_, _, h1, ⟨rfl, Fr.nil n0, h2.trans hh⟩, h3⟩
set_option maxRecDepth 65536 in
theorem rm_getc (l : Launch) (Z : State) (a0 : Array Value) (hw : ∀ d ∈ tables_1, d.before a0 Z = true) (ws : List Jvm.Cond) (p1 : Int32) (p2 : Int32) (a3 : Addr) (k_a3 : ClassId) (vd : List Value) (n kk ix : Nat) (h0 : Heap) (n0 : Nat) (Z0 : n0 ≤ h0.size) (O0 : Old Z n0 h0) (V_a3 : Arv Z h0 a3 k_a3 .byte (16 : Int32) vd (.int 0)) (g_a3 : n0 ≤ a3) (hB : own_B Z) (hN : own_N p1 n kk ix) (hix : p2 = Int32.ofNat ix) :
    MetFree l mn21 (head1 (Jvm.Cond.code mn21 jdk_33_method_12_code 7 (some .int) :: ws) ro23) (fun a U => a = #[.int p1, .int p2, .ref a3] ∧ Z.Warmed39 U.vm ∧ U.heap = h0) (fun _ _ _ _ _ => True) (fun _ U o U' => ∃ v L, o = .returned v ∧ Q_getc Z p1 a3 k_a3 vd n kk ix h0 n0 v U'.heap L ∧ FrameEnd U o U' L ro23.cells ro23.slots) := by
  have wc : (Jvm.Cond.code Jvm.Free.SBG.GetChars.gcN Jvm.Free.SBG.GetChars.gcB 7 (some .int)).before a0 Z = true := (hwi hw 130 rfl)
  have w1 : (Jvm.Cond.fieldLink Jvm.Free.SBG.INT 83 Jvm.Free.SBG.INT "DigitOnes" "[B").before a0 Z = true := (hwi hw 131 rfl)
  have w2 : (Jvm.Cond.fieldLink Jvm.Free.SBG.INT 87 Jvm.Free.SBG.INT "DigitTens" "[B").before a0 Z = true := (hwi hw 217 rfl)
  obtain ⟨cl, Ar, q, S, M, H, G⟩ := V_a3
  obtain ⟨st, d1, D1, d2, D2, t1, o1, t2, o2⟩ := hB
  obtain ⟨n1, n2, n3, n4⟩ := hN
  subst hix
  have S16 : cl.slots.size = 16 := S.trans (by decide)
  obtain ⟨_, _, _, _, cS, -, -, -, -, s5, -, -, s8, -⟩ := id t1
  obtain ⟨_, _, _, _, _, -, -, -, -, -, -, -, s9, -⟩ := id t2
  have hO := O0.1
  have l5 := (Array.getElem?_eq_some_iff.mp s5).1
  have l8 := (Array.getElem?_eq_some_iff.mp s8).1
  have l9 := (Array.getElem?_eq_some_iff.mp s9).1
  have by0 : ∀ i, i < cl.slots.size → fits .byte (cl.slots.getD i .null) = true := fun i hi => by rw [own_gd (H i hi)]; exact G i hi
  refine own_met (Jvm.Free.SBG.GetChars.gets l ⟨p1, n, ix, a3, cl, st, d1, D1, d2, D2⟩) (by decide) (by decide) (by decide) (by decide) ?_ ?_
  · rintro a s ⟨rfl, hZ, hh⟩
    refine ⟨?_, ?_⟩
    · show (Jvm.Cond.and (.count 3) (Jvm.Cond.and (.code Jvm.Free.SBG.GetChars.gcN Jvm.Free.SBG.GetChars.gcB 7 (some .int)) (Jvm.Cond.and (.fieldLink Jvm.Free.SBG.INT 83 Jvm.Free.SBG.INT "DigitOnes" "[B") (.fieldLink Jvm.Free.SBG.INT 87 Jvm.Free.SBG.INT "DigitTens" "[B")))).before _ s = true
      rw [Cond.before_and, Cond.before_and, Cond.before_and, Bool.and_eq_true, Bool.and_eq_true, Bool.and_eq_true]
      exact ⟨by simp [Cond.before, Cond.holds, Cond.value], mvT hZ wc, mvT hZ w1, mvT hZ w2⟩
    · refine ⟨rfl, by rw [hh]; exact Ar.1, State.isArrayOf_alike hZ.alike Ar.2.1, Ar.2.2, ?_, ?_, ?_, n1, n2, ?_, ?_, ?_, ?_, ?_⟩
      · show cl.slots.size < 2 ^ 31; rw [S16]; decide
      · show ix ≤ cl.slots.size; omega
      · show Jvm.Free.SBG.digits n + Jvm.Free.SBG.GetChars.sgn p1 ≤ ix; omega
      · exact t1.move hZ.alike (fun c hc => by rw [hh]; exact O0.2.2 _ _ hc) (by rw [hh]; exact O0.2.2 _ _ s8)
      · exact t2.move hZ.alike (fun c hc => by rw [hh]; exact O0.2.2 _ _ hc) (by rw [hh]; exact O0.2.2 _ _ s9)
      · show a3 ≠ st; exact neN (by omega)
      · show a3 ≠ d1; exact neN (by omega)
      · show a3 ≠ d2; exact neN (by omega)
  · rintro a s o s' ⟨rfl, hZ, hh⟩ ⟨e1, e2, e3, L, e4, e5⟩
    have r1 : Jvm.Free.SBG.digits n + Jvm.Free.SBG.GetChars.sgn p1 ≤ ix := by omega
    have r2 : ix ≤ cl.slots.size := by omega
    obtain ⟨f1, f2, f3⟩ := Jvm.Free.SBG.outCell_at ⟨p1, n, ix, a3, cl, st, d1, D1, d2, D2⟩ o1 o2 n1 r1 r2
    obtain ⟨c1, c2, c3, c4, -⟩ := Jvm.Free.SBG.GetChars.outCell_facts ⟨p1, n, ix, a3, cl, st, d1, D1, d2, D2⟩ n1 r1 by0
    generalize Jvm.Free.SBG.GetChars.outCell ⟨p1, n, ix, a3, cl, st, d1, D1, d2, D2⟩ = oc at e2 f1 f2 f3 c1 c2 c3 c4
    dsimp only at f1 f2 f3 c1 c2 c3 e1 e2 e3 e4
    refine ⟨_, L, e1, ⟨_, oc.slots.toList, rfl, fun y hy => by rw [e4 y hy]; exact g_a3, ⟨?_, ?_, ?_⟩, ⟨oc, ⟨e2, own_arr Ar.2.1 c1 c2, by rw [c2]; exact Ar.2.2⟩, c1.trans q, c3.trans S, M, fun i hi => ?_, fun i hi => ?_⟩, ⟨fun j hj => ?_, fun hx => ?_, fun i hi => own_tl (f1 i hi)⟩⟩, e5⟩
    · rw [← hh]; exact e5.2.2.2.1
    · intro x c hc hx
      exact e3 x c (by simpa using hx) (by rw [hh]; exact hc)
    · intro x c hc
      by_cases hx : x = a3
      · subst hx
        cases hc.symm.trans Ar.1
        exact ⟨oc, e2, c1, c2, c3⟩
      · exact ⟨c, e3 x c hx (by rw [hh]; exact hc), rfl, rfl, rfl⟩
    · rw [own_tl (Array.getElem?_eq_getElem hi)]; exact Array.getElem?_eq_getElem hi
    · rw [own_gl (e := .null) hi]; exact c4 i hi
    · exact own_tl ((f3 j (Or.inl (by omega))).trans (H j (by omega)))
    · have hs : Jvm.Free.SBG.GetChars.sgn p1 = 1 := by simp [Jvm.Free.SBG.GetChars.sgn, hx]
      have q1 := f2 hx
      rw [show ix - Jvm.Free.SBG.digits n - 1 = kk from by omega] at q1
      exact own_tl q1
theorem d20_0 : decode jdk_68_method_68_code 0 = .ok (.getstatic 18, 3) := by decide +kernel
theorem d20_3 : decode jdk_68_method_68_code 3 = .ok (.ifCond .eq 14, 3) := by decide +kernel
theorem d20_6 : decode jdk_68_method_68_code 6 = .ok (.aload_n 0, 1) := by decide +kernel
theorem d20_7 : decode jdk_68_method_68_code 7 = .ok (.getfield 22, 3) := by decide +kernel
theorem d20_10 : decode jdk_68_method_68_code 10 = .ok (.ifCond .ne 7, 3) := by decide +kernel
theorem d20_13 : decode jdk_68_method_68_code 13 = .ok (.iconst 1, 1) := by decide +kernel
theorem d20_14 : decode jdk_68_method_68_code 14 = .ok (.goto 4, 3) := by decide +kernel
theorem d20_18 : decode jdk_68_method_68_code 18 = .ok (.ireturn, 1) := by decide +kernel
theorem pn_20 : plainName "java/lang/AbstractStringBuilder" = true := by first | (simp [plainName, overriddenIn]; done) | decide +kernel
theorem ef_20_R (m : MethodId) (x0 : Addr) : entryFrame m #[(.ref x0)] 1 = mkF m 0 #[.val (.ref x0)] [] := by first | (simp [entryFrame, mkF, argsToLocals, Value.category]; done) | rfl
def Q_ablat (Z : State) (a1 : Addr) (w_COMPACT_STRINGS : Int32) (h0 : Heap) (n0 : Nat) (v : Option Value) (h : Heap) (L : List Loc) : Prop := v = some (.int 1) ∧ Fr n0 L ∧ h = h0
set_option maxRecDepth 65536 in
set_option maxHeartbeats 40000000 in
theorem rm_ablat (l : Launch) (Z : State) (a0 : Array Value) (hw : ∀ d ∈ tables_1, d.before a0 Z = true) (ws : List Jvm.Cond) (a1 : Addr) (w_COMPACT_STRINGS : Int32) (h0 : Heap) (n0 : Nat) (Z0 : n0 ≤ h0.size) (S_COMPACT_STRINGS : Sta Z Z.heap "java/lang/String" "COMPACT_STRINGS" "Z" (.int w_COMPACT_STRINGS)) (hcs : ¬ (w_COMPACT_STRINGS = (0 : Int32))) (F_a1_coder : Fld Z h0 a1 "java/lang/AbstractStringBuilder" "coder" "B" (.int 0)) (O0 : Old Z n0 h0) :
    MetFree l mn22 (head1 (Jvm.Cond.code mn22 jdk_68_method_68_code 1 (some .boolean) :: ws) ro2) (fun a U => a = #[(.ref a1)] ∧ Z.Warmed39 U.vm ∧ U.heap = h0) (fun _ _ _ _ _ => True) (fun _ U o U' => ∃ v L, o = .returned v ∧ Q_ablat Z a1 w_COMPACT_STRINGS h0 n0 v U'.heap L ∧ FrameEnd U o U' L ro2.cells ro2.slots) := by
  refine MetFree.of_bodySF (plainFor_of_name pn_20) hisR ?_
  intro p e s m args below meth c s₁ Bd hml0 hP hK
  obtain ⟨rfl, hZ, hh⟩ := hP
  have hx := Bd.exec
  have hby := Bd.bytes
  have hml : c.maxLocals = 1 := hml0
  have hown : s.vm.findClass "java/lang/AbstractStringBuilder" = some m.cls := findClass_of_methodNamed Bd.named
  have hnm := (name_of_methodNamed Bd.named Bd.method).1
  have X0 : Stand p l e ro2 s m #[(.ref a1)] below meth c s₁ [] 0 0 := Stand.of_body Bd
  have e0 : s₁.heap = h0 := by rw [← hh, Bd.state]; rfl
  have N0 := Fr.nil n0
  have pre0 : ∀ t, Steps p.tables e below (s₁.setTop (mkF m 0 #[.val (.ref a1)] [])) t → Steps p.tables e below (s₁.setTop (entryFrame m #[(.ref a1)] 1)) t := fun t k => castTop (ef_20_R m a1) k
  obtain ⟨T1, X1, e1, st1⟩ := getS2 X0 hx hZ hown (host := "") (Or.inl (hwi hw 56 rfl)) Via.refl e0 (S_COMPACT_STRINGS.ext O0.2) (g := (mkF m 0 #[.val (.ref a1)] [])) rfl (hb hby d20_0)
  obtain ⟨T2, X2, e2, st2⟩ := getF X1 hx hZ hown (host := "") (Or.inl (hwi hw 59 rfl)) Via.refl e1 F_a1_coder (g := (mkF m 7 #[.val (.ref a1)] [(.ref a1)])) rfl rfl (hb hby d20_7)
  obtain ⟨fs, hr, hrun, hended, hW, hsame⟩ := X2.leave (v := some (.int 1)) (fun h => by rw [Bd.returns] at h; cases h)
  refine ⟨_, _, pre0 _ ?_, hrun, hended, _, _, rfl, ?_, ⟨_, rfl⟩, hW, hsame.mono (by decide) (by decide)⟩
  · show St p e below s₁ (mkF m 0 #[.val (.ref a1)] []) _
    refine st1 _ ?_
    refine XS.ifNo X1.here hx rfl (hb hby d20_3) rfl ((if0 _ _).trans (feq hcs).1) ?_
    refine XS.aloadN X1.here hx rfl (hb hby d20_6) rfl rfl ?_
    refine st2 _ ?_
    refine XS.ifNo X2.here hx rfl (hb hby d20_10) rfl ((if0 _ _).trans (teq (by decide : (0 : Int32) = (0 : Int32))).2) ?_
    refine XS.iconst X2.here hx rfl (hb hby d20_13) ?_
    refine XS.goto X2.here hx rfl (pc0 := 14) (pc' := 18) rfl (hb hby d20_14) (by decide) (by decide) ?_
    show St p e below T2 (mkF m 18 #[.val (.ref a1)] [(.int 1)]) _
    exact retN X2 hx (t := .boolean) Bd.returns (by simp) (hb hby d20_18) hr
  · show Q_ablat Z a1 w_COMPACT_STRINGS h0 n0 _ T2.heap _
    rw [e2]
    exact ⟨rfl, N0, rfl⟩
def Q_ensci (Z : State) (a1 : Addr) (p2 : Int32) (t_a1 : Addr) (k_t_a1 : ClassId) (vd : List Value) (h0 : Heap) (n0 : Nat) (v : Option Value) (h : Heap) (L : List Loc) : Prop := v = none ∧ Fr n0 L ∧ h = h0
set_option maxRecDepth 65536 in
set_option maxHeartbeats 40000000 in
theorem rm_ensci (l : Launch) (Z : State) (a0 : Array Value) (hw : ∀ d ∈ tables_1, d.before a0 Z = true) (ws : List Jvm.Cond) (a1 : Addr) (p2 : Int32) (t_a1 : Addr) (k_t_a1 : ClassId) (vd : List Value) (h0 : Heap) (n0 : Nat) (Z0 : n0 ≤ h0.size) (E_a1 : Exa Z h0 a1 "java/lang/StringBuilder") (F_a1_coder : Fld Z h0 a1 "java/lang/AbstractStringBuilder" "coder" "B" (.int 0)) (F_a1_value : Fld Z h0 a1 "java/lang/AbstractStringBuilder" "value" "[B" (.ref t_a1)) (V_t_a1 : Arv Z h0 t_a1 k_t_a1 .byte (16 : Int32) vd (.int 0)) (hcap : ¬ ((0 : Int32) < (p2 - (16 : Int32)))) :
    MetFree l mn17 (head1 (Jvm.Cond.code mn17 jdk_68_method_9_code 3 none :: ws) ro2) (fun a U => a = #[(.ref a1), (.int p2)] ∧ Z.Warmed39 U.vm ∧ U.heap = h0) (fun _ _ _ _ _ => True) (fun _ U o U' => ∃ v L, o = .returned v ∧ Q_ensci Z a1 p2 t_a1 k_t_a1 vd h0 n0 v U'.heap L ∧ FrameEnd U o U' L ro2.cells ro2.slots) := by
  refine MetFree.of_bodySF (plainFor_of_name pn_13) hisR ?_
  intro p e s m args below meth c s₁ Bd hml0 hP hK
  obtain ⟨rfl, hZ, hh⟩ := hP
  have hx := Bd.exec
  have hby := Bd.bytes
  have hml : c.maxLocals = 3 := hml0
  have hown : s.vm.findClass "java/lang/AbstractStringBuilder" = some m.cls := findClass_of_methodNamed Bd.named
  have hnm := (name_of_methodNamed Bd.named Bd.method).1
  have X0 : Stand p l e ro2 s m #[(.ref a1), (.int p2)] below meth c s₁ [] 0 0 := Stand.of_body Bd
  have e0 : s₁.heap = h0 := by rw [← hh, Bd.state]; rfl
  have N0 := Fr.nil n0
  have pre0 : ∀ t, Steps p.tables e below (s₁.setTop (mkF m 0 #[.val (.ref a1), .val (.int p2), .unset] [])) t → Steps p.tables e below (s₁.setTop (entryFrame m #[(.ref a1), (.int p2)] 3)) t := fun t k => castTop (ef_13_RI m a1 p2) k
  obtain ⟨T1, X1, e1, st1⟩ := getF X0 hx hZ hown (host := "") (Or.inl (hwi hw 57 rfl)) Via.refl e0 F_a1_value (g := (mkF m 1 #[.val (.ref a1), .val (.int p2), .unset] [(.ref a1)])) rfl rfl (hb hby d13_1)
  obtain ⟨cl2, Ar2, -, S2, M2, -, -⟩ := id V_t_a1
  obtain ⟨T3, X3, e3, st3⟩ := getF X1 hx hZ hown (host := "") (Or.inl (hwi hw 59 rfl)) Via.refl e1 F_a1_coder (g := (mkF m 6 #[.val (.ref a1), .val (.int p2), .unset] [(.ref a1), (.int 16)])) rfl rfl (hb hby d13_6)
  obtain ⟨fs, hr, hrun, hended, hW, hsame⟩ := X3.leave (v := none) (fun _ => rfl)
  refine ⟨_, _, pre0 _ ?_, hrun, hended, _, _, rfl, ?_, ⟨_, rfl⟩, hW, hsame.mono (by decide) (by decide)⟩
  · show St p e below s₁ (mkF m 0 #[.val (.ref a1), .val (.int p2), .unset] []) _
    refine XS.aloadN X0.here hx rfl (hb hby d13_0) rfl rfl ?_
    refine st1 _ ?_
    refine X1.arraylength hx (by rw [e1]; exact Ar2.1) (State.isArrayOf_alike hZ.alike Ar2.2.1) (g := (mkF m 4 #[.val (.ref a1), .val (.int p2), .unset] [(.ref t_a1)])) rfl rfl (hb hby d13_4) _ ?_
    rw [len_of S2 M2]
    show St p e below T1 (mkF m 5 #[.val (.ref a1), .val (.int p2), .unset] [(.int 16)]) _
    refine XS.aloadN X1.here hx rfl (hb hby d13_5) rfl rfl ?_
    refine st3 _ ?_
    refine XS.ishr X3.here hx rfl (hb hby d13_9) rfl ?_
    show St p e below T3 (mkF m 10 #[.val (.ref a1), .val (.int p2), .unset] [(.int ((16 : Int32) >>> ((0 : Int32) &&& 31)))]) _
    rw [(by decide : ((16 : Int32) >>> ((0 : Int32) &&& 31)) = (16 : Int32))]
    show St p e below T3 (mkF m 10 #[.val (.ref a1), .val (.int p2), .unset] [(.int 16)]) _
    refine XS.istoreN X3.here hx rfl (hb hby d13_10) rfl (l' := #[.val (.ref a1), .val (.int p2), .val (.int 16)]) rfl ?_
    refine XS.iloadN X3.here hx rfl (hb hby d13_11) rfl ?_
    refine XS.iloadN X3.here hx rfl (hb hby d13_12) rfl ?_
    refine XS.isub X3.here hx rfl (hb hby d13_13) rfl ?_
    refine XS.ifYes X3.here hx rfl (pc0 := 14) (pc' := 38) rfl (hb hby d13_14) rfl ((if0 _ _).trans (flt hcap).2.2.2) (by decide) (by decide) ?_
    show St p e below T3 (mkF m 38 #[.val (.ref a1), .val (.int p2), .val (.int 16)] []) _
    exact X3.returnOut hx Bd.returns (hb hby d13_38) hr
  · show Q_ensci Z a1 p2 t_a1 k_t_a1 vd h0 n0 _ T3.heap _
    rw [e3]
    exact ⟨rfl, N0, rfl⟩
theorem pd_I_I_227 : parseMethodDescriptor "(I)I" = some ⟨[.int], some .int⟩ := by decide +kernel
theorem pd_II_B_I_457 : parseMethodDescriptor "(II[B)I" = some ⟨[.int, .int, (.array .byte)], some .int⟩ := by decide +kernel
theorem d18_0 : decode jdk_68_method_32_code 0 = .ok (.aload_n 0, 1) := by decide +kernel
theorem d18_1 : decode jdk_68_method_32_code 1 = .ok (.getfield 79, 3) := by decide +kernel
theorem d18_4 : decode jdk_68_method_32_code 4 = .ok (.istore_n 2, 1) := by decide +kernel
theorem d18_5 : decode jdk_68_method_32_code 5 = .ok (.iload_n 2, 1) := by decide +kernel
theorem d18_6 : decode jdk_68_method_32_code 6 = .ok (.iload_n 1, 1) := by decide +kernel
theorem d18_7 : decode jdk_68_method_32_code 7 = .ok (.invokestatic 245, 3) := by decide +kernel
theorem d18_10 : decode jdk_68_method_32_code 10 = .ok (.iadd, 1) := by decide +kernel
theorem d18_11 : decode jdk_68_method_32_code 11 = .ok (.istore_n 3, 1) := by decide +kernel
theorem d18_12 : decode jdk_68_method_32_code 12 = .ok (.aload_n 0, 1) := by decide +kernel
theorem d18_13 : decode jdk_68_method_32_code 13 = .ok (.iload_n 3, 1) := by decide +kernel
theorem d18_14 : decode jdk_68_method_32_code 14 = .ok (.invokevirtual 100, 3) := by decide +kernel
theorem d18_17 : decode jdk_68_method_32_code 17 = .ok (.aload_n 0, 1) := by decide +kernel
theorem d18_18 : decode jdk_68_method_32_code 18 = .ok (.invokevirtual 83, 3) := by decide +kernel
theorem d18_21 : decode jdk_68_method_32_code 21 = .ok (.ifCond .eq 16, 3) := by decide +kernel
theorem d18_24 : decode jdk_68_method_32_code 24 = .ok (.iload_n 1, 1) := by decide +kernel
theorem d18_25 : decode jdk_68_method_32_code 25 = .ok (.iload_n 3, 1) := by decide +kernel
theorem d18_26 : decode jdk_68_method_32_code 26 = .ok (.aload_n 0, 1) := by decide +kernel
theorem d18_27 : decode jdk_68_method_32_code 27 = .ok (.getfield 15, 3) := by decide +kernel
theorem d18_30 : decode jdk_68_method_32_code 30 = .ok (.invokestatic 248, 3) := by decide +kernel
theorem d18_33 : decode jdk_68_method_32_code 33 = .ok (.pop, 1) := by decide +kernel
theorem d18_34 : decode jdk_68_method_32_code 34 = .ok (.goto 14, 3) := by decide +kernel
theorem d18_48 : decode jdk_68_method_32_code 48 = .ok (.aload_n 0, 1) := by decide +kernel
theorem d18_49 : decode jdk_68_method_32_code 49 = .ok (.iload_n 3, 1) := by decide +kernel
theorem d18_50 : decode jdk_68_method_32_code 50 = .ok (.putfield 79, 3) := by decide +kernel
theorem d18_53 : decode jdk_68_method_32_code 53 = .ok (.aload_n 0, 1) := by decide +kernel
theorem d18_54 : decode jdk_68_method_32_code 54 = .ok (.areturn, 1) := by decide +kernel
theorem pn_18 : plainName "java/lang/AbstractStringBuilder" = true := by first | (simp [plainName, overriddenIn]; done) | decide +kernel
theorem ef_18_RI (m : MethodId) (x0 : Addr) (x1 : Int32) : entryFrame m #[(.ref x0), (.int x1)] 4 = mkF m 0 #[.val (.ref x0), .val (.int x1), .unset, .unset] [] := by first | (simp [entryFrame, mkF, argsToLocals, Value.category]; done) | rfl
def Q_abapi (Z : State) (a1 : Addr) (p2 : Int32) (w_COMPACT_STRINGS : Int32) (t_a1 : Addr) (k_t_a1 : ClassId) (vd : List Value) (cn : Int32) (zz : Int32) (n : Nat) (kk : Nat) (ix : Nat) (h0 : Heap) (n0 : Nat) (v : Option Value) (h : Heap) (L : List Loc) : Prop := ∃ (vo : List Value), v = some (.ref a1) ∧ Fr n0 L ∧ Keep h0 h [t_a1, a1] ∧ Exa Z h a1 "java/lang/StringBuilder" ∧ Fld Z h a1 "java/lang/AbstractStringBuilder" "value" "[B" (.ref t_a1) ∧ Fld Z h a1 "java/lang/AbstractStringBuilder" "coder" "B" (.int 0) ∧ Fld Z h a1 "java/lang/AbstractStringBuilder" "count" "I" (.int zz) ∧ Arv Z h t_a1 k_t_a1 .byte (16 : Int32) vo (.int 0) ∧ own_T vo vd kk p2 n ix
set_option maxRecDepth 65536 in
set_option maxHeartbeats 40000000 in
theorem rm_abapi (l : Launch) (Z : State) (a0 : Array Value) (hw : ∀ d ∈ tables_1, d.before a0 Z = true) (ws : List Jvm.Cond) (a1 : Addr) (p2 : Int32) (w_COMPACT_STRINGS : Int32) (t_a1 : Addr) (k_t_a1 : ClassId) (vd : List Value) (cn : Int32) (zz : Int32) (n : Nat) (kk : Nat) (ix : Nat) (h0 : Heap) (n0 : Nat) (Z0 : n0 ≤ h0.size) (S_COMPACT_STRINGS : Sta Z Z.heap "java/lang/String" "COMPACT_STRINGS" "Z" (.int w_COMPACT_STRINGS)) (hcs : ¬ (w_COMPACT_STRINGS = (0 : Int32))) (E_a1 : Exa Z h0 a1 "java/lang/StringBuilder") (F_a1_coder : Fld Z h0 a1 "java/lang/AbstractStringBuilder" "coder" "B" (.int 0)) (F_a1_value : Fld Z h0 a1 "java/lang/AbstractStringBuilder" "value" "[B" (.ref t_a1)) (V_t_a1 : Arv Z h0 t_a1 k_t_a1 .byte (16 : Int32) vd (.int 0)) (F_a1_count : Fld Z h0 a1 "java/lang/AbstractStringBuilder" "count" "I" (.int cn)) (hzz : (cn + (Jvm.Free.SBG.strSizeOf p2)) = zz) (hcap : ¬ ((0 : Int32) < (zz - (16 : Int32)))) (hB : own_B Z) (hN : own_N p2 n kk ix) (hix : zz = Int32.ofNat ix) (g_t_a1 : n0 ≤ t_a1) (O0 : Old Z n0 h0) (g_a1 : n0 ≤ a1) :
    MetFree l mn23 (head1 (Jvm.Cond.code mn23 jdk_68_method_32_code 4 (some (.object "java/lang/AbstractStringBuilder")) :: ws) ro24) (fun a U => a = #[(.ref a1), (.int p2)] ∧ Z.Warmed39 U.vm ∧ U.heap = h0) (fun _ _ _ _ _ => True) (fun _ U o U' => ∃ v L, o = .returned v ∧ Q_abapi Z a1 p2 w_COMPACT_STRINGS t_a1 k_t_a1 vd cn zz n kk ix h0 n0 v U'.heap L ∧ FrameEnd U o U' L ro24.cells ro24.slots) := by
  refine MetFree.of_bodySF (plainFor_of_name pn_18) hisR ?_
  intro p e s m args below meth c s₁ Bd hml0 hP hK
  obtain ⟨rfl, hZ, hh⟩ := hP
  have hx := Bd.exec
  have hby := Bd.bytes
  have hml : c.maxLocals = 4 := hml0
  have hown : s.vm.findClass "java/lang/AbstractStringBuilder" = some m.cls := findClass_of_methodNamed Bd.named
  have hnm := (name_of_methodNamed Bd.named Bd.method).1
  have X0 : Stand p l e ro24 s m #[(.ref a1), (.int p2)] below meth c s₁ [] 0 0 := Stand.of_body Bd
  have e0 : s₁.heap = h0 := by rw [← hh, Bd.state]; rfl
  have N0 := Fr.nil n0
  have pre0 : ∀ t, Steps p.tables e below (s₁.setTop (mkF m 0 #[.val (.ref a1), .val (.int p2), .unset, .unset] [])) t → Steps p.tables e below (s₁.setTop (entryFrame m #[(.ref a1), (.int p2)] 4)) t := fun t k => castTop (ef_18_RI m a1 p2) k
  obtain ⟨T1, X1, e1, st1⟩ := getF X0 hx hZ hown (host := "") (Or.inl (hwi hw 82 rfl)) Via.refl e0 F_a1_count (g := (mkF m 1 #[.val (.ref a1), .val (.int p2), .unset, .unset] [(.ref a1)])) rfl rfl (hb hby d18_1)
  obtain ⟨_, _, ⟨T2, L2, k2, n2⟩, -, X2, ⟨Lc2, hQ2, l2, y2, z2⟩, st2⟩ := Jvm.LawKit.callS X1 hx (y := mn20) hown (mvT hZ (hwi hw 119 rfl)) (mvT hZ (hwi hw 120 rfl)) (mvT hZ (hwi hw 121 rfl)) (mvT hZ (hwi hw 122 rfl)) (by decide) (backOf (W := 1) (rm_ssize l Z a0 hw [] p2 h0 n0 Z0) hZ (hwi hw 122 rfl) (hwi hw 121 rfl) (by decide) (by decide)) (g := (mkF m 7 #[.val (.ref a1), .val (.int p2), .val (.int cn), .unset] [(.int p2), (.int cn)])) rfl (by rw [hml]; rfl) (argsL := [(.int p2)]) (rest := [(.int cn)]) (lenOf pd_I_I_227 rfl) rfl (by show 2 * 0 + _ ≤ _; exact Nat.le_of_eq rfl) (hb hby d18_7) (fun _ _ => ⟨rfl, e1, (by decide : 0 + 0 ≤ _), (by decide : 0 + 0 ≤ _)⟩)
  dsimp only [Pt.U, Pt.locs, Pt.cells, Pt.slots] at X2 l2 y2 z2 st2 hQ2
  subst l2 y2 z2
  obtain ⟨rfl, N2q, e2⟩ := hQ2
  have N2 := Fr.app N0 N2q
  obtain ⟨cq3, kq3, q3a, q3b, q3c⟩ := isOf hZ e2 E_a1
  obtain ⟨_, _, ⟨T3, L3, k3, n3⟩, -, X3, ⟨Lc3, hQ3, l3, y3, z3⟩, st3⟩ := X2.virtualBack hx (y := mn17) (z := mn17) hown (mvT hZ (hwi hw 84 rfl)) (mvT hZ (own_declares (hwi hw 85 rfl) (hwi hw 88 rfl))) (notFace_of_selects (args := #[]) (mvT hZ (hwi hw 87 rfl))) (mvT hZ (hwi hw 87 rfl)) (mvT hZ (hwi hw 85 rfl)) (by decide) (backOf (W := 0) (rm_ensci l Z a0 hw [] a1 zz t_a1 k_t_a1 vd h0 n0 Z0 E_a1 F_a1_coder F_a1_value V_t_a1 hcap) hZ (hwi hw 88 rfl) (hwi hw 53 rfl) (by decide) (by decide)) q3a q3c (g := (mkF m 14 #[.val (.ref a1), .val (.int p2), .val (.int cn), .val (.int zz)] [(.int zz), (.ref a1)])) rfl (by rw [hml]; rfl) (Steps.refl _) (argsL := [(.int zz)]) (rest := []) (lenOf pd_I_V_240 rfl) rfl (by show 2 * 0 + _ ≤ _; exact Nat.le_of_eq rfl) (hb hby d18_14) (fun _ _ => ⟨rfl, e2, (by decide : 0 + 0 ≤ _), (by decide : 0 + 0 ≤ _)⟩)
  dsimp only [Pt.U, Pt.locs, Pt.cells, Pt.slots] at X3 l3 y3 z3 st3 hQ3
  subst l3 y3 z3
  obtain ⟨rfl, N3q, e3⟩ := hQ3
  have N3 := Fr.app N2 N3q
  obtain ⟨cq4, kq4, q4a, q4b, q4c⟩ := isOf hZ e3 E_a1
  obtain ⟨_, _, ⟨T4, L4, k4, n4⟩, -, X4, ⟨Lc4, hQ4, l4, y4, z4⟩, st4⟩ := X3.virtualBack hx (y := mn22) (z := mn22) hown (mvT hZ (hwi hw 123 rfl)) (mvT hZ (hwi hw 124 rfl)) (notFace_of_selects (args := #[]) (mvT hZ (hwi hw 126 rfl))) (mvT hZ (hwi hw 126 rfl)) (mvT hZ (hwi hw 125 rfl)) (by decide) (backOf (W := 0) (rm_ablat l Z a0 hw [] a1 w_COMPACT_STRINGS h0 n0 Z0 S_COMPACT_STRINGS hcs F_a1_coder O0) hZ (hwi hw 127 rfl) (hwi hw 53 rfl) (by decide) (by decide)) q4a q4c (g := (mkF m 18 #[.val (.ref a1), .val (.int p2), .val (.int cn), .val (.int zz)] [(.ref a1)])) rfl (by rw [hml]; rfl) (Steps.refl _) (argsL := []) (rest := []) (lenOf pd_Z_171 rfl) rfl (by show 2 * 0 + _ ≤ _; exact Nat.le_of_eq rfl) (hb hby d18_18) (fun _ _ => ⟨rfl, e3, (by decide : 0 + 0 ≤ _), (by decide : 0 + 0 ≤ _)⟩)
  dsimp only [Pt.U, Pt.locs, Pt.cells, Pt.slots] at X4 l4 y4 z4 st4 hQ4
  subst l4 y4 z4
  obtain ⟨rfl, N4q, e4⟩ := hQ4
  have N4 := Fr.app N3 N4q
  obtain ⟨T5, X5, e5, st5⟩ := getF X4 hx hZ hown (host := "") (Or.inl (hwi hw 57 rfl)) Via.refl e4 F_a1_value (g := (mkF m 27 #[.val (.ref a1), .val (.int p2), .val (.int cn), .val (.int zz)] [(.ref a1), (.int zz), (.int p2)])) rfl rfl (hb hby d18_27)
  obtain ⟨_, _, ⟨T6, L6, k6, n6⟩, -, X6, ⟨Lc6, hQ6, l6, y6, z6⟩, st6⟩ := Jvm.LawKit.callS X5 hx (y := mn21) hown (mvT hZ (hwi hw 128 rfl)) (mvT hZ (hwi hw 129 rfl)) (mvT hZ (hwi hw 121 rfl)) (mvT hZ (hwi hw 130 rfl)) (by decide) (backOf (W := 0) (rm_getc l Z a0 hw [] p2 zz t_a1 k_t_a1 vd n kk ix h0 n0 Z0 O0 V_t_a1 g_t_a1 hB hN hix) hZ (hwi hw 130 rfl) (hwi hw 121 rfl) (by decide) (by decide)) (g := (mkF m 30 #[.val (.ref a1), .val (.int p2), .val (.int cn), .val (.int zz)] [(.ref t_a1), (.int zz), (.int p2)])) rfl (by rw [hml]; rfl) (argsL := [(.int p2), (.int zz), (.ref t_a1)]) (rest := []) (lenOf pd_II_B_I_457 rfl) rfl (by show 2 * 0 + _ ≤ _; exact Nat.le_of_eq rfl) (hb hby d18_30) (fun _ _ => ⟨rfl, e5, (by decide : 0 + 0 ≤ _), (by decide : 0 + 0 ≤ _)⟩)
  dsimp only [Pt.U, Pt.locs, Pt.cells, Pt.slots] at X6 l6 y6 z6 st6 hQ6
  subst l6 y6 z6
  obtain ⟨rv_6, vo_6, rfl, N6q, Kc6, g6_0, g6_1⟩ := hQ6
  have N6 := Fr.app N4 N6q
  have sz7 : h0.size ≤ T6.heap.size := Kc6.1
  have Z7 : n0 ≤ T6.heap.size := Nat.le_trans Z0 sz7
  have O7 := O0.keep Kc6 (allS g_t_a1 all0)
  have K7 : Keep h0 T6.heap [t_a1, a1] := (Keep.refl h0 [t_a1, a1]).trans Kc6 (allS (Or.inl (List.mem_of_getElem? (i := 0) rfl)) (all0))
  have fc8 := (E_a1.keep Kc6)
  have fc9 := (F_a1_count.keep Kc6 (ninS (Exa.neArv fc8 g6_0 (hwi hw 44 rfl)) nin0))
  obtain ⟨T10, h10, X10, e10, W10, st10⟩ := putF X6 hx hZ hown (host := "") (Or.inl (hwi hw 82 rfl)) Via.refl rfl fc9 fc8 (Or.inl (hwi hw 83 rfl)) (hwi hw 44 rfl) (ty := .int) (by decide) rfl rfl (g := (mkF m 50 #[.val (.ref a1), .val (.int p2), .val (.int cn), .val (.int zz)] [(.int zz), (.ref a1)])) rfl rfl (hb hby d18_50)
  have N10 := Fr.snoc X10 N6 g_a1
  have Fw10 := fc9.same W10
  have sz11 : T6.heap.size ≤ h10.size := Nat.le_of_eq W10.size.symm
  have Z11 : n0 ≤ h10.size := Nat.le_trans Z7 sz11
  have O11 := O7.wr W10 g_a1
  have K11 : Keep h0 h10 [t_a1, a1] := K7.wr W10 (Or.inl (List.mem_of_getElem? (i := 1) rfl))
  have fc12 := (fc8.wr W10)
  have fc13 := (g6_0.other W10 (Ne.symm (Exa.neArv E_a1 V_t_a1 (hwi hw 44 rfl))))
  have fc14 := ((F_a1_value.keep Kc6 (ninS (Exa.neArv fc12 fc13 (hwi hw 44 rfl)) nin0)).other W10 (Or.inr (slot_ne (Or.inl (hwi hw 58 rfl)) (Or.inl (hwi hw 83 rfl)) (by decide) (t := (.array .byte)) (t' := .int) (by decide) (by decide))))
  have fc15 := ((F_a1_coder.keep Kc6 (ninS (Exa.neArv fc12 fc13 (hwi hw 44 rfl)) nin0)).other W10 (Or.inr (slot_ne (Or.inl (hwi hw 60 rfl)) (Or.inl (hwi hw 83 rfl)) (by decide) (t := .byte) (t' := .int) (by decide) (by decide))))
  obtain ⟨fs, hr, hrun, hended, hW, hsame⟩ := X10.leave (v := some (.ref a1)) (fun h => by rw [Bd.returns] at h; cases h)
  refine ⟨_, _, pre0 _ ?_, hrun, hended, _, _, rfl, ?_, ⟨_, rfl⟩, hW, hsame.mono (by decide) (by decide)⟩
  · show St p e below s₁ (mkF m 0 #[.val (.ref a1), .val (.int p2), .unset, .unset] []) _
    refine XS.aloadN X0.here hx rfl (hb hby d18_0) rfl rfl ?_
    refine st1 _ ?_
    refine XS.istoreN X1.here hx rfl (hb hby d18_4) rfl (l' := #[.val (.ref a1), .val (.int p2), .val (.int cn), .unset]) rfl ?_
    refine XS.iloadN X1.here hx rfl (hb hby d18_5) rfl ?_
    refine XS.iloadN X1.here hx rfl (hb hby d18_6) rfl ?_
    refine st2 _ ?_
    refine XS.iadd X2.here hx rfl (hb hby d18_10) rfl ?_
    show St p e below T2 (mkF m 11 #[.val (.ref a1), .val (.int p2), .val (.int cn), .unset] [(.int (cn + (Jvm.Free.SBG.strSizeOf p2)))]) _
    rw [hzz]
    show St p e below T2 (mkF m 11 #[.val (.ref a1), .val (.int p2), .val (.int cn), .unset] [(.int zz)]) _
    refine XS.istoreN X2.here hx rfl (hb hby d18_11) rfl (l' := #[.val (.ref a1), .val (.int p2), .val (.int cn), .val (.int zz)]) rfl ?_
    refine XS.aloadN X2.here hx rfl (hb hby d18_12) rfl rfl ?_
    refine XS.iloadN X2.here hx rfl (hb hby d18_13) rfl ?_
    refine st3.trans ?_
    refine XS.aloadN X3.here hx rfl (hb hby d18_17) rfl rfl ?_
    refine st4.trans ?_
    refine XS.ifNo X4.here hx rfl (hb hby d18_21) rfl ((if0 _ _).trans (feq (by decide : ¬ ((1 : Int32) = (0 : Int32)))).1) ?_
    refine XS.iloadN X4.here hx rfl (hb hby d18_24) rfl ?_
    show St p e below T4 (mkF m 25 #[.val (.ref a1), .val (.int p2), .val (.int cn), .val (.int zz)] [(.int p2)]) _
    refine XS.iloadN X4.here hx rfl (hb hby d18_25) rfl ?_
    refine XS.aloadN X4.here hx rfl (hb hby d18_26) rfl rfl ?_
    refine st5 _ ?_
    refine st6 _ ?_
    refine XS.pop X6.here hx rfl (hb hby d18_33) rfl rfl ?_
    refine XS.goto X6.here hx rfl (pc0 := 34) (pc' := 48) rfl (hb hby d18_34) (by decide) (by decide) ?_
    refine XS.aloadN X6.here hx rfl (hb hby d18_48) rfl rfl ?_
    refine XS.iloadN X6.here hx rfl (hb hby d18_49) rfl ?_
    show St p e below T6 (mkF m 50 #[.val (.ref a1), .val (.int p2), .val (.int cn), .val (.int zz)] [(.int zz), (.ref a1)]) _
    refine st10 _ ?_
    refine XS.aloadN X10.here hx rfl (hb hby d18_53) rfl rfl ?_
    show St p e below T10 (mkF m 54 #[.val (.ref a1), .val (.int p2), .val (.int cn), .val (.int zz)] [(.ref a1)]) _
    jvm_step X10.here [X10.here.top, hx, (hb hby d18_54), X10.method', Bd.returns, Value.isRef, FieldType.isReference]
    first | (intro acts; rw [hr _ acts rfl rfl rfl]) | rw [hr _ _ rfl rfl rfl]
    exact Steps.refl _
  · show Q_abapi Z a1 p2 w_COMPACT_STRINGS t_a1 k_t_a1 vd cn zz n kk ix h0 n0 _ T10.heap _
    rw [e10]
    exact ⟨vo_6, rfl, N10, K11, fc12, fc14, fc15, Fw10, fc13, g6_1⟩
theorem pd_I_Ljava_lang_AbstractStringBuilder_381 : parseMethodDescriptor "(I)Ljava/lang/AbstractStringBuilder;" = some ⟨[.int], some (.object "java/lang/AbstractStringBuilder")⟩ := by decide +kernel
theorem d17_0 : decode jdk_67_method_15_code 0 = .ok (.aload_n 0, 1) := by decide +kernel
theorem d17_1 : decode jdk_67_method_15_code 1 = .ok (.iload_n 1, 1) := by decide +kernel
theorem d17_2 : decode jdk_67_method_15_code 2 = .ok (.invokespecial 53, 3) := by decide +kernel
theorem d17_5 : decode jdk_67_method_15_code 5 = .ok (.pop, 1) := by decide +kernel
theorem d17_6 : decode jdk_67_method_15_code 6 = .ok (.aload_n 0, 1) := by decide +kernel
theorem d17_7 : decode jdk_67_method_15_code 7 = .ok (.areturn, 1) := by decide +kernel
theorem pn_17 : plainName "java/lang/StringBuilder" = true := by first | (simp [plainName, overriddenIn]; done) | decide +kernel
theorem ef_17_RI (m : MethodId) (x0 : Addr) (x1 : Int32) : entryFrame m #[(.ref x0), (.int x1)] 2 = mkF m 0 #[.val (.ref x0), .val (.int x1)] [] := by first | (simp [entryFrame, mkF, argsToLocals, Value.category]; done) | rfl
def Q_sbapi (Z : State) (a1 : Addr) (p2 : Int32) (w_COMPACT_STRINGS : Int32) (t_a1 : Addr) (k_t_a1 : ClassId) (vd : List Value) (cn : Int32) (zz : Int32) (n : Nat) (kk : Nat) (ix : Nat) (h0 : Heap) (n0 : Nat) (v : Option Value) (h : Heap) (L : List Loc) : Prop := ∃ (vo : List Value), v = some (.ref a1) ∧ Fr n0 L ∧ Keep h0 h [a1, t_a1] ∧ Exa Z h a1 "java/lang/StringBuilder" ∧ Fld Z h a1 "java/lang/AbstractStringBuilder" "value" "[B" (.ref t_a1) ∧ Fld Z h a1 "java/lang/AbstractStringBuilder" "coder" "B" (.int 0) ∧ Fld Z h a1 "java/lang/AbstractStringBuilder" "count" "I" (.int zz) ∧ Arv Z h t_a1 k_t_a1 .byte (16 : Int32) vo (.int 0) ∧ own_T vo vd kk p2 n ix
set_option maxRecDepth 65536 in
set_option maxHeartbeats 40000000 in
theorem rm_sbapi (l : Launch) (Z : State) (a0 : Array Value) (hw : ∀ d ∈ tables_1, d.before a0 Z = true) (ws : List Jvm.Cond) (a1 : Addr) (p2 : Int32) (w_COMPACT_STRINGS : Int32) (t_a1 : Addr) (k_t_a1 : ClassId) (vd : List Value) (cn : Int32) (zz : Int32) (n : Nat) (kk : Nat) (ix : Nat) (h0 : Heap) (n0 : Nat) (Z0 : n0 ≤ h0.size) (S_COMPACT_STRINGS : Sta Z Z.heap "java/lang/String" "COMPACT_STRINGS" "Z" (.int w_COMPACT_STRINGS)) (hcs : ¬ (w_COMPACT_STRINGS = (0 : Int32))) (E_a1 : Exa Z h0 a1 "java/lang/StringBuilder") (F_a1_coder : Fld Z h0 a1 "java/lang/AbstractStringBuilder" "coder" "B" (.int 0)) (F_a1_value : Fld Z h0 a1 "java/lang/AbstractStringBuilder" "value" "[B" (.ref t_a1)) (V_t_a1 : Arv Z h0 t_a1 k_t_a1 .byte (16 : Int32) vd (.int 0)) (F_a1_count : Fld Z h0 a1 "java/lang/AbstractStringBuilder" "count" "I" (.int cn)) (hzz : (cn + (Jvm.Free.SBG.strSizeOf p2)) = zz) (hcap : ¬ ((0 : Int32) < (zz - (16 : Int32)))) (hB : own_B Z) (hN : own_N p2 n kk ix) (hix : zz = Int32.ofNat ix) (g_t_a1 : n0 ≤ t_a1) (O0 : Old Z n0 h0) (g_a1 : n0 ≤ a1) :
    MetFree l mn24 (head1 (Jvm.Cond.code mn24 jdk_67_method_15_code 2 (some (.object "java/lang/StringBuilder")) :: ws) ro25) (fun a U => a = #[(.ref a1), (.int p2)] ∧ Z.Warmed39 U.vm ∧ U.heap = h0) (fun _ _ _ _ _ => True) (fun _ U o U' => ∃ v L, o = .returned v ∧ Q_sbapi Z a1 p2 w_COMPACT_STRINGS t_a1 k_t_a1 vd cn zz n kk ix h0 n0 v U'.heap L ∧ FrameEnd U o U' L ro25.cells ro25.slots) := by
  refine MetFree.of_bodySF (plainFor_of_name pn_17) hisR ?_
  intro p e s m args below meth c s₁ Bd hml0 hP hK
  obtain ⟨rfl, hZ, hh⟩ := hP
  have hx := Bd.exec
  have hby := Bd.bytes
  have hml : c.maxLocals = 2 := hml0
  have hown : s.vm.findClass "java/lang/StringBuilder" = some m.cls := findClass_of_methodNamed Bd.named
  have hnm := (name_of_methodNamed Bd.named Bd.method).1
  have X0 : Stand p l e ro25 s m #[(.ref a1), (.int p2)] below meth c s₁ [] 0 0 := Stand.of_body Bd
  have e0 : s₁.heap = h0 := by rw [← hh, Bd.state]; rfl
  have N0 := Fr.nil n0
  have pre0 : ∀ t, Steps p.tables e below (s₁.setTop (mkF m 0 #[.val (.ref a1), .val (.int p2)] [])) t → Steps p.tables e below (s₁.setTop (entryFrame m #[(.ref a1), (.int p2)] 2)) t := fun t k => castTop (ef_17_RI m a1 p2) k
  obtain ⟨_, _, ⟨T1, L1, k1, n1⟩, -, X1, ⟨Lc1, hQ1, l1, y1, z1⟩, st1⟩ := superBack X0 hx hZ (y := mn23) hown (hwi hw 115 rfl) (own_same (y := mn23) (hwi hw 116 rfl) (hwi hw 87 rfl) rfl (by decide)) (hwi hw 116 rfl) (hwi hw 68 rfl) (by decide) (backOf (W := 0) (rm_abapi l Z a0 hw [] a1 p2 w_COMPACT_STRINGS t_a1 k_t_a1 vd cn zz n kk ix h0 n0 Z0 S_COMPACT_STRINGS hcs E_a1 F_a1_coder F_a1_value V_t_a1 F_a1_count hzz hcap hB hN hix g_t_a1 O0 g_a1) hZ (hwi hw 118 rfl) (hwi hw 53 rfl) (by decide) (by decide)) e0 (Ins.self E_a1) (g := (mkF m 2 #[.val (.ref a1), .val (.int p2)] [(.int p2), (.ref a1)])) rfl (by rw [hml]; rfl) (hwi hw 118 rfl) (argsL := [(.int p2)]) (rest := []) (lenOf pd_I_Ljava_lang_AbstractStringBuilder_381 rfl) rfl (by show 2 * 0 + _ ≤ _; exact Nat.le_of_eq rfl) (hb hby d17_2) (fun _ _ => ⟨rfl, e0, (by decide : 0 + 0 ≤ _), (by decide : 0 + 0 ≤ _)⟩)
  dsimp only [Pt.U, Pt.locs, Pt.cells, Pt.slots] at X1 l1 y1 z1 st1 hQ1
  subst l1 y1 z1
  obtain ⟨vo_1, rfl, N1q, Kc1, g1_0, g1_1, g1_2, g1_3, g1_4, g1_5⟩ := hQ1
  have N1 := Fr.app N0 N1q
  have sz2 : h0.size ≤ T1.heap.size := Kc1.1
  have Z2 : n0 ≤ T1.heap.size := Nat.le_trans Z0 sz2
  have O2 := O0.keep Kc1 (allS g_t_a1 (allS g_a1 all0))
  have K2 : Keep h0 T1.heap [a1, t_a1] := (Keep.refl h0 [a1, t_a1]).trans Kc1 (allS (Or.inl (List.mem_of_getElem? (i := 1) rfl)) (allS (Or.inl (List.mem_of_getElem? (i := 0) rfl)) (all0)))
  obtain ⟨fs, hr, hrun, hended, hW, hsame⟩ := X1.leave (v := some (.ref a1)) (fun h => by rw [Bd.returns] at h; cases h)
  refine ⟨_, _, pre0 _ ?_, hrun, hended, _, _, rfl, ?_, ⟨_, rfl⟩, hW, hsame.mono (by decide) (by decide)⟩
  · show St p e below s₁ (mkF m 0 #[.val (.ref a1), .val (.int p2)] []) _
    refine XS.aloadN X0.here hx rfl (hb hby d17_0) rfl rfl ?_
    refine XS.iloadN X0.here hx rfl (hb hby d17_1) rfl ?_
    refine st1.trans ?_
    refine XS.pop X1.here hx rfl (hb hby d17_5) rfl rfl ?_
    refine XS.aloadN X1.here hx rfl (hb hby d17_6) rfl rfl ?_
    show St p e below T1 (mkF m 7 #[.val (.ref a1), .val (.int p2)] [(.ref a1)]) _
    jvm_step X1.here [X1.here.top, hx, (hb hby d17_7), X1.method', Bd.returns, Value.isRef, FieldType.isReference]
    first | (intro acts; rw [hr _ acts rfl rfl rfl]) | rw [hr _ _ rfl rfl rfl]
    exact Steps.refl _
  · show Q_sbapi Z a1 p2 w_COMPACT_STRINGS t_a1 k_t_a1 vd cn zz n kk ix h0 n0 _ T1.heap _
    exact ⟨vo_1, rfl, N1, K2, g1_0, g1_1, g1_2, g1_3, g1_4, g1_5⟩
theorem d30_0 : decode jdk_65_method_131_code 0 = .ok (.iload_n 1, 1) := by decide +kernel
theorem d30_1 : decode jdk_65_method_131_code 1 = .ok (.iload_n 0, 1) := by decide +kernel
theorem d30_2 : decode jdk_65_method_131_code 2 = .ok (.if_icmp .ge 35, 3) := by decide +kernel
theorem d30_37 : decode jdk_65_method_131_code 37 = .ok (.return_, 1) := by decide +kernel
theorem pn_30 : plainName "java/util/Arrays" = true := by first | (simp [plainName, overriddenIn]; done) | decide +kernel
theorem ef_30_II (m : MethodId) (x0 : Int32) (x1 : Int32) : entryFrame m #[(.int x0), (.int x1)] 2 = mkF m 0 #[.val (.int x0), .val (.int x1)] [] := by first | (simp [entryFrame, mkF, argsToLocals, Value.category]; done) | rfl
def Q_cklen (Z : State) (p2 : Int32) (h0 : Heap) (n0 : Nat) (v : Option Value) (h : Heap) (L : List Loc) : Prop := v = none ∧ Fr n0 L ∧ h = h0
set_option maxRecDepth 65536 in
set_option maxHeartbeats 40000000 in
theorem rm_cklen (l : Launch) (Z : State) (a0 : Array Value) (hw : ∀ d ∈ tables_1, d.before a0 Z = true) (ws : List Jvm.Cond) (p2 : Int32) (h0 : Heap) (n0 : Nat) (Z0 : n0 ≤ h0.size) (hz0 : ¬ (p2 < (0 : Int32))) (hz1 : p2 < (16 : Int32)) (hz2 : p2.toNatClampNeg ≤ 16) (hz3 : ¬ (p2 = (16 : Int32))) :
    MetFree l mn25 (head1 (Jvm.Cond.code mn25 jdk_65_method_131_code 2 none :: ws) ro2) (fun a U => a = #[(.int 0), (.int p2)] ∧ Z.Warmed39 U.vm ∧ U.heap = h0) (fun _ _ _ _ _ => True) (fun _ U o U' => ∃ v L, o = .returned v ∧ Q_cklen Z p2 h0 n0 v U'.heap L ∧ FrameEnd U o U' L ro2.cells ro2.slots) := by
  refine MetFree.of_bodySF (plainFor_of_name pn_30) hisR ?_
  intro p e s m args below meth c s₁ Bd hml0 hP hK
  obtain ⟨rfl, hZ, hh⟩ := hP
  have hx := Bd.exec
  have hby := Bd.bytes
  have hml : c.maxLocals = 2 := hml0
  have hown : s.vm.findClass "java/util/Arrays" = some m.cls := findClass_of_methodNamed Bd.named
  have hnm := (name_of_methodNamed Bd.named Bd.method).1
  have X0 : Stand p l e ro2 s m #[(.int 0), (.int p2)] below meth c s₁ [] 0 0 := Stand.of_body Bd
  have e0 : s₁.heap = h0 := by rw [← hh, Bd.state]; rfl
  have N0 := Fr.nil n0
  have pre0 : ∀ t, Steps p.tables e below (s₁.setTop (mkF m 0 #[.val (.int 0), .val (.int p2)] [])) t → Steps p.tables e below (s₁.setTop (entryFrame m #[(.int 0), (.int p2)] 2)) t := fun t k => castTop (ef_30_II m (0 : Int32) p2) k
  obtain ⟨fs, hr, hrun, hended, hW, hsame⟩ := X0.leave (v := none) (fun _ => rfl)
  refine ⟨_, _, pre0 _ ?_, hrun, hended, _, _, rfl, ?_, ⟨_, rfl⟩, hW, hsame.mono (by decide) (by decide)⟩
  · show St p e below s₁ (mkF m 0 #[.val (.int 0), .val (.int p2)] []) _
    refine XS.iloadN X0.here hx rfl (hb hby d30_0) rfl ?_
    refine XS.iloadN X0.here hx rfl (hb hby d30_1) rfl ?_
    refine XS.icmpYes X0.here hx rfl (pc0 := 2) (pc' := 37) rfl (hb hby d30_2) rfl (flt hz0).2.1 (by decide) (by decide) ?_
    show St p e below s₁ (mkF m 37 #[.val (.int 0), .val (.int p2)] []) _
    exact X0.returnOut hx Bd.returns (hb hby d30_37) hr
  · show Q_cklen Z p2 h0 n0 _ s₁.heap _
    rw [e0]
    exact ⟨rfl, N0, rfl⟩
theorem d31_0 : decode jdk_29_method_69_code 0 = .ok (.iload_n 0, 1) := by decide +kernel
theorem d31_1 : decode jdk_29_method_69_code 1 = .ok (.iload_n 1, 1) := by decide +kernel
theorem d31_2 : decode jdk_29_method_69_code 2 = .ok (.if_icmp .gt 7, 3) := by decide +kernel
theorem d31_9 : decode jdk_29_method_69_code 9 = .ok (.iload_n 1, 1) := by decide +kernel
theorem d31_10 : decode jdk_29_method_69_code 10 = .ok (.ireturn, 1) := by decide +kernel
theorem ef_31_II (m : MethodId) (x0 : Int32) (x1 : Int32) : entryFrame m #[(.int x0), (.int x1)] 2 = mkF m 0 #[.val (.int x0), .val (.int x1)] [] := by first | (simp [entryFrame, mkF, argsToLocals, Value.category]; done) | rfl
def Q_minz (Z : State) (p2 : Int32) (h0 : Heap) (n0 : Nat) (v : Option Value) (h : Heap) (L : List Loc) : Prop := v = some (.int p2) ∧ Fr n0 L ∧ h = h0
set_option maxRecDepth 65536 in
set_option maxHeartbeats 40000000 in
theorem rm_minz (l : Launch) (Z : State) (a0 : Array Value) (hw : ∀ d ∈ tables_1, d.before a0 Z = true) (ws : List Jvm.Cond) (p2 : Int32) (h0 : Heap) (n0 : Nat) (Z0 : n0 ≤ h0.size) (hz0 : ¬ (p2 < (0 : Int32))) (hz1 : p2 < (16 : Int32)) (hz2 : p2.toNatClampNeg ≤ 16) (hz3 : ¬ (p2 = (16 : Int32))) :
    MetFree l mn26 (head1 (Jvm.Cond.code mn26 jdk_29_method_69_code 2 (some .int) :: ws) ro2) (fun a U => a = #[(.int 16), (.int p2)] ∧ Z.Warmed39 U.vm ∧ U.heap = h0) (fun _ _ _ _ _ => True) (fun _ U o U' => ∃ v L, o = .returned v ∧ Q_minz Z p2 h0 n0 v U'.heap L ∧ FrameEnd U o U' L ro2.cells ro2.slots) := by
  refine MetFree.of_bodySF (Jvm.Free.JP.mathPlain rfl (by decide +kernel)) hisR ?_
  intro p e s m args below meth c s₁ Bd hml0 hP hK
  obtain ⟨rfl, hZ, hh⟩ := hP
  have hx := Bd.exec
  have hby := Bd.bytes
  have hml : c.maxLocals = 2 := hml0
  have hown : s.vm.findClass "java/lang/Math" = some m.cls := findClass_of_methodNamed Bd.named
  have hnm := (name_of_methodNamed Bd.named Bd.method).1
  have X0 : Stand p l e ro2 s m #[(.int 16), (.int p2)] below meth c s₁ [] 0 0 := Stand.of_body Bd
  have e0 : s₁.heap = h0 := by rw [← hh, Bd.state]; rfl
  have N0 := Fr.nil n0
  have pre0 : ∀ t, Steps p.tables e below (s₁.setTop (mkF m 0 #[.val (.int 16), .val (.int p2)] [])) t → Steps p.tables e below (s₁.setTop (entryFrame m #[(.int 16), (.int p2)] 2)) t := fun t k => castTop (ef_31_II m (16 : Int32) p2) k
  obtain ⟨fs, hr, hrun, hended, hW, hsame⟩ := X0.leave (v := some (.int p2)) (fun h => by rw [Bd.returns] at h; cases h)
  refine ⟨_, _, pre0 _ ?_, hrun, hended, _, _, rfl, ?_, ⟨_, rfl⟩, hW, hsame.mono (by decide) (by decide)⟩
  · show St p e below s₁ (mkF m 0 #[.val (.int 16), .val (.int p2)] []) _
    refine XS.iloadN X0.here hx rfl (hb hby d31_0) rfl ?_
    refine XS.iloadN X0.here hx rfl (hb hby d31_1) rfl ?_
    refine XS.icmpYes X0.here hx rfl (pc0 := 2) (pc' := 9) rfl (hb hby d31_2) rfl (tlt hz1).2.2.1 (by decide) (by decide) ?_
    refine XS.iloadN X0.here hx rfl (hb hby d31_9) rfl ?_
    show St p e below s₁ (mkF m 10 #[.val (.int 16), .val (.int p2)] [(.int p2)]) _
    exact retI X0 hx Bd.returns (hb hby d31_10) hr
  · show Q_minz Z p2 h0 n0 _ s₁.heap _
    rw [e0]
    exact ⟨rfl, N0, rfl⟩
theorem pd_II_I_300 : parseMethodDescriptor "(II)I" = some ⟨[.int, .int], some .int⟩ := by decide +kernel
theorem d29_0 : decode jdk_65_method_133_code 0 = .ok (.iload_n 1, 1) := by decide +kernel
theorem d29_1 : decode jdk_65_method_133_code 1 = .ok (.iload_n 2, 1) := by decide +kernel
theorem d29_2 : decode jdk_65_method_133_code 2 = .ok (.invokestatic 343, 3) := by decide +kernel
theorem d29_5 : decode jdk_65_method_133_code 5 = .ok (.iload_n 2, 1) := by decide +kernel
theorem d29_6 : decode jdk_65_method_133_code 6 = .ok (.iload_n 1, 1) := by decide +kernel
theorem d29_7 : decode jdk_65_method_133_code 7 = .ok (.isub, 1) := by decide +kernel
theorem d29_8 : decode jdk_65_method_133_code 8 = .ok (.istore_n 3, 1) := by decide +kernel
theorem d29_9 : decode jdk_65_method_133_code 9 = .ok (.iload_n 3, 1) := by decide +kernel
theorem d29_10 : decode jdk_65_method_133_code 10 = .ok (.newarray .byte, 2) := by decide +kernel
theorem d29_12 : decode jdk_65_method_133_code 12 = .ok (.astore 4, 2) := by decide +kernel
theorem d29_14 : decode jdk_65_method_133_code 14 = .ok (.aload_n 0, 1) := by decide +kernel
theorem d29_15 : decode jdk_65_method_133_code 15 = .ok (.iload_n 1, 1) := by decide +kernel
theorem d29_16 : decode jdk_65_method_133_code 16 = .ok (.aload 4, 2) := by decide +kernel
theorem d29_18 : decode jdk_65_method_133_code 18 = .ok (.iconst 0, 1) := by decide +kernel
theorem d29_19 : decode jdk_65_method_133_code 19 = .ok (.aload_n 0, 1) := by decide +kernel
theorem d29_20 : decode jdk_65_method_133_code 20 = .ok (.arraylength, 1) := by decide +kernel
theorem d29_21 : decode jdk_65_method_133_code 21 = .ok (.iload_n 1, 1) := by decide +kernel
theorem d29_22 : decode jdk_65_method_133_code 22 = .ok (.isub, 1) := by decide +kernel
theorem d29_23 : decode jdk_65_method_133_code 23 = .ok (.iload_n 3, 1) := by decide +kernel
theorem d29_24 : decode jdk_65_method_133_code 24 = .ok (.invokestatic 304, 3) := by decide +kernel
theorem d29_27 : decode jdk_65_method_133_code 27 = .ok (.invokestatic 150, 3) := by decide +kernel
theorem d29_30 : decode jdk_65_method_133_code 30 = .ok (.aload 4, 2) := by decide +kernel
theorem d29_32 : decode jdk_65_method_133_code 32 = .ok (.areturn, 1) := by decide +kernel
theorem pn_29 : plainName "java/util/Arrays" = true := by first | (simp [plainName, overriddenIn]; done) | decide +kernel
theorem ef_29_RII (m : MethodId) (x0 : Addr) (x1 : Int32) (x2 : Int32) : entryFrame m #[(.ref x0), (.int x1), (.int x2)] 5 = mkF m 0 #[.val (.ref x0), .val (.int x1), .val (.int x2), .unset, .unset] [] := by first | (simp [entryFrame, mkF, argsToLocals, Value.category]; done) | rfl
def Q_corb (Z : State) (a1 : Addr) (p3 : Int32) (k_a1 : ClassId) (vd : List Value) (h0 : Heap) (n0 : Nat) (v : Option Value) (h : Heap) (L : List Loc) : Prop := ∃ (r : Addr) (kr : ClassId), v = some (.ref r) ∧ Fr n0 L ∧ Keep h0 h [] ∧ h0.size ≤ r ∧ Arv Z h r kr .byte p3 (own_ap [(.int 0), (.int 0), (.int 0), (.int 0), (.int 0), (.int 0), (.int 0), (.int 0), (.int 0), (.int 0), (.int 0), (.int 0), (.int 0), (.int 0), (.int 0), (.int 0)] vd (0 : Int32) p3) (.int 0)
set_option maxRecDepth 65536 in
set_option maxHeartbeats 40000000 in
theorem rm_corb (l : Launch) (Z : State) (a0 : Array Value) (hw : ∀ d ∈ tables_1, d.before a0 Z = true) (ws : List Jvm.Cond) (a1 : Addr) (p3 : Int32) (k_a1 : ClassId) (vd : List Value) (h0 : Heap) (n0 : Nat) (Z0 : n0 ≤ h0.size) (V_a1 : Arv Z h0 a1 k_a1 .byte (16 : Int32) vd (.int 0)) (hz0 : ¬ (p3 < (0 : Int32))) (hz1 : p3 < (16 : Int32)) (hz2 : p3.toNatClampNeg ≤ 16) (hz3 : ¬ (p3 = (16 : Int32))) (hs0 : (p3 - (0 : Int32)) = p3) (O0 : Old Z n0 h0) :
    MetFree l mn27 (head1 (Jvm.Cond.code mn27 jdk_65_method_133_code 5 (some (.array .byte)) :: ws) ro26) (fun a U => a = #[(.ref a1), (.int 0), (.int p3)] ∧ Z.Warmed39 U.vm ∧ U.heap = h0) (fun _ _ _ _ _ => True) (fun _ U o U' => ∃ v L, o = .returned v ∧ Q_corb Z a1 p3 k_a1 vd h0 n0 v U'.heap L ∧ FrameEnd U o U' L ro26.cells ro26.slots) := by
  refine MetFree.of_bodySF (plainFor_of_name pn_29) hisR ?_
  intro p e s m args below meth c s₁ Bd hml0 hP hK
  obtain ⟨rfl, hZ, hh⟩ := hP
  have hx := Bd.exec
  have hby := Bd.bytes
  have hml : c.maxLocals = 5 := hml0
  have hown : s.vm.findClass "java/util/Arrays" = some m.cls := findClass_of_methodNamed Bd.named
  have hnm := (name_of_methodNamed Bd.named Bd.method).1
  have X0 : Stand p l e ro26 s m #[(.ref a1), (.int 0), (.int p3)] below meth c s₁ [] 0 0 := Stand.of_body Bd
  have e0 : s₁.heap = h0 := by rw [← hh, Bd.state]; rfl
  have N0 := Fr.nil n0
  have pre0 : ∀ t, Steps p.tables e below (s₁.setTop (mkF m 0 #[.val (.ref a1), .val (.int 0), .val (.int p3), .unset, .unset] [])) t → Steps p.tables e below (s₁.setTop (entryFrame m #[(.ref a1), (.int 0), (.int p3)] 5)) t := fun t k => castTop (ef_29_RII m a1 (0 : Int32) p3) k
  obtain ⟨_, _, ⟨T1, L1, k1, n1⟩, -, X1, ⟨Lc1, hQ1, l1, y1, z1⟩, st1⟩ := Jvm.LawKit.callS X0 hx (y := mn25) hown (mvT hZ (hwi hw 165 rfl)) (mvT hZ (hwi hw 166 rfl)) (mvT hZ (hwi hw 160 rfl)) (mvT hZ (hwi hw 167 rfl)) (by decide) (backOf (W := 0) (rm_cklen l Z a0 hw [] p3 h0 n0 Z0 hz0 hz1 hz2 hz3) hZ (hwi hw 167 rfl) (hwi hw 160 rfl) (by decide) (by decide)) (g := (mkF m 2 #[.val (.ref a1), .val (.int 0), .val (.int p3), .unset, .unset] [(.int p3), (.int 0)])) rfl (by rw [hml]; rfl) (argsL := [(.int 0), (.int p3)]) (rest := []) (lenOf pd_II_V_313 rfl) rfl (by show 2 * 0 + _ ≤ _; exact Nat.le_of_eq rfl) (hb hby d29_2) (fun _ _ => ⟨rfl, e0, (by decide : 0 + 0 ≤ _), (by decide : 0 + 0 ≤ _)⟩)
  dsimp only [Pt.U, Pt.locs, Pt.cells, Pt.slots] at X1 l1 y1 z1 st1 hQ1
  subst l1 y1 z1
  obtain ⟨rfl, N1q, e1⟩ := hQ1
  have N1 := Fr.app N0 N1q
  obtain ⟨T2, h2, k2, X2, e2, E2, A2, st2⟩ := newP X1 hx hZ (hwi hw 15 rfl) e1 (g := (mkF m 10 #[.val (.ref a1), .val (.int 0), .val (.int p3), .val (.int p3), .unset] [(.int p3)])) rfl (hb hby d29_10) rfl hz0 (cap := 16) hz2 (by decide) (by decide) (by decide)
  obtain ⟨b2, g2⟩ : ∃ z, z = h0.size := ⟨_, rfl⟩
  rw [← g2] at A2 st2
  have bn_b2 : h0.size ≤ b2 := Nat.le_of_eq g2.symm
  have sz3 : h0.size ≤ h2.size := E2.1
  have Z3 : n0 ≤ h2.size := Nat.le_trans Z0 sz3
  have O3 := O0.ext E2
  have K3 : Keep h0 h2 [] := (Keep.refl h0 []).ext E2
  have V2 : Arv Z h2 b2 k2 .byte p3 [(.int 0), (.int 0), (.int 0), (.int 0), (.int 0), (.int 0), (.int 0), (.int 0), (.int 0), (.int 0), (.int 0), (.int 0), (.int 0), (.int 0), (.int 0), (.int 0)] (.int 0) := (Arv.new A2 hz0).pad (pad_rep [] (.int 0) 16)
  have fc4 := (V_a1.ext E2)
  obtain ⟨cl5, Ar5, -, S5, M5, -, -⟩ := id fc4
  obtain ⟨_, _, ⟨T6, L6, k6, n6⟩, -, X6, ⟨Lc6, hQ6, l6, y6, z6⟩, st6⟩ := Jvm.LawKit.callS X2 hx (y := mn26) hown (mvT hZ (hwi hw 168 rfl)) (mvT hZ (hwi hw 169 rfl)) (mvT hZ (hwi hw 170 rfl)) (mvT hZ (hwi hw 171 rfl)) (by decide) (backOf (W := 4) (rm_minz l Z a0 hw [] p3 h2 n0 Z3 hz0 hz1 hz2 hz3) hZ (hwi hw 171 rfl) (hwi hw 170 rfl) (by decide) (by decide)) (g := (mkF m 24 #[.val (.ref a1), .val (.int 0), .val (.int p3), .val (.int p3), .val (.ref b2)] [(.int p3), (.int 16), (.int 0), (.ref b2), (.int 0), (.ref a1)])) rfl (by rw [hml]; rfl) (argsL := [(.int 16), (.int p3)]) (rest := [(.int 0), (.ref b2), (.int 0), (.ref a1)]) (lenOf pd_II_I_300 rfl) rfl (by show 2 * 0 + _ ≤ _; exact Nat.le_of_eq rfl) (hb hby d29_24) (fun _ _ => ⟨rfl, e2, (by decide : 1 + 0 ≤ _), (by decide : 16 + 0 ≤ _)⟩)
  dsimp only [Pt.U, Pt.locs, Pt.cells, Pt.slots] at X6 l6 y6 z6 st6 hQ6
  subst l6 y6 z6
  obtain ⟨rfl, N6q, e6⟩ := hQ6
  have N6 := Fr.app N1 N6q
  obtain ⟨T7, h7, L7, X7, e7, N7, Kc7, V7, st7⟩ := cpA X6 hx hZ hown (hwi hw 172 rfl) (hwi hw 108 rfl) (hwi hw 106 rfl) (hwi hw 107 rfl) e6 fc4 V2 (sp := (0 : Int32)) (dp := (0 : Int32)) (nn := p3) (us := (List.range p3.toNatClampNeg).map fun i => (vd : List Value).getD ((0 : Int32).toNatClampNeg + i) (.int 0)) (Or.inl ⟨rfl, rfl⟩) (by decide) (by decide) hz0 (by have z0 : (0 : Int32).toNatClampNeg = 0 := (by decide); have z16 : (16 : Int32).toNatClampNeg = 16 := (by decide); omega) (by have z0 : (0 : Int32).toNatClampNeg = 0 := (by decide); omega) rfl (by have z0 : (0 : Int32).toNatClampNeg = 0 := (by decide); simp only [List.length_cons, List.length_nil]; omega) N6 (Nat.le_trans Z0 bn_b2) (g := (mkF m 27 #[.val (.ref a1), .val (.int 0), .val (.int p3), .val (.int p3), .val (.ref b2)] [(.int p3), (.int 0), (.ref b2), (.int 0), (.ref a1)])) rfl (by rw [hml]; rfl) rfl (hb hby d29_27) (by decide) (W := 0) (by show 2 * 0 + _ ≤ _; exact Nat.le_of_eq rfl) (by decide)
  have Vd7 : Arv Z h7 b2 k2 .byte p3 (own_ap [(.int 0), (.int 0), (.int 0), (.int 0), (.int 0), (.int 0), (.int 0), (.int 0), (.int 0), (.int 0), (.int 0), (.int 0), (.int 0), (.int 0), (.int 0), (.int 0)] vd (0 : Int32) p3) (.int 0) := V7
  have sz8 : h2.size ≤ h7.size := Kc7.1
  have Z8 : n0 ≤ h7.size := Nat.le_trans Z3 sz8
  have O8 := O3.keep Kc7 (allS (Nat.le_trans Z0 bn_b2) all0)
  have K8 : Keep h0 h7 [] := K3.trans Kc7 (allS (Or.inr bn_b2) (all0))
  obtain ⟨fs, hr, hrun, hended, hW, hsame⟩ := X7.leave (v := some (.ref b2)) (fun h => by rw [Bd.returns] at h; cases h)
  refine ⟨_, _, pre0 _ ?_, hrun, hended, _, _, rfl, ?_, ⟨_, rfl⟩, hW, hsame.mono (by decide) (by decide)⟩
  · show St p e below s₁ (mkF m 0 #[.val (.ref a1), .val (.int 0), .val (.int p3), .unset, .unset] []) _
    refine XS.iloadN X0.here hx rfl (hb hby d29_0) rfl ?_
    refine XS.iloadN X0.here hx rfl (hb hby d29_1) rfl ?_
    refine st1 _ ?_
    refine XS.iloadN X1.here hx rfl (hb hby d29_5) rfl ?_
    refine XS.iloadN X1.here hx rfl (hb hby d29_6) rfl ?_
    refine XS.isub X1.here hx rfl (hb hby d29_7) rfl ?_
    show St p e below T1 (mkF m 8 #[.val (.ref a1), .val (.int 0), .val (.int p3), .unset, .unset] [(.int (p3 - (0 : Int32)))]) _
    rw [hs0]
    show St p e below T1 (mkF m 8 #[.val (.ref a1), .val (.int 0), .val (.int p3), .unset, .unset] [(.int p3)]) _
    refine XS.istoreN X1.here hx rfl (hb hby d29_8) rfl (l' := #[.val (.ref a1), .val (.int 0), .val (.int p3), .val (.int p3), .unset]) rfl ?_
    refine XS.iloadN X1.here hx rfl (hb hby d29_9) rfl ?_
    refine st2 _ ?_
    refine XS.astore X2.here hx rfl (hb hby d29_12) rfl rfl (l' := #[.val (.ref a1), .val (.int 0), .val (.int p3), .val (.int p3), .val (.ref b2)]) rfl ?_
    refine XS.aloadN X2.here hx rfl (hb hby d29_14) rfl rfl ?_
    refine XS.iloadN X2.here hx rfl (hb hby d29_15) rfl ?_
    refine XS.aload X2.here hx rfl (hb hby d29_16) rfl rfl ?_
    refine XS.iconst X2.here hx rfl (hb hby d29_18) ?_
    show St p e below T2 (mkF m 19 #[.val (.ref a1), .val (.int 0), .val (.int p3), .val (.int p3), .val (.ref b2)] [(.int 0), (.ref b2), (.int 0), (.ref a1)]) _
    refine XS.aloadN X2.here hx rfl (hb hby d29_19) rfl rfl ?_
    refine X2.arraylength hx (by rw [e2]; exact Ar5.1) (State.isArrayOf_alike hZ.alike Ar5.2.1) (g := (mkF m 20 #[.val (.ref a1), .val (.int 0), .val (.int p3), .val (.int p3), .val (.ref b2)] [(.ref a1), (.int 0), (.ref b2), (.int 0), (.ref a1)])) rfl rfl (hb hby d29_20) _ ?_
    rw [len_of S5 M5]
    show St p e below T2 (mkF m 21 #[.val (.ref a1), .val (.int 0), .val (.int p3), .val (.int p3), .val (.ref b2)] [(.int 16), (.int 0), (.ref b2), (.int 0), (.ref a1)]) _
    refine XS.iloadN X2.here hx rfl (hb hby d29_21) rfl ?_
    refine XS.isub X2.here hx rfl (hb hby d29_22) rfl ?_
    show St p e below T2 (mkF m 23 #[.val (.ref a1), .val (.int 0), .val (.int p3), .val (.int p3), .val (.ref b2)] [(.int ((16 : Int32) - (0 : Int32))), (.int 0), (.ref b2), (.int 0), (.ref a1)]) _
    rw [(by decide : ((16 : Int32) - (0 : Int32)) = (16 : Int32))]
    show St p e below T2 (mkF m 23 #[.val (.ref a1), .val (.int 0), .val (.int p3), .val (.int p3), .val (.ref b2)] [(.int 16), (.int 0), (.ref b2), (.int 0), (.ref a1)]) _
    refine XS.iloadN X2.here hx rfl (hb hby d29_23) rfl ?_
    refine st6 _ ?_
    refine st7 _ ?_
    refine XS.aload X7.here hx rfl (hb hby d29_30) rfl rfl ?_
    show St p e below T7 (mkF m 32 #[.val (.ref a1), .val (.int 0), .val (.int p3), .val (.int p3), .val (.ref b2)] [(.ref b2)]) _
    jvm_step X7.here [X7.here.top, hx, (hb hby d29_32), X7.method', Bd.returns, Value.isRef, FieldType.isReference]
    first | (intro acts; rw [hr _ acts rfl rfl rfl]) | rw [hr _ _ rfl rfl rfl]
    exact Steps.refl _
  · show Q_corb Z a1 p3 k_a1 vd h0 n0 _ T7.heap _
    rw [e7]
    exact ⟨b2, k2, rfl, N7, K8, bn_b2, Vd7⟩
theorem pd_BII__B_541 : parseMethodDescriptor "([BII)[B" = some ⟨[(.array .byte), .int, .int], some (.array .byte)⟩ := by decide +kernel
theorem d28_0 : decode jdk_65_method_132_code 0 = .ok (.iload_n 1, 1) := by decide +kernel
theorem d28_1 : decode jdk_65_method_132_code 1 = .ok (.ifCond .ne 9, 3) := by decide +kernel
theorem d28_4 : decode jdk_65_method_132_code 4 = .ok (.iload_n 2, 1) := by decide +kernel
theorem d28_5 : decode jdk_65_method_132_code 5 = .ok (.aload_n 0, 1) := by decide +kernel
theorem d28_6 : decode jdk_65_method_132_code 6 = .ok (.arraylength, 1) := by decide +kernel
theorem d28_7 : decode jdk_65_method_132_code 7 = .ok (.if_icmp .eq 10, 3) := by decide +kernel
theorem d28_10 : decode jdk_65_method_132_code 10 = .ok (.aload_n 0, 1) := by decide +kernel
theorem d28_11 : decode jdk_65_method_132_code 11 = .ok (.iload_n 1, 1) := by decide +kernel
theorem d28_12 : decode jdk_65_method_132_code 12 = .ok (.iload_n 2, 1) := by decide +kernel
theorem d28_13 : decode jdk_65_method_132_code 13 = .ok (.invokestatic 339, 3) := by decide +kernel
theorem d28_16 : decode jdk_65_method_132_code 16 = .ok (.areturn, 1) := by decide +kernel
theorem pn_28 : plainName "java/util/Arrays" = true := by first | (simp [plainName, overriddenIn]; done) | decide +kernel
theorem ef_28_RII (m : MethodId) (x0 : Addr) (x1 : Int32) (x2 : Int32) : entryFrame m #[(.ref x0), (.int x1), (.int x2)] 3 = mkF m 0 #[.val (.ref x0), .val (.int x1), .val (.int x2)] [] := by first | (simp [entryFrame, mkF, argsToLocals, Value.category]; done) | rfl
def Q_cor (Z : State) (a1 : Addr) (p3 : Int32) (k_a1 : ClassId) (vd : List Value) (h0 : Heap) (n0 : Nat) (v : Option Value) (h : Heap) (L : List Loc) : Prop := ∃ (r : Addr) (kr : ClassId), v = some (.ref r) ∧ Fr n0 L ∧ Keep h0 h [] ∧ h0.size ≤ r ∧ Arv Z h r kr .byte p3 (own_ap [(.int 0), (.int 0), (.int 0), (.int 0), (.int 0), (.int 0), (.int 0), (.int 0), (.int 0), (.int 0), (.int 0), (.int 0), (.int 0), (.int 0), (.int 0), (.int 0)] vd (0 : Int32) p3) (.int 0)
set_option maxRecDepth 65536 in
set_option maxHeartbeats 40000000 in
theorem rm_cor (l : Launch) (Z : State) (a0 : Array Value) (hw : ∀ d ∈ tables_1, d.before a0 Z = true) (ws : List Jvm.Cond) (a1 : Addr) (p3 : Int32) (k_a1 : ClassId) (vd : List Value) (h0 : Heap) (n0 : Nat) (Z0 : n0 ≤ h0.size) (V_a1 : Arv Z h0 a1 k_a1 .byte (16 : Int32) vd (.int 0)) (hz0 : ¬ (p3 < (0 : Int32))) (hz1 : p3 < (16 : Int32)) (hz2 : p3.toNatClampNeg ≤ 16) (hz3 : ¬ (p3 = (16 : Int32))) (O0 : Old Z n0 h0) :
    MetFree l mn28 (head1 (Jvm.Cond.code mn28 jdk_65_method_132_code 3 (some (.array .byte)) :: ws) ro27) (fun a U => a = #[(.ref a1), (.int 0), (.int p3)] ∧ Z.Warmed39 U.vm ∧ U.heap = h0) (fun _ _ _ _ _ => True) (fun _ U o U' => ∃ v L, o = .returned v ∧ Q_cor Z a1 p3 k_a1 vd h0 n0 v U'.heap L ∧ FrameEnd U o U' L ro27.cells ro27.slots) := by
  refine MetFree.of_bodySF (plainFor_of_name pn_28) hisR ?_
  intro p e s m args below meth c s₁ Bd hml0 hP hK
  obtain ⟨rfl, hZ, hh⟩ := hP
  have hx := Bd.exec
  have hby := Bd.bytes
  have hml : c.maxLocals = 3 := hml0
  have hown : s.vm.findClass "java/util/Arrays" = some m.cls := findClass_of_methodNamed Bd.named
  have hnm := (name_of_methodNamed Bd.named Bd.method).1
  have X0 : Stand p l e ro27 s m #[(.ref a1), (.int 0), (.int p3)] below meth c s₁ [] 0 0 := Stand.of_body Bd
  have e0 : s₁.heap = h0 := by rw [← hh, Bd.state]; rfl
  have N0 := Fr.nil n0
  have pre0 : ∀ t, Steps p.tables e below (s₁.setTop (mkF m 0 #[.val (.ref a1), .val (.int 0), .val (.int p3)] [])) t → Steps p.tables e below (s₁.setTop (entryFrame m #[(.ref a1), (.int 0), (.int p3)] 3)) t := fun t k => castTop (ef_28_RII m a1 (0 : Int32) p3) k
  obtain ⟨cl1, Ar1, -, S1, M1, -, -⟩ := id V_a1
  obtain ⟨_, _, ⟨T2, L2, k2, n2⟩, -, X2, ⟨Lc2, hQ2, l2, y2, z2⟩, st2⟩ := Jvm.LawKit.callS X0 hx (y := mn27) hown (mvT hZ (hwi hw 162 rfl)) (mvT hZ (hwi hw 163 rfl)) (mvT hZ (hwi hw 160 rfl)) (mvT hZ (hwi hw 164 rfl)) (by decide) (backOf (W := 0) (rm_corb l Z a0 hw [] a1 p3 k_a1 vd h0 n0 Z0 V_a1 hz0 hz1 hz2 hz3 (by simp) O0) hZ (hwi hw 164 rfl) (hwi hw 160 rfl) (by decide) (by decide)) (g := (mkF m 13 #[.val (.ref a1), .val (.int 0), .val (.int p3)] [(.int p3), (.int 0), (.ref a1)])) rfl (by rw [hml]; rfl) (argsL := [(.ref a1), (.int 0), (.int p3)]) (rest := []) (lenOf pd_BII__B_541 rfl) rfl (by show 2 * 0 + _ ≤ _; exact Nat.le_of_eq rfl) (hb hby d28_13) (fun _ _ => ⟨rfl, e0, (by decide : 0 + 1 ≤ _), (by decide : 0 + 16 ≤ _)⟩)
  dsimp only [Pt.U, Pt.locs, Pt.cells, Pt.slots] at X2 l2 y2 z2 st2 hQ2
  subst l2 y2 z2
  obtain ⟨r_2, kr_2, rfl, N2q, Kc2, g2_0, g2_1⟩ := hQ2
  have N2 := Fr.app N0 N2q
  have sz3 : h0.size ≤ T2.heap.size := Kc2.1
  have Z3 : n0 ≤ T2.heap.size := Nat.le_trans Z0 sz3
  have O3 := O0.keep Kc2 all0
  have K3 : Keep h0 T2.heap [] := (Keep.refl h0 []).trans Kc2 (all0)
  have bn_r_2 : h0.size ≤ r_2 := g2_0
  obtain ⟨fs, hr, hrun, hended, hW, hsame⟩ := X2.leave (v := some (.ref r_2)) (fun h => by rw [Bd.returns] at h; cases h)
  refine ⟨_, _, pre0 _ ?_, hrun, hended, _, _, rfl, ?_, ⟨_, rfl⟩, hW, hsame.mono (by decide) (by decide)⟩
  · show St p e below s₁ (mkF m 0 #[.val (.ref a1), .val (.int 0), .val (.int p3)] []) _
    refine XS.iloadN X0.here hx rfl (hb hby d28_0) rfl ?_
    refine XS.ifNo X0.here hx rfl (hb hby d28_1) rfl ((if0 _ _).trans (teq (by decide : (0 : Int32) = (0 : Int32))).2) ?_
    refine XS.iloadN X0.here hx rfl (hb hby d28_4) rfl ?_
    refine XS.aloadN X0.here hx rfl (hb hby d28_5) rfl rfl ?_
    refine X0.arraylength hx (by rw [e0]; exact Ar1.1) (State.isArrayOf_alike hZ.alike Ar1.2.1) (g := (mkF m 6 #[.val (.ref a1), .val (.int 0), .val (.int p3)] [(.ref a1), (.int p3)])) rfl rfl (hb hby d28_6) _ ?_
    rw [len_of S1 M1]
    show St p e below s₁ (mkF m 7 #[.val (.ref a1), .val (.int 0), .val (.int p3)] [(.int 16), (.int p3)]) _
    refine XS.icmpNo X0.here hx rfl (hb hby d28_7) rfl (feq hz3).1 ?_
    refine XS.aloadN X0.here hx rfl (hb hby d28_10) rfl rfl ?_
    refine XS.iloadN X0.here hx rfl (hb hby d28_11) rfl ?_
    refine XS.iloadN X0.here hx rfl (hb hby d28_12) rfl ?_
    refine st2 _ ?_
    show St p e below T2 (mkF m 16 #[.val (.ref a1), .val (.int 0), .val (.int p3)] [(.ref r_2)]) _
    jvm_step X2.here [X2.here.top, hx, (hb hby d28_16), X2.method', Bd.returns, Value.isRef, FieldType.isReference]
    first | (intro acts; rw [hr _ acts rfl rfl rfl]) | rw [hr _ _ rfl rfl rfl]
    exact Steps.refl _
  · show Q_cor Z a1 p3 k_a1 vd h0 n0 _ T2.heap _
    exact ⟨r_2, kr_2, rfl, N2, K3, bn_r_2, g2_1⟩
theorem d25_0 : decode jdk_68_method_64_code 0 = .ok (.aload_n 0, 1) := by decide +kernel
theorem d25_1 : decode jdk_68_method_64_code 1 = .ok (.getfield 15, 3) := by decide +kernel
theorem d25_4 : decode jdk_68_method_64_code 4 = .ok (.areturn, 1) := by decide +kernel
theorem pn_25 : plainName "java/lang/AbstractStringBuilder" = true := by first | (simp [plainName, overriddenIn]; done) | decide +kernel
theorem ef_25_R (m : MethodId) (x0 : Addr) : entryFrame m #[(.ref x0)] 1 = mkF m 0 #[.val (.ref x0)] [] := by first | (simp [entryFrame, mkF, argsToLocals, Value.category]; done) | rfl
def Q_getval (Z : State) (a1 : Addr) (v_a1_value : Addr) (h0 : Heap) (n0 : Nat) (v : Option Value) (h : Heap) (L : List Loc) : Prop := v = some (.ref v_a1_value) ∧ Fr n0 L ∧ h = h0
set_option maxRecDepth 65536 in
set_option maxHeartbeats 40000000 in
theorem rm_getval (l : Launch) (Z : State) (a0 : Array Value) (hw : ∀ d ∈ tables_1, d.before a0 Z = true) (ws : List Jvm.Cond) (a1 : Addr) (v_a1_value : Addr) (h0 : Heap) (n0 : Nat) (Z0 : n0 ≤ h0.size) (F_a1_value : Fld Z h0 a1 "java/lang/AbstractStringBuilder" "value" "[B" (.ref v_a1_value)) :
    MetFree l mn29 (head1 (Jvm.Cond.code mn29 jdk_68_method_64_code 1 (some (.array .byte)) :: ws) ro2) (fun a U => a = #[(.ref a1)] ∧ Z.Warmed39 U.vm ∧ U.heap = h0) (fun _ _ _ _ _ => True) (fun _ U o U' => ∃ v L, o = .returned v ∧ Q_getval Z a1 v_a1_value h0 n0 v U'.heap L ∧ FrameEnd U o U' L ro2.cells ro2.slots) := by
  refine MetFree.of_bodySF (plainFor_of_name pn_25) hisR ?_
  intro p e s m args below meth c s₁ Bd hml0 hP hK
  obtain ⟨rfl, hZ, hh⟩ := hP
  have hx := Bd.exec
  have hby := Bd.bytes
  have hml : c.maxLocals = 1 := hml0
  have hown : s.vm.findClass "java/lang/AbstractStringBuilder" = some m.cls := findClass_of_methodNamed Bd.named
  have hnm := (name_of_methodNamed Bd.named Bd.method).1
  have X0 : Stand p l e ro2 s m #[(.ref a1)] below meth c s₁ [] 0 0 := Stand.of_body Bd
  have e0 : s₁.heap = h0 := by rw [← hh, Bd.state]; rfl
  have N0 := Fr.nil n0
  have pre0 : ∀ t, Steps p.tables e below (s₁.setTop (mkF m 0 #[.val (.ref a1)] [])) t → Steps p.tables e below (s₁.setTop (entryFrame m #[(.ref a1)] 1)) t := fun t k => castTop (ef_25_R m a1) k
  obtain ⟨T1, X1, e1, st1⟩ := getF X0 hx hZ hown (host := "") (Or.inl (hwi hw 57 rfl)) Via.refl e0 F_a1_value (g := (mkF m 1 #[.val (.ref a1)] [(.ref a1)])) rfl rfl (hb hby d25_1)
  obtain ⟨fs, hr, hrun, hended, hW, hsame⟩ := X1.leave (v := some (.ref v_a1_value)) (fun h => by rw [Bd.returns] at h; cases h)
  refine ⟨_, _, pre0 _ ?_, hrun, hended, _, _, rfl, ?_, ⟨_, rfl⟩, hW, hsame.mono (by decide) (by decide)⟩
  · show St p e below s₁ (mkF m 0 #[.val (.ref a1)] []) _
    refine XS.aloadN X0.here hx rfl (hb hby d25_0) rfl rfl ?_
    refine st1 _ ?_
    show St p e below T1 (mkF m 4 #[.val (.ref a1)] [(.ref v_a1_value)]) _
    jvm_step X1.here [X1.here.top, hx, (hb hby d25_4), X1.method', Bd.returns, Value.isRef, FieldType.isReference]
    first | (intro acts; rw [hr _ acts rfl rfl rfl]) | rw [hr _ _ rfl rfl rfl]
    exact Steps.refl _
  · show Q_getval Z a1 v_a1_value h0 n0 _ T1.heap _
    rw [e1]
    exact ⟨rfl, N0, rfl⟩
theorem d27_0 : decode jdk_68_method_6_code 0 = .ok (.aload_n 0, 1) := by decide +kernel
theorem d27_1 : decode jdk_68_method_6_code 1 = .ok (.getfield 79, 3) := by decide +kernel
theorem d27_4 : decode jdk_68_method_6_code 4 = .ok (.ireturn, 1) := by decide +kernel
theorem pn_27 : plainName "java/lang/AbstractStringBuilder" = true := by first | (simp [plainName, overriddenIn]; done) | decide +kernel
theorem ef_27_R (m : MethodId) (x0 : Addr) : entryFrame m #[(.ref x0)] 1 = mkF m 0 #[.val (.ref x0)] [] := by first | (simp [entryFrame, mkF, argsToLocals, Value.category]; done) | rfl
def Q_ablen (Z : State) (a1 : Addr) (v_a1_count : Int32) (h0 : Heap) (n0 : Nat) (v : Option Value) (h : Heap) (L : List Loc) : Prop := v = some (.int v_a1_count) ∧ Fr n0 L ∧ h = h0
set_option maxRecDepth 65536 in
set_option maxHeartbeats 40000000 in
theorem rm_ablen (l : Launch) (Z : State) (a0 : Array Value) (hw : ∀ d ∈ tables_1, d.before a0 Z = true) (ws : List Jvm.Cond) (a1 : Addr) (v_a1_count : Int32) (h0 : Heap) (n0 : Nat) (Z0 : n0 ≤ h0.size) (F_a1_count : Fld Z h0 a1 "java/lang/AbstractStringBuilder" "count" "I" (.int v_a1_count)) :
    MetFree l mn30 (head1 (Jvm.Cond.code mn30 jdk_68_method_6_code 1 (some .int) :: ws) ro2) (fun a U => a = #[(.ref a1)] ∧ Z.Warmed39 U.vm ∧ U.heap = h0) (fun _ _ _ _ _ => True) (fun _ U o U' => ∃ v L, o = .returned v ∧ Q_ablen Z a1 v_a1_count h0 n0 v U'.heap L ∧ FrameEnd U o U' L ro2.cells ro2.slots) := by
  refine MetFree.of_bodySF (plainFor_of_name pn_27) hisR ?_
  intro p e s m args below meth c s₁ Bd hml0 hP hK
  obtain ⟨rfl, hZ, hh⟩ := hP
  have hx := Bd.exec
  have hby := Bd.bytes
  have hml : c.maxLocals = 1 := hml0
  have hown : s.vm.findClass "java/lang/AbstractStringBuilder" = some m.cls := findClass_of_methodNamed Bd.named
  have hnm := (name_of_methodNamed Bd.named Bd.method).1
  have X0 : Stand p l e ro2 s m #[(.ref a1)] below meth c s₁ [] 0 0 := Stand.of_body Bd
  have e0 : s₁.heap = h0 := by rw [← hh, Bd.state]; rfl
  have N0 := Fr.nil n0
  have pre0 : ∀ t, Steps p.tables e below (s₁.setTop (mkF m 0 #[.val (.ref a1)] [])) t → Steps p.tables e below (s₁.setTop (entryFrame m #[(.ref a1)] 1)) t := fun t k => castTop (ef_27_R m a1) k
  obtain ⟨T1, X1, e1, st1⟩ := getF X0 hx hZ hown (host := "") (Or.inl (hwi hw 82 rfl)) Via.refl e0 F_a1_count (g := (mkF m 1 #[.val (.ref a1)] [(.ref a1)])) rfl rfl (hb hby d27_1)
  obtain ⟨fs, hr, hrun, hended, hW, hsame⟩ := X1.leave (v := some (.int v_a1_count)) (fun h => by rw [Bd.returns] at h; cases h)
  refine ⟨_, _, pre0 _ ?_, hrun, hended, _, _, rfl, ?_, ⟨_, rfl⟩, hW, hsame.mono (by decide) (by decide)⟩
  · show St p e below s₁ (mkF m 0 #[.val (.ref a1)] []) _
    refine XS.aloadN X0.here hx rfl (hb hby d27_0) rfl rfl ?_
    refine st1 _ ?_
    show St p e below T1 (mkF m 4 #[.val (.ref a1)] [(.int v_a1_count)]) _
    exact retI X1 hx Bd.returns (hb hby d27_4) hr
  · show Q_ablen Z a1 v_a1_count h0 n0 _ T1.heap _
    rw [e1]
    exact ⟨rfl, N0, rfl⟩
theorem d26_0 : decode jdk_67_method_93_code 0 = .ok (.aload_n 0, 1) := by decide +kernel
theorem d26_1 : decode jdk_67_method_93_code 1 = .ok (.invokespecial 343, 3) := by decide +kernel
theorem d26_4 : decode jdk_67_method_93_code 4 = .ok (.ireturn, 1) := by decide +kernel
theorem pn_26 : plainName "java/lang/StringBuilder" = true := by first | (simp [plainName, overriddenIn]; done) | decide +kernel
theorem ef_26_R (m : MethodId) (x0 : Addr) : entryFrame m #[(.ref x0)] 1 = mkF m 0 #[.val (.ref x0)] [] := by first | (simp [entryFrame, mkF, argsToLocals, Value.category]; done) | rfl
def Q_sblen (Z : State) (a1 : Addr) (v_a1_count : Int32) (h0 : Heap) (n0 : Nat) (v : Option Value) (h : Heap) (L : List Loc) : Prop := v = some (.int v_a1_count) ∧ Fr n0 L ∧ h = h0
set_option maxRecDepth 65536 in
set_option maxHeartbeats 40000000 in
theorem rm_sblen (l : Launch) (Z : State) (a0 : Array Value) (hw : ∀ d ∈ tables_1, d.before a0 Z = true) (ws : List Jvm.Cond) (a1 : Addr) (v_a1_count : Int32) (h0 : Heap) (n0 : Nat) (Z0 : n0 ≤ h0.size) (E_a1 : Exa Z h0 a1 "java/lang/StringBuilder") (F_a1_count : Fld Z h0 a1 "java/lang/AbstractStringBuilder" "count" "I" (.int v_a1_count)) :
    MetFree l mn31 (head1 (Jvm.Cond.code mn31 jdk_67_method_93_code 1 (some .int) :: ws) ro28) (fun a U => a = #[(.ref a1)] ∧ Z.Warmed39 U.vm ∧ U.heap = h0) (fun _ _ _ _ _ => True) (fun _ U o U' => ∃ v L, o = .returned v ∧ Q_sblen Z a1 v_a1_count h0 n0 v U'.heap L ∧ FrameEnd U o U' L ro28.cells ro28.slots) := by
  refine MetFree.of_bodySF (plainFor_of_name pn_26) hisR ?_
  intro p e s m args below meth c s₁ Bd hml0 hP hK
  obtain ⟨rfl, hZ, hh⟩ := hP
  have hx := Bd.exec
  have hby := Bd.bytes
  have hml : c.maxLocals = 1 := hml0
  have hown : s.vm.findClass "java/lang/StringBuilder" = some m.cls := findClass_of_methodNamed Bd.named
  have hnm := (name_of_methodNamed Bd.named Bd.method).1
  have X0 : Stand p l e ro28 s m #[(.ref a1)] below meth c s₁ [] 0 0 := Stand.of_body Bd
  have e0 : s₁.heap = h0 := by rw [← hh, Bd.state]; rfl
  have N0 := Fr.nil n0
  have pre0 : ∀ t, Steps p.tables e below (s₁.setTop (mkF m 0 #[.val (.ref a1)] [])) t → Steps p.tables e below (s₁.setTop (entryFrame m #[(.ref a1)] 1)) t := fun t k => castTop (ef_26_R m a1) k
  obtain ⟨_, _, ⟨T1, L1, k1, n1⟩, -, X1, ⟨Lc1, hQ1, l1, y1, z1⟩, st1⟩ := superBack X0 hx hZ (y := mn30) hown (hwi hw 155 rfl) (own_same (y := mn30) (hwi hw 151 rfl) (hwi hw 87 rfl) rfl (by decide)) (hwi hw 151 rfl) (hwi hw 68 rfl) (by decide) (backOf (W := 0) (rm_ablen l Z a0 hw [] a1 v_a1_count h0 n0 Z0 F_a1_count) hZ (hwi hw 156 rfl) (hwi hw 53 rfl) (by decide) (by decide)) e0 (Ins.self E_a1) (g := (mkF m 1 #[.val (.ref a1)] [(.ref a1)])) rfl (by rw [hml]; rfl) (hwi hw 156 rfl) (argsL := []) (rest := []) (lenOf pd_I_154 rfl) rfl (by show 2 * 0 + _ ≤ _; exact Nat.le_of_eq rfl) (hb hby d26_1) (fun _ _ => ⟨rfl, e0, (by decide : 0 + 0 ≤ _), (by decide : 0 + 0 ≤ _)⟩)
  dsimp only [Pt.U, Pt.locs, Pt.cells, Pt.slots] at X1 l1 y1 z1 st1 hQ1
  subst l1 y1 z1
  obtain ⟨rfl, N1q, e1⟩ := hQ1
  have N1 := Fr.app N0 N1q
  obtain ⟨fs, hr, hrun, hended, hW, hsame⟩ := X1.leave (v := some (.int v_a1_count)) (fun h => by rw [Bd.returns] at h; cases h)
  refine ⟨_, _, pre0 _ ?_, hrun, hended, _, _, rfl, ?_, ⟨_, rfl⟩, hW, hsame.mono (by decide) (by decide)⟩
  · show St p e below s₁ (mkF m 0 #[.val (.ref a1)] []) _
    refine XS.aloadN X0.here hx rfl (hb hby d26_0) rfl rfl ?_
    refine st1.trans ?_
    show St p e below T1 (mkF m 4 #[.val (.ref a1)] [(.int v_a1_count)]) _
    exact retI X1 hx Bd.returns (hb hby d26_4) hr
  · show Q_sblen Z a1 v_a1_count h0 n0 _ T1.heap _
    rw [e1]
    exact ⟨rfl, N1, rfl⟩
theorem pd_B_238 : parseMethodDescriptor "()[B" = some ⟨[], some (.array .byte)⟩ := by decide +kernel
theorem d24_0 : decode jdk_42_method_150_code 0 = .ok (.aload_n 0, 1) := by decide +kernel
theorem d24_1 : decode jdk_42_method_150_code 1 = .ok (.invokespecial 1, 3) := by decide +kernel
theorem d24_4 : decode jdk_42_method_150_code 4 = .ok (.aload_n 1, 1) := by decide +kernel
theorem d24_5 : decode jdk_42_method_150_code 5 = .ok (.invokevirtual 552, 3) := by decide +kernel
theorem d24_8 : decode jdk_42_method_150_code 8 = .ok (.astore_n 3, 1) := by decide +kernel
theorem d24_9 : decode jdk_42_method_150_code 9 = .ok (.aload_n 1, 1) := by decide +kernel
theorem d24_10 : decode jdk_42_method_150_code 10 = .ok (.invokevirtual 549, 3) := by decide +kernel
theorem d24_13 : decode jdk_42_method_150_code 13 = .ok (.istore 4, 2) := by decide +kernel
theorem d24_15 : decode jdk_42_method_150_code 15 = .ok (.aload_n 1, 1) := by decide +kernel
theorem d24_16 : decode jdk_42_method_150_code 16 = .ok (.invokevirtual 1047, 3) := by decide +kernel
theorem d24_19 : decode jdk_42_method_150_code 19 = .ok (.ifCond .eq 22, 3) := by decide +kernel
theorem d24_22 : decode jdk_42_method_150_code 22 = .ok (.aload_n 0, 1) := by decide +kernel
theorem d24_23 : decode jdk_42_method_150_code 23 = .ok (.iconst 0, 1) := by decide +kernel
theorem d24_24 : decode jdk_42_method_150_code 24 = .ok (.putfield 15, 3) := by decide +kernel
theorem d24_27 : decode jdk_42_method_150_code 27 = .ok (.aload_n 0, 1) := by decide +kernel
theorem d24_28 : decode jdk_42_method_150_code 28 = .ok (.aload_n 3, 1) := by decide +kernel
theorem d24_29 : decode jdk_42_method_150_code 29 = .ok (.iconst 0, 1) := by decide +kernel
theorem d24_30 : decode jdk_42_method_150_code 30 = .ok (.iload 4, 2) := by decide +kernel
theorem d24_32 : decode jdk_42_method_150_code 32 = .ok (.invokestatic 54, 3) := by decide +kernel
theorem d24_35 : decode jdk_42_method_150_code 35 = .ok (.putfield 9, 3) := by decide +kernel
theorem d24_38 : decode jdk_42_method_150_code 38 = .ok (.goto 59, 3) := by decide +kernel
theorem d24_97 : decode jdk_42_method_150_code 97 = .ok (.return_, 1) := by decide +kernel
theorem pn_24 : plainName "java/lang/String" = true := by first | (simp [plainName, overriddenIn]; done) | decide +kernel
theorem ef_24_RRn (m : MethodId) (x0 : Addr) (x1 : Addr) : entryFrame m #[(.ref x0), (.ref x1), .null] 5 = mkF m 0 #[.val (.ref x0), .val (.ref x1), .val .null, .unset, .unset] [] := by first | (simp [entryFrame, mkF, argsToLocals, Value.category]; done) | rfl
def Q_new2 (Z : State) (a1 : Addr) (a2 : Addr) (w_COMPACT_STRINGS : Int32) (t_a2 : Addr) (k_t_a2 : ClassId) (vd : List Value) (cn : Int32) (u_a1_coder : Value) (u_a1_value : Value) (h0 : Heap) (n0 : Nat) (v : Option Value) (h : Heap) (L : List Loc) : Prop := ∃ (t : Addr) (kt : ClassId), v = none ∧ Fr n0 L ∧ Keep h0 h [a1] ∧ h0.size ≤ t ∧ Exa Z h a1 "java/lang/String" ∧ Fld Z h a1 "java/lang/String" "coder" "B" (.int 0) ∧ Fld Z h a1 "java/lang/String" "value" "[B" (.ref t) ∧ Arv Z h t kt .byte cn (own_ap [(.int 0), (.int 0), (.int 0), (.int 0), (.int 0), (.int 0), (.int 0), (.int 0), (.int 0), (.int 0), (.int 0), (.int 0), (.int 0), (.int 0), (.int 0), (.int 0)] vd (0 : Int32) cn) (.int 0)
set_option maxRecDepth 65536 in
set_option maxHeartbeats 40000000 in
theorem rm_new2 (l : Launch) (Z : State) (a0 : Array Value) (hw : ∀ d ∈ tables_1, d.before a0 Z = true) (ws : List Jvm.Cond) (a1 : Addr) (a2 : Addr) (w_COMPACT_STRINGS : Int32) (t_a2 : Addr) (k_t_a2 : ClassId) (vd : List Value) (cn : Int32) (u_a1_coder : Value) (u_a1_value : Value) (h0 : Heap) (n0 : Nat) (Z0 : n0 ≤ h0.size) (E_a1 : Exa Z h0 a1 "java/lang/String") (S_COMPACT_STRINGS : Sta Z Z.heap "java/lang/String" "COMPACT_STRINGS" "Z" (.int w_COMPACT_STRINGS)) (hcs : ¬ (w_COMPACT_STRINGS = (0 : Int32))) (E_a2 : Exa Z h0 a2 "java/lang/StringBuilder") (F_a2_coder : Fld Z h0 a2 "java/lang/AbstractStringBuilder" "coder" "B" (.int 0)) (F_a2_value : Fld Z h0 a2 "java/lang/AbstractStringBuilder" "value" "[B" (.ref t_a2)) (V_t_a2 : Arv Z h0 t_a2 k_t_a2 .byte (16 : Int32) vd (.int 0)) (F_a2_count : Fld Z h0 a2 "java/lang/AbstractStringBuilder" "count" "I" (.int cn)) (hz0 : ¬ (cn < (0 : Int32))) (hz1 : cn < (16 : Int32)) (hz2 : cn.toNatClampNeg ≤ 16) (hz3 : ¬ (cn = (16 : Int32))) (O0 : Old Z n0 h0) (F_a1_coder : Fld Z h0 a1 "java/lang/String" "coder" "B" u_a1_coder) (g_a1 : n0 ≤ a1) (F_a1_value : Fld Z h0 a1 "java/lang/String" "value" "[B" u_a1_value) :
    MetFree l mn32 (head1 (Jvm.Cond.code mn32 jdk_42_method_150_code 5 none :: ws) ro29) (fun a U => a = #[(.ref a1), (.ref a2), .null] ∧ Z.Warmed39 U.vm ∧ U.heap = h0) (fun _ _ _ _ _ => True) (fun _ U o U' => ∃ v L, o = .returned v ∧ Q_new2 Z a1 a2 w_COMPACT_STRINGS t_a2 k_t_a2 vd cn u_a1_coder u_a1_value h0 n0 v U'.heap L ∧ FrameEnd U o U' L ro29.cells ro29.slots) := by
  refine MetFree.of_bodySF (plainFor_of_name pn_24) hisR ?_
  intro p e s m args below meth c s₁ Bd hml0 hP hK
  obtain ⟨rfl, hZ, hh⟩ := hP
  have hx := Bd.exec
  have hby := Bd.bytes
  have hml : c.maxLocals = 5 := hml0
  have hown : s.vm.findClass "java/lang/String" = some m.cls := findClass_of_methodNamed Bd.named
  have hnm := (name_of_methodNamed Bd.named Bd.method).1
  have X0 : Stand p l e ro29 s m #[(.ref a1), (.ref a2), .null] below meth c s₁ [] 0 0 := Stand.of_body Bd
  have e0 : s₁.heap = h0 := by rw [← hh, Bd.state]; rfl
  have N0 := Fr.nil n0
  have pre0 : ∀ t, Steps p.tables e below (s₁.setTop (mkF m 0 #[.val (.ref a1), .val (.ref a2), .val .null, .unset, .unset] [])) t → Steps p.tables e below (s₁.setTop (entryFrame m #[(.ref a1), (.ref a2), .null] 5)) t := fun t k => castTop (ef_24_RRn m a1 a2) k
  obtain ⟨T1, X1, e1, st1⟩ := initO X0 hx hZ hown (hwi hw 11 rfl) (hwi hw 12 rfl) (hwi hw 13 rfl) e0 (g := (mkF m 1 #[.val (.ref a1), .val (.ref a2), .val .null, .unset, .unset] [(.ref a1)])) rfl (by rw [hml]; rfl) rfl (hb hby d24_1) (by decide) (W := 0) (by show 2 * 0 + _ ≤ _; exact Nat.le_of_eq rfl) (by decide)
  obtain ⟨cq2, kq2, q2a, q2b, q2c⟩ := isOf hZ e1 E_a2
  obtain ⟨_, _, ⟨T2, L2, k2, n2⟩, -, X2, ⟨Lc2, hQ2, l2, y2, z2⟩, st2⟩ := X1.virtualBack hx (y := mn29) (z := mn29) hown (mvT hZ (hwi hw 144 rfl)) (mvT hZ (hwi hw 145 rfl)) (notFace_of_selects (args := #[]) (mvT hZ (hwi hw 147 rfl))) (mvT hZ (hwi hw 147 rfl)) (mvT hZ (hwi hw 146 rfl)) (by decide) (backOf (W := 0) (rm_getval l Z a0 hw [] a2 t_a2 h0 n0 Z0 F_a2_value) hZ (hwi hw 148 rfl) (hwi hw 53 rfl) (by decide) (by decide)) q2a q2c (g := (mkF m 5 #[.val (.ref a1), .val (.ref a2), .val .null, .unset, .unset] [(.ref a2)])) rfl (by rw [hml]; rfl) (Steps.refl _) (argsL := []) (rest := []) (lenOf pd_B_238 rfl) rfl (by show 2 * 0 + _ ≤ _; exact Nat.le_of_eq rfl) (hb hby d24_5) (fun _ _ => ⟨rfl, e1, (by decide : 0 + 0 ≤ _), (by decide : 0 + 0 ≤ _)⟩)
  dsimp only [Pt.U, Pt.locs, Pt.cells, Pt.slots] at X2 l2 y2 z2 st2 hQ2
  subst l2 y2 z2
  obtain ⟨rfl, N2q, e2⟩ := hQ2
  have N2 := Fr.app N0 N2q
  obtain ⟨cq3, kq3, q3a, q3b, q3c⟩ := isOf hZ e2 E_a2
  obtain ⟨_, _, ⟨T3, L3, k3, n3⟩, -, X3, ⟨Lc3, hQ3, l3, y3, z3⟩, st3⟩ := X2.virtualBack hx (y := mn30) (z := mn31) hown (mvT hZ (hwi hw 149 rfl)) (mvT hZ (hwi hw 150 rfl)) (own_nf (mvT hZ (hwi hw 87 rfl) (args := #[])) rfl) (mvT hZ (hwi hw 152 rfl)) (mvT hZ (hwi hw 153 rfl)) (by decide) (backOf (W := 0) (rm_sblen l Z a0 hw [] a2 cn h0 n0 Z0 E_a2 F_a2_count) hZ (hwi hw 154 rfl) (hwi hw 45 rfl) (by decide) (by decide)) q3a q3c (g := (mkF m 10 #[.val (.ref a1), .val (.ref a2), .val .null, .val (.ref t_a2), .unset] [(.ref a2)])) rfl (by rw [hml]; rfl) (Steps.refl _) (argsL := []) (rest := []) (lenOf pd_I_154 rfl) rfl (by show 2 * 0 + _ ≤ _; exact Nat.le_of_eq rfl) (hb hby d24_10) (fun _ _ => ⟨rfl, e2, (by decide : 0 + 0 ≤ _), (by decide : 0 + 0 ≤ _)⟩)
  dsimp only [Pt.U, Pt.locs, Pt.cells, Pt.slots] at X3 l3 y3 z3 st3 hQ3
  subst l3 y3 z3
  obtain ⟨rfl, N3q, e3⟩ := hQ3
  have N3 := Fr.app N2 N3q
  obtain ⟨cq4, kq4, q4a, q4b, q4c⟩ := isOf hZ e3 E_a2
  obtain ⟨_, _, ⟨T4, L4, k4, n4⟩, -, X4, ⟨Lc4, hQ4, l4, y4, z4⟩, st4⟩ := X3.virtualBack hx (y := mn22) (z := mn22) hown (mvT hZ (hwi hw 157 rfl)) (mvT hZ (hwi hw 124 rfl)) (notFace_of_selects (args := #[]) (mvT hZ (hwi hw 126 rfl))) (mvT hZ (hwi hw 126 rfl)) (mvT hZ (hwi hw 125 rfl)) (by decide) (backOf (W := 0) (rm_ablat l Z a0 hw [] a2 w_COMPACT_STRINGS h0 n0 Z0 S_COMPACT_STRINGS hcs F_a2_coder O0) hZ (hwi hw 127 rfl) (hwi hw 53 rfl) (by decide) (by decide)) q4a q4c (g := (mkF m 16 #[.val (.ref a1), .val (.ref a2), .val .null, .val (.ref t_a2), .val (.int cn)] [(.ref a2)])) rfl (by rw [hml]; rfl) (Steps.refl _) (argsL := []) (rest := []) (lenOf pd_Z_171 rfl) rfl (by show 2 * 0 + _ ≤ _; exact Nat.le_of_eq rfl) (hb hby d24_16) (fun _ _ => ⟨rfl, e3, (by decide : 0 + 0 ≤ _), (by decide : 0 + 0 ≤ _)⟩)
  dsimp only [Pt.U, Pt.locs, Pt.cells, Pt.slots] at X4 l4 y4 z4 st4 hQ4
  subst l4 y4 z4
  obtain ⟨rfl, N4q, e4⟩ := hQ4
  have N4 := Fr.app N3 N4q
  obtain ⟨T5, h5, X5, e5, W5, st5⟩ := putFN X4 hx hZ hown (hwi hw 21 rfl) Via.refl e4 F_a1_coder E_a1 (Or.inr ⟨(hwi hw 17 rfl), rfl, hnm⟩) (hwi hw 2 rfl) (ty := .byte) (v' := (.int 0)) (by decide) rfl (by decide) (g := (mkF m 24 #[.val (.ref a1), .val (.ref a2), .val .null, .val (.ref t_a2), .val (.int cn)] [(.int 0), (.ref a1)])) rfl rfl (hb hby d24_24)
  have N5 := Fr.snoc X5 N4 g_a1
  have Fw5 := F_a1_coder.same W5
  have sz6 : h0.size ≤ h5.size := Nat.le_of_eq W5.size.symm
  have Z6 : n0 ≤ h5.size := Nat.le_trans Z0 sz6
  have O6 := O0.wr W5 g_a1
  have K6 : Keep h0 h5 [a1] := (Keep.refl h0 [a1]).wr W5 (Or.inl (List.mem_of_getElem? (i := 0) rfl))
  have fc8 := (V_t_a2.other W5 (Ne.symm (Exa.neArv E_a1 V_t_a2 (hwi hw 2 rfl))))
  obtain ⟨_, _, ⟨T7, L7, k7, n7⟩, -, X7, ⟨Lc7, hQ7, l7, y7, z7⟩, st7⟩ := Jvm.LawKit.callS X5 hx (y := mn28) hown (mvT hZ (hwi hw 158 rfl)) (mvT hZ (hwi hw 159 rfl)) (mvT hZ (hwi hw 160 rfl)) (mvT hZ (hwi hw 161 rfl)) (by decide) (backOf (W := 1) (rm_cor l Z a0 hw [] t_a2 cn k_t_a2 vd h5 n0 Z6 fc8 hz0 hz1 hz2 hz3 O6) hZ (hwi hw 161 rfl) (hwi hw 160 rfl) (by decide) (by decide)) (g := (mkF m 32 #[.val (.ref a1), .val (.ref a2), .val .null, .val (.ref t_a2), .val (.int cn)] [(.int cn), (.int 0), (.ref t_a2), (.ref a1)])) rfl (by rw [hml]; rfl) (argsL := [(.ref t_a2), (.int 0), (.int cn)]) (rest := [(.ref a1)]) (lenOf pd_BII__B_541 rfl) rfl (by show 2 * 0 + _ ≤ _; exact Nat.le_of_eq rfl) (hb hby d24_32) (fun _ _ => ⟨rfl, e5, (by decide : 0 + 1 ≤ _), (by decide : 0 + 16 ≤ _)⟩)
  dsimp only [Pt.U, Pt.locs, Pt.cells, Pt.slots] at X7 l7 y7 z7 st7 hQ7
  subst l7 y7 z7
  obtain ⟨r_7, kr_7, rfl, N7q, Kc7, g7_0, g7_1⟩ := hQ7
  have N7 := Fr.app N5 N7q
  have sz9 : h5.size ≤ T7.heap.size := Kc7.1
  have Z9 : n0 ≤ T7.heap.size := Nat.le_trans Z6 sz9
  have O9 := O6.keep Kc7 all0
  have K9 : Keep h0 T7.heap [a1] := K6.trans Kc7 (all0)
  have bn_r_7 : h0.size ≤ r_7 := Nat.le_trans K6.1 g7_0
  have fc10 := ((E_a1.wr W5).keep Kc7)
  have fc11 := ((F_a1_value.other W5 (Or.inr (slot_ne (Or.inr (hwi hw 16 rfl)) (Or.inr (hwi hw 17 rfl)) (by decide) (t := (.array .byte)) (t' := .byte) (by decide) (by decide)))).keep Kc7 nin0)
  obtain ⟨T12, h12, X12, e12, W12, st12⟩ := putF X7 hx hZ hown (host := "") (Or.inl (hwi hw 20 rfl)) Via.refl rfl fc11 fc10 (Or.inr ⟨(hwi hw 16 rfl), rfl, hnm⟩) (hwi hw 2 rfl) (ty := (.array .byte)) (by decide) rfl rfl (g := (mkF m 35 #[.val (.ref a1), .val (.ref a2), .val .null, .val (.ref t_a2), .val (.int cn)] [(.ref r_7), (.ref a1)])) rfl rfl (hb hby d24_35)
  have N12 := Fr.snoc X12 N7 g_a1
  have Fw12 := fc11.same W12
  have sz13 : T7.heap.size ≤ h12.size := Nat.le_of_eq W12.size.symm
  have Z13 : n0 ≤ h12.size := Nat.le_trans Z9 sz13
  have O13 := O9.wr W12 g_a1
  have K13 : Keep h0 h12 [a1] := K9.wr W12 (Or.inl (List.mem_of_getElem? (i := 0) rfl))
  have fc14 := (fc10.wr W12)
  have fc15 := ((Fw5.keep Kc7 nin0).other W12 (Or.inr (slot_ne (Or.inr (hwi hw 17 rfl)) (Or.inr (hwi hw 16 rfl)) (by decide) (t := .byte) (t' := (.array .byte)) (by decide) (by decide))))
  have fc16 := (g7_1.other W12 (neN (by have := ltN E_a1.lt; have := ltN g7_1.lt; omega)))
  obtain ⟨fs, hr, hrun, hended, hW, hsame⟩ := X12.leave (v := none) (fun _ => rfl)
  refine ⟨_, _, pre0 _ ?_, hrun, hended, _, _, rfl, ?_, ⟨_, rfl⟩, hW, hsame.mono (by decide) (by decide)⟩
  · show St p e below s₁ (mkF m 0 #[.val (.ref a1), .val (.ref a2), .val .null, .unset, .unset] []) _
    refine XS.aloadN X0.here hx rfl (hb hby d24_0) rfl rfl ?_
    refine st1 _ ?_
    refine XS.aloadN X1.here hx rfl (hb hby d24_4) rfl rfl ?_
    refine st2.trans ?_
    refine XS.astoreN X2.here hx rfl (hb hby d24_8) rfl rfl (l' := #[.val (.ref a1), .val (.ref a2), .val .null, .val (.ref t_a2), .unset]) rfl ?_
    refine XS.aloadN X2.here hx rfl (hb hby d24_9) rfl rfl ?_
    refine st3.trans ?_
    refine XS.istore X3.here hx rfl (hb hby d24_13) rfl (l' := #[.val (.ref a1), .val (.ref a2), .val .null, .val (.ref t_a2), .val (.int cn)]) rfl ?_
    show St p e below T3 (mkF m 15 #[.val (.ref a1), .val (.ref a2), .val .null, .val (.ref t_a2), .val (.int cn)] []) _
    refine XS.aloadN X3.here hx rfl (hb hby d24_15) rfl rfl ?_
    refine st4.trans ?_
    refine XS.ifNo X4.here hx rfl (hb hby d24_19) rfl ((if0 _ _).trans (feq (by decide : ¬ ((1 : Int32) = (0 : Int32)))).1) ?_
    refine XS.aloadN X4.here hx rfl (hb hby d24_22) rfl rfl ?_
    refine XS.iconst X4.here hx rfl (hb hby d24_23) ?_
    refine st5 _ ?_
    refine XS.aloadN X5.here hx rfl (hb hby d24_27) rfl rfl ?_
    refine XS.aloadN X5.here hx rfl (hb hby d24_28) rfl rfl ?_
    show St p e below T5 (mkF m 29 #[.val (.ref a1), .val (.ref a2), .val .null, .val (.ref t_a2), .val (.int cn)] [(.ref t_a2), (.ref a1)]) _
    refine XS.iconst X5.here hx rfl (hb hby d24_29) ?_
    refine XS.iload X5.here hx rfl (hb hby d24_30) rfl ?_
    refine st7 _ ?_
    refine st12 _ ?_
    refine XS.goto X12.here hx rfl (pc0 := 38) (pc' := 97) rfl (hb hby d24_38) (by decide) (by decide) ?_
    show St p e below T12 (mkF m 97 #[.val (.ref a1), .val (.ref a2), .val .null, .val (.ref t_a2), .val (.int cn)] []) _
    exact X12.returnOut hx Bd.returns (hb hby d24_97) hr
  · show Q_new2 Z a1 a2 w_COMPACT_STRINGS t_a2 k_t_a2 vd cn u_a1_coder u_a1_value h0 n0 _ T12.heap _
    rw [e12]
    exact ⟨r_7, kr_7, rfl, N12, K13, bn_r_7, fc14, fc15, Fw12, fc16⟩
theorem pd_Ljava_lang_AbstractStringBuilder_Ljava_lang_Void__V_861 : parseMethodDescriptor "(Ljava/lang/AbstractStringBuilder;Ljava/lang/Void;)V" = some ⟨[(.object "java/lang/AbstractStringBuilder"), (.object "java/lang/Void")], none⟩ := by decide +kernel
theorem d23_0 : decode jdk_42_method_53_code 0 = .ok (.aload_n 0, 1) := by decide +kernel
theorem d23_1 : decode jdk_42_method_53_code 1 = .ok (.aload_n 1, 1) := by decide +kernel
theorem d23_2 : decode jdk_42_method_53_code 2 = .ok (.aconst_null, 1) := by decide +kernel
theorem d23_3 : decode jdk_42_method_53_code 3 = .ok (.invokespecial 489, 3) := by decide +kernel
theorem d23_6 : decode jdk_42_method_53_code 6 = .ok (.return_, 1) := by decide +kernel
theorem pn_23 : plainName "java/lang/String" = true := by first | (simp [plainName, overriddenIn]; done) | decide +kernel
theorem ef_23_RR (m : MethodId) (x0 : Addr) (x1 : Addr) : entryFrame m #[(.ref x0), (.ref x1)] 2 = mkF m 0 #[.val (.ref x0), .val (.ref x1)] [] := by first | (simp [entryFrame, mkF, argsToLocals, Value.category]; done) | rfl
def Q_news (Z : State) (a1 : Addr) (a2 : Addr) (w_COMPACT_STRINGS : Int32) (t_a2 : Addr) (k_t_a2 : ClassId) (vd : List Value) (cn : Int32) (u_a1_coder : Value) (u_a1_value : Value) (h0 : Heap) (n0 : Nat) (v : Option Value) (h : Heap) (L : List Loc) : Prop := ∃ (t : Addr) (kt : ClassId), v = none ∧ Fr n0 L ∧ Keep h0 h [a1] ∧ h0.size ≤ t ∧ Exa Z h a1 "java/lang/String" ∧ Fld Z h a1 "java/lang/String" "coder" "B" (.int 0) ∧ Fld Z h a1 "java/lang/String" "value" "[B" (.ref t) ∧ Arv Z h t kt .byte cn (own_ap [(.int 0), (.int 0), (.int 0), (.int 0), (.int 0), (.int 0), (.int 0), (.int 0), (.int 0), (.int 0), (.int 0), (.int 0), (.int 0), (.int 0), (.int 0), (.int 0)] vd (0 : Int32) cn) (.int 0)
set_option maxRecDepth 65536 in
set_option maxHeartbeats 40000000 in
theorem rm_news (l : Launch) (Z : State) (a0 : Array Value) (hw : ∀ d ∈ tables_1, d.before a0 Z = true) (ws : List Jvm.Cond) (a1 : Addr) (a2 : Addr) (w_COMPACT_STRINGS : Int32) (t_a2 : Addr) (k_t_a2 : ClassId) (vd : List Value) (cn : Int32) (u_a1_coder : Value) (u_a1_value : Value) (h0 : Heap) (n0 : Nat) (Z0 : n0 ≤ h0.size) (E_a1 : Exa Z h0 a1 "java/lang/String") (S_COMPACT_STRINGS : Sta Z Z.heap "java/lang/String" "COMPACT_STRINGS" "Z" (.int w_COMPACT_STRINGS)) (hcs : ¬ (w_COMPACT_STRINGS = (0 : Int32))) (E_a2 : Exa Z h0 a2 "java/lang/StringBuilder") (F_a2_coder : Fld Z h0 a2 "java/lang/AbstractStringBuilder" "coder" "B" (.int 0)) (F_a2_value : Fld Z h0 a2 "java/lang/AbstractStringBuilder" "value" "[B" (.ref t_a2)) (V_t_a2 : Arv Z h0 t_a2 k_t_a2 .byte (16 : Int32) vd (.int 0)) (F_a2_count : Fld Z h0 a2 "java/lang/AbstractStringBuilder" "count" "I" (.int cn)) (hz0 : ¬ (cn < (0 : Int32))) (hz1 : cn < (16 : Int32)) (hz2 : cn.toNatClampNeg ≤ 16) (hz3 : ¬ (cn = (16 : Int32))) (O0 : Old Z n0 h0) (F_a1_coder : Fld Z h0 a1 "java/lang/String" "coder" "B" u_a1_coder) (g_a1 : n0 ≤ a1) (F_a1_value : Fld Z h0 a1 "java/lang/String" "value" "[B" u_a1_value) :
    MetFree l mn33 (head1 (Jvm.Cond.code mn33 jdk_42_method_53_code 2 none :: ws) ro30) (fun a U => a = #[(.ref a1), (.ref a2)] ∧ Z.Warmed39 U.vm ∧ U.heap = h0) (fun _ _ _ _ _ => True) (fun _ U o U' => ∃ v L, o = .returned v ∧ Q_news Z a1 a2 w_COMPACT_STRINGS t_a2 k_t_a2 vd cn u_a1_coder u_a1_value h0 n0 v U'.heap L ∧ FrameEnd U o U' L ro30.cells ro30.slots) := by
  refine MetFree.of_bodySF (plainFor_of_name pn_23) hisR ?_
  intro p e s m args below meth c s₁ Bd hml0 hP hK
  obtain ⟨rfl, hZ, hh⟩ := hP
  have hx := Bd.exec
  have hby := Bd.bytes
  have hml : c.maxLocals = 2 := hml0
  have hown : s.vm.findClass "java/lang/String" = some m.cls := findClass_of_methodNamed Bd.named
  have hnm := (name_of_methodNamed Bd.named Bd.method).1
  have X0 : Stand p l e ro30 s m #[(.ref a1), (.ref a2)] below meth c s₁ [] 0 0 := Stand.of_body Bd
  have e0 : s₁.heap = h0 := by rw [← hh, Bd.state]; rfl
  have N0 := Fr.nil n0
  have pre0 : ∀ t, Steps p.tables e below (s₁.setTop (mkF m 0 #[.val (.ref a1), .val (.ref a2)] [])) t → Steps p.tables e below (s₁.setTop (entryFrame m #[(.ref a1), (.ref a2)] 2)) t := fun t k => castTop (ef_23_RR m a1 a2) k
  obtain ⟨_, _, ⟨T1, L1, k1, n1⟩, -, X1, ⟨Lc1, hQ1, l1, y1, z1⟩, st1⟩ := X0.specialBack hx (y := mn32) rfl hown (mvT hZ (hwi hw 141 rfl)) (mvT hZ (hwi hw 142 rfl)) (mvT hZ (hwi hw 143 rfl)) (by decide) (backOf (W := 0) (rm_new2 l Z a0 hw [] a1 a2 w_COMPACT_STRINGS t_a2 k_t_a2 vd cn u_a1_coder u_a1_value h0 n0 Z0 E_a1 S_COMPACT_STRINGS hcs E_a2 F_a2_coder F_a2_value V_t_a2 F_a2_count hz0 hz1 hz2 hz3 O0 F_a1_coder g_a1 F_a1_value) hZ (hwi hw 143 rfl) (hwi hw 3 rfl) (by decide) (by decide)) (g := (mkF m 3 #[.val (.ref a1), .val (.ref a2)] [.null, (.ref a2), (.ref a1)])) rfl (by rw [hml]; rfl) (Steps.refl _) (a := a1) (argsL := [(.ref a2), .null]) (rest := []) (lenOf pd_Ljava_lang_AbstractStringBuilder_Ljava_lang_Void__V_861 rfl) rfl (by show 2 * 0 + _ ≤ _; exact Nat.le_of_eq rfl) (hb hby d23_3) (fun _ _ => ⟨rfl, e0, (by decide : 0 + 1 ≤ _), (by decide : 0 + 16 ≤ _)⟩)
  dsimp only [Pt.U, Pt.locs, Pt.cells, Pt.slots] at X1 l1 y1 z1 st1 hQ1
  subst l1 y1 z1
  obtain ⟨t_1, kt_1, rfl, N1q, Kc1, g1_0, g1_1, g1_2, g1_3, g1_4⟩ := hQ1
  have N1 := Fr.app N0 N1q
  have sz2 : h0.size ≤ T1.heap.size := Kc1.1
  have Z2 : n0 ≤ T1.heap.size := Nat.le_trans Z0 sz2
  have O2 := O0.keep Kc1 (allS g_a1 all0)
  have K2 : Keep h0 T1.heap [a1] := (Keep.refl h0 [a1]).trans Kc1 (allS (Or.inl (List.mem_of_getElem? (i := 0) rfl)) (all0))
  have bn_t_1 : h0.size ≤ t_1 := g1_0
  obtain ⟨fs, hr, hrun, hended, hW, hsame⟩ := X1.leave (v := none) (fun _ => rfl)
  refine ⟨_, _, pre0 _ ?_, hrun, hended, _, _, rfl, ?_, ⟨_, rfl⟩, hW, hsame.mono (by decide) (by decide)⟩
  · show St p e below s₁ (mkF m 0 #[.val (.ref a1), .val (.ref a2)] []) _
    refine XS.aloadN X0.here hx rfl (hb hby d23_0) rfl rfl ?_
    refine XS.aloadN X0.here hx rfl (hb hby d23_1) rfl rfl ?_
    refine XS.aconstNull X0.here hx rfl (hb hby d23_2) ?_
    refine st1.trans ?_
    show St p e below T1 (mkF m 6 #[.val (.ref a1), .val (.ref a2)] []) _
    exact X1.returnOut hx Bd.returns (hb hby d23_6) hr
  · show Q_news Z a1 a2 w_COMPACT_STRINGS t_a2 k_t_a2 vd cn u_a1_coder u_a1_value h0 n0 _ T1.heap _
    exact ⟨t_1, kt_1, rfl, N1, K2, bn_t_1, g1_1, g1_2, g1_3, g1_4⟩
theorem pd_Ljava_lang_StringBuilder__V_574 : parseMethodDescriptor "(Ljava/lang/StringBuilder;)V" = some ⟨[(.object "java/lang/StringBuilder")], none⟩ := by decide +kernel
theorem d22_0 : decode jdk_67_method_42_code 0 = .ok (.new 18, 3) := by decide +kernel
theorem d22_3 : decode jdk_67_method_42_code 3 = .ok (.dup, 1) := by decide +kernel
theorem d22_4 : decode jdk_67_method_42_code 4 = .ok (.aload_n 0, 1) := by decide +kernel
theorem d22_5 : decode jdk_67_method_42_code 5 = .ok (.invokespecial 137, 3) := by decide +kernel
theorem d22_8 : decode jdk_67_method_42_code 8 = .ok (.areturn, 1) := by decide +kernel
theorem pn_22 : plainName "java/lang/StringBuilder" = true := by first | (simp [plainName, overriddenIn]; done) | decide +kernel
theorem ef_22_R (m : MethodId) (x0 : Addr) : entryFrame m #[(.ref x0)] 1 = mkF m 0 #[.val (.ref x0)] [] := by first | (simp [entryFrame, mkF, argsToLocals, Value.category]; done) | rfl
def Q_tostr (Z : State) (a1 : Addr) (w_COMPACT_STRINGS : Int32) (t_a1 : Addr) (k_t_a1 : ClassId) (vd : List Value) (cn : Int32) (h0 : Heap) (n0 : Nat) (v : Option Value) (h : Heap) (L : List Loc) : Prop := ∃ (r : Addr) (t : Addr) (kt : ClassId), v = some (.ref r) ∧ Fr n0 L ∧ Keep h0 h [] ∧ h0.size ≤ r ∧ h0.size ≤ t ∧ Exa Z h r "java/lang/String" ∧ Fld Z h r "java/lang/String" "coder" "B" (.int 0) ∧ Fld Z h r "java/lang/String" "value" "[B" (.ref t) ∧ Arv Z h t kt .byte cn (own_ap [(.int 0), (.int 0), (.int 0), (.int 0), (.int 0), (.int 0), (.int 0), (.int 0), (.int 0), (.int 0), (.int 0), (.int 0), (.int 0), (.int 0), (.int 0), (.int 0)] vd (0 : Int32) cn) (.int 0)
set_option maxRecDepth 65536 in
set_option maxHeartbeats 40000000 in
theorem rm_tostr (l : Launch) (Z : State) (a0 : Array Value) (hw : ∀ d ∈ tables_1, d.before a0 Z = true) (ws : List Jvm.Cond) (a1 : Addr) (w_COMPACT_STRINGS : Int32) (t_a1 : Addr) (k_t_a1 : ClassId) (vd : List Value) (cn : Int32) (h0 : Heap) (n0 : Nat) (Z0 : n0 ≤ h0.size) (S_COMPACT_STRINGS : Sta Z Z.heap "java/lang/String" "COMPACT_STRINGS" "Z" (.int w_COMPACT_STRINGS)) (hcs : ¬ (w_COMPACT_STRINGS = (0 : Int32))) (E_a1 : Exa Z h0 a1 "java/lang/StringBuilder") (F_a1_coder : Fld Z h0 a1 "java/lang/AbstractStringBuilder" "coder" "B" (.int 0)) (F_a1_value : Fld Z h0 a1 "java/lang/AbstractStringBuilder" "value" "[B" (.ref t_a1)) (V_t_a1 : Arv Z h0 t_a1 k_t_a1 .byte (16 : Int32) vd (.int 0)) (F_a1_count : Fld Z h0 a1 "java/lang/AbstractStringBuilder" "count" "I" (.int cn)) (hz0 : ¬ (cn < (0 : Int32))) (hz1 : cn < (16 : Int32)) (hz2 : cn.toNatClampNeg ≤ 16) (hz3 : ¬ (cn = (16 : Int32))) (O0 : Old Z n0 h0) :
    MetFree l mn34 (head1 (Jvm.Cond.code mn34 jdk_67_method_42_code 1 (some (.object "java/lang/String")) :: ws) ro31) (fun a U => a = #[(.ref a1)] ∧ Z.Warmed39 U.vm ∧ U.heap = h0) (fun _ _ _ _ _ => True) (fun _ U o U' => ∃ v L, o = .returned v ∧ Q_tostr Z a1 w_COMPACT_STRINGS t_a1 k_t_a1 vd cn h0 n0 v U'.heap L ∧ FrameEnd U o U' L ro31.cells ro31.slots) := by
  refine MetFree.of_bodySF (plainFor_of_name pn_22) hisR ?_
  intro p e s m args below meth c s₁ Bd hml0 hP hK
  obtain ⟨rfl, hZ, hh⟩ := hP
  have hx := Bd.exec
  have hby := Bd.bytes
  have hml : c.maxLocals = 1 := hml0
  have hown : s.vm.findClass "java/lang/StringBuilder" = some m.cls := findClass_of_methodNamed Bd.named
  have hnm := (name_of_methodNamed Bd.named Bd.method).1
  have X0 : Stand p l e ro31 s m #[(.ref a1)] below meth c s₁ [] 0 0 := Stand.of_body Bd
  have e0 : s₁.heap = h0 := by rw [← hh, Bd.state]; rfl
  have N0 := Fr.nil n0
  have pre0 : ∀ t, Steps p.tables e below (s₁.setTop (mkF m 0 #[.val (.ref a1)] [])) t → Steps p.tables e below (s₁.setTop (entryFrame m #[(.ref a1)] 1)) t := fun t k => castTop (ef_22_R m a1) k
  obtain ⟨T1, h1, X1, e1, E1, A1, D1, -, st1⟩ := newO X0 hx hZ hown (hwi hw 137 rfl) (hwi hw 2 rfl) (hwi hw 3 rfl) e0 (g := (mkF m 0 #[.val (.ref a1)] [])) rfl (hb hby d22_0) (by decide) (by decide)
  obtain ⟨b1, g1⟩ : ∃ z, z = h0.size := ⟨_, rfl⟩
  rw [← g1] at A1 D1 st1
  have bn_b1 : h0.size ≤ b1 := Nat.le_of_eq g1.symm
  have sz2 : h0.size ≤ h1.size := E1.1
  have Z2 : n0 ≤ h1.size := Nat.le_trans Z0 sz2
  have O2 := O0.ext E1
  have K2 : Keep h0 h1 [] := (Keep.refl h0 []).ext E1
  have F1_value : Fld Z h1 b1 "java/lang/String" "value" "[B" .null := D1 (Or.inr (hwi hw 16 rfl)) (ty := (.array .byte)) (by decide)
  have F1_coder : Fld Z h1 b1 "java/lang/String" "coder" "B" (.int 0) := D1 (Or.inr (hwi hw 17 rfl)) (ty := .byte) (by decide)
  have fc4 := (E_a1.ext E1)
  have fc5 := (F_a1_coder.ext E1)
  have fc6 := (F_a1_value.ext E1)
  have fc7 := (V_t_a1.ext E1)
  have fc8 := (F_a1_count.ext E1)
  obtain ⟨_, _, ⟨T3, L3, k3, n3⟩, -, X3, ⟨Lc3, hQ3, l3, y3, z3⟩, st3⟩ := X1.specialBack hx (y := mn33) rfl hown (mvT hZ (hwi hw 138 rfl)) (mvT hZ (hwi hw 139 rfl)) (mvT hZ (hwi hw 140 rfl)) (by decide) (backOf (W := 1) (rm_news l Z a0 hw [] b1 a1 w_COMPACT_STRINGS t_a1 k_t_a1 vd cn (.int 0) .null h1 n0 Z2 A1 S_COMPACT_STRINGS hcs fc4 fc5 fc6 fc7 fc8 hz0 hz1 hz2 hz3 O2 F1_coder (Nat.le_trans Z0 bn_b1) F1_value) hZ (hwi hw 140 rfl) (hwi hw 3 rfl) (by decide) (by decide)) (g := (mkF m 5 #[.val (.ref a1)] [(.ref a1), (.ref b1), (.ref b1)])) rfl (by rw [hml]; rfl) (Steps.refl _) (a := b1) (argsL := [(.ref a1)]) (rest := [(.ref b1)]) (lenOf pd_Ljava_lang_StringBuilder__V_574 rfl) rfl (by show 2 * 0 + _ ≤ _; exact Nat.le_of_eq rfl) (hb hby d22_5) (fun _ _ => ⟨rfl, e1, (by decide : 1 + 1 ≤ _), (by decide : 4 + 16 ≤ _)⟩)
  dsimp only [Pt.U, Pt.locs, Pt.cells, Pt.slots] at X3 l3 y3 z3 st3 hQ3
  subst l3 y3 z3
  obtain ⟨t_3, kt_3, rfl, N3q, Kc3, g3_0, g3_1, g3_2, g3_3, g3_4⟩ := hQ3
  have N3 := Fr.app N0 N3q
  have sz9 : h1.size ≤ T3.heap.size := Kc3.1
  have Z9 : n0 ≤ T3.heap.size := Nat.le_trans Z2 sz9
  have O9 := O2.keep Kc3 (allS (Nat.le_trans Z0 bn_b1) all0)
  have K9 : Keep h0 T3.heap [] := K2.trans Kc3 (allS (Or.inr bn_b1) (all0))
  have bn_t_3 : h0.size ≤ t_3 := Nat.le_trans K2.1 g3_0
  obtain ⟨fs, hr, hrun, hended, hW, hsame⟩ := X3.leave (v := some (.ref b1)) (fun h => by rw [Bd.returns] at h; cases h)
  refine ⟨_, _, pre0 _ ?_, hrun, hended, _, _, rfl, ?_, ⟨_, rfl⟩, hW, hsame.mono (by decide) (by decide)⟩
  · show St p e below s₁ (mkF m 0 #[.val (.ref a1)] []) _
    refine st1 _ ?_
    refine XS.dup X1.here hx rfl (hb hby d22_3) rfl rfl ?_
    refine XS.aloadN X1.here hx rfl (hb hby d22_4) rfl rfl ?_
    refine st3.trans ?_
    show St p e below T3 (mkF m 8 #[.val (.ref a1)] [(.ref b1)]) _
    jvm_step X3.here [X3.here.top, hx, (hb hby d22_8), X3.method', Bd.returns, Value.isRef, FieldType.isReference]
    first | (intro acts; rw [hr _ acts rfl rfl rfl]) | rw [hr _ _ rfl rfl rfl]
    exact Steps.refl _
  · show Q_tostr Z a1 w_COMPACT_STRINGS t_a1 k_t_a1 vd cn h0 n0 _ T3.heap _
    exact ⟨b1, t_3, kt_3, rfl, N3, K9, bn_b1, bn_t_3, g3_1, g3_2, g3_3, g3_4⟩
theorem d5_0 : decode jdk_30_method_1_code 0 = .ok (.aload_n 0, 1) := by decide +kernel
theorem d5_1 : decode jdk_30_method_1_code 1 = .ok (.invokespecial 1, 3) := by decide +kernel
theorem d5_4 : decode jdk_30_method_1_code 4 = .ok (.return_, 1) := by decide +kernel
theorem pn_5 : plainName "java/lang/Record" = true := by first | (simp [plainName, overriddenIn]; done) | decide +kernel
theorem ef_5_R (m : MethodId) (x0 : Addr) : entryFrame m #[(.ref x0)] 1 = mkF m 0 #[.val (.ref x0)] [] := by first | (simp [entryFrame, mkF, argsToLocals, Value.category]; done) | rfl
def Q_rcinit (Z : State) (a1 : Addr) (h0 : Heap) (n0 : Nat) (v : Option Value) (h : Heap) (L : List Loc) : Prop := v = none ∧ Fr n0 L ∧ h = h0
set_option maxRecDepth 65536 in
set_option maxHeartbeats 40000000 in
theorem rm_rcinit (l : Launch) (Z : State) (a0 : Array Value) (hw : ∀ d ∈ tables_1, d.before a0 Z = true) (ws : List Jvm.Cond) (a1 : Addr) (h0 : Heap) (n0 : Nat) (Z0 : n0 ≤ h0.size) :
    MetFree l mn35 (head1 (Jvm.Cond.code mn35 jdk_30_method_1_code 1 none :: ws) ro28) (fun a U => a = #[(.ref a1)] ∧ Z.Warmed39 U.vm ∧ U.heap = h0) (fun _ _ _ _ _ => True) (fun _ U o U' => ∃ v L, o = .returned v ∧ Q_rcinit Z a1 h0 n0 v U'.heap L ∧ FrameEnd U o U' L ro28.cells ro28.slots) := by
  refine MetFree.of_bodySF (plainFor_of_name pn_5) hisR ?_
  intro p e s m args below meth c s₁ Bd hml0 hP hK
  obtain ⟨rfl, hZ, hh⟩ := hP
  have hx := Bd.exec
  have hby := Bd.bytes
  have hml : c.maxLocals = 1 := hml0
  have hown : s.vm.findClass "java/lang/Record" = some m.cls := findClass_of_methodNamed Bd.named
  have hnm := (name_of_methodNamed Bd.named Bd.method).1
  have X0 : Stand p l e ro28 s m #[(.ref a1)] below meth c s₁ [] 0 0 := Stand.of_body Bd
  have e0 : s₁.heap = h0 := by rw [← hh, Bd.state]; rfl
  have N0 := Fr.nil n0
  have pre0 : ∀ t, Steps p.tables e below (s₁.setTop (mkF m 0 #[.val (.ref a1)] [])) t → Steps p.tables e below (s₁.setTop (entryFrame m #[(.ref a1)] 1)) t := fun t k => castTop (ef_5_R m a1) k
  obtain ⟨T1, X1, e1, st1⟩ := initO X0 hx hZ hown (hwi hw 33 rfl) (hwi hw 12 rfl) (hwi hw 13 rfl) e0 (g := (mkF m 1 #[.val (.ref a1)] [(.ref a1)])) rfl (by rw [hml]; rfl) rfl (hb hby d5_1) (by decide) (W := 0) (by show 2 * 0 + _ ≤ _; exact Nat.le_of_eq rfl) (by decide)
  obtain ⟨fs, hr, hrun, hended, hW, hsame⟩ := X1.leave (v := none) (fun _ => rfl)
  refine ⟨_, _, pre0 _ ?_, hrun, hended, _, _, rfl, ?_, ⟨_, rfl⟩, hW, hsame.mono (by decide) (by decide)⟩
  · show St p e below s₁ (mkF m 0 #[.val (.ref a1)] []) _
    refine XS.aloadN X0.here hx rfl (hb hby d5_0) rfl rfl ?_
    refine st1 _ ?_
    show St p e below T1 (mkF m 4 #[.val (.ref a1)] []) _
    exact X1.returnOut hx Bd.returns (hb hby d5_4) hr
  · show Q_rcinit Z a1 h0 n0 _ T1.heap _
    rw [e1]
    exact ⟨rfl, N0, rfl⟩
theorem pd_V_167 : parseMethodDescriptor "()V" = some ⟨[], none⟩ := by decide +kernel
theorem d4_0 : decode prog_26_method_1_code 0 = .ok (.aload_n 0, 1) := by decide +kernel
theorem d4_1 : decode prog_26_method_1_code 1 = .ok (.invokespecial 1, 3) := by decide +kernel
theorem d4_4 : decode prog_26_method_1_code 4 = .ok (.aload_n 0, 1) := by decide +kernel
theorem d4_5 : decode prog_26_method_1_code 5 = .ok (.aload_n 1, 1) := by decide +kernel
theorem d4_6 : decode prog_26_method_1_code 6 = .ok (.putfield 7, 3) := by decide +kernel
theorem d4_9 : decode prog_26_method_1_code 9 = .ok (.aload_n 0, 1) := by decide +kernel
theorem d4_10 : decode prog_26_method_1_code 10 = .ok (.iload_n 2, 1) := by decide +kernel
theorem d4_11 : decode prog_26_method_1_code 11 = .ok (.putfield 13, 3) := by decide +kernel
theorem d4_14 : decode prog_26_method_1_code 14 = .ok (.return_, 1) := by decide +kernel
theorem pn_4 : plainName "com/example/demarc/demarc/tool/Account" = true := by first | (simp [plainName, overriddenIn]; done) | decide +kernel
theorem ef_4_RRI (m : MethodId) (x0 : Addr) (x1 : Addr) (x2 : Int32) : entryFrame m #[(.ref x0), (.ref x1), (.int x2)] 3 = mkF m 0 #[.val (.ref x0), .val (.ref x1), .val (.int x2)] [] := by first | (simp [entryFrame, mkF, argsToLocals, Value.category]; done) | rfl
def Q_acinit (Z : State) (a1 : Addr) (a2 : Addr) (p3 : Int32) (u_a1_database : Value) (u_a1_number : Value) (h0 : Heap) (n0 : Nat) (v : Option Value) (h : Heap) (L : List Loc) : Prop := v = none ∧ Fr n0 L ∧ Keep h0 h [a1] ∧ Exa Z h a1 "com/example/demarc/demarc/tool/Account" ∧ Fld Z h a1 "com/example/demarc/demarc/tool/Account" "database" "Ljava/lang/String;" (.ref a2) ∧ Fld Z h a1 "com/example/demarc/demarc/tool/Account" "number" "I" (.int p3)
set_option maxRecDepth 65536 in
set_option maxHeartbeats 40000000 in
theorem rm_acinit (l : Launch) (Z : State) (a0 : Array Value) (hw : ∀ d ∈ tables_1, d.before a0 Z = true) (ws : List Jvm.Cond) (a1 : Addr) (a2 : Addr) (p3 : Int32) (u_a1_database : Value) (u_a1_number : Value) (h0 : Heap) (n0 : Nat) (Z0 : n0 ≤ h0.size) (E_a1 : Exa Z h0 a1 "com/example/demarc/demarc/tool/Account") (F_a1_database : Fld Z h0 a1 "com/example/demarc/demarc/tool/Account" "database" "Ljava/lang/String;" u_a1_database) (g_a1 : n0 ≤ a1) (O0 : Old Z n0 h0) (F_a1_number : Fld Z h0 a1 "com/example/demarc/demarc/tool/Account" "number" "I" u_a1_number) :
    MetFree l mn36 (head1 (Jvm.Cond.code mn36 prog_26_method_1_code 3 none :: ws) ro32) (fun a U => a = #[(.ref a1), (.ref a2), (.int p3)] ∧ Z.Warmed39 U.vm ∧ U.heap = h0) (fun _ _ _ _ _ => True) (fun _ U o U' => ∃ v L, o = .returned v ∧ Q_acinit Z a1 a2 p3 u_a1_database u_a1_number h0 n0 v U'.heap L ∧ FrameEnd U o U' L ro32.cells ro32.slots) := by
  refine MetFree.of_bodySF (plainFor_of_name pn_4) hisR ?_
  intro p e s m args below meth c s₁ Bd hml0 hP hK
  obtain ⟨rfl, hZ, hh⟩ := hP
  have hx := Bd.exec
  have hby := Bd.bytes
  have hml : c.maxLocals = 3 := hml0
  have hown : s.vm.findClass "com/example/demarc/demarc/tool/Account" = some m.cls := findClass_of_methodNamed Bd.named
  have hnm := (name_of_methodNamed Bd.named Bd.method).1
  have X0 : Stand p l e ro32 s m #[(.ref a1), (.ref a2), (.int p3)] below meth c s₁ [] 0 0 := Stand.of_body Bd
  have e0 : s₁.heap = h0 := by rw [← hh, Bd.state]; rfl
  have N0 := Fr.nil n0
  have pre0 : ∀ t, Steps p.tables e below (s₁.setTop (mkF m 0 #[.val (.ref a1), .val (.ref a2), .val (.int p3)] [])) t → Steps p.tables e below (s₁.setTop (entryFrame m #[(.ref a1), (.ref a2), (.int p3)] 3)) t := fun t k => castTop (ef_4_RRI m a1 a2 p3) k
  obtain ⟨_, _, ⟨T1, L1, k1, n1⟩, -, X1, ⟨Lc1, hQ1, l1, y1, z1⟩, st1⟩ := X0.specialBack hx (y := mn35) rfl hown (mvT hZ (hwi hw 28 rfl)) (mvT hZ (hwi hw 29 rfl)) (mvT hZ (hwi hw 32 rfl)) (by decide) (backOf (W := 0) (rm_rcinit l Z a0 hw [] a1 h0 n0 Z0) hZ (hwi hw 32 rfl) (hwi hw 31 rfl) (by decide) (by decide)) (g := (mkF m 1 #[.val (.ref a1), .val (.ref a2), .val (.int p3)] [(.ref a1)])) rfl (by rw [hml]; rfl) (Steps.refl _) (a := a1) (argsL := []) (rest := []) (lenOf pd_V_167 rfl) rfl (by show 2 * 0 + _ ≤ _; exact Nat.le_of_eq rfl) (hb hby d4_1) (fun _ _ => ⟨rfl, e0, (by decide : 0 + 0 ≤ _), (by decide : 0 + 0 ≤ _)⟩)
  dsimp only [Pt.U, Pt.locs, Pt.cells, Pt.slots] at X1 l1 y1 z1 st1 hQ1
  subst l1 y1 z1
  obtain ⟨rfl, N1q, e1⟩ := hQ1
  have N1 := Fr.app N0 N1q
  obtain ⟨T2, h2, X2, e2, W2, st2⟩ := putF X1 hx hZ hown (host := "") (Or.inl (hwi hw 34 rfl)) Via.refl e1 F_a1_database E_a1 (Or.inr ⟨(hwi hw 35 rfl), rfl, hnm⟩) (hwi hw 23 rfl) (ty := (.object "java/lang/String")) (by decide) rfl rfl (g := (mkF m 6 #[.val (.ref a1), .val (.ref a2), .val (.int p3)] [(.ref a2), (.ref a1)])) rfl rfl (hb hby d4_6)
  have N2 := Fr.snoc X2 N1 g_a1
  have Fw2 := F_a1_database.same W2
  have sz3 : h0.size ≤ h2.size := Nat.le_of_eq W2.size.symm
  have Z3 : n0 ≤ h2.size := Nat.le_trans Z0 sz3
  have O3 := O0.wr W2 g_a1
  have K3 : Keep h0 h2 [a1] := (Keep.refl h0 [a1]).wr W2 (Or.inl (List.mem_of_getElem? (i := 0) rfl))
  have fc4 := (E_a1.wr W2)
  have fc5 := (F_a1_number.other W2 (Or.inr (slot_ne (Or.inr (hwi hw 37 rfl)) (Or.inr (hwi hw 35 rfl)) (by decide) (t := .int) (t' := (.object "java/lang/String")) (by decide) (by decide))))
  obtain ⟨T6, h6, X6, e6, W6, st6⟩ := putF X2 hx hZ hown (host := "") (Or.inl (hwi hw 36 rfl)) Via.refl e2 fc5 fc4 (Or.inr ⟨(hwi hw 37 rfl), rfl, hnm⟩) (hwi hw 23 rfl) (ty := .int) (by decide) rfl rfl (g := (mkF m 11 #[.val (.ref a1), .val (.ref a2), .val (.int p3)] [(.int p3), (.ref a1)])) rfl rfl (hb hby d4_11)
  have N6 := Fr.snoc X6 N2 g_a1
  have Fw6 := fc5.same W6
  have sz7 : h2.size ≤ h6.size := Nat.le_of_eq W6.size.symm
  have Z7 : n0 ≤ h6.size := Nat.le_trans Z3 sz7
  have O7 := O3.wr W6 g_a1
  have K7 : Keep h0 h6 [a1] := K3.wr W6 (Or.inl (List.mem_of_getElem? (i := 0) rfl))
  have fc8 := (fc4.wr W6)
  have fc9 := (Fw2.other W6 (Or.inr (slot_ne (Or.inr (hwi hw 35 rfl)) (Or.inr (hwi hw 37 rfl)) (by decide) (t := (.object "java/lang/String")) (t' := .int) (by decide) (by decide))))
  obtain ⟨fs, hr, hrun, hended, hW, hsame⟩ := X6.leave (v := none) (fun _ => rfl)
  refine ⟨_, _, pre0 _ ?_, hrun, hended, _, _, rfl, ?_, ⟨_, rfl⟩, hW, hsame.mono (by decide) (by decide)⟩
  · show St p e below s₁ (mkF m 0 #[.val (.ref a1), .val (.ref a2), .val (.int p3)] []) _
    refine XS.aloadN X0.here hx rfl (hb hby d4_0) rfl rfl ?_
    refine st1.trans ?_
    refine XS.aloadN X1.here hx rfl (hb hby d4_4) rfl rfl ?_
    refine XS.aloadN X1.here hx rfl (hb hby d4_5) rfl rfl ?_
    refine st2 _ ?_
    refine XS.aloadN X2.here hx rfl (hb hby d4_9) rfl rfl ?_
    refine XS.iloadN X2.here hx rfl (hb hby d4_10) rfl ?_
    refine st6 _ ?_
    show St p e below T6 (mkF m 14 #[.val (.ref a1), .val (.ref a2), .val (.int p3)] []) _
    exact X6.returnOut hx Bd.returns (hb hby d4_14) hr
  · show Q_acinit Z a1 a2 p3 u_a1_database u_a1_number h0 n0 _ T6.heap _
    rw [e6]
    exact ⟨rfl, N6, K7, fc8, fc9, Fw6⟩
theorem own_T_ap {vs vd : List Value} {kk : Nat} {x : Int32} {n ix : Nat} {z : Int32} (hT : own_T vs vd kk x n ix) (hN : own_N x n kk ix) (hz : z = Int32.ofNat ix) : own_T (own_ap [(.int 0), (.int 0), (.int 0), (.int 0), (.int 0), (.int 0), (.int 0), (.int 0), (.int 0), (.int 0), (.int 0), (.int 0), (.int 0), (.int 0), (.int 0), (.int 0)] vs (0 : Int32) z) vd kk x n ix := by
  obtain ⟨n1, n2, n3, n4⟩ := hN
  have dp := (Jvm.Free.SBG.digits_pos n).1
  have key : ∀ j, j < ix → (own_ap [(.int 0), (.int 0), (.int 0), (.int 0), (.int 0), (.int 0), (.int 0), (.int 0), (.int 0), (.int 0), (.int 0), (.int 0), (.int 0), (.int 0), (.int 0), (.int 0)] vs (0 : Int32) z).getD j (.int 0) = vs.getD j (.int 0) := fun j hj => by
    have e1 : z.toNatClampNeg = ix := by rw [hz]; exact Int32.toNatClampNeg_ofNat_of_lt (by omega)
    have e0 : (0 : Int32).toNatClampNeg = 0 := by decide
    simp only [own_ap, e0, e1, List.take_zero, List.nil_append]
    rw [List.getD_eq_getElem?_getD, List.getElem?_append_left (by simpa using hj), List.getElem?_map, List.getElem?_range hj]
    simp
  refine ⟨fun j hj => ?_, fun hx => ?_, fun i hi => ?_⟩
  · rw [key j (by omega)]; exact hT.1 j hj
  · have hs : Jvm.Free.SBG.GetChars.sgn x = 1 := by simp [Jvm.Free.SBG.GetChars.sgn, hx]
    rw [key kk (by omega)]; exact hT.2.1 hx
  · rw [key _ (by omega)]; exact hT.2.2 i hi
theorem own_zz {x : Int32} {n kk ix : Nat} {z : Int32} (hN : own_N x n kk ix) (hz : z = Int32.ofNat ix) : ¬ (z < (0 : Int32)) ∧ z < (16 : Int32) ∧ z.toNatClampNeg ≤ 16 ∧ ¬ (z = (16 : Int32)) ∧ ¬ ((0 : Int32) < (z - (16 : Int32))) := by
  have h := hN.2.2.2
  subst hz
  exact (by decide +kernel : ∀ k : Fin 16, ¬ (Int32.ofNat k.val < (0 : Int32)) ∧ Int32.ofNat k.val < (16 : Int32) ∧ (Int32.ofNat k.val).toNatClampNeg ≤ 16 ∧ ¬ (Int32.ofNat k.val = (16 : Int32)) ∧ ¬ ((0 : Int32) < (Int32.ofNat k.val - (16 : Int32)))) ⟨ix, by omega⟩
theorem pd_Ljava_lang_String__Ljava_lang_StringBuilder_184 : parseMethodDescriptor "(Ljava/lang/String;)Ljava/lang/StringBuilder;" = some ⟨[(.object "java/lang/String")], some (.object "java/lang/StringBuilder")⟩ := by decide +kernel
theorem own_text_1 : (∀ c ∈ (":" : String).toList, c.toNat < 256) ∧ (":" : String).toList.map (fun c => Value.int (Jvm.Lit.byteI c.toNat.toUInt16)) = [(.int 58)] := by decide +kernel
theorem pd_I_Ljava_lang_StringBuilder_561 : parseMethodDescriptor "(I)Ljava/lang/StringBuilder;" = some ⟨[.int], some (.object "java/lang/StringBuilder")⟩ := by decide +kernel
theorem pd_Ljava_lang_String_777 : parseMethodDescriptor "()Ljava/lang/String;" = some ⟨[], some (.object "java/lang/String")⟩ := by decide +kernel
theorem d6_0 : decode prog_26_method_3_code 0 = .ok (.new 29, 3) := by decide +kernel
theorem d6_3 : decode prog_26_method_3_code 3 = .ok (.dup, 1) := by decide +kernel
theorem d6_4 : decode prog_26_method_3_code 4 = .ok (.invokespecial 31, 3) := by decide +kernel
theorem d6_7 : decode prog_26_method_3_code 7 = .ok (.aload_n 0, 1) := by decide +kernel
theorem d6_8 : decode prog_26_method_3_code 8 = .ok (.getfield 7, 3) := by decide +kernel
theorem d6_11 : decode prog_26_method_3_code 11 = .ok (.invokevirtual 32, 3) := by decide +kernel
theorem d6_14 : decode prog_26_method_3_code 14 = .ok (.ldc 36, 2) := by decide +kernel
theorem d6_16 : decode prog_26_method_3_code 16 = .ok (.invokevirtual 32, 3) := by decide +kernel
theorem d6_19 : decode prog_26_method_3_code 19 = .ok (.aload_n 0, 1) := by decide +kernel
theorem d6_20 : decode prog_26_method_3_code 20 = .ok (.getfield 13, 3) := by decide +kernel
theorem d6_23 : decode prog_26_method_3_code 23 = .ok (.invokevirtual 38, 3) := by decide +kernel
theorem d6_26 : decode prog_26_method_3_code 26 = .ok (.invokevirtual 41, 3) := by decide +kernel
theorem d6_29 : decode prog_26_method_3_code 29 = .ok (.areturn, 1) := by decide +kernel
theorem pn_6 : plainName "com/example/demarc/demarc/tool/Account" = true := by first | (simp [plainName, overriddenIn]; done) | decide +kernel
theorem ef_6_R (m : MethodId) (x0 : Addr) : entryFrame m #[(.ref x0)] 1 = mkF m 0 #[.val (.ref x0)] [] := by first | (simp [entryFrame, mkF, argsToLocals, Value.category]; done) | rfl
def Q_acstr_0 (Z : State) (a1 : Addr) (w_COMPACT_STRINGS : Int32) (db : Addr) (nb : Int32) (t_db : Addr) (k_t_db : ClassId) (zz : Int32) (n : Nat) (kk : Nat) (ix : Nat) (h0 : Heap) (n0 : Nat) (v : Option Value) (h : Heap) (L : List Loc) : Prop := ∃ (r : Addr) (t : Addr) (kt : ClassId) (vs : List Value), v = some (.ref r) ∧ Fr n0 L ∧ Keep h0 h [] ∧ h0.size ≤ r ∧ h0.size ≤ t ∧ Exa Z h r "java/lang/String" ∧ Fld Z h r "java/lang/String" "coder" "B" (.int 0) ∧ Fld Z h r "java/lang/String" "value" "[B" (.ref t) ∧ Arv Z h t kt .byte zz vs (.int 0) ∧ own_T vs [(.int 58), (.int 0), (.int 0), (.int 0), (.int 0), (.int 0), (.int 0), (.int 0), (.int 0), (.int 0), (.int 0), (.int 0), (.int 0), (.int 0), (.int 0), (.int 0)] kk nb n ix
set_option maxRecDepth 65536 in
set_option maxHeartbeats 40000000 in
theorem rm_acstr_0 (l : Launch) (Z : State) (a0 : Array Value) (hw : ∀ d ∈ tables_1, d.before a0 Z = true) (hEL : EW Z a0 consts_1) (ws : List Jvm.Cond) (a1 : Addr) (w_COMPACT_STRINGS : Int32) (db : Addr) (nb : Int32) (t_db : Addr) (k_t_db : ClassId) (zz : Int32) (n : Nat) (kk : Nat) (ix : Nat) (h0 : Heap) (n0 : Nat) (Z0 : n0 ≤ h0.size) (S_COMPACT_STRINGS : Sta Z Z.heap "java/lang/String" "COMPACT_STRINGS" "Z" (.int w_COMPACT_STRINGS)) (hcs : ¬ (w_COMPACT_STRINGS = (0 : Int32))) (F_a1_database : Fld Z h0 a1 "com/example/demarc/demarc/tool/Account" "database" "Ljava/lang/String;" (.ref db)) (E_db : Exa Z h0 db "java/lang/String") (F_a1_number : Fld Z h0 a1 "com/example/demarc/demarc/tool/Account" "number" "I" (.int nb)) (F_db_coder : Fld Z h0 db "java/lang/String" "coder" "B" (.int 0)) (F_db_value : Fld Z h0 db "java/lang/String" "value" "[B" (.ref t_db)) (V_t_db : Arv Z h0 t_db k_t_db .byte (0 : Int32) [] (.int 0)) (hzz : ((1 : Int32) + (Jvm.Free.SBG.strSizeOf nb)) = zz) (hB : own_B Z) (hN : own_N nb n kk ix) (hix : zz = Int32.ofNat ix) (O0 : Old Z n0 h0) :
    MetFree l mn37 (head1 (Jvm.Cond.code mn37 prog_26_method_3_code 1 (some (.object "java/lang/String")) :: ws) ro33) (fun a U => a = #[(.ref a1)] ∧ Z.Warmed39 U.vm ∧ U.heap = h0 ∧ CHv Z consts_1 U.vm h0) (fun _ _ _ _ _ => True) (fun _ U o U' => ∃ v L, o = .returned v ∧ Q_acstr_0 Z a1 w_COMPACT_STRINGS db nb t_db k_t_db zz n kk ix h0 n0 v U'.heap L ∧ CHr Z consts_1 U.vm U.heap U'.vm U'.heap ∧ ReturnedEndW U o U' L ro33.cells ro33.slots) := by
  refine MetFree.of_bodySF (plainFor_of_name pn_6) hisR ?_
  intro p e s m args below meth c s₁ Bd hml0 hP hK
  obtain ⟨rfl, hZ, hh, H0c⟩ := hP
  have hx := Bd.exec
  have hby := Bd.bytes
  have hml : c.maxLocals = 1 := hml0
  have hown : s.vm.findClass "com/example/demarc/demarc/tool/Account" = some m.cls := findClass_of_methodNamed Bd.named
  have hnm := (name_of_methodNamed Bd.named Bd.method).1
  have X0 : Stand p l e ro33 (s.setVm s.vm) m #[(.ref a1)] below meth c s₁ [] 0 0 := Stand.of_body Bd
  have e0 : s₁.heap = h0 := by rw [← hh, Bd.state]; rfl
  have N0 := Fr.nil n0
  have pre0 : ∀ t, Steps p.tables e below (s₁.setTop (mkF m 0 #[.val (.ref a1)] [])) t → Steps p.tables e below (s₁.setTop (entryFrame m #[(.ref a1)] 1)) t := fun t k => castTop (ef_6_R m a1) k
  have hS0 : s.Since s.vm 0 := (State.WarmedH.refl s).since 0
  have hk0 : 0 ≤ h0.size := Nat.zero_le _
  have C0c : CHr Z consts_1 s.vm h0 s.vm h0 := CHr.refl H0c
  obtain ⟨T1, h1, X1, e1, E1, A1, D1, -, st1⟩ := newO X0 hx hZ hown (hwi hw 43 rfl) (hwi hw 44 rfl) (hwi hw 45 rfl) e0 (g := (mkF m 0 #[.val (.ref a1)] [])) rfl (hb hby d6_0) (by decide) (by decide)
  obtain ⟨b1, g1⟩ : ∃ z, z = h0.size := ⟨_, rfl⟩
  rw [← g1] at A1 D1 st1
  have bn_b1 : h0.size ≤ b1 := Nat.le_of_eq g1.symm
  have R2 := CHr.ext E1 H0c
  have CR2 := C0c.trans R2
  have sz3 : h0.size ≤ h1.size := E1.1
  have Z3 : n0 ≤ h1.size := Nat.le_trans Z0 sz3
  have hk3 := Nat.le_trans hk0 sz3
  have O3 := O0.ext E1
  have K3 : Keep h0 h1 [] := (Keep.refl h0 []).ext E1
  have F1_value : Fld Z h1 b1 "java/lang/AbstractStringBuilder" "value" "[B" .null := D1 (Or.inl (hwi hw 58 rfl)) (ty := (.array .byte)) (by decide)
  have F1_coder : Fld Z h1 b1 "java/lang/AbstractStringBuilder" "coder" "B" (.int 0) := D1 (Or.inl (hwi hw 60 rfl)) (ty := .byte) (by decide)
  have F1_count : Fld Z h1 b1 "java/lang/AbstractStringBuilder" "count" "I" (.int 0) := D1 (Or.inl (hwi hw 83 rfl)) (ty := .int) (by decide)
  obtain ⟨_, _, ⟨T4, L4, k4, n4⟩, -, X4, ⟨Lc4, hQ4, l4, y4, z4⟩, st4⟩ := X1.specialBack hx (y := mn13) rfl hown (mvT hZ (hwi hw 46 rfl)) (mvT hZ (hwi hw 47 rfl)) (mvT hZ (hwi hw 48 rfl)) (by decide) (backOf (W := 1) (rm_sbinit l Z a0 hw [] b1 w_COMPACT_STRINGS .null (.int 0) h1 n0 Z3 S_COMPACT_STRINGS hcs A1 F1_count O3 F1_value (Nat.le_trans Z0 bn_b1) F1_coder) hZ (hwi hw 48 rfl) (hwi hw 45 rfl) (by decide) (by decide)) (g := (mkF m 4 #[.val (.ref a1)] [(.ref b1), (.ref b1)])) rfl (by rw [hml]; rfl) (Steps.refl _) (a := b1) (argsL := []) (rest := [(.ref b1)]) (lenOf pd_V_167 rfl) rfl (by show 2 * 0 + _ ≤ _; exact Nat.le_of_eq rfl) (hb hby d6_4) (fun _ _ => ⟨rfl, e1, (by decide : 1 + 1 ≤ _), (by decide : 4 + 16 ≤ _)⟩)
  dsimp only [Pt.U, Pt.locs, Pt.cells, Pt.slots] at X4 l4 y4 z4 st4 hQ4
  subst l4 y4 z4
  obtain ⟨t_4, kt_4, rfl, N4q, Kc4, g4_0, g4_1, g4_2, g4_3, g4_4, g4_5⟩ := hQ4
  have N4 := Fr.app N0 N4q
  have sfb4_0 : Safe Z consts_1 s.vm h1 t_4 := Safe.new g4_0
  have R5 := CHr.keep Kc4 (sfS (Safe.exa hZ.alike A1 (by decide) (by decide)) sf0) R2.1
  have sf_t_4_5 := Safe.keep Kc4 (sfS (Safe.exa hZ.alike A1 (by decide) (by decide)) sf0) R2.1 sfb4_0
  have CR5 := CR2.trans R5
  have sz6 : h1.size ≤ T4.heap.size := Kc4.1
  have Z6 : n0 ≤ T4.heap.size := Nat.le_trans Z3 sz6
  have hk6 := Nat.le_trans hk3 sz6
  have O6 := O3.keep Kc4 (allS (Nat.le_trans Z0 bn_b1) all0)
  have K6 : Keep h0 T4.heap [] := K3.trans Kc4 (allS (Or.inr bn_b1) (all0))
  have bn_t_4 : h0.size ≤ t_4 := Nat.le_trans K3.1 g4_0
  have fc7 := ((F_a1_database.ext E1).keep Kc4 (ninS (neN (by have := ltN F_a1_database.lt; have := ltN A1.lt; omega)) nin0))
  obtain ⟨T8, X8, e8, st8⟩ := getF X4 hx hZ hown (host := "") (Or.inl (hwi hw 34 rfl)) Via.refl rfl fc7 (g := (mkF m 8 #[.val (.ref a1)] [(.ref a1), (.ref b1)])) rfl rfl (hb hby d6_8)
  have fc10 := ((E_db.ext E1).keep Kc4)
  have fc11 := ((F_db_coder.ext E1).keep Kc4 (ninS (neN (by have := ltN E_db.lt; have := ltN A1.lt; omega)) nin0))
  have fc12 := ((F_db_value.ext E1).keep Kc4 (ninS (neN (by have := ltN E_db.lt; have := ltN A1.lt; omega)) nin0))
  have fc13 := ((V_t_db.ext E1).keep Kc4 (ninS (neN (by have := ltN V_t_db.lt; have := ltN A1.lt; omega)) nin0))
  obtain ⟨cq9, kq9, q9a, q9b, q9c⟩ := isOf hZ e8 g4_1
  obtain ⟨_, _, ⟨T9, L9, k9, n9⟩, -, X9, ⟨Lc9, hQ9, l9, y9, z9⟩, st9⟩ := X8.virtualBack hx (y := mn19) (z := mn19) hown (mvT hZ (hwi hw 61 rfl)) (mvT hZ (hwi hw 62 rfl)) (notFace_of_selects (args := #[]) (mvT hZ (hwi hw 64 rfl))) (mvT hZ (hwi hw 64 rfl)) (mvT hZ (hwi hw 63 rfl)) (by decide) (backOf (W := 0) (rm_sbapp l Z a0 hw [] b1 db w_COMPACT_STRINGS t_4 kt_4 [(.int 0), (.int 0), (.int 0), (.int 0), (.int 0), (.int 0), (.int 0), (.int 0), (.int 0), (.int 0), (.int 0), (.int 0), (.int 0), (.int 0), (.int 0), (.int 0)] (0 : Int32) t_db k_t_db [] (0 : Int32) T4.heap n0 Z6 S_COMPACT_STRINGS hcs g4_1 g4_3 g4_2 g4_5 g4_4 fc10 fc11 fc12 fc13 (by decide : ¬ ((0 : Int32) < (0 : Int32))) (by decide : (0 : Int32).toNatClampNeg + (0 : Int32).toNatClampNeg ≤ (16 : Int32).toNatClampNeg) (Nat.le_of_ble_eq_true rfl) (by decide : ¬ ((0 : Int32) < (0 : Int32))) (by decide : ¬ ((0 : Int32) < (((0 : Int32) + (0 : Int32)) - (16 : Int32)))) (neN (by have := ltN V_t_db.lt; have := ltN g4_5.lt; omega)) (neN (by have := ltN E_db.lt; have := ltN A1.lt; omega)) (Nat.le_trans Z0 bn_t_4) O6 (Nat.le_trans Z0 bn_b1) (by decide : ((0 : Int32) >>> ((0 : Int32) &&& 31)) = (0 : Int32)) (by decide : ((0 : Int32) <<< ((0 : Int32) &&& 31)) = (0 : Int32))) hZ (hwi hw 65 rfl) (hwi hw 45 rfl) (by decide) (by decide)) q9a q9c (g := (mkF m 11 #[.val (.ref a1)] [(.ref db), (.ref b1)])) rfl (by rw [hml]; rfl) (Steps.refl _) (argsL := [(.ref db)]) (rest := []) (lenOf pd_Ljava_lang_String__Ljava_lang_StringBuilder_184 rfl) rfl (by show 2 * 0 + _ ≤ _; exact Nat.le_of_eq rfl) (hb hby d6_11) (fun _ _ => ⟨rfl, e8, (by decide : 2 + 0 ≤ _), (by decide : 20 + 0 ≤ _)⟩)
  dsimp only [Pt.U, Pt.locs, Pt.cells, Pt.slots] at X9 l9 y9 z9 st9 hQ9
  subst l9 y9 z9
  obtain ⟨rfl, N9q, Kc9, g9_0, g9_1, g9_2, g9_3, g9_4⟩ := hQ9
  have N9 := Fr.app N4 N9q
  have R14 := CHr.keep Kc9 (sfS (Safe.exa hZ.alike g4_1 (by decide) (by decide)) (sfS sf_t_4_5 sf0)) R5.1
  have sf_t_4_14 := Safe.keep Kc9 (sfS (Safe.exa hZ.alike g4_1 (by decide) (by decide)) (sfS sf_t_4_5 sf0)) R5.1 sf_t_4_5
  have CR14 := CR5.trans R14
  have sz15 : T4.heap.size ≤ T9.heap.size := Kc9.1
  have Z15 : n0 ≤ T9.heap.size := Nat.le_trans Z6 sz15
  have hk15 := Nat.le_trans hk6 sz15
  have O15 := O6.keep Kc9 (allS (Nat.le_trans Z0 bn_b1) (allS (Nat.le_trans Z0 bn_t_4) all0))
  have K15 : Keep h0 T9.heap [] := K6.trans Kc9 (allS (Or.inr bn_b1) (allS (Or.inr bn_t_4) (all0)))
  have Feg9_3 : Fld Z T9.heap b1 "java/lang/AbstractStringBuilder" "count" "I" (.int 0) := by have q := g9_3; rw [(by decide : ((0 : Int32) + (0 : Int32)) = (0 : Int32))] at q; exact q
  have Veg9_4 : Arv Z T9.heap t_4 kt_4 .byte (16 : Int32) [(.int 0), (.int 0), (.int 0), (.int 0), (.int 0), (.int 0), (.int 0), (.int 0), (.int 0), (.int 0), (.int 0), (.int 0), (.int 0), (.int 0), (.int 0), (.int 0)] (.int 0) := g9_4
  obtain ⟨lit16, T16, h16, j16, ltb16, k16, X16, e16, E16, hS16, hk16, hZ16, ho16, Ex16, Fc16, Fv16, Av16, la16, lb16, C16, -, Sn16, st16⟩ := ldcCH X9 hx hZ hown (hwi hw 109 rfl) (own_wS hw) rfl hS0 hk15 hEL (by decide) R14.1 (vs := [(.int 58)]) (z := (1 : Int32)) (own_text_1) (by decide) (by rfl) (g := (mkF m 14 #[.val (.ref a1)] [(.ref b1)])) rfl (hb hby d6_14) (n := 4) (by decide) (by decide) (by decide) (by decide)
  have sf_t_4_17 := CHr.safe C16 (show t_4 < T9.heap.size from ltN (by have := ltN g4_5.lt; omega)) sf_t_4_14
  have R17 := C16
  have CR17 := CR14.trans R17
  have sz18 : T9.heap.size ≤ h16.size := E16.1
  have Z18 : n0 ≤ h16.size := Nat.le_trans Z15 sz18
  have O18 := O15.ext E16
  have K18 : Keep h0 h16 [] := K15.ext E16
  have nq_t_4_16 := Sn16 _ sf_t_4_17
  have fc20 := (g9_0.ext E16)
  have fc21 := (g9_2.ext E16)
  have fc22 := (g9_1.ext E16)
  have fc23 := (Veg9_4.ext E16)
  have fc24 := (Feg9_3.ext E16)
  obtain ⟨cq19, kq19, q19a, q19b, q19c⟩ := isOf hZ16 e16 fc20
  obtain ⟨_, _, ⟨T19, L19, k19, n19⟩, -, X19, ⟨Lc19, hQ19, l19, y19, z19⟩, st19⟩ := X16.virtualBack hx (y := mn19) (z := mn19) ho16 (mvT hZ16 (hwi hw 61 rfl)) (mvT hZ16 (hwi hw 62 rfl)) (notFace_of_selects (args := #[]) (mvT hZ16 (hwi hw 64 rfl))) (mvT hZ16 (hwi hw 64 rfl)) (mvT hZ16 (hwi hw 63 rfl)) (by decide) (backOf (W := 0) (rm_sbapp l Z a0 hw [] b1 lit16 w_COMPACT_STRINGS t_4 kt_4 [(.int 0), (.int 0), (.int 0), (.int 0), (.int 0), (.int 0), (.int 0), (.int 0), (.int 0), (.int 0), (.int 0), (.int 0), (.int 0), (.int 0), (.int 0), (.int 0)] (0 : Int32) ltb16 k16 [(.int 58)] (1 : Int32) h16 n0 Z18 S_COMPACT_STRINGS hcs fc20 fc21 fc22 fc23 fc24 Ex16 Fc16 Fv16 Av16 (by decide : ¬ ((0 : Int32) < (0 : Int32))) (by decide : (0 : Int32).toNatClampNeg + (1 : Int32).toNatClampNeg ≤ (16 : Int32).toNatClampNeg) (Nat.le_of_ble_eq_true rfl) (by decide : ¬ ((1 : Int32) < (0 : Int32))) (by decide : ¬ ((0 : Int32) < (((0 : Int32) + (1 : Int32)) - (16 : Int32)))) (fun q => nq_t_4_16.2 q.symm) (Exa.ne Ex16 fc20 (by decide)) (Nat.le_trans Z0 bn_t_4) O18 (Nat.le_trans Z0 bn_b1) (by decide : ((1 : Int32) >>> ((0 : Int32) &&& 31)) = (1 : Int32)) (by decide : ((0 : Int32) <<< ((0 : Int32) &&& 31)) = (0 : Int32))) hZ16 (hwi hw 65 rfl) (hwi hw 45 rfl) (by decide) (by decide)) q19a q19c (g := (mkF m 16 #[.val (.ref a1)] [(.ref lit16), (.ref b1)])) rfl (by rw [hml]; rfl) (Steps.refl _) (argsL := [(.ref lit16)]) (rest := []) (lenOf pd_Ljava_lang_String__Ljava_lang_StringBuilder_184 rfl) rfl (by show 2 * 0 + _ ≤ _; exact Nat.le_of_eq rfl) (hb hby d6_16) (fun _ _ => ⟨rfl, e16, (by decide : 4 + 0 ≤ _), (by decide : 28 + 0 ≤ _)⟩)
  dsimp only [Pt.U, Pt.locs, Pt.cells, Pt.slots] at X19 l19 y19 z19 st19 hQ19
  subst l19 y19 z19
  obtain ⟨rfl, N19q, Kc19, g19_0, g19_1, g19_2, g19_3, g19_4⟩ := hQ19
  have N19 := Fr.app N9 N19q
  have R25 := CHr.keep Kc19 (sfS (Safe.exa hZ16.alike fc20 (by decide) (by decide)) (sfS sf_t_4_17 sf0)) R17.1
  have sf_t_4_25 := Safe.keep Kc19 (sfS (Safe.exa hZ16.alike fc20 (by decide) (by decide)) (sfS sf_t_4_17 sf0)) R17.1 sf_t_4_17
  have CR25 := CR17.trans R25
  have sz26 : h16.size ≤ T19.heap.size := Kc19.1
  have Z26 : n0 ≤ T19.heap.size := Nat.le_trans Z18 sz26
  have hk26 := Nat.le_trans hk16 sz26
  have O26 := O18.keep Kc19 (allS (Nat.le_trans Z0 bn_b1) (allS (Nat.le_trans Z0 bn_t_4) all0))
  have K26 : Keep h0 T19.heap [] := K18.trans Kc19 (allS (Or.inr bn_b1) (allS (Or.inr bn_t_4) (all0)))
  have Feg19_3 : Fld Z T19.heap b1 "java/lang/AbstractStringBuilder" "count" "I" (.int 1) := by have q := g19_3; rw [(by decide : ((0 : Int32) + (1 : Int32)) = (1 : Int32))] at q; exact q
  have Veg19_4 : Arv Z T19.heap t_4 kt_4 .byte (16 : Int32) [(.int 58), (.int 0), (.int 0), (.int 0), (.int 0), (.int 0), (.int 0), (.int 0), (.int 0), (.int 0), (.int 0), (.int 0), (.int 0), (.int 0), (.int 0), (.int 0)] (.int 0) := g19_4
  have fc27 := (((((F_a1_number.ext E1).keep Kc4 (ninS (neN (by have := ltN F_a1_database.lt; have := ltN A1.lt; omega)) nin0)).keep Kc9 (ninS (neN (by have := ltN F_a1_database.lt; have := ltN A1.lt; omega)) (ninS (neN (by have := ltN F_a1_database.lt; have := ltN g4_5.lt; omega)) nin0))).ext E16).keep Kc19 (ninS (neN (by have := ltN F_a1_database.lt; have := ltN A1.lt; omega)) (ninS (neN (by have := ltN F_a1_database.lt; have := ltN g4_5.lt; omega)) nin0)))
  obtain ⟨T28, X28, e28, st28⟩ := getF X19 hx hZ16 ho16 (host := "") (Or.inl (hwi hw 36 rfl)) Via.refl rfl fc27 (g := (mkF m 20 #[.val (.ref a1)] [(.ref a1), (.ref b1)])) rfl rfl (hb hby d6_20)
  obtain ⟨cq29, kq29, q29a, q29b, q29c⟩ := isOf hZ16 e28 g19_0
  obtain ⟨_, _, ⟨T29, L29, k29, n29⟩, -, X29, ⟨Lc29, hQ29, l29, y29, z29⟩, st29⟩ := X28.virtualBack hx (y := mn24) (z := mn24) ho16 (mvT hZ16 (hwi hw 110 rfl)) (mvT hZ16 (hwi hw 111 rfl)) (notFace_of_selects (args := #[]) (mvT hZ16 (hwi hw 113 rfl))) (mvT hZ16 (hwi hw 113 rfl)) (mvT hZ16 (hwi hw 112 rfl)) (by decide) (backOf (W := 0) (rm_sbapi l Z a0 hw [] b1 nb w_COMPACT_STRINGS t_4 kt_4 [(.int 58), (.int 0), (.int 0), (.int 0), (.int 0), (.int 0), (.int 0), (.int 0), (.int 0), (.int 0), (.int 0), (.int 0), (.int 0), (.int 0), (.int 0), (.int 0)] (1 : Int32) zz n kk ix T19.heap n0 Z26 S_COMPACT_STRINGS hcs g19_0 g19_2 g19_1 Veg19_4 Feg19_3 hzz (own_zz hN hix).2.2.2.2 hB hN hix (Nat.le_trans Z0 bn_t_4) O26 (Nat.le_trans Z0 bn_b1)) hZ16 (hwi hw 114 rfl) (hwi hw 45 rfl) (by decide) (by decide)) q29a q29c (g := (mkF m 23 #[.val (.ref a1)] [(.int nb), (.ref b1)])) rfl (by rw [hml]; rfl) (Steps.refl _) (argsL := [(.int nb)]) (rest := []) (lenOf pd_I_Ljava_lang_StringBuilder_561 rfl) rfl (by show 2 * 0 + _ ≤ _; exact Nat.le_of_eq rfl) (hb hby d6_23) (fun _ _ => ⟨rfl, e28, (by decide : 4 + 0 ≤ _), (by decide : 28 + 0 ≤ _)⟩)
  dsimp only [Pt.U, Pt.locs, Pt.cells, Pt.slots] at X29 l29 y29 z29 st29 hQ29
  subst l29 y29 z29
  obtain ⟨vo_29, rfl, N29q, Kc29, g29_0, g29_1, g29_2, g29_3, g29_4, g29_5⟩ := hQ29
  have N29 := Fr.app N19 N29q
  have R30 := CHr.keep Kc29 (sfS (Safe.exa hZ16.alike g19_0 (by decide) (by decide)) (sfS sf_t_4_25 sf0)) R25.1
  have sf_t_4_30 := Safe.keep Kc29 (sfS (Safe.exa hZ16.alike g19_0 (by decide) (by decide)) (sfS sf_t_4_25 sf0)) R25.1 sf_t_4_25
  have CR30 := CR25.trans R30
  have sz31 : T19.heap.size ≤ T29.heap.size := Kc29.1
  have Z31 : n0 ≤ T29.heap.size := Nat.le_trans Z26 sz31
  have hk31 := Nat.le_trans hk26 sz31
  have O31 := O26.keep Kc29 (allS (Nat.le_trans Z0 bn_b1) (allS (Nat.le_trans Z0 bn_t_4) all0))
  have K31 : Keep h0 T29.heap [] := K26.trans Kc29 (allS (Or.inr bn_b1) (allS (Or.inr bn_t_4) (all0)))
  obtain ⟨cq32, kq32, q32a, q32b, q32c⟩ := isOf hZ16 rfl g29_0
  obtain ⟨_, _, ⟨T32, L32, k32, n32⟩, -, X32, ⟨Lc32, hQ32, l32, y32, z32⟩, st32⟩ := X29.virtualBack hx (y := mn34) (z := mn34) ho16 (mvT hZ16 (hwi hw 132 rfl)) (mvT hZ16 (hwi hw 133 rfl)) (notFace_of_selects (args := #[]) (mvT hZ16 (hwi hw 135 rfl))) (mvT hZ16 (hwi hw 135 rfl)) (mvT hZ16 (hwi hw 134 rfl)) (by decide) (backOf (W := 0) (rm_tostr l Z a0 hw [] b1 w_COMPACT_STRINGS t_4 kt_4 vo_29 zz T29.heap n0 Z31 S_COMPACT_STRINGS hcs g29_0 g29_2 g29_1 g29_4 g29_3 (own_zz hN hix).1 (own_zz hN hix).2.1 (own_zz hN hix).2.2.1 (own_zz hN hix).2.2.2.1 O31) hZ16 (hwi hw 136 rfl) (hwi hw 45 rfl) (by decide) (by decide)) q32a q32c (g := (mkF m 26 #[.val (.ref a1)] [(.ref b1)])) rfl (by rw [hml]; rfl) (Steps.refl _) (argsL := []) (rest := []) (lenOf pd_Ljava_lang_String_777 rfl) rfl (by show 2 * 0 + _ ≤ _; exact Nat.le_of_eq rfl) (hb hby d6_26) (fun _ _ => ⟨rfl, rfl, (by decide : 4 + 2 ≤ _), (by decide : 28 + 20 ≤ _)⟩)
  dsimp only [Pt.U, Pt.locs, Pt.cells, Pt.slots] at X32 l32 y32 z32 st32 hQ32
  subst l32 y32 z32
  obtain ⟨r_32, t_32, kt_32, rfl, N32q, Kc32, g32_0, g32_1, g32_2, g32_3, g32_4, g32_5⟩ := hQ32
  have N32 := Fr.app N29 N32q
  have sfb32_0 : Safe Z consts_1 T16.vm T29.heap r_32 := Safe.new g32_0
  have sfb32_1 : Safe Z consts_1 T16.vm T29.heap t_32 := Safe.new g32_1
  have R33 := CHr.keep Kc32 sf0 R30.1
  have sf_t_4_33 := Safe.keep Kc32 sf0 R30.1 sf_t_4_30
  have sf_r_32_33 := Safe.keep Kc32 sf0 R30.1 sfb32_0
  have sf_t_32_33 := Safe.keep Kc32 sf0 R30.1 sfb32_1
  have CR33 := CR30.trans R33
  have sz34 : T29.heap.size ≤ T32.heap.size := Kc32.1
  have Z34 : n0 ≤ T32.heap.size := Nat.le_trans Z31 sz34
  have hk34 := Nat.le_trans hk31 sz34
  have O34 := O31.keep Kc32 all0
  have K34 : Keep h0 T32.heap [] := K31.trans Kc32 (all0)
  have bn_r_32 : h0.size ≤ r_32 := Nat.le_trans K31.1 g32_0
  have bn_t_32 : h0.size ≤ t_32 := Nat.le_trans K31.1 g32_1
  have CRe := CR33.trans (CHv.at X32 hZ16 hEL R33.1)
  obtain ⟨fs, hr, hrun, hended, hRE⟩ := X32.leaveW hS16 hk34 (v := some (.ref r_32)) (fun h => by rw [Bd.returns] at h; cases h)
  refine ⟨_, _, pre0 _ ?_, hrun, hended, _, _, rfl, ?_, ?_, ⟨hRE.1, hRE.2.1, hRE.2.2.1, hRE.2.2.2.mono (by decide) (by decide)⟩⟩
  · show St p e below s₁ (mkF m 0 #[.val (.ref a1)] []) _
    refine st1 _ ?_
    refine XS.dup X1.here hx rfl (hb hby d6_3) rfl rfl ?_
    refine st4.trans ?_
    refine XS.aloadN X4.here hx rfl (hb hby d6_7) rfl rfl ?_
    refine st8 _ ?_
    refine st9.trans ?_
    refine st16 _ ?_
    refine st19.trans ?_
    show St p e below T19 (mkF m 19 #[.val (.ref a1)] [(.ref b1)]) _
    refine XS.aloadN X19.here hx rfl (hb hby d6_19) rfl rfl ?_
    refine st28 _ ?_
    refine st29.trans ?_
    refine st32.trans ?_
    show St p e below T32 (mkF m 29 #[.val (.ref a1)] [(.ref r_32)]) _
    jvm_step X32.here [X32.here.top, hx, (hb hby d6_29), X32.method', Bd.returns, Value.isRef, FieldType.isReference]
    first | (intro acts; rw [hr _ acts rfl rfl rfl]) | rw [hr _ _ rfl rfl rfl]
    exact Steps.refl _
  · show Q_acstr_0 Z a1 w_COMPACT_STRINGS db nb t_db k_t_db zz n kk ix h0 n0 _ T32.heap _
    exact ⟨r_32, t_32, kt_32, (own_ap [(.int 0), (.int 0), (.int 0), (.int 0), (.int 0), (.int 0), (.int 0), (.int 0), (.int 0), (.int 0), (.int 0), (.int 0), (.int 0), (.int 0), (.int 0), (.int 0)] vo_29 (0 : Int32) zz), rfl, N32, K34, bn_r_32, bn_t_32, g32_2, g32_3, g32_4, g32_5, (own_T_ap g29_5 hN hix)⟩
  · show CHr Z consts_1 s.vm s.heap T32.vm T32.heap
    rw [hh]
    exact CRe
def Q_acstr_1 (Z : State) (a1 : Addr) (w_COMPACT_STRINGS : Int32) (db : Addr) (nb : Int32) (c0 : Int32) (t_db : Addr) (k_t_db : ClassId) (zz : Int32) (n : Nat) (kk : Nat) (ix : Nat) (h0 : Heap) (n0 : Nat) (v : Option Value) (h : Heap) (L : List Loc) : Prop := ∃ (r : Addr) (t : Addr) (kt : ClassId) (vs : List Value), v = some (.ref r) ∧ Fr n0 L ∧ Keep h0 h [] ∧ h0.size ≤ r ∧ h0.size ≤ t ∧ Exa Z h r "java/lang/String" ∧ Fld Z h r "java/lang/String" "coder" "B" (.int 0) ∧ Fld Z h r "java/lang/String" "value" "[B" (.ref t) ∧ Arv Z h t kt .byte zz vs (.int 0) ∧ own_T vs [(.int (c0.toInt8.toInt32)), (.int 58), (.int 0), (.int 0), (.int 0), (.int 0), (.int 0), (.int 0), (.int 0), (.int 0), (.int 0), (.int 0), (.int 0), (.int 0), (.int 0), (.int 0)] kk nb n ix
set_option maxRecDepth 65536 in
set_option maxHeartbeats 40000000 in
theorem rm_acstr_1 (l : Launch) (Z : State) (a0 : Array Value) (hw : ∀ d ∈ tables_1, d.before a0 Z = true) (hEL : EW Z a0 consts_1) (ws : List Jvm.Cond) (a1 : Addr) (w_COMPACT_STRINGS : Int32) (db : Addr) (nb : Int32) (c0 : Int32) (t_db : Addr) (k_t_db : ClassId) (zz : Int32) (n : Nat) (kk : Nat) (ix : Nat) (h0 : Heap) (n0 : Nat) (Z0 : n0 ≤ h0.size) (S_COMPACT_STRINGS : Sta Z Z.heap "java/lang/String" "COMPACT_STRINGS" "Z" (.int w_COMPACT_STRINGS)) (hcs : ¬ (w_COMPACT_STRINGS = (0 : Int32))) (F_a1_database : Fld Z h0 a1 "com/example/demarc/demarc/tool/Account" "database" "Ljava/lang/String;" (.ref db)) (E_db : Exa Z h0 db "java/lang/String") (F_a1_number : Fld Z h0 a1 "com/example/demarc/demarc/tool/Account" "number" "I" (.int nb)) (F_db_coder : Fld Z h0 db "java/lang/String" "coder" "B" (.int 0)) (F_db_value : Fld Z h0 db "java/lang/String" "value" "[B" (.ref t_db)) (V_t_db : Arv Z h0 t_db k_t_db .byte (1 : Int32) [(.int (c0.toInt8.toInt32))] (.int 0)) (hzz : ((2 : Int32) + (Jvm.Free.SBG.strSizeOf nb)) = zz) (hB : own_B Z) (hN : own_N nb n kk ix) (hix : zz = Int32.ofNat ix) (O0 : Old Z n0 h0) :
    MetFree l mn37 (head1 (Jvm.Cond.code mn37 prog_26_method_3_code 1 (some (.object "java/lang/String")) :: ws) ro33) (fun a U => a = #[(.ref a1)] ∧ Z.Warmed39 U.vm ∧ U.heap = h0 ∧ CHv Z consts_1 U.vm h0) (fun _ _ _ _ _ => True) (fun _ U o U' => ∃ v L, o = .returned v ∧ Q_acstr_1 Z a1 w_COMPACT_STRINGS db nb c0 t_db k_t_db zz n kk ix h0 n0 v U'.heap L ∧ CHr Z consts_1 U.vm U.heap U'.vm U'.heap ∧ ReturnedEndW U o U' L ro33.cells ro33.slots) := by
  refine MetFree.of_bodySF (plainFor_of_name pn_6) hisR ?_
  intro p e s m args below meth c s₁ Bd hml0 hP hK
  obtain ⟨rfl, hZ, hh, H0c⟩ := hP
  have hx := Bd.exec
  have hby := Bd.bytes
  have hml : c.maxLocals = 1 := hml0
  have hown : s.vm.findClass "com/example/demarc/demarc/tool/Account" = some m.cls := findClass_of_methodNamed Bd.named
  have hnm := (name_of_methodNamed Bd.named Bd.method).1
  have X0 : Stand p l e ro33 (s.setVm s.vm) m #[(.ref a1)] below meth c s₁ [] 0 0 := Stand.of_body Bd
  have e0 : s₁.heap = h0 := by rw [← hh, Bd.state]; rfl
  have N0 := Fr.nil n0
  have pre0 : ∀ t, Steps p.tables e below (s₁.setTop (mkF m 0 #[.val (.ref a1)] [])) t → Steps p.tables e below (s₁.setTop (entryFrame m #[(.ref a1)] 1)) t := fun t k => castTop (ef_6_R m a1) k
  have hS0 : s.Since s.vm 0 := (State.WarmedH.refl s).since 0
  have hk0 : 0 ≤ h0.size := Nat.zero_le _
  have C0c : CHr Z consts_1 s.vm h0 s.vm h0 := CHr.refl H0c
  obtain ⟨T1, h1, X1, e1, E1, A1, D1, -, st1⟩ := newO X0 hx hZ hown (hwi hw 43 rfl) (hwi hw 44 rfl) (hwi hw 45 rfl) e0 (g := (mkF m 0 #[.val (.ref a1)] [])) rfl (hb hby d6_0) (by decide) (by decide)
  obtain ⟨b1, g1⟩ : ∃ z, z = h0.size := ⟨_, rfl⟩
  rw [← g1] at A1 D1 st1
  have bn_b1 : h0.size ≤ b1 := Nat.le_of_eq g1.symm
  have R2 := CHr.ext E1 H0c
  have CR2 := C0c.trans R2
  have sz3 : h0.size ≤ h1.size := E1.1
  have Z3 : n0 ≤ h1.size := Nat.le_trans Z0 sz3
  have hk3 := Nat.le_trans hk0 sz3
  have O3 := O0.ext E1
  have K3 : Keep h0 h1 [] := (Keep.refl h0 []).ext E1
  have F1_value : Fld Z h1 b1 "java/lang/AbstractStringBuilder" "value" "[B" .null := D1 (Or.inl (hwi hw 58 rfl)) (ty := (.array .byte)) (by decide)
  have F1_coder : Fld Z h1 b1 "java/lang/AbstractStringBuilder" "coder" "B" (.int 0) := D1 (Or.inl (hwi hw 60 rfl)) (ty := .byte) (by decide)
  have F1_count : Fld Z h1 b1 "java/lang/AbstractStringBuilder" "count" "I" (.int 0) := D1 (Or.inl (hwi hw 83 rfl)) (ty := .int) (by decide)
  obtain ⟨_, _, ⟨T4, L4, k4, n4⟩, -, X4, ⟨Lc4, hQ4, l4, y4, z4⟩, st4⟩ := X1.specialBack hx (y := mn13) rfl hown (mvT hZ (hwi hw 46 rfl)) (mvT hZ (hwi hw 47 rfl)) (mvT hZ (hwi hw 48 rfl)) (by decide) (backOf (W := 1) (rm_sbinit l Z a0 hw [] b1 w_COMPACT_STRINGS .null (.int 0) h1 n0 Z3 S_COMPACT_STRINGS hcs A1 F1_count O3 F1_value (Nat.le_trans Z0 bn_b1) F1_coder) hZ (hwi hw 48 rfl) (hwi hw 45 rfl) (by decide) (by decide)) (g := (mkF m 4 #[.val (.ref a1)] [(.ref b1), (.ref b1)])) rfl (by rw [hml]; rfl) (Steps.refl _) (a := b1) (argsL := []) (rest := [(.ref b1)]) (lenOf pd_V_167 rfl) rfl (by show 2 * 0 + _ ≤ _; exact Nat.le_of_eq rfl) (hb hby d6_4) (fun _ _ => ⟨rfl, e1, (by decide : 1 + 1 ≤ _), (by decide : 4 + 16 ≤ _)⟩)
  dsimp only [Pt.U, Pt.locs, Pt.cells, Pt.slots] at X4 l4 y4 z4 st4 hQ4
  subst l4 y4 z4
  obtain ⟨t_4, kt_4, rfl, N4q, Kc4, g4_0, g4_1, g4_2, g4_3, g4_4, g4_5⟩ := hQ4
  have N4 := Fr.app N0 N4q
  have sfb4_0 : Safe Z consts_1 s.vm h1 t_4 := Safe.new g4_0
  have R5 := CHr.keep Kc4 (sfS (Safe.exa hZ.alike A1 (by decide) (by decide)) sf0) R2.1
  have sf_t_4_5 := Safe.keep Kc4 (sfS (Safe.exa hZ.alike A1 (by decide) (by decide)) sf0) R2.1 sfb4_0
  have CR5 := CR2.trans R5
  have sz6 : h1.size ≤ T4.heap.size := Kc4.1
  have Z6 : n0 ≤ T4.heap.size := Nat.le_trans Z3 sz6
  have hk6 := Nat.le_trans hk3 sz6
  have O6 := O3.keep Kc4 (allS (Nat.le_trans Z0 bn_b1) all0)
  have K6 : Keep h0 T4.heap [] := K3.trans Kc4 (allS (Or.inr bn_b1) (all0))
  have bn_t_4 : h0.size ≤ t_4 := Nat.le_trans K3.1 g4_0
  have fc7 := ((F_a1_database.ext E1).keep Kc4 (ninS (neN (by have := ltN F_a1_database.lt; have := ltN A1.lt; omega)) nin0))
  obtain ⟨T8, X8, e8, st8⟩ := getF X4 hx hZ hown (host := "") (Or.inl (hwi hw 34 rfl)) Via.refl rfl fc7 (g := (mkF m 8 #[.val (.ref a1)] [(.ref a1), (.ref b1)])) rfl rfl (hb hby d6_8)
  have fc10 := ((E_db.ext E1).keep Kc4)
  have fc11 := ((F_db_coder.ext E1).keep Kc4 (ninS (neN (by have := ltN E_db.lt; have := ltN A1.lt; omega)) nin0))
  have fc12 := ((F_db_value.ext E1).keep Kc4 (ninS (neN (by have := ltN E_db.lt; have := ltN A1.lt; omega)) nin0))
  have fc13 := ((V_t_db.ext E1).keep Kc4 (ninS (neN (by have := ltN V_t_db.lt; have := ltN A1.lt; omega)) nin0))
  obtain ⟨cq9, kq9, q9a, q9b, q9c⟩ := isOf hZ e8 g4_1
  obtain ⟨_, _, ⟨T9, L9, k9, n9⟩, -, X9, ⟨Lc9, hQ9, l9, y9, z9⟩, st9⟩ := X8.virtualBack hx (y := mn19) (z := mn19) hown (mvT hZ (hwi hw 61 rfl)) (mvT hZ (hwi hw 62 rfl)) (notFace_of_selects (args := #[]) (mvT hZ (hwi hw 64 rfl))) (mvT hZ (hwi hw 64 rfl)) (mvT hZ (hwi hw 63 rfl)) (by decide) (backOf (W := 0) (rm_sbapp l Z a0 hw [] b1 db w_COMPACT_STRINGS t_4 kt_4 [(.int 0), (.int 0), (.int 0), (.int 0), (.int 0), (.int 0), (.int 0), (.int 0), (.int 0), (.int 0), (.int 0), (.int 0), (.int 0), (.int 0), (.int 0), (.int 0)] (0 : Int32) t_db k_t_db [(.int (c0.toInt8.toInt32))] (1 : Int32) T4.heap n0 Z6 S_COMPACT_STRINGS hcs g4_1 g4_3 g4_2 g4_5 g4_4 fc10 fc11 fc12 fc13 (by decide : ¬ ((0 : Int32) < (0 : Int32))) (by decide : (0 : Int32).toNatClampNeg + (1 : Int32).toNatClampNeg ≤ (16 : Int32).toNatClampNeg) (Nat.le_of_ble_eq_true rfl) (by decide : ¬ ((1 : Int32) < (0 : Int32))) (by decide : ¬ ((0 : Int32) < (((0 : Int32) + (1 : Int32)) - (16 : Int32)))) (neN (by have := ltN V_t_db.lt; have := ltN g4_5.lt; omega)) (neN (by have := ltN E_db.lt; have := ltN A1.lt; omega)) (Nat.le_trans Z0 bn_t_4) O6 (Nat.le_trans Z0 bn_b1) (by decide : ((1 : Int32) >>> ((0 : Int32) &&& 31)) = (1 : Int32)) (by decide : ((0 : Int32) <<< ((0 : Int32) &&& 31)) = (0 : Int32))) hZ (hwi hw 65 rfl) (hwi hw 45 rfl) (by decide) (by decide)) q9a q9c (g := (mkF m 11 #[.val (.ref a1)] [(.ref db), (.ref b1)])) rfl (by rw [hml]; rfl) (Steps.refl _) (argsL := [(.ref db)]) (rest := []) (lenOf pd_Ljava_lang_String__Ljava_lang_StringBuilder_184 rfl) rfl (by show 2 * 0 + _ ≤ _; exact Nat.le_of_eq rfl) (hb hby d6_11) (fun _ _ => ⟨rfl, e8, (by decide : 2 + 0 ≤ _), (by decide : 20 + 0 ≤ _)⟩)
  dsimp only [Pt.U, Pt.locs, Pt.cells, Pt.slots] at X9 l9 y9 z9 st9 hQ9
  subst l9 y9 z9
  obtain ⟨rfl, N9q, Kc9, g9_0, g9_1, g9_2, g9_3, g9_4⟩ := hQ9
  have N9 := Fr.app N4 N9q
  have R14 := CHr.keep Kc9 (sfS (Safe.exa hZ.alike g4_1 (by decide) (by decide)) (sfS sf_t_4_5 sf0)) R5.1
  have sf_t_4_14 := Safe.keep Kc9 (sfS (Safe.exa hZ.alike g4_1 (by decide) (by decide)) (sfS sf_t_4_5 sf0)) R5.1 sf_t_4_5
  have CR14 := CR5.trans R14
  have sz15 : T4.heap.size ≤ T9.heap.size := Kc9.1
  have Z15 : n0 ≤ T9.heap.size := Nat.le_trans Z6 sz15
  have hk15 := Nat.le_trans hk6 sz15
  have O15 := O6.keep Kc9 (allS (Nat.le_trans Z0 bn_b1) (allS (Nat.le_trans Z0 bn_t_4) all0))
  have K15 : Keep h0 T9.heap [] := K6.trans Kc9 (allS (Or.inr bn_b1) (allS (Or.inr bn_t_4) (all0)))
  have Feg9_3 : Fld Z T9.heap b1 "java/lang/AbstractStringBuilder" "count" "I" (.int 1) := by have q := g9_3; rw [(by decide : ((0 : Int32) + (1 : Int32)) = (1 : Int32))] at q; exact q
  have Veg9_4 : Arv Z T9.heap t_4 kt_4 .byte (16 : Int32) [(.int (c0.toInt8.toInt32)), (.int 0), (.int 0), (.int 0), (.int 0), (.int 0), (.int 0), (.int 0), (.int 0), (.int 0), (.int 0), (.int 0), (.int 0), (.int 0), (.int 0), (.int 0)] (.int 0) := g9_4
  obtain ⟨lit16, T16, h16, j16, ltb16, k16, X16, e16, E16, hS16, hk16, hZ16, ho16, Ex16, Fc16, Fv16, Av16, la16, lb16, C16, -, Sn16, st16⟩ := ldcCH X9 hx hZ hown (hwi hw 109 rfl) (own_wS hw) rfl hS0 hk15 hEL (by decide) R14.1 (vs := [(.int 58)]) (z := (1 : Int32)) (own_text_1) (by decide) (by rfl) (g := (mkF m 14 #[.val (.ref a1)] [(.ref b1)])) rfl (hb hby d6_14) (n := 4) (by decide) (by decide) (by decide) (by decide)
  have sf_t_4_17 := CHr.safe C16 (show t_4 < T9.heap.size from ltN (by have := ltN g4_5.lt; omega)) sf_t_4_14
  have R17 := C16
  have CR17 := CR14.trans R17
  have sz18 : T9.heap.size ≤ h16.size := E16.1
  have Z18 : n0 ≤ h16.size := Nat.le_trans Z15 sz18
  have O18 := O15.ext E16
  have K18 : Keep h0 h16 [] := K15.ext E16
  have nq_t_4_16 := Sn16 _ sf_t_4_17
  have fc20 := (g9_0.ext E16)
  have fc21 := (g9_2.ext E16)
  have fc22 := (g9_1.ext E16)
  have fc23 := (Veg9_4.ext E16)
  have fc24 := (Feg9_3.ext E16)
  obtain ⟨cq19, kq19, q19a, q19b, q19c⟩ := isOf hZ16 e16 fc20
  obtain ⟨_, _, ⟨T19, L19, k19, n19⟩, -, X19, ⟨Lc19, hQ19, l19, y19, z19⟩, st19⟩ := X16.virtualBack hx (y := mn19) (z := mn19) ho16 (mvT hZ16 (hwi hw 61 rfl)) (mvT hZ16 (hwi hw 62 rfl)) (notFace_of_selects (args := #[]) (mvT hZ16 (hwi hw 64 rfl))) (mvT hZ16 (hwi hw 64 rfl)) (mvT hZ16 (hwi hw 63 rfl)) (by decide) (backOf (W := 0) (rm_sbapp l Z a0 hw [] b1 lit16 w_COMPACT_STRINGS t_4 kt_4 [(.int (c0.toInt8.toInt32)), (.int 0), (.int 0), (.int 0), (.int 0), (.int 0), (.int 0), (.int 0), (.int 0), (.int 0), (.int 0), (.int 0), (.int 0), (.int 0), (.int 0), (.int 0)] (1 : Int32) ltb16 k16 [(.int 58)] (1 : Int32) h16 n0 Z18 S_COMPACT_STRINGS hcs fc20 fc21 fc22 fc23 fc24 Ex16 Fc16 Fv16 Av16 (by decide : ¬ ((1 : Int32) < (0 : Int32))) (by decide : (1 : Int32).toNatClampNeg + (1 : Int32).toNatClampNeg ≤ (16 : Int32).toNatClampNeg) (Nat.le_of_ble_eq_true rfl) (by decide : ¬ ((1 : Int32) < (0 : Int32))) (by decide : ¬ ((0 : Int32) < (((1 : Int32) + (1 : Int32)) - (16 : Int32)))) (fun q => nq_t_4_16.2 q.symm) (Exa.ne Ex16 fc20 (by decide)) (Nat.le_trans Z0 bn_t_4) O18 (Nat.le_trans Z0 bn_b1) (by decide : ((1 : Int32) >>> ((0 : Int32) &&& 31)) = (1 : Int32)) (by decide : ((1 : Int32) <<< ((0 : Int32) &&& 31)) = (1 : Int32))) hZ16 (hwi hw 65 rfl) (hwi hw 45 rfl) (by decide) (by decide)) q19a q19c (g := (mkF m 16 #[.val (.ref a1)] [(.ref lit16), (.ref b1)])) rfl (by rw [hml]; rfl) (Steps.refl _) (argsL := [(.ref lit16)]) (rest := []) (lenOf pd_Ljava_lang_String__Ljava_lang_StringBuilder_184 rfl) rfl (by show 2 * 0 + _ ≤ _; exact Nat.le_of_eq rfl) (hb hby d6_16) (fun _ _ => ⟨rfl, e16, (by decide : 4 + 0 ≤ _), (by decide : 28 + 0 ≤ _)⟩)
  dsimp only [Pt.U, Pt.locs, Pt.cells, Pt.slots] at X19 l19 y19 z19 st19 hQ19
  subst l19 y19 z19
  obtain ⟨rfl, N19q, Kc19, g19_0, g19_1, g19_2, g19_3, g19_4⟩ := hQ19
  have N19 := Fr.app N9 N19q
  have R25 := CHr.keep Kc19 (sfS (Safe.exa hZ16.alike fc20 (by decide) (by decide)) (sfS sf_t_4_17 sf0)) R17.1
  have sf_t_4_25 := Safe.keep Kc19 (sfS (Safe.exa hZ16.alike fc20 (by decide) (by decide)) (sfS sf_t_4_17 sf0)) R17.1 sf_t_4_17
  have CR25 := CR17.trans R25
  have sz26 : h16.size ≤ T19.heap.size := Kc19.1
  have Z26 : n0 ≤ T19.heap.size := Nat.le_trans Z18 sz26
  have hk26 := Nat.le_trans hk16 sz26
  have O26 := O18.keep Kc19 (allS (Nat.le_trans Z0 bn_b1) (allS (Nat.le_trans Z0 bn_t_4) all0))
  have K26 : Keep h0 T19.heap [] := K18.trans Kc19 (allS (Or.inr bn_b1) (allS (Or.inr bn_t_4) (all0)))
  have Feg19_3 : Fld Z T19.heap b1 "java/lang/AbstractStringBuilder" "count" "I" (.int 2) := by have q := g19_3; rw [(by decide : ((1 : Int32) + (1 : Int32)) = (2 : Int32))] at q; exact q
  have Veg19_4 : Arv Z T19.heap t_4 kt_4 .byte (16 : Int32) [(.int (c0.toInt8.toInt32)), (.int 58), (.int 0), (.int 0), (.int 0), (.int 0), (.int 0), (.int 0), (.int 0), (.int 0), (.int 0), (.int 0), (.int 0), (.int 0), (.int 0), (.int 0)] (.int 0) := g19_4
  have fc27 := (((((F_a1_number.ext E1).keep Kc4 (ninS (neN (by have := ltN F_a1_database.lt; have := ltN A1.lt; omega)) nin0)).keep Kc9 (ninS (neN (by have := ltN F_a1_database.lt; have := ltN A1.lt; omega)) (ninS (neN (by have := ltN F_a1_database.lt; have := ltN g4_5.lt; omega)) nin0))).ext E16).keep Kc19 (ninS (neN (by have := ltN F_a1_database.lt; have := ltN A1.lt; omega)) (ninS (neN (by have := ltN F_a1_database.lt; have := ltN g4_5.lt; omega)) nin0)))
  obtain ⟨T28, X28, e28, st28⟩ := getF X19 hx hZ16 ho16 (host := "") (Or.inl (hwi hw 36 rfl)) Via.refl rfl fc27 (g := (mkF m 20 #[.val (.ref a1)] [(.ref a1), (.ref b1)])) rfl rfl (hb hby d6_20)
  obtain ⟨cq29, kq29, q29a, q29b, q29c⟩ := isOf hZ16 e28 g19_0
  obtain ⟨_, _, ⟨T29, L29, k29, n29⟩, -, X29, ⟨Lc29, hQ29, l29, y29, z29⟩, st29⟩ := X28.virtualBack hx (y := mn24) (z := mn24) ho16 (mvT hZ16 (hwi hw 110 rfl)) (mvT hZ16 (hwi hw 111 rfl)) (notFace_of_selects (args := #[]) (mvT hZ16 (hwi hw 113 rfl))) (mvT hZ16 (hwi hw 113 rfl)) (mvT hZ16 (hwi hw 112 rfl)) (by decide) (backOf (W := 0) (rm_sbapi l Z a0 hw [] b1 nb w_COMPACT_STRINGS t_4 kt_4 [(.int (c0.toInt8.toInt32)), (.int 58), (.int 0), (.int 0), (.int 0), (.int 0), (.int 0), (.int 0), (.int 0), (.int 0), (.int 0), (.int 0), (.int 0), (.int 0), (.int 0), (.int 0)] (2 : Int32) zz n kk ix T19.heap n0 Z26 S_COMPACT_STRINGS hcs g19_0 g19_2 g19_1 Veg19_4 Feg19_3 hzz (own_zz hN hix).2.2.2.2 hB hN hix (Nat.le_trans Z0 bn_t_4) O26 (Nat.le_trans Z0 bn_b1)) hZ16 (hwi hw 114 rfl) (hwi hw 45 rfl) (by decide) (by decide)) q29a q29c (g := (mkF m 23 #[.val (.ref a1)] [(.int nb), (.ref b1)])) rfl (by rw [hml]; rfl) (Steps.refl _) (argsL := [(.int nb)]) (rest := []) (lenOf pd_I_Ljava_lang_StringBuilder_561 rfl) rfl (by show 2 * 0 + _ ≤ _; exact Nat.le_of_eq rfl) (hb hby d6_23) (fun _ _ => ⟨rfl, e28, (by decide : 4 + 0 ≤ _), (by decide : 28 + 0 ≤ _)⟩)
  dsimp only [Pt.U, Pt.locs, Pt.cells, Pt.slots] at X29 l29 y29 z29 st29 hQ29
  subst l29 y29 z29
  obtain ⟨vo_29, rfl, N29q, Kc29, g29_0, g29_1, g29_2, g29_3, g29_4, g29_5⟩ := hQ29
  have N29 := Fr.app N19 N29q
  have R30 := CHr.keep Kc29 (sfS (Safe.exa hZ16.alike g19_0 (by decide) (by decide)) (sfS sf_t_4_25 sf0)) R25.1
  have sf_t_4_30 := Safe.keep Kc29 (sfS (Safe.exa hZ16.alike g19_0 (by decide) (by decide)) (sfS sf_t_4_25 sf0)) R25.1 sf_t_4_25
  have CR30 := CR25.trans R30
  have sz31 : T19.heap.size ≤ T29.heap.size := Kc29.1
  have Z31 : n0 ≤ T29.heap.size := Nat.le_trans Z26 sz31
  have hk31 := Nat.le_trans hk26 sz31
  have O31 := O26.keep Kc29 (allS (Nat.le_trans Z0 bn_b1) (allS (Nat.le_trans Z0 bn_t_4) all0))
  have K31 : Keep h0 T29.heap [] := K26.trans Kc29 (allS (Or.inr bn_b1) (allS (Or.inr bn_t_4) (all0)))
  obtain ⟨cq32, kq32, q32a, q32b, q32c⟩ := isOf hZ16 rfl g29_0
  obtain ⟨_, _, ⟨T32, L32, k32, n32⟩, -, X32, ⟨Lc32, hQ32, l32, y32, z32⟩, st32⟩ := X29.virtualBack hx (y := mn34) (z := mn34) ho16 (mvT hZ16 (hwi hw 132 rfl)) (mvT hZ16 (hwi hw 133 rfl)) (notFace_of_selects (args := #[]) (mvT hZ16 (hwi hw 135 rfl))) (mvT hZ16 (hwi hw 135 rfl)) (mvT hZ16 (hwi hw 134 rfl)) (by decide) (backOf (W := 0) (rm_tostr l Z a0 hw [] b1 w_COMPACT_STRINGS t_4 kt_4 vo_29 zz T29.heap n0 Z31 S_COMPACT_STRINGS hcs g29_0 g29_2 g29_1 g29_4 g29_3 (own_zz hN hix).1 (own_zz hN hix).2.1 (own_zz hN hix).2.2.1 (own_zz hN hix).2.2.2.1 O31) hZ16 (hwi hw 136 rfl) (hwi hw 45 rfl) (by decide) (by decide)) q32a q32c (g := (mkF m 26 #[.val (.ref a1)] [(.ref b1)])) rfl (by rw [hml]; rfl) (Steps.refl _) (argsL := []) (rest := []) (lenOf pd_Ljava_lang_String_777 rfl) rfl (by show 2 * 0 + _ ≤ _; exact Nat.le_of_eq rfl) (hb hby d6_26) (fun _ _ => ⟨rfl, rfl, (by decide : 4 + 2 ≤ _), (by decide : 28 + 20 ≤ _)⟩)
  dsimp only [Pt.U, Pt.locs, Pt.cells, Pt.slots] at X32 l32 y32 z32 st32 hQ32
  subst l32 y32 z32
  obtain ⟨r_32, t_32, kt_32, rfl, N32q, Kc32, g32_0, g32_1, g32_2, g32_3, g32_4, g32_5⟩ := hQ32
  have N32 := Fr.app N29 N32q
  have sfb32_0 : Safe Z consts_1 T16.vm T29.heap r_32 := Safe.new g32_0
  have sfb32_1 : Safe Z consts_1 T16.vm T29.heap t_32 := Safe.new g32_1
  have R33 := CHr.keep Kc32 sf0 R30.1
  have sf_t_4_33 := Safe.keep Kc32 sf0 R30.1 sf_t_4_30
  have sf_r_32_33 := Safe.keep Kc32 sf0 R30.1 sfb32_0
  have sf_t_32_33 := Safe.keep Kc32 sf0 R30.1 sfb32_1
  have CR33 := CR30.trans R33
  have sz34 : T29.heap.size ≤ T32.heap.size := Kc32.1
  have Z34 : n0 ≤ T32.heap.size := Nat.le_trans Z31 sz34
  have hk34 := Nat.le_trans hk31 sz34
  have O34 := O31.keep Kc32 all0
  have K34 : Keep h0 T32.heap [] := K31.trans Kc32 (all0)
  have bn_r_32 : h0.size ≤ r_32 := Nat.le_trans K31.1 g32_0
  have bn_t_32 : h0.size ≤ t_32 := Nat.le_trans K31.1 g32_1
  have CRe := CR33.trans (CHv.at X32 hZ16 hEL R33.1)
  obtain ⟨fs, hr, hrun, hended, hRE⟩ := X32.leaveW hS16 hk34 (v := some (.ref r_32)) (fun h => by rw [Bd.returns] at h; cases h)
  refine ⟨_, _, pre0 _ ?_, hrun, hended, _, _, rfl, ?_, ?_, ⟨hRE.1, hRE.2.1, hRE.2.2.1, hRE.2.2.2.mono (by decide) (by decide)⟩⟩
  · show St p e below s₁ (mkF m 0 #[.val (.ref a1)] []) _
    refine st1 _ ?_
    refine XS.dup X1.here hx rfl (hb hby d6_3) rfl rfl ?_
    refine st4.trans ?_
    refine XS.aloadN X4.here hx rfl (hb hby d6_7) rfl rfl ?_
    refine st8 _ ?_
    refine st9.trans ?_
    refine st16 _ ?_
    refine st19.trans ?_
    show St p e below T19 (mkF m 19 #[.val (.ref a1)] [(.ref b1)]) _
    refine XS.aloadN X19.here hx rfl (hb hby d6_19) rfl rfl ?_
    refine st28 _ ?_
    refine st29.trans ?_
    refine st32.trans ?_
    show St p e below T32 (mkF m 29 #[.val (.ref a1)] [(.ref r_32)]) _
    jvm_step X32.here [X32.here.top, hx, (hb hby d6_29), X32.method', Bd.returns, Value.isRef, FieldType.isReference]
    first | (intro acts; rw [hr _ acts rfl rfl rfl]) | rw [hr _ _ rfl rfl rfl]
    exact Steps.refl _
  · show Q_acstr_1 Z a1 w_COMPACT_STRINGS db nb c0 t_db k_t_db zz n kk ix h0 n0 _ T32.heap _
    exact ⟨r_32, t_32, kt_32, (own_ap [(.int 0), (.int 0), (.int 0), (.int 0), (.int 0), (.int 0), (.int 0), (.int 0), (.int 0), (.int 0), (.int 0), (.int 0), (.int 0), (.int 0), (.int 0), (.int 0)] vo_29 (0 : Int32) zz), rfl, N32, K34, bn_r_32, bn_t_32, g32_2, g32_3, g32_4, g32_5, (own_T_ap g29_5 hN hix)⟩
  · show CHr Z consts_1 s.vm s.heap T32.vm T32.heap
    rw [hh]
    exact CRe
def Q_acstr_2 (Z : State) (a1 : Addr) (w_COMPACT_STRINGS : Int32) (db : Addr) (nb : Int32) (c0 : Int32) (c1 : Int32) (t_db : Addr) (k_t_db : ClassId) (zz : Int32) (n : Nat) (kk : Nat) (ix : Nat) (h0 : Heap) (n0 : Nat) (v : Option Value) (h : Heap) (L : List Loc) : Prop := ∃ (r : Addr) (t : Addr) (kt : ClassId) (vs : List Value), v = some (.ref r) ∧ Fr n0 L ∧ Keep h0 h [] ∧ h0.size ≤ r ∧ h0.size ≤ t ∧ Exa Z h r "java/lang/String" ∧ Fld Z h r "java/lang/String" "coder" "B" (.int 0) ∧ Fld Z h r "java/lang/String" "value" "[B" (.ref t) ∧ Arv Z h t kt .byte zz vs (.int 0) ∧ own_T vs [(.int (c0.toInt8.toInt32)), (.int (c1.toInt8.toInt32)), (.int 58), (.int 0), (.int 0), (.int 0), (.int 0), (.int 0), (.int 0), (.int 0), (.int 0), (.int 0), (.int 0), (.int 0), (.int 0), (.int 0)] kk nb n ix
set_option maxRecDepth 65536 in
set_option maxHeartbeats 40000000 in
theorem rm_acstr_2 (l : Launch) (Z : State) (a0 : Array Value) (hw : ∀ d ∈ tables_1, d.before a0 Z = true) (hEL : EW Z a0 consts_1) (ws : List Jvm.Cond) (a1 : Addr) (w_COMPACT_STRINGS : Int32) (db : Addr) (nb : Int32) (c0 : Int32) (c1 : Int32) (t_db : Addr) (k_t_db : ClassId) (zz : Int32) (n : Nat) (kk : Nat) (ix : Nat) (h0 : Heap) (n0 : Nat) (Z0 : n0 ≤ h0.size) (S_COMPACT_STRINGS : Sta Z Z.heap "java/lang/String" "COMPACT_STRINGS" "Z" (.int w_COMPACT_STRINGS)) (hcs : ¬ (w_COMPACT_STRINGS = (0 : Int32))) (F_a1_database : Fld Z h0 a1 "com/example/demarc/demarc/tool/Account" "database" "Ljava/lang/String;" (.ref db)) (E_db : Exa Z h0 db "java/lang/String") (F_a1_number : Fld Z h0 a1 "com/example/demarc/demarc/tool/Account" "number" "I" (.int nb)) (F_db_coder : Fld Z h0 db "java/lang/String" "coder" "B" (.int 0)) (F_db_value : Fld Z h0 db "java/lang/String" "value" "[B" (.ref t_db)) (V_t_db : Arv Z h0 t_db k_t_db .byte (2 : Int32) [(.int (c0.toInt8.toInt32)), (.int (c1.toInt8.toInt32))] (.int 0)) (hzz : ((3 : Int32) + (Jvm.Free.SBG.strSizeOf nb)) = zz) (hB : own_B Z) (hN : own_N nb n kk ix) (hix : zz = Int32.ofNat ix) (O0 : Old Z n0 h0) :
    MetFree l mn37 (head1 (Jvm.Cond.code mn37 prog_26_method_3_code 1 (some (.object "java/lang/String")) :: ws) ro33) (fun a U => a = #[(.ref a1)] ∧ Z.Warmed39 U.vm ∧ U.heap = h0 ∧ CHv Z consts_1 U.vm h0) (fun _ _ _ _ _ => True) (fun _ U o U' => ∃ v L, o = .returned v ∧ Q_acstr_2 Z a1 w_COMPACT_STRINGS db nb c0 c1 t_db k_t_db zz n kk ix h0 n0 v U'.heap L ∧ CHr Z consts_1 U.vm U.heap U'.vm U'.heap ∧ ReturnedEndW U o U' L ro33.cells ro33.slots) := by
  refine MetFree.of_bodySF (plainFor_of_name pn_6) hisR ?_
  intro p e s m args below meth c s₁ Bd hml0 hP hK
  obtain ⟨rfl, hZ, hh, H0c⟩ := hP
  have hx := Bd.exec
  have hby := Bd.bytes
  have hml : c.maxLocals = 1 := hml0
  have hown : s.vm.findClass "com/example/demarc/demarc/tool/Account" = some m.cls := findClass_of_methodNamed Bd.named
  have hnm := (name_of_methodNamed Bd.named Bd.method).1
  have X0 : Stand p l e ro33 (s.setVm s.vm) m #[(.ref a1)] below meth c s₁ [] 0 0 := Stand.of_body Bd
  have e0 : s₁.heap = h0 := by rw [← hh, Bd.state]; rfl
  have N0 := Fr.nil n0
  have pre0 : ∀ t, Steps p.tables e below (s₁.setTop (mkF m 0 #[.val (.ref a1)] [])) t → Steps p.tables e below (s₁.setTop (entryFrame m #[(.ref a1)] 1)) t := fun t k => castTop (ef_6_R m a1) k
  have hS0 : s.Since s.vm 0 := (State.WarmedH.refl s).since 0
  have hk0 : 0 ≤ h0.size := Nat.zero_le _
  have C0c : CHr Z consts_1 s.vm h0 s.vm h0 := CHr.refl H0c
  obtain ⟨T1, h1, X1, e1, E1, A1, D1, -, st1⟩ := newO X0 hx hZ hown (hwi hw 43 rfl) (hwi hw 44 rfl) (hwi hw 45 rfl) e0 (g := (mkF m 0 #[.val (.ref a1)] [])) rfl (hb hby d6_0) (by decide) (by decide)
  obtain ⟨b1, g1⟩ : ∃ z, z = h0.size := ⟨_, rfl⟩
  rw [← g1] at A1 D1 st1
  have bn_b1 : h0.size ≤ b1 := Nat.le_of_eq g1.symm
  have R2 := CHr.ext E1 H0c
  have CR2 := C0c.trans R2
  have sz3 : h0.size ≤ h1.size := E1.1
  have Z3 : n0 ≤ h1.size := Nat.le_trans Z0 sz3
  have hk3 := Nat.le_trans hk0 sz3
  have O3 := O0.ext E1
  have K3 : Keep h0 h1 [] := (Keep.refl h0 []).ext E1
  have F1_value : Fld Z h1 b1 "java/lang/AbstractStringBuilder" "value" "[B" .null := D1 (Or.inl (hwi hw 58 rfl)) (ty := (.array .byte)) (by decide)
  have F1_coder : Fld Z h1 b1 "java/lang/AbstractStringBuilder" "coder" "B" (.int 0) := D1 (Or.inl (hwi hw 60 rfl)) (ty := .byte) (by decide)
  have F1_count : Fld Z h1 b1 "java/lang/AbstractStringBuilder" "count" "I" (.int 0) := D1 (Or.inl (hwi hw 83 rfl)) (ty := .int) (by decide)
  obtain ⟨_, _, ⟨T4, L4, k4, n4⟩, -, X4, ⟨Lc4, hQ4, l4, y4, z4⟩, st4⟩ := X1.specialBack hx (y := mn13) rfl hown (mvT hZ (hwi hw 46 rfl)) (mvT hZ (hwi hw 47 rfl)) (mvT hZ (hwi hw 48 rfl)) (by decide) (backOf (W := 1) (rm_sbinit l Z a0 hw [] b1 w_COMPACT_STRINGS .null (.int 0) h1 n0 Z3 S_COMPACT_STRINGS hcs A1 F1_count O3 F1_value (Nat.le_trans Z0 bn_b1) F1_coder) hZ (hwi hw 48 rfl) (hwi hw 45 rfl) (by decide) (by decide)) (g := (mkF m 4 #[.val (.ref a1)] [(.ref b1), (.ref b1)])) rfl (by rw [hml]; rfl) (Steps.refl _) (a := b1) (argsL := []) (rest := [(.ref b1)]) (lenOf pd_V_167 rfl) rfl (by show 2 * 0 + _ ≤ _; exact Nat.le_of_eq rfl) (hb hby d6_4) (fun _ _ => ⟨rfl, e1, (by decide : 1 + 1 ≤ _), (by decide : 4 + 16 ≤ _)⟩)
  dsimp only [Pt.U, Pt.locs, Pt.cells, Pt.slots] at X4 l4 y4 z4 st4 hQ4
  subst l4 y4 z4
  obtain ⟨t_4, kt_4, rfl, N4q, Kc4, g4_0, g4_1, g4_2, g4_3, g4_4, g4_5⟩ := hQ4
  have N4 := Fr.app N0 N4q
  have sfb4_0 : Safe Z consts_1 s.vm h1 t_4 := Safe.new g4_0
  have R5 := CHr.keep Kc4 (sfS (Safe.exa hZ.alike A1 (by decide) (by decide)) sf0) R2.1
  have sf_t_4_5 := Safe.keep Kc4 (sfS (Safe.exa hZ.alike A1 (by decide) (by decide)) sf0) R2.1 sfb4_0
  have CR5 := CR2.trans R5
  have sz6 : h1.size ≤ T4.heap.size := Kc4.1
  have Z6 : n0 ≤ T4.heap.size := Nat.le_trans Z3 sz6
  have hk6 := Nat.le_trans hk3 sz6
  have O6 := O3.keep Kc4 (allS (Nat.le_trans Z0 bn_b1) all0)
  have K6 : Keep h0 T4.heap [] := K3.trans Kc4 (allS (Or.inr bn_b1) (all0))
  have bn_t_4 : h0.size ≤ t_4 := Nat.le_trans K3.1 g4_0
  have fc7 := ((F_a1_database.ext E1).keep Kc4 (ninS (neN (by have := ltN F_a1_database.lt; have := ltN A1.lt; omega)) nin0))
  obtain ⟨T8, X8, e8, st8⟩ := getF X4 hx hZ hown (host := "") (Or.inl (hwi hw 34 rfl)) Via.refl rfl fc7 (g := (mkF m 8 #[.val (.ref a1)] [(.ref a1), (.ref b1)])) rfl rfl (hb hby d6_8)
  have fc10 := ((E_db.ext E1).keep Kc4)
  have fc11 := ((F_db_coder.ext E1).keep Kc4 (ninS (neN (by have := ltN E_db.lt; have := ltN A1.lt; omega)) nin0))
  have fc12 := ((F_db_value.ext E1).keep Kc4 (ninS (neN (by have := ltN E_db.lt; have := ltN A1.lt; omega)) nin0))
  have fc13 := ((V_t_db.ext E1).keep Kc4 (ninS (neN (by have := ltN V_t_db.lt; have := ltN A1.lt; omega)) nin0))
  obtain ⟨cq9, kq9, q9a, q9b, q9c⟩ := isOf hZ e8 g4_1
  obtain ⟨_, _, ⟨T9, L9, k9, n9⟩, -, X9, ⟨Lc9, hQ9, l9, y9, z9⟩, st9⟩ := X8.virtualBack hx (y := mn19) (z := mn19) hown (mvT hZ (hwi hw 61 rfl)) (mvT hZ (hwi hw 62 rfl)) (notFace_of_selects (args := #[]) (mvT hZ (hwi hw 64 rfl))) (mvT hZ (hwi hw 64 rfl)) (mvT hZ (hwi hw 63 rfl)) (by decide) (backOf (W := 0) (rm_sbapp l Z a0 hw [] b1 db w_COMPACT_STRINGS t_4 kt_4 [(.int 0), (.int 0), (.int 0), (.int 0), (.int 0), (.int 0), (.int 0), (.int 0), (.int 0), (.int 0), (.int 0), (.int 0), (.int 0), (.int 0), (.int 0), (.int 0)] (0 : Int32) t_db k_t_db [(.int (c0.toInt8.toInt32)), (.int (c1.toInt8.toInt32))] (2 : Int32) T4.heap n0 Z6 S_COMPACT_STRINGS hcs g4_1 g4_3 g4_2 g4_5 g4_4 fc10 fc11 fc12 fc13 (by decide : ¬ ((0 : Int32) < (0 : Int32))) (by decide : (0 : Int32).toNatClampNeg + (2 : Int32).toNatClampNeg ≤ (16 : Int32).toNatClampNeg) (Nat.le_of_ble_eq_true rfl) (by decide : ¬ ((2 : Int32) < (0 : Int32))) (by decide : ¬ ((0 : Int32) < (((0 : Int32) + (2 : Int32)) - (16 : Int32)))) (neN (by have := ltN V_t_db.lt; have := ltN g4_5.lt; omega)) (neN (by have := ltN E_db.lt; have := ltN A1.lt; omega)) (Nat.le_trans Z0 bn_t_4) O6 (Nat.le_trans Z0 bn_b1) (by decide : ((2 : Int32) >>> ((0 : Int32) &&& 31)) = (2 : Int32)) (by decide : ((0 : Int32) <<< ((0 : Int32) &&& 31)) = (0 : Int32))) hZ (hwi hw 65 rfl) (hwi hw 45 rfl) (by decide) (by decide)) q9a q9c (g := (mkF m 11 #[.val (.ref a1)] [(.ref db), (.ref b1)])) rfl (by rw [hml]; rfl) (Steps.refl _) (argsL := [(.ref db)]) (rest := []) (lenOf pd_Ljava_lang_String__Ljava_lang_StringBuilder_184 rfl) rfl (by show 2 * 0 + _ ≤ _; exact Nat.le_of_eq rfl) (hb hby d6_11) (fun _ _ => ⟨rfl, e8, (by decide : 2 + 0 ≤ _), (by decide : 20 + 0 ≤ _)⟩)
  dsimp only [Pt.U, Pt.locs, Pt.cells, Pt.slots] at X9 l9 y9 z9 st9 hQ9
  subst l9 y9 z9
  obtain ⟨rfl, N9q, Kc9, g9_0, g9_1, g9_2, g9_3, g9_4⟩ := hQ9
  have N9 := Fr.app N4 N9q
  have R14 := CHr.keep Kc9 (sfS (Safe.exa hZ.alike g4_1 (by decide) (by decide)) (sfS sf_t_4_5 sf0)) R5.1
  have sf_t_4_14 := Safe.keep Kc9 (sfS (Safe.exa hZ.alike g4_1 (by decide) (by decide)) (sfS sf_t_4_5 sf0)) R5.1 sf_t_4_5
  have CR14 := CR5.trans R14
  have sz15 : T4.heap.size ≤ T9.heap.size := Kc9.1
  have Z15 : n0 ≤ T9.heap.size := Nat.le_trans Z6 sz15
  have hk15 := Nat.le_trans hk6 sz15
  have O15 := O6.keep Kc9 (allS (Nat.le_trans Z0 bn_b1) (allS (Nat.le_trans Z0 bn_t_4) all0))
  have K15 : Keep h0 T9.heap [] := K6.trans Kc9 (allS (Or.inr bn_b1) (allS (Or.inr bn_t_4) (all0)))
  have Feg9_3 : Fld Z T9.heap b1 "java/lang/AbstractStringBuilder" "count" "I" (.int 2) := by have q := g9_3; rw [(by decide : ((0 : Int32) + (2 : Int32)) = (2 : Int32))] at q; exact q
  have Veg9_4 : Arv Z T9.heap t_4 kt_4 .byte (16 : Int32) [(.int (c0.toInt8.toInt32)), (.int (c1.toInt8.toInt32)), (.int 0), (.int 0), (.int 0), (.int 0), (.int 0), (.int 0), (.int 0), (.int 0), (.int 0), (.int 0), (.int 0), (.int 0), (.int 0), (.int 0)] (.int 0) := g9_4
  obtain ⟨lit16, T16, h16, j16, ltb16, k16, X16, e16, E16, hS16, hk16, hZ16, ho16, Ex16, Fc16, Fv16, Av16, la16, lb16, C16, -, Sn16, st16⟩ := ldcCH X9 hx hZ hown (hwi hw 109 rfl) (own_wS hw) rfl hS0 hk15 hEL (by decide) R14.1 (vs := [(.int 58)]) (z := (1 : Int32)) (own_text_1) (by decide) (by rfl) (g := (mkF m 14 #[.val (.ref a1)] [(.ref b1)])) rfl (hb hby d6_14) (n := 4) (by decide) (by decide) (by decide) (by decide)
  have sf_t_4_17 := CHr.safe C16 (show t_4 < T9.heap.size from ltN (by have := ltN g4_5.lt; omega)) sf_t_4_14
  have R17 := C16
  have CR17 := CR14.trans R17
  have sz18 : T9.heap.size ≤ h16.size := E16.1
  have Z18 : n0 ≤ h16.size := Nat.le_trans Z15 sz18
  have O18 := O15.ext E16
  have K18 : Keep h0 h16 [] := K15.ext E16
  have nq_t_4_16 := Sn16 _ sf_t_4_17
  have fc20 := (g9_0.ext E16)
  have fc21 := (g9_2.ext E16)
  have fc22 := (g9_1.ext E16)
  have fc23 := (Veg9_4.ext E16)
  have fc24 := (Feg9_3.ext E16)
  obtain ⟨cq19, kq19, q19a, q19b, q19c⟩ := isOf hZ16 e16 fc20
  obtain ⟨_, _, ⟨T19, L19, k19, n19⟩, -, X19, ⟨Lc19, hQ19, l19, y19, z19⟩, st19⟩ := X16.virtualBack hx (y := mn19) (z := mn19) ho16 (mvT hZ16 (hwi hw 61 rfl)) (mvT hZ16 (hwi hw 62 rfl)) (notFace_of_selects (args := #[]) (mvT hZ16 (hwi hw 64 rfl))) (mvT hZ16 (hwi hw 64 rfl)) (mvT hZ16 (hwi hw 63 rfl)) (by decide) (backOf (W := 0) (rm_sbapp l Z a0 hw [] b1 lit16 w_COMPACT_STRINGS t_4 kt_4 [(.int (c0.toInt8.toInt32)), (.int (c1.toInt8.toInt32)), (.int 0), (.int 0), (.int 0), (.int 0), (.int 0), (.int 0), (.int 0), (.int 0), (.int 0), (.int 0), (.int 0), (.int 0), (.int 0), (.int 0)] (2 : Int32) ltb16 k16 [(.int 58)] (1 : Int32) h16 n0 Z18 S_COMPACT_STRINGS hcs fc20 fc21 fc22 fc23 fc24 Ex16 Fc16 Fv16 Av16 (by decide : ¬ ((2 : Int32) < (0 : Int32))) (by decide : (2 : Int32).toNatClampNeg + (1 : Int32).toNatClampNeg ≤ (16 : Int32).toNatClampNeg) (Nat.le_of_ble_eq_true rfl) (by decide : ¬ ((1 : Int32) < (0 : Int32))) (by decide : ¬ ((0 : Int32) < (((2 : Int32) + (1 : Int32)) - (16 : Int32)))) (fun q => nq_t_4_16.2 q.symm) (Exa.ne Ex16 fc20 (by decide)) (Nat.le_trans Z0 bn_t_4) O18 (Nat.le_trans Z0 bn_b1) (by decide : ((1 : Int32) >>> ((0 : Int32) &&& 31)) = (1 : Int32)) (by decide : ((2 : Int32) <<< ((0 : Int32) &&& 31)) = (2 : Int32))) hZ16 (hwi hw 65 rfl) (hwi hw 45 rfl) (by decide) (by decide)) q19a q19c (g := (mkF m 16 #[.val (.ref a1)] [(.ref lit16), (.ref b1)])) rfl (by rw [hml]; rfl) (Steps.refl _) (argsL := [(.ref lit16)]) (rest := []) (lenOf pd_Ljava_lang_String__Ljava_lang_StringBuilder_184 rfl) rfl (by show 2 * 0 + _ ≤ _; exact Nat.le_of_eq rfl) (hb hby d6_16) (fun _ _ => ⟨rfl, e16, (by decide : 4 + 0 ≤ _), (by decide : 28 + 0 ≤ _)⟩)
  dsimp only [Pt.U, Pt.locs, Pt.cells, Pt.slots] at X19 l19 y19 z19 st19 hQ19
  subst l19 y19 z19
  obtain ⟨rfl, N19q, Kc19, g19_0, g19_1, g19_2, g19_3, g19_4⟩ := hQ19
  have N19 := Fr.app N9 N19q
  have R25 := CHr.keep Kc19 (sfS (Safe.exa hZ16.alike fc20 (by decide) (by decide)) (sfS sf_t_4_17 sf0)) R17.1
  have sf_t_4_25 := Safe.keep Kc19 (sfS (Safe.exa hZ16.alike fc20 (by decide) (by decide)) (sfS sf_t_4_17 sf0)) R17.1 sf_t_4_17
  have CR25 := CR17.trans R25
  have sz26 : h16.size ≤ T19.heap.size := Kc19.1
  have Z26 : n0 ≤ T19.heap.size := Nat.le_trans Z18 sz26
  have hk26 := Nat.le_trans hk16 sz26
  have O26 := O18.keep Kc19 (allS (Nat.le_trans Z0 bn_b1) (allS (Nat.le_trans Z0 bn_t_4) all0))
  have K26 : Keep h0 T19.heap [] := K18.trans Kc19 (allS (Or.inr bn_b1) (allS (Or.inr bn_t_4) (all0)))
  have Feg19_3 : Fld Z T19.heap b1 "java/lang/AbstractStringBuilder" "count" "I" (.int 3) := by have q := g19_3; rw [(by decide : ((2 : Int32) + (1 : Int32)) = (3 : Int32))] at q; exact q
  have Veg19_4 : Arv Z T19.heap t_4 kt_4 .byte (16 : Int32) [(.int (c0.toInt8.toInt32)), (.int (c1.toInt8.toInt32)), (.int 58), (.int 0), (.int 0), (.int 0), (.int 0), (.int 0), (.int 0), (.int 0), (.int 0), (.int 0), (.int 0), (.int 0), (.int 0), (.int 0)] (.int 0) := g19_4
  have fc27 := (((((F_a1_number.ext E1).keep Kc4 (ninS (neN (by have := ltN F_a1_database.lt; have := ltN A1.lt; omega)) nin0)).keep Kc9 (ninS (neN (by have := ltN F_a1_database.lt; have := ltN A1.lt; omega)) (ninS (neN (by have := ltN F_a1_database.lt; have := ltN g4_5.lt; omega)) nin0))).ext E16).keep Kc19 (ninS (neN (by have := ltN F_a1_database.lt; have := ltN A1.lt; omega)) (ninS (neN (by have := ltN F_a1_database.lt; have := ltN g4_5.lt; omega)) nin0)))
  obtain ⟨T28, X28, e28, st28⟩ := getF X19 hx hZ16 ho16 (host := "") (Or.inl (hwi hw 36 rfl)) Via.refl rfl fc27 (g := (mkF m 20 #[.val (.ref a1)] [(.ref a1), (.ref b1)])) rfl rfl (hb hby d6_20)
  obtain ⟨cq29, kq29, q29a, q29b, q29c⟩ := isOf hZ16 e28 g19_0
  obtain ⟨_, _, ⟨T29, L29, k29, n29⟩, -, X29, ⟨Lc29, hQ29, l29, y29, z29⟩, st29⟩ := X28.virtualBack hx (y := mn24) (z := mn24) ho16 (mvT hZ16 (hwi hw 110 rfl)) (mvT hZ16 (hwi hw 111 rfl)) (notFace_of_selects (args := #[]) (mvT hZ16 (hwi hw 113 rfl))) (mvT hZ16 (hwi hw 113 rfl)) (mvT hZ16 (hwi hw 112 rfl)) (by decide) (backOf (W := 0) (rm_sbapi l Z a0 hw [] b1 nb w_COMPACT_STRINGS t_4 kt_4 [(.int (c0.toInt8.toInt32)), (.int (c1.toInt8.toInt32)), (.int 58), (.int 0), (.int 0), (.int 0), (.int 0), (.int 0), (.int 0), (.int 0), (.int 0), (.int 0), (.int 0), (.int 0), (.int 0), (.int 0)] (3 : Int32) zz n kk ix T19.heap n0 Z26 S_COMPACT_STRINGS hcs g19_0 g19_2 g19_1 Veg19_4 Feg19_3 hzz (own_zz hN hix).2.2.2.2 hB hN hix (Nat.le_trans Z0 bn_t_4) O26 (Nat.le_trans Z0 bn_b1)) hZ16 (hwi hw 114 rfl) (hwi hw 45 rfl) (by decide) (by decide)) q29a q29c (g := (mkF m 23 #[.val (.ref a1)] [(.int nb), (.ref b1)])) rfl (by rw [hml]; rfl) (Steps.refl _) (argsL := [(.int nb)]) (rest := []) (lenOf pd_I_Ljava_lang_StringBuilder_561 rfl) rfl (by show 2 * 0 + _ ≤ _; exact Nat.le_of_eq rfl) (hb hby d6_23) (fun _ _ => ⟨rfl, e28, (by decide : 4 + 0 ≤ _), (by decide : 28 + 0 ≤ _)⟩)
  dsimp only [Pt.U, Pt.locs, Pt.cells, Pt.slots] at X29 l29 y29 z29 st29 hQ29
  subst l29 y29 z29
  obtain ⟨vo_29, rfl, N29q, Kc29, g29_0, g29_1, g29_2, g29_3, g29_4, g29_5⟩ := hQ29
  have N29 := Fr.app N19 N29q
  have R30 := CHr.keep Kc29 (sfS (Safe.exa hZ16.alike g19_0 (by decide) (by decide)) (sfS sf_t_4_25 sf0)) R25.1
  have sf_t_4_30 := Safe.keep Kc29 (sfS (Safe.exa hZ16.alike g19_0 (by decide) (by decide)) (sfS sf_t_4_25 sf0)) R25.1 sf_t_4_25
  have CR30 := CR25.trans R30
  have sz31 : T19.heap.size ≤ T29.heap.size := Kc29.1
  have Z31 : n0 ≤ T29.heap.size := Nat.le_trans Z26 sz31
  have hk31 := Nat.le_trans hk26 sz31
  have O31 := O26.keep Kc29 (allS (Nat.le_trans Z0 bn_b1) (allS (Nat.le_trans Z0 bn_t_4) all0))
  have K31 : Keep h0 T29.heap [] := K26.trans Kc29 (allS (Or.inr bn_b1) (allS (Or.inr bn_t_4) (all0)))
  obtain ⟨cq32, kq32, q32a, q32b, q32c⟩ := isOf hZ16 rfl g29_0
  obtain ⟨_, _, ⟨T32, L32, k32, n32⟩, -, X32, ⟨Lc32, hQ32, l32, y32, z32⟩, st32⟩ := X29.virtualBack hx (y := mn34) (z := mn34) ho16 (mvT hZ16 (hwi hw 132 rfl)) (mvT hZ16 (hwi hw 133 rfl)) (notFace_of_selects (args := #[]) (mvT hZ16 (hwi hw 135 rfl))) (mvT hZ16 (hwi hw 135 rfl)) (mvT hZ16 (hwi hw 134 rfl)) (by decide) (backOf (W := 0) (rm_tostr l Z a0 hw [] b1 w_COMPACT_STRINGS t_4 kt_4 vo_29 zz T29.heap n0 Z31 S_COMPACT_STRINGS hcs g29_0 g29_2 g29_1 g29_4 g29_3 (own_zz hN hix).1 (own_zz hN hix).2.1 (own_zz hN hix).2.2.1 (own_zz hN hix).2.2.2.1 O31) hZ16 (hwi hw 136 rfl) (hwi hw 45 rfl) (by decide) (by decide)) q32a q32c (g := (mkF m 26 #[.val (.ref a1)] [(.ref b1)])) rfl (by rw [hml]; rfl) (Steps.refl _) (argsL := []) (rest := []) (lenOf pd_Ljava_lang_String_777 rfl) rfl (by show 2 * 0 + _ ≤ _; exact Nat.le_of_eq rfl) (hb hby d6_26) (fun _ _ => ⟨rfl, rfl, (by decide : 4 + 2 ≤ _), (by decide : 28 + 20 ≤ _)⟩)
  dsimp only [Pt.U, Pt.locs, Pt.cells, Pt.slots] at X32 l32 y32 z32 st32 hQ32
  subst l32 y32 z32
  obtain ⟨r_32, t_32, kt_32, rfl, N32q, Kc32, g32_0, g32_1, g32_2, g32_3, g32_4, g32_5⟩ := hQ32
  have N32 := Fr.app N29 N32q
  have sfb32_0 : Safe Z consts_1 T16.vm T29.heap r_32 := Safe.new g32_0
  have sfb32_1 : Safe Z consts_1 T16.vm T29.heap t_32 := Safe.new g32_1
  have R33 := CHr.keep Kc32 sf0 R30.1
  have sf_t_4_33 := Safe.keep Kc32 sf0 R30.1 sf_t_4_30
  have sf_r_32_33 := Safe.keep Kc32 sf0 R30.1 sfb32_0
  have sf_t_32_33 := Safe.keep Kc32 sf0 R30.1 sfb32_1
  have CR33 := CR30.trans R33
  have sz34 : T29.heap.size ≤ T32.heap.size := Kc32.1
  have Z34 : n0 ≤ T32.heap.size := Nat.le_trans Z31 sz34
  have hk34 := Nat.le_trans hk31 sz34
  have O34 := O31.keep Kc32 all0
  have K34 : Keep h0 T32.heap [] := K31.trans Kc32 (all0)
  have bn_r_32 : h0.size ≤ r_32 := Nat.le_trans K31.1 g32_0
  have bn_t_32 : h0.size ≤ t_32 := Nat.le_trans K31.1 g32_1
  have CRe := CR33.trans (CHv.at X32 hZ16 hEL R33.1)
  obtain ⟨fs, hr, hrun, hended, hRE⟩ := X32.leaveW hS16 hk34 (v := some (.ref r_32)) (fun h => by rw [Bd.returns] at h; cases h)
  refine ⟨_, _, pre0 _ ?_, hrun, hended, _, _, rfl, ?_, ?_, ⟨hRE.1, hRE.2.1, hRE.2.2.1, hRE.2.2.2.mono (by decide) (by decide)⟩⟩
  · show St p e below s₁ (mkF m 0 #[.val (.ref a1)] []) _
    refine st1 _ ?_
    refine XS.dup X1.here hx rfl (hb hby d6_3) rfl rfl ?_
    refine st4.trans ?_
    refine XS.aloadN X4.here hx rfl (hb hby d6_7) rfl rfl ?_
    refine st8 _ ?_
    refine st9.trans ?_
    refine st16 _ ?_
    refine st19.trans ?_
    show St p e below T19 (mkF m 19 #[.val (.ref a1)] [(.ref b1)]) _
    refine XS.aloadN X19.here hx rfl (hb hby d6_19) rfl rfl ?_
    refine st28 _ ?_
    refine st29.trans ?_
    refine st32.trans ?_
    show St p e below T32 (mkF m 29 #[.val (.ref a1)] [(.ref r_32)]) _
    jvm_step X32.here [X32.here.top, hx, (hb hby d6_29), X32.method', Bd.returns, Value.isRef, FieldType.isReference]
    first | (intro acts; rw [hr _ acts rfl rfl rfl]) | rw [hr _ _ rfl rfl rfl]
    exact Steps.refl _
  · show Q_acstr_2 Z a1 w_COMPACT_STRINGS db nb c0 c1 t_db k_t_db zz n kk ix h0 n0 _ T32.heap _
    exact ⟨r_32, t_32, kt_32, (own_ap [(.int 0), (.int 0), (.int 0), (.int 0), (.int 0), (.int 0), (.int 0), (.int 0), (.int 0), (.int 0), (.int 0), (.int 0), (.int 0), (.int 0), (.int 0), (.int 0)] vo_29 (0 : Int32) zz), rfl, N32, K34, bn_r_32, bn_t_32, g32_2, g32_3, g32_4, g32_5, (own_T_ap g29_5 hN hix)⟩
  · show CHr Z consts_1 s.vm s.heap T32.vm T32.heap
    rw [hh]
    exact CRe
def Q_acstr_3 (Z : State) (a1 : Addr) (w_COMPACT_STRINGS : Int32) (db : Addr) (nb : Int32) (c0 : Int32) (c1 : Int32) (c2 : Int32) (t_db : Addr) (k_t_db : ClassId) (zz : Int32) (n : Nat) (kk : Nat) (ix : Nat) (h0 : Heap) (n0 : Nat) (v : Option Value) (h : Heap) (L : List Loc) : Prop := ∃ (r : Addr) (t : Addr) (kt : ClassId) (vs : List Value), v = some (.ref r) ∧ Fr n0 L ∧ Keep h0 h [] ∧ h0.size ≤ r ∧ h0.size ≤ t ∧ Exa Z h r "java/lang/String" ∧ Fld Z h r "java/lang/String" "coder" "B" (.int 0) ∧ Fld Z h r "java/lang/String" "value" "[B" (.ref t) ∧ Arv Z h t kt .byte zz vs (.int 0) ∧ own_T vs [(.int (c0.toInt8.toInt32)), (.int (c1.toInt8.toInt32)), (.int (c2.toInt8.toInt32)), (.int 58), (.int 0), (.int 0), (.int 0), (.int 0), (.int 0), (.int 0), (.int 0), (.int 0), (.int 0), (.int 0), (.int 0), (.int 0)] kk nb n ix
set_option maxRecDepth 65536 in
set_option maxHeartbeats 40000000 in
theorem rm_acstr_3 (l : Launch) (Z : State) (a0 : Array Value) (hw : ∀ d ∈ tables_1, d.before a0 Z = true) (hEL : EW Z a0 consts_1) (ws : List Jvm.Cond) (a1 : Addr) (w_COMPACT_STRINGS : Int32) (db : Addr) (nb : Int32) (c0 : Int32) (c1 : Int32) (c2 : Int32) (t_db : Addr) (k_t_db : ClassId) (zz : Int32) (n : Nat) (kk : Nat) (ix : Nat) (h0 : Heap) (n0 : Nat) (Z0 : n0 ≤ h0.size) (S_COMPACT_STRINGS : Sta Z Z.heap "java/lang/String" "COMPACT_STRINGS" "Z" (.int w_COMPACT_STRINGS)) (hcs : ¬ (w_COMPACT_STRINGS = (0 : Int32))) (F_a1_database : Fld Z h0 a1 "com/example/demarc/demarc/tool/Account" "database" "Ljava/lang/String;" (.ref db)) (E_db : Exa Z h0 db "java/lang/String") (F_a1_number : Fld Z h0 a1 "com/example/demarc/demarc/tool/Account" "number" "I" (.int nb)) (F_db_coder : Fld Z h0 db "java/lang/String" "coder" "B" (.int 0)) (F_db_value : Fld Z h0 db "java/lang/String" "value" "[B" (.ref t_db)) (V_t_db : Arv Z h0 t_db k_t_db .byte (3 : Int32) [(.int (c0.toInt8.toInt32)), (.int (c1.toInt8.toInt32)), (.int (c2.toInt8.toInt32))] (.int 0)) (hzz : ((4 : Int32) + (Jvm.Free.SBG.strSizeOf nb)) = zz) (hB : own_B Z) (hN : own_N nb n kk ix) (hix : zz = Int32.ofNat ix) (O0 : Old Z n0 h0) :
    MetFree l mn37 (head1 (Jvm.Cond.code mn37 prog_26_method_3_code 1 (some (.object "java/lang/String")) :: ws) ro33) (fun a U => a = #[(.ref a1)] ∧ Z.Warmed39 U.vm ∧ U.heap = h0 ∧ CHv Z consts_1 U.vm h0) (fun _ _ _ _ _ => True) (fun _ U o U' => ∃ v L, o = .returned v ∧ Q_acstr_3 Z a1 w_COMPACT_STRINGS db nb c0 c1 c2 t_db k_t_db zz n kk ix h0 n0 v U'.heap L ∧ CHr Z consts_1 U.vm U.heap U'.vm U'.heap ∧ ReturnedEndW U o U' L ro33.cells ro33.slots) := by
  refine MetFree.of_bodySF (plainFor_of_name pn_6) hisR ?_
  intro p e s m args below meth c s₁ Bd hml0 hP hK
  obtain ⟨rfl, hZ, hh, H0c⟩ := hP
  have hx := Bd.exec
  have hby := Bd.bytes
  have hml : c.maxLocals = 1 := hml0
  have hown : s.vm.findClass "com/example/demarc/demarc/tool/Account" = some m.cls := findClass_of_methodNamed Bd.named
  have hnm := (name_of_methodNamed Bd.named Bd.method).1
  have X0 : Stand p l e ro33 (s.setVm s.vm) m #[(.ref a1)] below meth c s₁ [] 0 0 := Stand.of_body Bd
  have e0 : s₁.heap = h0 := by rw [← hh, Bd.state]; rfl
  have N0 := Fr.nil n0
  have pre0 : ∀ t, Steps p.tables e below (s₁.setTop (mkF m 0 #[.val (.ref a1)] [])) t → Steps p.tables e below (s₁.setTop (entryFrame m #[(.ref a1)] 1)) t := fun t k => castTop (ef_6_R m a1) k
  have hS0 : s.Since s.vm 0 := (State.WarmedH.refl s).since 0
  have hk0 : 0 ≤ h0.size := Nat.zero_le _
  have C0c : CHr Z consts_1 s.vm h0 s.vm h0 := CHr.refl H0c
  obtain ⟨T1, h1, X1, e1, E1, A1, D1, -, st1⟩ := newO X0 hx hZ hown (hwi hw 43 rfl) (hwi hw 44 rfl) (hwi hw 45 rfl) e0 (g := (mkF m 0 #[.val (.ref a1)] [])) rfl (hb hby d6_0) (by decide) (by decide)
  obtain ⟨b1, g1⟩ : ∃ z, z = h0.size := ⟨_, rfl⟩
  rw [← g1] at A1 D1 st1
  have bn_b1 : h0.size ≤ b1 := Nat.le_of_eq g1.symm
  have R2 := CHr.ext E1 H0c
  have CR2 := C0c.trans R2
  have sz3 : h0.size ≤ h1.size := E1.1
  have Z3 : n0 ≤ h1.size := Nat.le_trans Z0 sz3
  have hk3 := Nat.le_trans hk0 sz3
  have O3 := O0.ext E1
  have K3 : Keep h0 h1 [] := (Keep.refl h0 []).ext E1
  have F1_value : Fld Z h1 b1 "java/lang/AbstractStringBuilder" "value" "[B" .null := D1 (Or.inl (hwi hw 58 rfl)) (ty := (.array .byte)) (by decide)
  have F1_coder : Fld Z h1 b1 "java/lang/AbstractStringBuilder" "coder" "B" (.int 0) := D1 (Or.inl (hwi hw 60 rfl)) (ty := .byte) (by decide)
  have F1_count : Fld Z h1 b1 "java/lang/AbstractStringBuilder" "count" "I" (.int 0) := D1 (Or.inl (hwi hw 83 rfl)) (ty := .int) (by decide)
  obtain ⟨_, _, ⟨T4, L4, k4, n4⟩, -, X4, ⟨Lc4, hQ4, l4, y4, z4⟩, st4⟩ := X1.specialBack hx (y := mn13) rfl hown (mvT hZ (hwi hw 46 rfl)) (mvT hZ (hwi hw 47 rfl)) (mvT hZ (hwi hw 48 rfl)) (by decide) (backOf (W := 1) (rm_sbinit l Z a0 hw [] b1 w_COMPACT_STRINGS .null (.int 0) h1 n0 Z3 S_COMPACT_STRINGS hcs A1 F1_count O3 F1_value (Nat.le_trans Z0 bn_b1) F1_coder) hZ (hwi hw 48 rfl) (hwi hw 45 rfl) (by decide) (by decide)) (g := (mkF m 4 #[.val (.ref a1)] [(.ref b1), (.ref b1)])) rfl (by rw [hml]; rfl) (Steps.refl _) (a := b1) (argsL := []) (rest := [(.ref b1)]) (lenOf pd_V_167 rfl) rfl (by show 2 * 0 + _ ≤ _; exact Nat.le_of_eq rfl) (hb hby d6_4) (fun _ _ => ⟨rfl, e1, (by decide : 1 + 1 ≤ _), (by decide : 4 + 16 ≤ _)⟩)
  dsimp only [Pt.U, Pt.locs, Pt.cells, Pt.slots] at X4 l4 y4 z4 st4 hQ4
  subst l4 y4 z4
  obtain ⟨t_4, kt_4, rfl, N4q, Kc4, g4_0, g4_1, g4_2, g4_3, g4_4, g4_5⟩ := hQ4
  have N4 := Fr.app N0 N4q
  have sfb4_0 : Safe Z consts_1 s.vm h1 t_4 := Safe.new g4_0
  have R5 := CHr.keep Kc4 (sfS (Safe.exa hZ.alike A1 (by decide) (by decide)) sf0) R2.1
  have sf_t_4_5 := Safe.keep Kc4 (sfS (Safe.exa hZ.alike A1 (by decide) (by decide)) sf0) R2.1 sfb4_0
  have CR5 := CR2.trans R5
  have sz6 : h1.size ≤ T4.heap.size := Kc4.1
  have Z6 : n0 ≤ T4.heap.size := Nat.le_trans Z3 sz6
  have hk6 := Nat.le_trans hk3 sz6
  have O6 := O3.keep Kc4 (allS (Nat.le_trans Z0 bn_b1) all0)
  have K6 : Keep h0 T4.heap [] := K3.trans Kc4 (allS (Or.inr bn_b1) (all0))
  have bn_t_4 : h0.size ≤ t_4 := Nat.le_trans K3.1 g4_0
  have fc7 := ((F_a1_database.ext E1).keep Kc4 (ninS (neN (by have := ltN F_a1_database.lt; have := ltN A1.lt; omega)) nin0))
  obtain ⟨T8, X8, e8, st8⟩ := getF X4 hx hZ hown (host := "") (Or.inl (hwi hw 34 rfl)) Via.refl rfl fc7 (g := (mkF m 8 #[.val (.ref a1)] [(.ref a1), (.ref b1)])) rfl rfl (hb hby d6_8)
  have fc10 := ((E_db.ext E1).keep Kc4)
  have fc11 := ((F_db_coder.ext E1).keep Kc4 (ninS (neN (by have := ltN E_db.lt; have := ltN A1.lt; omega)) nin0))
  have fc12 := ((F_db_value.ext E1).keep Kc4 (ninS (neN (by have := ltN E_db.lt; have := ltN A1.lt; omega)) nin0))
  have fc13 := ((V_t_db.ext E1).keep Kc4 (ninS (neN (by have := ltN V_t_db.lt; have := ltN A1.lt; omega)) nin0))
  obtain ⟨cq9, kq9, q9a, q9b, q9c⟩ := isOf hZ e8 g4_1
  obtain ⟨_, _, ⟨T9, L9, k9, n9⟩, -, X9, ⟨Lc9, hQ9, l9, y9, z9⟩, st9⟩ := X8.virtualBack hx (y := mn19) (z := mn19) hown (mvT hZ (hwi hw 61 rfl)) (mvT hZ (hwi hw 62 rfl)) (notFace_of_selects (args := #[]) (mvT hZ (hwi hw 64 rfl))) (mvT hZ (hwi hw 64 rfl)) (mvT hZ (hwi hw 63 rfl)) (by decide) (backOf (W := 0) (rm_sbapp l Z a0 hw [] b1 db w_COMPACT_STRINGS t_4 kt_4 [(.int 0), (.int 0), (.int 0), (.int 0), (.int 0), (.int 0), (.int 0), (.int 0), (.int 0), (.int 0), (.int 0), (.int 0), (.int 0), (.int 0), (.int 0), (.int 0)] (0 : Int32) t_db k_t_db [(.int (c0.toInt8.toInt32)), (.int (c1.toInt8.toInt32)), (.int (c2.toInt8.toInt32))] (3 : Int32) T4.heap n0 Z6 S_COMPACT_STRINGS hcs g4_1 g4_3 g4_2 g4_5 g4_4 fc10 fc11 fc12 fc13 (by decide : ¬ ((0 : Int32) < (0 : Int32))) (by decide : (0 : Int32).toNatClampNeg + (3 : Int32).toNatClampNeg ≤ (16 : Int32).toNatClampNeg) (Nat.le_of_ble_eq_true rfl) (by decide : ¬ ((3 : Int32) < (0 : Int32))) (by decide : ¬ ((0 : Int32) < (((0 : Int32) + (3 : Int32)) - (16 : Int32)))) (neN (by have := ltN V_t_db.lt; have := ltN g4_5.lt; omega)) (neN (by have := ltN E_db.lt; have := ltN A1.lt; omega)) (Nat.le_trans Z0 bn_t_4) O6 (Nat.le_trans Z0 bn_b1) (by decide : ((3 : Int32) >>> ((0 : Int32) &&& 31)) = (3 : Int32)) (by decide : ((0 : Int32) <<< ((0 : Int32) &&& 31)) = (0 : Int32))) hZ (hwi hw 65 rfl) (hwi hw 45 rfl) (by decide) (by decide)) q9a q9c (g := (mkF m 11 #[.val (.ref a1)] [(.ref db), (.ref b1)])) rfl (by rw [hml]; rfl) (Steps.refl _) (argsL := [(.ref db)]) (rest := []) (lenOf pd_Ljava_lang_String__Ljava_lang_StringBuilder_184 rfl) rfl (by show 2 * 0 + _ ≤ _; exact Nat.le_of_eq rfl) (hb hby d6_11) (fun _ _ => ⟨rfl, e8, (by decide : 2 + 0 ≤ _), (by decide : 20 + 0 ≤ _)⟩)
  dsimp only [Pt.U, Pt.locs, Pt.cells, Pt.slots] at X9 l9 y9 z9 st9 hQ9
  subst l9 y9 z9
  obtain ⟨rfl, N9q, Kc9, g9_0, g9_1, g9_2, g9_3, g9_4⟩ := hQ9
  have N9 := Fr.app N4 N9q
  have R14 := CHr.keep Kc9 (sfS (Safe.exa hZ.alike g4_1 (by decide) (by decide)) (sfS sf_t_4_5 sf0)) R5.1
  have sf_t_4_14 := Safe.keep Kc9 (sfS (Safe.exa hZ.alike g4_1 (by decide) (by decide)) (sfS sf_t_4_5 sf0)) R5.1 sf_t_4_5
  have CR14 := CR5.trans R14
  have sz15 : T4.heap.size ≤ T9.heap.size := Kc9.1
  have Z15 : n0 ≤ T9.heap.size := Nat.le_trans Z6 sz15
  have hk15 := Nat.le_trans hk6 sz15
  have O15 := O6.keep Kc9 (allS (Nat.le_trans Z0 bn_b1) (allS (Nat.le_trans Z0 bn_t_4) all0))
  have K15 : Keep h0 T9.heap [] := K6.trans Kc9 (allS (Or.inr bn_b1) (allS (Or.inr bn_t_4) (all0)))
  have Feg9_3 : Fld Z T9.heap b1 "java/lang/AbstractStringBuilder" "count" "I" (.int 3) := by have q := g9_3; rw [(by decide : ((0 : Int32) + (3 : Int32)) = (3 : Int32))] at q; exact q
  have Veg9_4 : Arv Z T9.heap t_4 kt_4 .byte (16 : Int32) [(.int (c0.toInt8.toInt32)), (.int (c1.toInt8.toInt32)), (.int (c2.toInt8.toInt32)), (.int 0), (.int 0), (.int 0), (.int 0), (.int 0), (.int 0), (.int 0), (.int 0), (.int 0), (.int 0), (.int 0), (.int 0), (.int 0)] (.int 0) := g9_4
  obtain ⟨lit16, T16, h16, j16, ltb16, k16, X16, e16, E16, hS16, hk16, hZ16, ho16, Ex16, Fc16, Fv16, Av16, la16, lb16, C16, -, Sn16, st16⟩ := ldcCH X9 hx hZ hown (hwi hw 109 rfl) (own_wS hw) rfl hS0 hk15 hEL (by decide) R14.1 (vs := [(.int 58)]) (z := (1 : Int32)) (own_text_1) (by decide) (by rfl) (g := (mkF m 14 #[.val (.ref a1)] [(.ref b1)])) rfl (hb hby d6_14) (n := 4) (by decide) (by decide) (by decide) (by decide)
  have sf_t_4_17 := CHr.safe C16 (show t_4 < T9.heap.size from ltN (by have := ltN g4_5.lt; omega)) sf_t_4_14
  have R17 := C16
  have CR17 := CR14.trans R17
  have sz18 : T9.heap.size ≤ h16.size := E16.1
  have Z18 : n0 ≤ h16.size := Nat.le_trans Z15 sz18
  have O18 := O15.ext E16
  have K18 : Keep h0 h16 [] := K15.ext E16
  have nq_t_4_16 := Sn16 _ sf_t_4_17
  have fc20 := (g9_0.ext E16)
  have fc21 := (g9_2.ext E16)
  have fc22 := (g9_1.ext E16)
  have fc23 := (Veg9_4.ext E16)
  have fc24 := (Feg9_3.ext E16)
  obtain ⟨cq19, kq19, q19a, q19b, q19c⟩ := isOf hZ16 e16 fc20
  obtain ⟨_, _, ⟨T19, L19, k19, n19⟩, -, X19, ⟨Lc19, hQ19, l19, y19, z19⟩, st19⟩ := X16.virtualBack hx (y := mn19) (z := mn19) ho16 (mvT hZ16 (hwi hw 61 rfl)) (mvT hZ16 (hwi hw 62 rfl)) (notFace_of_selects (args := #[]) (mvT hZ16 (hwi hw 64 rfl))) (mvT hZ16 (hwi hw 64 rfl)) (mvT hZ16 (hwi hw 63 rfl)) (by decide) (backOf (W := 0) (rm_sbapp l Z a0 hw [] b1 lit16 w_COMPACT_STRINGS t_4 kt_4 [(.int (c0.toInt8.toInt32)), (.int (c1.toInt8.toInt32)), (.int (c2.toInt8.toInt32)), (.int 0), (.int 0), (.int 0), (.int 0), (.int 0), (.int 0), (.int 0), (.int 0), (.int 0), (.int 0), (.int 0), (.int 0), (.int 0)] (3 : Int32) ltb16 k16 [(.int 58)] (1 : Int32) h16 n0 Z18 S_COMPACT_STRINGS hcs fc20 fc21 fc22 fc23 fc24 Ex16 Fc16 Fv16 Av16 (by decide : ¬ ((3 : Int32) < (0 : Int32))) (by decide : (3 : Int32).toNatClampNeg + (1 : Int32).toNatClampNeg ≤ (16 : Int32).toNatClampNeg) (Nat.le_of_ble_eq_true rfl) (by decide : ¬ ((1 : Int32) < (0 : Int32))) (by decide : ¬ ((0 : Int32) < (((3 : Int32) + (1 : Int32)) - (16 : Int32)))) (fun q => nq_t_4_16.2 q.symm) (Exa.ne Ex16 fc20 (by decide)) (Nat.le_trans Z0 bn_t_4) O18 (Nat.le_trans Z0 bn_b1) (by decide : ((1 : Int32) >>> ((0 : Int32) &&& 31)) = (1 : Int32)) (by decide : ((3 : Int32) <<< ((0 : Int32) &&& 31)) = (3 : Int32))) hZ16 (hwi hw 65 rfl) (hwi hw 45 rfl) (by decide) (by decide)) q19a q19c (g := (mkF m 16 #[.val (.ref a1)] [(.ref lit16), (.ref b1)])) rfl (by rw [hml]; rfl) (Steps.refl _) (argsL := [(.ref lit16)]) (rest := []) (lenOf pd_Ljava_lang_String__Ljava_lang_StringBuilder_184 rfl) rfl (by show 2 * 0 + _ ≤ _; exact Nat.le_of_eq rfl) (hb hby d6_16) (fun _ _ => ⟨rfl, e16, (by decide : 4 + 0 ≤ _), (by decide : 28 + 0 ≤ _)⟩)
  dsimp only [Pt.U, Pt.locs, Pt.cells, Pt.slots] at X19 l19 y19 z19 st19 hQ19
  subst l19 y19 z19
  obtain ⟨rfl, N19q, Kc19, g19_0, g19_1, g19_2, g19_3, g19_4⟩ := hQ19
  have N19 := Fr.app N9 N19q
  have R25 := CHr.keep Kc19 (sfS (Safe.exa hZ16.alike fc20 (by decide) (by decide)) (sfS sf_t_4_17 sf0)) R17.1
  have sf_t_4_25 := Safe.keep Kc19 (sfS (Safe.exa hZ16.alike fc20 (by decide) (by decide)) (sfS sf_t_4_17 sf0)) R17.1 sf_t_4_17
  have CR25 := CR17.trans R25
  have sz26 : h16.size ≤ T19.heap.size := Kc19.1
  have Z26 : n0 ≤ T19.heap.size := Nat.le_trans Z18 sz26
  have hk26 := Nat.le_trans hk16 sz26
  have O26 := O18.keep Kc19 (allS (Nat.le_trans Z0 bn_b1) (allS (Nat.le_trans Z0 bn_t_4) all0))
  have K26 : Keep h0 T19.heap [] := K18.trans Kc19 (allS (Or.inr bn_b1) (allS (Or.inr bn_t_4) (all0)))
  have Feg19_3 : Fld Z T19.heap b1 "java/lang/AbstractStringBuilder" "count" "I" (.int 4) := by have q := g19_3; rw [(by decide : ((3 : Int32) + (1 : Int32)) = (4 : Int32))] at q; exact q
  have Veg19_4 : Arv Z T19.heap t_4 kt_4 .byte (16 : Int32) [(.int (c0.toInt8.toInt32)), (.int (c1.toInt8.toInt32)), (.int (c2.toInt8.toInt32)), (.int 58), (.int 0), (.int 0), (.int 0), (.int 0), (.int 0), (.int 0), (.int 0), (.int 0), (.int 0), (.int 0), (.int 0), (.int 0)] (.int 0) := g19_4
  have fc27 := (((((F_a1_number.ext E1).keep Kc4 (ninS (neN (by have := ltN F_a1_database.lt; have := ltN A1.lt; omega)) nin0)).keep Kc9 (ninS (neN (by have := ltN F_a1_database.lt; have := ltN A1.lt; omega)) (ninS (neN (by have := ltN F_a1_database.lt; have := ltN g4_5.lt; omega)) nin0))).ext E16).keep Kc19 (ninS (neN (by have := ltN F_a1_database.lt; have := ltN A1.lt; omega)) (ninS (neN (by have := ltN F_a1_database.lt; have := ltN g4_5.lt; omega)) nin0)))
  obtain ⟨T28, X28, e28, st28⟩ := getF X19 hx hZ16 ho16 (host := "") (Or.inl (hwi hw 36 rfl)) Via.refl rfl fc27 (g := (mkF m 20 #[.val (.ref a1)] [(.ref a1), (.ref b1)])) rfl rfl (hb hby d6_20)
  obtain ⟨cq29, kq29, q29a, q29b, q29c⟩ := isOf hZ16 e28 g19_0
  obtain ⟨_, _, ⟨T29, L29, k29, n29⟩, -, X29, ⟨Lc29, hQ29, l29, y29, z29⟩, st29⟩ := X28.virtualBack hx (y := mn24) (z := mn24) ho16 (mvT hZ16 (hwi hw 110 rfl)) (mvT hZ16 (hwi hw 111 rfl)) (notFace_of_selects (args := #[]) (mvT hZ16 (hwi hw 113 rfl))) (mvT hZ16 (hwi hw 113 rfl)) (mvT hZ16 (hwi hw 112 rfl)) (by decide) (backOf (W := 0) (rm_sbapi l Z a0 hw [] b1 nb w_COMPACT_STRINGS t_4 kt_4 [(.int (c0.toInt8.toInt32)), (.int (c1.toInt8.toInt32)), (.int (c2.toInt8.toInt32)), (.int 58), (.int 0), (.int 0), (.int 0), (.int 0), (.int 0), (.int 0), (.int 0), (.int 0), (.int 0), (.int 0), (.int 0), (.int 0)] (4 : Int32) zz n kk ix T19.heap n0 Z26 S_COMPACT_STRINGS hcs g19_0 g19_2 g19_1 Veg19_4 Feg19_3 hzz (own_zz hN hix).2.2.2.2 hB hN hix (Nat.le_trans Z0 bn_t_4) O26 (Nat.le_trans Z0 bn_b1)) hZ16 (hwi hw 114 rfl) (hwi hw 45 rfl) (by decide) (by decide)) q29a q29c (g := (mkF m 23 #[.val (.ref a1)] [(.int nb), (.ref b1)])) rfl (by rw [hml]; rfl) (Steps.refl _) (argsL := [(.int nb)]) (rest := []) (lenOf pd_I_Ljava_lang_StringBuilder_561 rfl) rfl (by show 2 * 0 + _ ≤ _; exact Nat.le_of_eq rfl) (hb hby d6_23) (fun _ _ => ⟨rfl, e28, (by decide : 4 + 0 ≤ _), (by decide : 28 + 0 ≤ _)⟩)
  dsimp only [Pt.U, Pt.locs, Pt.cells, Pt.slots] at X29 l29 y29 z29 st29 hQ29
  subst l29 y29 z29
  obtain ⟨vo_29, rfl, N29q, Kc29, g29_0, g29_1, g29_2, g29_3, g29_4, g29_5⟩ := hQ29
  have N29 := Fr.app N19 N29q
  have R30 := CHr.keep Kc29 (sfS (Safe.exa hZ16.alike g19_0 (by decide) (by decide)) (sfS sf_t_4_25 sf0)) R25.1
  have sf_t_4_30 := Safe.keep Kc29 (sfS (Safe.exa hZ16.alike g19_0 (by decide) (by decide)) (sfS sf_t_4_25 sf0)) R25.1 sf_t_4_25
  have CR30 := CR25.trans R30
  have sz31 : T19.heap.size ≤ T29.heap.size := Kc29.1
  have Z31 : n0 ≤ T29.heap.size := Nat.le_trans Z26 sz31
  have hk31 := Nat.le_trans hk26 sz31
  have O31 := O26.keep Kc29 (allS (Nat.le_trans Z0 bn_b1) (allS (Nat.le_trans Z0 bn_t_4) all0))
  have K31 : Keep h0 T29.heap [] := K26.trans Kc29 (allS (Or.inr bn_b1) (allS (Or.inr bn_t_4) (all0)))
  obtain ⟨cq32, kq32, q32a, q32b, q32c⟩ := isOf hZ16 rfl g29_0
  obtain ⟨_, _, ⟨T32, L32, k32, n32⟩, -, X32, ⟨Lc32, hQ32, l32, y32, z32⟩, st32⟩ := X29.virtualBack hx (y := mn34) (z := mn34) ho16 (mvT hZ16 (hwi hw 132 rfl)) (mvT hZ16 (hwi hw 133 rfl)) (notFace_of_selects (args := #[]) (mvT hZ16 (hwi hw 135 rfl))) (mvT hZ16 (hwi hw 135 rfl)) (mvT hZ16 (hwi hw 134 rfl)) (by decide) (backOf (W := 0) (rm_tostr l Z a0 hw [] b1 w_COMPACT_STRINGS t_4 kt_4 vo_29 zz T29.heap n0 Z31 S_COMPACT_STRINGS hcs g29_0 g29_2 g29_1 g29_4 g29_3 (own_zz hN hix).1 (own_zz hN hix).2.1 (own_zz hN hix).2.2.1 (own_zz hN hix).2.2.2.1 O31) hZ16 (hwi hw 136 rfl) (hwi hw 45 rfl) (by decide) (by decide)) q32a q32c (g := (mkF m 26 #[.val (.ref a1)] [(.ref b1)])) rfl (by rw [hml]; rfl) (Steps.refl _) (argsL := []) (rest := []) (lenOf pd_Ljava_lang_String_777 rfl) rfl (by show 2 * 0 + _ ≤ _; exact Nat.le_of_eq rfl) (hb hby d6_26) (fun _ _ => ⟨rfl, rfl, (by decide : 4 + 2 ≤ _), (by decide : 28 + 20 ≤ _)⟩)
  dsimp only [Pt.U, Pt.locs, Pt.cells, Pt.slots] at X32 l32 y32 z32 st32 hQ32
  subst l32 y32 z32
  obtain ⟨r_32, t_32, kt_32, rfl, N32q, Kc32, g32_0, g32_1, g32_2, g32_3, g32_4, g32_5⟩ := hQ32
  have N32 := Fr.app N29 N32q
  have sfb32_0 : Safe Z consts_1 T16.vm T29.heap r_32 := Safe.new g32_0
  have sfb32_1 : Safe Z consts_1 T16.vm T29.heap t_32 := Safe.new g32_1
  have R33 := CHr.keep Kc32 sf0 R30.1
  have sf_t_4_33 := Safe.keep Kc32 sf0 R30.1 sf_t_4_30
  have sf_r_32_33 := Safe.keep Kc32 sf0 R30.1 sfb32_0
  have sf_t_32_33 := Safe.keep Kc32 sf0 R30.1 sfb32_1
  have CR33 := CR30.trans R33
  have sz34 : T29.heap.size ≤ T32.heap.size := Kc32.1
  have Z34 : n0 ≤ T32.heap.size := Nat.le_trans Z31 sz34
  have hk34 := Nat.le_trans hk31 sz34
  have O34 := O31.keep Kc32 all0
  have K34 : Keep h0 T32.heap [] := K31.trans Kc32 (all0)
  have bn_r_32 : h0.size ≤ r_32 := Nat.le_trans K31.1 g32_0
  have bn_t_32 : h0.size ≤ t_32 := Nat.le_trans K31.1 g32_1
  have CRe := CR33.trans (CHv.at X32 hZ16 hEL R33.1)
  obtain ⟨fs, hr, hrun, hended, hRE⟩ := X32.leaveW hS16 hk34 (v := some (.ref r_32)) (fun h => by rw [Bd.returns] at h; cases h)
  refine ⟨_, _, pre0 _ ?_, hrun, hended, _, _, rfl, ?_, ?_, ⟨hRE.1, hRE.2.1, hRE.2.2.1, hRE.2.2.2.mono (by decide) (by decide)⟩⟩
  · show St p e below s₁ (mkF m 0 #[.val (.ref a1)] []) _
    refine st1 _ ?_
    refine XS.dup X1.here hx rfl (hb hby d6_3) rfl rfl ?_
    refine st4.trans ?_
    refine XS.aloadN X4.here hx rfl (hb hby d6_7) rfl rfl ?_
    refine st8 _ ?_
    refine st9.trans ?_
    refine st16 _ ?_
    refine st19.trans ?_
    show St p e below T19 (mkF m 19 #[.val (.ref a1)] [(.ref b1)]) _
    refine XS.aloadN X19.here hx rfl (hb hby d6_19) rfl rfl ?_
    refine st28 _ ?_
    refine st29.trans ?_
    refine st32.trans ?_
    show St p e below T32 (mkF m 29 #[.val (.ref a1)] [(.ref r_32)]) _
    jvm_step X32.here [X32.here.top, hx, (hb hby d6_29), X32.method', Bd.returns, Value.isRef, FieldType.isReference]
    first | (intro acts; rw [hr _ acts rfl rfl rfl]) | rw [hr _ _ rfl rfl rfl]
    exact Steps.refl _
  · show Q_acstr_3 Z a1 w_COMPACT_STRINGS db nb c0 c1 c2 t_db k_t_db zz n kk ix h0 n0 _ T32.heap _
    exact ⟨r_32, t_32, kt_32, (own_ap [(.int 0), (.int 0), (.int 0), (.int 0), (.int 0), (.int 0), (.int 0), (.int 0), (.int 0), (.int 0), (.int 0), (.int 0), (.int 0), (.int 0), (.int 0), (.int 0)] vo_29 (0 : Int32) zz), rfl, N32, K34, bn_r_32, bn_t_32, g32_2, g32_3, g32_4, g32_5, (own_T_ap g29_5 hN hix)⟩
  · show CHr Z consts_1 s.vm s.heap T32.vm T32.heap
    rw [hh]
    exact CRe
def own_dg (m : Int64) (n : Nat) (d : Int32) : Prop := m.toInt = (n : Int) ∧ n ≤ 2 ^ 31 ∧ d = Int32.ofNat (Jvm.Free.SBG.digits n)
def own_D (vs : List Value) (N : Int32) (m : Int64) (j : Int32) (pw : Int64) : Prop := ∃ xb ch jj : Int32, ((N - (1 : Int32)) - j) = jj ∧ ¬ (jj < (0 : Int32)) ∧ jj < N ∧ vs.getD jj.toNatClampNeg (.int 0) = .int xb ∧ ((xb &&& (255 : Int32)).toUInt32.toUInt16.toUInt32.toInt32) = ch ∧ (ch.toUInt32.toUInt16.toUInt32.toInt32) = ch ∧ (((48 : Int32) + ((((m / pw) - ((m / pw) / (10 : Int64)) * (10 : Int64))).toInt32)).toUInt32.toUInt16.toUInt32.toInt32) = ch
def own_A (vs : List Value) (N : Int32) (m : Int64) (d : Int32) : Prop := ∀ j, j < 10 → Int32.ofNat j < d → own_D vs N m (Int32.ofNat j) (Int64.ofNat (10 ^ j))
theorem own_64 {a b : Nat} (ha : a ≤ 2 ^ 31) (hb : 0 < b) (hb2 : b ≤ 2 ^ 31) : Int64.ofNat a / Int64.ofNat b = Int64.ofNat (a / b) := by
  have hq : a / b ≤ a := Nat.div_le_self a b
  have e1 : (Int64.ofNat a).toInt = a := Int64.toInt_ofNat_of_lt (by omega)
  have e2 : (Int64.ofNat b).toInt = b := Int64.toInt_ofNat_of_lt (by omega)
  have e3 : (Int64.ofNat (a / b)).toInt = (a / b : Nat) := Int64.toInt_ofNat_of_lt (by omega)
  apply Int64.toInt_inj.mp
  rw [Int64.toInt_div_of_ne_right _ _ (by intro q; rw [q] at e2; have : (-1 : Int64).toInt = -1 := by decide
                                          omega), e1, e2, e3]
  rfl
theorem own_lti {a b : Nat} (ha : a < 2 ^ 31) (hb : b < 2 ^ 31) : Int32.ofNat a < Int32.ofNat b ↔ a < b := by
  rw [Int32.lt_iff_toInt_lt, Int32.toInt_ofNat_of_lt ha, Int32.toInt_ofNat_of_lt hb]; omega
theorem own_lt {x : Int32} {n kk ix : Nat} {z : Int32} (hN : own_N x n kk ix) (hz : z = Int32.ofNat ix) {j : Nat} (hj : j ≤ kk) : Int32.ofNat j < z := by
  have h1 := hN.2.2.1
  have h2 := hN.2.2.2
  have h3 := (Jvm.Free.SBG.digits_pos n).1
  rw [hz]; exact (own_lti (by omega) (by omega)).mpr (by omega)
theorem own_sh (z : Int32) : (z >>> ((0 : Int32) &&& 31)) = z := by
  rw [(by decide : ((0 : Int32) &&& 31) = 0)]; simp
theorem own_dig : ∀ r : Fin 10, ((Int32.ofNat (48 + r.val) &&& (255 : Int32)).toUInt32.toUInt16.toUInt32.toInt32) = Int32.ofNat (48 + r.val) ∧ ((Int32.ofNat (48 + r.val)).toUInt32.toUInt16.toUInt32.toInt32) = Int32.ofNat (48 + r.val) ∧ (((48 : Int32) + ((Int64.ofNat r.val).toInt32)).toUInt32.toUInt16.toUInt32.toInt32) = Int32.ofNat (48 + r.val) := by decide +kernel
theorem own_all {vs vd : List Value} {kk : Nat} {x : Int32} {n ix : Nat} {N : Int32} {m : Int64} {d : Int32} (hT : own_T vs vd kk x n ix) (hN : own_N x n kk ix) (hz : N = Int32.ofNat ix) (hd : own_dg m n d) : own_A vs N m d := by
  intro j hj hjd
  obtain ⟨d1, d2, d3⟩ := hd
  have h1 := hN.2.2.1
  have h2 := hN.2.2.2
  have h3 := Jvm.Free.SBG.digits_pos n
  have hjd' : j < Jvm.Free.SBG.digits n := by rw [d3] at hjd; exact (own_lti (by omega) (by omega)).mp hjd
  have em : m = Int64.ofNat n := by apply Int64.toInt_inj.mp; rw [d1, Int64.toInt_ofNat_of_lt (by omega)]
  have hp : (10 : Nat) ^ j ≤ 2 ^ 31 := by
    have : (10 : Nat) ^ j ≤ 10 ^ 9 := Nat.pow_le_pow_right (by decide) (by omega)
    exact Nat.le_trans this (by decide)
  have hp0 : 0 < (10 : Nat) ^ j := Nat.pow_pos (by decide)
  have hq : n / 10 ^ j ≤ n := Nat.div_le_self _ _
  have er : ((m / Int64.ofNat (10 ^ j)) - ((m / Int64.ofNat (10 ^ j)) / (10 : Int64)) * (10 : Int64)) = Int64.ofNat (n / 10 ^ j % 10) := by
    rw [em, own_64 d2 hp0 hp]
    have e10 : (Int64.ofNat (n / 10 ^ j)) / (10 : Int64) = Int64.ofNat (n / 10 ^ j / 10) := own_64 (b := 10) (by omega) (by decide) (by decide)
    rw [e10]
    have em10 : Int64.ofNat (n / 10 ^ j / 10) * (10 : Int64) = Int64.ofNat (n / 10 ^ j / 10 * 10) := by rw [Int64.ofNat_mul]; rfl
    rw [em10, ← Int64.ofNat_sub _ _ (by omega)]
    congr 1; omega
  obtain ⟨g1, g2, g3⟩ := own_dig ⟨n / 10 ^ j % 10, Nat.mod_lt _ (by decide)⟩
  dsimp only at g1 g2 g3
  have ejj : ((N - (1 : Int32)) - Int32.ofNat j) = Int32.ofNat (ix - 1 - j) := by
    rw [hz, Int32.ofNat_sub _ _ (by omega : j ≤ ix - 1), Int32.ofNat_sub _ _ (by omega : 1 ≤ ix)]; rfl
  refine ⟨Int32.ofNat (48 + n / 10 ^ j % 10), Int32.ofNat (48 + n / 10 ^ j % 10), Int32.ofNat (ix - 1 - j), ejj, ?_, ?_, ?_, g1, g2, ?_⟩
  · intro h
    have h' : Int32.ofNat (ix - 1 - j) < Int32.ofNat 0 := h
    exact absurd ((own_lti (by omega) (by omega)).mp h') (by omega)
  · rw [hz]; exact (own_lti (by omega) (by omega)).mpr (by omega)
  · rw [Int32.toNatClampNeg_ofNat_of_lt (by omega)]; exact hT.2.2 j hjd'
  · rw [er]; exact g3
theorem d32_0 : decode method_3_code 0 = .ok (.lload_n 0, 1) := by decide +kernel
theorem d32_1 : decode method_3_code 1 = .ok (.ldc2_w 39, 3) := by decide +kernel
theorem d32_4 : decode method_3_code 4 = .ok (.lcmp, 1) := by decide +kernel
theorem d32_5 : decode method_3_code 5 = .ok (.ifCond .ge 5, 3) := by decide +kernel
theorem d32_8 : decode method_3_code 8 = .ok (.iconst 1, 1) := by decide +kernel
theorem d32_9 : decode method_3_code 9 = .ok (.ireturn, 1) := by decide +kernel
theorem pn_32 : plainName "com/example/demarc/demarc/tool/AccountToStringPinLaw" = true := by first | (simp [plainName, overriddenIn]; done) | decide +kernel
theorem ef_32_J (m : MethodId) (x0 : Int64) : entryFrame m #[(.long x0)] 2 = mkF m 0 #[.val (.long x0), .second] [] := by first | (simp [entryFrame, mkF, argsToLocals, Value.category]; done) | rfl
set_option maxRecDepth 65536 in
set_option maxHeartbeats 40000000 in
theorem rm_dg_1 (l : Launch) (Z : State) (a0 : Array Value) (hw : ∀ d ∈ tables_1, d.before a0 Z = true) (ws : List Jvm.Cond) (q1 : Int64) (h0 : Heap) (n0 : Nat) (Z0 : n0 ≤ h0.size) (hc5 : (lcmpW q1 (10 : Int64)) < (0 : Int32)) :
    MetFree l mn38 (head1 (Jvm.Cond.code mn38 method_3_code 2 (some .int) :: ws) ro2) (fun a U => a = #[(.long q1)] ∧ Z.Warmed39 U.vm ∧ U.heap = h0) (fun _ _ _ _ _ => True) (fun _ U o U' => ∃ v L, o = .returned v ∧ Q_pure (some (.int 1)) h0 n0 v U'.heap L ∧ FrameEnd U o U' L ro2.cells ro2.slots) := by
  refine MetFree.of_bodySF (plainFor_of_name pn_32) hisR ?_
  intro p e s m args below meth c s₁ Bd hml0 hP hK
  obtain ⟨rfl, hZ, hh⟩ := hP
  have hx := Bd.exec
  have hby := Bd.bytes
  have hml : c.maxLocals = 2 := hml0
  have hown : s.vm.findClass "com/example/demarc/demarc/tool/AccountToStringPinLaw" = some m.cls := findClass_of_methodNamed Bd.named
  have hnm := (name_of_methodNamed Bd.named Bd.method).1
  have X0 : Stand p l e ro2 s m #[(.long q1)] below meth c s₁ [] 0 0 := Stand.of_body Bd
  have e0 : s₁.heap = h0 := by rw [← hh, Bd.state]; rfl
  have N0 := Fr.nil n0
  have pre0 : ∀ t, Steps p.tables e below (s₁.setTop (mkF m 0 #[.val (.long q1), .second] [])) t → Steps p.tables e below (s₁.setTop (entryFrame m #[(.long q1)] 2)) t := fun t k => castTop (ef_32_J m q1) k
  obtain ⟨fs, hr, hrun, hended, hW, hsame⟩ := X0.leave (v := some (.int 1)) (fun h => by rw [Bd.returns] at h; cases h)
  refine ⟨_, _, pre0 _ ?_, hrun, hended, _, _, rfl, ?_, ⟨_, rfl⟩, hW, hsame.mono (by decide) (by decide)⟩
  · show St p e below s₁ (mkF m 0 #[.val (.long q1), .second] []) _
    refine XS.lloadN X0.here hx rfl (hb hby d32_0) rfl ?_
    refine X0.ldc2Long hx hown (mvT hZ (hwi hw 177 rfl)) (g := (mkF m 1 #[.val (.long q1), .second] [(.long q1)])) rfl (hb hby d32_1) _ ?_
    refine XS.lcmp X0.here hx rfl (hb hby d32_4) rfl ?_
    refine XS.ifNo X0.here hx rfl (hb hby d32_5) rfl ((if0 _ _).trans (tlt hc5).2.1) ?_
    refine XS.iconst X0.here hx rfl (hb hby d32_8) ?_
    show St p e below s₁ (mkF m 9 #[.val (.long q1), .second] [(.int 1)]) _
    exact retI X0 hx Bd.returns (hb hby d32_9) hr
  · show Q_pure (some (.int 1)) h0 n0 _ s₁.heap _
    rw [e0]
    exact ⟨rfl, N0, rfl⟩
theorem d32_10 : decode method_3_code 10 = .ok (.lload_n 0, 1) := by decide +kernel
theorem d32_11 : decode method_3_code 11 = .ok (.ldc2_w 41, 3) := by decide +kernel
theorem d32_14 : decode method_3_code 14 = .ok (.lcmp, 1) := by decide +kernel
theorem d32_15 : decode method_3_code 15 = .ok (.ifCond .ge 5, 3) := by decide +kernel
theorem d32_18 : decode method_3_code 18 = .ok (.iconst 2, 1) := by decide +kernel
theorem d32_19 : decode method_3_code 19 = .ok (.ireturn, 1) := by decide +kernel
set_option maxRecDepth 65536 in
set_option maxHeartbeats 40000000 in
theorem rm_dg_2 (l : Launch) (Z : State) (a0 : Array Value) (hw : ∀ d ∈ tables_1, d.before a0 Z = true) (ws : List Jvm.Cond) (q1 : Int64) (h0 : Heap) (n0 : Nat) (Z0 : n0 ≤ h0.size) (hc5 : ¬ ((lcmpW q1 (10 : Int64)) < (0 : Int32))) (hc15 : (lcmpW q1 (100 : Int64)) < (0 : Int32)) :
    MetFree l mn38 (head1 (Jvm.Cond.code mn38 method_3_code 2 (some .int) :: ws) ro2) (fun a U => a = #[(.long q1)] ∧ Z.Warmed39 U.vm ∧ U.heap = h0) (fun _ _ _ _ _ => True) (fun _ U o U' => ∃ v L, o = .returned v ∧ Q_pure (some (.int 2)) h0 n0 v U'.heap L ∧ FrameEnd U o U' L ro2.cells ro2.slots) := by
  refine MetFree.of_bodySF (plainFor_of_name pn_32) hisR ?_
  intro p e s m args below meth c s₁ Bd hml0 hP hK
  obtain ⟨rfl, hZ, hh⟩ := hP
  have hx := Bd.exec
  have hby := Bd.bytes
  have hml : c.maxLocals = 2 := hml0
  have hown : s.vm.findClass "com/example/demarc/demarc/tool/AccountToStringPinLaw" = some m.cls := findClass_of_methodNamed Bd.named
  have hnm := (name_of_methodNamed Bd.named Bd.method).1
  have X0 : Stand p l e ro2 s m #[(.long q1)] below meth c s₁ [] 0 0 := Stand.of_body Bd
  have e0 : s₁.heap = h0 := by rw [← hh, Bd.state]; rfl
  have N0 := Fr.nil n0
  have pre0 : ∀ t, Steps p.tables e below (s₁.setTop (mkF m 0 #[.val (.long q1), .second] [])) t → Steps p.tables e below (s₁.setTop (entryFrame m #[(.long q1)] 2)) t := fun t k => castTop (ef_32_J m q1) k
  obtain ⟨fs, hr, hrun, hended, hW, hsame⟩ := X0.leave (v := some (.int 2)) (fun h => by rw [Bd.returns] at h; cases h)
  refine ⟨_, _, pre0 _ ?_, hrun, hended, _, _, rfl, ?_, ⟨_, rfl⟩, hW, hsame.mono (by decide) (by decide)⟩
  · show St p e below s₁ (mkF m 0 #[.val (.long q1), .second] []) _
    refine XS.lloadN X0.here hx rfl (hb hby d32_0) rfl ?_
    refine X0.ldc2Long hx hown (mvT hZ (hwi hw 177 rfl)) (g := (mkF m 1 #[.val (.long q1), .second] [(.long q1)])) rfl (hb hby d32_1) _ ?_
    refine XS.lcmp X0.here hx rfl (hb hby d32_4) rfl ?_
    refine XS.ifYes X0.here hx rfl (pc0 := 5) (pc' := 10) rfl (hb hby d32_5) rfl ((if0 _ _).trans (flt hc5).2.1) (by decide) (by decide) ?_
    refine XS.lloadN X0.here hx rfl (hb hby d32_10) rfl ?_
    refine X0.ldc2Long hx hown (mvT hZ (hwi hw 218 rfl)) (g := (mkF m 11 #[.val (.long q1), .second] [(.long q1)])) rfl (hb hby d32_11) _ ?_
    refine XS.lcmp X0.here hx rfl (hb hby d32_14) rfl ?_
    refine XS.ifNo X0.here hx rfl (hb hby d32_15) rfl ((if0 _ _).trans (tlt hc15).2.1) ?_
    show St p e below s₁ (mkF m 18 #[.val (.long q1), .second] []) _
    refine XS.iconst X0.here hx rfl (hb hby d32_18) ?_
    show St p e below s₁ (mkF m 19 #[.val (.long q1), .second] [(.int 2)]) _
    exact retI X0 hx Bd.returns (hb hby d32_19) hr
  · show Q_pure (some (.int 2)) h0 n0 _ s₁.heap _
    rw [e0]
    exact ⟨rfl, N0, rfl⟩
theorem d32_20 : decode method_3_code 20 = .ok (.lload_n 0, 1) := by decide +kernel
theorem d32_21 : decode method_3_code 21 = .ok (.ldc2_w 43, 3) := by decide +kernel
theorem d32_24 : decode method_3_code 24 = .ok (.lcmp, 1) := by decide +kernel
theorem d32_25 : decode method_3_code 25 = .ok (.ifCond .ge 5, 3) := by decide +kernel
theorem d32_28 : decode method_3_code 28 = .ok (.iconst 3, 1) := by decide +kernel
theorem d32_29 : decode method_3_code 29 = .ok (.ireturn, 1) := by decide +kernel
set_option maxRecDepth 65536 in
set_option maxHeartbeats 40000000 in
theorem rm_dg_3 (l : Launch) (Z : State) (a0 : Array Value) (hw : ∀ d ∈ tables_1, d.before a0 Z = true) (ws : List Jvm.Cond) (q1 : Int64) (h0 : Heap) (n0 : Nat) (Z0 : n0 ≤ h0.size) (hc5 : ¬ ((lcmpW q1 (10 : Int64)) < (0 : Int32))) (hc15 : ¬ ((lcmpW q1 (100 : Int64)) < (0 : Int32))) (hc25 : (lcmpW q1 (1000 : Int64)) < (0 : Int32)) :
    MetFree l mn38 (head1 (Jvm.Cond.code mn38 method_3_code 2 (some .int) :: ws) ro2) (fun a U => a = #[(.long q1)] ∧ Z.Warmed39 U.vm ∧ U.heap = h0) (fun _ _ _ _ _ => True) (fun _ U o U' => ∃ v L, o = .returned v ∧ Q_pure (some (.int 3)) h0 n0 v U'.heap L ∧ FrameEnd U o U' L ro2.cells ro2.slots) := by
  refine MetFree.of_bodySF (plainFor_of_name pn_32) hisR ?_
  intro p e s m args below meth c s₁ Bd hml0 hP hK
  obtain ⟨rfl, hZ, hh⟩ := hP
  have hx := Bd.exec
  have hby := Bd.bytes
  have hml : c.maxLocals = 2 := hml0
  have hown : s.vm.findClass "com/example/demarc/demarc/tool/AccountToStringPinLaw" = some m.cls := findClass_of_methodNamed Bd.named
  have hnm := (name_of_methodNamed Bd.named Bd.method).1
  have X0 : Stand p l e ro2 s m #[(.long q1)] below meth c s₁ [] 0 0 := Stand.of_body Bd
  have e0 : s₁.heap = h0 := by rw [← hh, Bd.state]; rfl
  have N0 := Fr.nil n0
  have pre0 : ∀ t, Steps p.tables e below (s₁.setTop (mkF m 0 #[.val (.long q1), .second] [])) t → Steps p.tables e below (s₁.setTop (entryFrame m #[(.long q1)] 2)) t := fun t k => castTop (ef_32_J m q1) k
  obtain ⟨fs, hr, hrun, hended, hW, hsame⟩ := X0.leave (v := some (.int 3)) (fun h => by rw [Bd.returns] at h; cases h)
  refine ⟨_, _, pre0 _ ?_, hrun, hended, _, _, rfl, ?_, ⟨_, rfl⟩, hW, hsame.mono (by decide) (by decide)⟩
  · show St p e below s₁ (mkF m 0 #[.val (.long q1), .second] []) _
    refine XS.lloadN X0.here hx rfl (hb hby d32_0) rfl ?_
    refine X0.ldc2Long hx hown (mvT hZ (hwi hw 177 rfl)) (g := (mkF m 1 #[.val (.long q1), .second] [(.long q1)])) rfl (hb hby d32_1) _ ?_
    refine XS.lcmp X0.here hx rfl (hb hby d32_4) rfl ?_
    refine XS.ifYes X0.here hx rfl (pc0 := 5) (pc' := 10) rfl (hb hby d32_5) rfl ((if0 _ _).trans (flt hc5).2.1) (by decide) (by decide) ?_
    refine XS.lloadN X0.here hx rfl (hb hby d32_10) rfl ?_
    refine X0.ldc2Long hx hown (mvT hZ (hwi hw 218 rfl)) (g := (mkF m 11 #[.val (.long q1), .second] [(.long q1)])) rfl (hb hby d32_11) _ ?_
    refine XS.lcmp X0.here hx rfl (hb hby d32_14) rfl ?_
    refine XS.ifYes X0.here hx rfl (pc0 := 15) (pc' := 20) rfl (hb hby d32_15) rfl ((if0 _ _).trans (flt hc15).2.1) (by decide) (by decide) ?_
    show St p e below s₁ (mkF m 20 #[.val (.long q1), .second] []) _
    refine XS.lloadN X0.here hx rfl (hb hby d32_20) rfl ?_
    refine X0.ldc2Long hx hown (mvT hZ (hwi hw 219 rfl)) (g := (mkF m 21 #[.val (.long q1), .second] [(.long q1)])) rfl (hb hby d32_21) _ ?_
    refine XS.lcmp X0.here hx rfl (hb hby d32_24) rfl ?_
    refine XS.ifNo X0.here hx rfl (hb hby d32_25) rfl ((if0 _ _).trans (tlt hc25).2.1) ?_
    refine XS.iconst X0.here hx rfl (hb hby d32_28) ?_
    show St p e below s₁ (mkF m 29 #[.val (.long q1), .second] [(.int 3)]) _
    exact retI X0 hx Bd.returns (hb hby d32_29) hr
  · show Q_pure (some (.int 3)) h0 n0 _ s₁.heap _
    rw [e0]
    exact ⟨rfl, N0, rfl⟩
theorem d32_30 : decode method_3_code 30 = .ok (.lload_n 0, 1) := by decide +kernel
theorem d32_31 : decode method_3_code 31 = .ok (.ldc2_w 45, 3) := by decide +kernel
theorem d32_34 : decode method_3_code 34 = .ok (.lcmp, 1) := by decide +kernel
theorem d32_35 : decode method_3_code 35 = .ok (.ifCond .ge 5, 3) := by decide +kernel
theorem d32_38 : decode method_3_code 38 = .ok (.iconst 4, 1) := by decide +kernel
theorem d32_39 : decode method_3_code 39 = .ok (.ireturn, 1) := by decide +kernel
set_option maxRecDepth 65536 in
set_option maxHeartbeats 40000000 in
theorem rm_dg_4 (l : Launch) (Z : State) (a0 : Array Value) (hw : ∀ d ∈ tables_1, d.before a0 Z = true) (ws : List Jvm.Cond) (q1 : Int64) (h0 : Heap) (n0 : Nat) (Z0 : n0 ≤ h0.size) (hc5 : ¬ ((lcmpW q1 (10 : Int64)) < (0 : Int32))) (hc15 : ¬ ((lcmpW q1 (100 : Int64)) < (0 : Int32))) (hc25 : ¬ ((lcmpW q1 (1000 : Int64)) < (0 : Int32))) (hc35 : (lcmpW q1 (10000 : Int64)) < (0 : Int32)) :
    MetFree l mn38 (head1 (Jvm.Cond.code mn38 method_3_code 2 (some .int) :: ws) ro2) (fun a U => a = #[(.long q1)] ∧ Z.Warmed39 U.vm ∧ U.heap = h0) (fun _ _ _ _ _ => True) (fun _ U o U' => ∃ v L, o = .returned v ∧ Q_pure (some (.int 4)) h0 n0 v U'.heap L ∧ FrameEnd U o U' L ro2.cells ro2.slots) := by
  refine MetFree.of_bodySF (plainFor_of_name pn_32) hisR ?_
  intro p e s m args below meth c s₁ Bd hml0 hP hK
  obtain ⟨rfl, hZ, hh⟩ := hP
  have hx := Bd.exec
  have hby := Bd.bytes
  have hml : c.maxLocals = 2 := hml0
  have hown : s.vm.findClass "com/example/demarc/demarc/tool/AccountToStringPinLaw" = some m.cls := findClass_of_methodNamed Bd.named
  have hnm := (name_of_methodNamed Bd.named Bd.method).1
  have X0 : Stand p l e ro2 s m #[(.long q1)] below meth c s₁ [] 0 0 := Stand.of_body Bd
  have e0 : s₁.heap = h0 := by rw [← hh, Bd.state]; rfl
  have N0 := Fr.nil n0
  have pre0 : ∀ t, Steps p.tables e below (s₁.setTop (mkF m 0 #[.val (.long q1), .second] [])) t → Steps p.tables e below (s₁.setTop (entryFrame m #[(.long q1)] 2)) t := fun t k => castTop (ef_32_J m q1) k
  obtain ⟨fs, hr, hrun, hended, hW, hsame⟩ := X0.leave (v := some (.int 4)) (fun h => by rw [Bd.returns] at h; cases h)
  refine ⟨_, _, pre0 _ ?_, hrun, hended, _, _, rfl, ?_, ⟨_, rfl⟩, hW, hsame.mono (by decide) (by decide)⟩
  · show St p e below s₁ (mkF m 0 #[.val (.long q1), .second] []) _
    refine XS.lloadN X0.here hx rfl (hb hby d32_0) rfl ?_
    refine X0.ldc2Long hx hown (mvT hZ (hwi hw 177 rfl)) (g := (mkF m 1 #[.val (.long q1), .second] [(.long q1)])) rfl (hb hby d32_1) _ ?_
    refine XS.lcmp X0.here hx rfl (hb hby d32_4) rfl ?_
    refine XS.ifYes X0.here hx rfl (pc0 := 5) (pc' := 10) rfl (hb hby d32_5) rfl ((if0 _ _).trans (flt hc5).2.1) (by decide) (by decide) ?_
    refine XS.lloadN X0.here hx rfl (hb hby d32_10) rfl ?_
    refine X0.ldc2Long hx hown (mvT hZ (hwi hw 218 rfl)) (g := (mkF m 11 #[.val (.long q1), .second] [(.long q1)])) rfl (hb hby d32_11) _ ?_
    refine XS.lcmp X0.here hx rfl (hb hby d32_14) rfl ?_
    refine XS.ifYes X0.here hx rfl (pc0 := 15) (pc' := 20) rfl (hb hby d32_15) rfl ((if0 _ _).trans (flt hc15).2.1) (by decide) (by decide) ?_
    show St p e below s₁ (mkF m 20 #[.val (.long q1), .second] []) _
    refine XS.lloadN X0.here hx rfl (hb hby d32_20) rfl ?_
    refine X0.ldc2Long hx hown (mvT hZ (hwi hw 219 rfl)) (g := (mkF m 21 #[.val (.long q1), .second] [(.long q1)])) rfl (hb hby d32_21) _ ?_
    refine XS.lcmp X0.here hx rfl (hb hby d32_24) rfl ?_
    refine XS.ifYes X0.here hx rfl (pc0 := 25) (pc' := 30) rfl (hb hby d32_25) rfl ((if0 _ _).trans (flt hc25).2.1) (by decide) (by decide) ?_
    refine XS.lloadN X0.here hx rfl (hb hby d32_30) rfl ?_
    refine X0.ldc2Long hx hown (mvT hZ (hwi hw 220 rfl)) (g := (mkF m 31 #[.val (.long q1), .second] [(.long q1)])) rfl (hb hby d32_31) _ ?_
    refine XS.lcmp X0.here hx rfl (hb hby d32_34) rfl ?_
    refine XS.ifNo X0.here hx rfl (hb hby d32_35) rfl ((if0 _ _).trans (tlt hc35).2.1) ?_
    show St p e below s₁ (mkF m 38 #[.val (.long q1), .second] []) _
    refine XS.iconst X0.here hx rfl (hb hby d32_38) ?_
    show St p e below s₁ (mkF m 39 #[.val (.long q1), .second] [(.int 4)]) _
    exact retI X0 hx Bd.returns (hb hby d32_39) hr
  · show Q_pure (some (.int 4)) h0 n0 _ s₁.heap _
    rw [e0]
    exact ⟨rfl, N0, rfl⟩
theorem d32_40 : decode method_3_code 40 = .ok (.lload_n 0, 1) := by decide +kernel
theorem d32_41 : decode method_3_code 41 = .ok (.ldc2_w 47, 3) := by decide +kernel
theorem d32_44 : decode method_3_code 44 = .ok (.lcmp, 1) := by decide +kernel
theorem d32_45 : decode method_3_code 45 = .ok (.ifCond .ge 5, 3) := by decide +kernel
theorem d32_48 : decode method_3_code 48 = .ok (.iconst 5, 1) := by decide +kernel
theorem d32_49 : decode method_3_code 49 = .ok (.ireturn, 1) := by decide +kernel
set_option maxRecDepth 65536 in
set_option maxHeartbeats 40000000 in
theorem rm_dg_5 (l : Launch) (Z : State) (a0 : Array Value) (hw : ∀ d ∈ tables_1, d.before a0 Z = true) (ws : List Jvm.Cond) (q1 : Int64) (h0 : Heap) (n0 : Nat) (Z0 : n0 ≤ h0.size) (hc5 : ¬ ((lcmpW q1 (10 : Int64)) < (0 : Int32))) (hc15 : ¬ ((lcmpW q1 (100 : Int64)) < (0 : Int32))) (hc25 : ¬ ((lcmpW q1 (1000 : Int64)) < (0 : Int32))) (hc35 : ¬ ((lcmpW q1 (10000 : Int64)) < (0 : Int32))) (hc45 : (lcmpW q1 (100000 : Int64)) < (0 : Int32)) :
    MetFree l mn38 (head1 (Jvm.Cond.code mn38 method_3_code 2 (some .int) :: ws) ro2) (fun a U => a = #[(.long q1)] ∧ Z.Warmed39 U.vm ∧ U.heap = h0) (fun _ _ _ _ _ => True) (fun _ U o U' => ∃ v L, o = .returned v ∧ Q_pure (some (.int 5)) h0 n0 v U'.heap L ∧ FrameEnd U o U' L ro2.cells ro2.slots) := by
  refine MetFree.of_bodySF (plainFor_of_name pn_32) hisR ?_
  intro p e s m args below meth c s₁ Bd hml0 hP hK
  obtain ⟨rfl, hZ, hh⟩ := hP
  have hx := Bd.exec
  have hby := Bd.bytes
  have hml : c.maxLocals = 2 := hml0
  have hown : s.vm.findClass "com/example/demarc/demarc/tool/AccountToStringPinLaw" = some m.cls := findClass_of_methodNamed Bd.named
  have hnm := (name_of_methodNamed Bd.named Bd.method).1
  have X0 : Stand p l e ro2 s m #[(.long q1)] below meth c s₁ [] 0 0 := Stand.of_body Bd
  have e0 : s₁.heap = h0 := by rw [← hh, Bd.state]; rfl
  have N0 := Fr.nil n0
  have pre0 : ∀ t, Steps p.tables e below (s₁.setTop (mkF m 0 #[.val (.long q1), .second] [])) t → Steps p.tables e below (s₁.setTop (entryFrame m #[(.long q1)] 2)) t := fun t k => castTop (ef_32_J m q1) k
  obtain ⟨fs, hr, hrun, hended, hW, hsame⟩ := X0.leave (v := some (.int 5)) (fun h => by rw [Bd.returns] at h; cases h)
  refine ⟨_, _, pre0 _ ?_, hrun, hended, _, _, rfl, ?_, ⟨_, rfl⟩, hW, hsame.mono (by decide) (by decide)⟩
  · show St p e below s₁ (mkF m 0 #[.val (.long q1), .second] []) _
    refine XS.lloadN X0.here hx rfl (hb hby d32_0) rfl ?_
    refine X0.ldc2Long hx hown (mvT hZ (hwi hw 177 rfl)) (g := (mkF m 1 #[.val (.long q1), .second] [(.long q1)])) rfl (hb hby d32_1) _ ?_
    refine XS.lcmp X0.here hx rfl (hb hby d32_4) rfl ?_
    refine XS.ifYes X0.here hx rfl (pc0 := 5) (pc' := 10) rfl (hb hby d32_5) rfl ((if0 _ _).trans (flt hc5).2.1) (by decide) (by decide) ?_
    refine XS.lloadN X0.here hx rfl (hb hby d32_10) rfl ?_
    refine X0.ldc2Long hx hown (mvT hZ (hwi hw 218 rfl)) (g := (mkF m 11 #[.val (.long q1), .second] [(.long q1)])) rfl (hb hby d32_11) _ ?_
    refine XS.lcmp X0.here hx rfl (hb hby d32_14) rfl ?_
    refine XS.ifYes X0.here hx rfl (pc0 := 15) (pc' := 20) rfl (hb hby d32_15) rfl ((if0 _ _).trans (flt hc15).2.1) (by decide) (by decide) ?_
    show St p e below s₁ (mkF m 20 #[.val (.long q1), .second] []) _
    refine XS.lloadN X0.here hx rfl (hb hby d32_20) rfl ?_
    refine X0.ldc2Long hx hown (mvT hZ (hwi hw 219 rfl)) (g := (mkF m 21 #[.val (.long q1), .second] [(.long q1)])) rfl (hb hby d32_21) _ ?_
    refine XS.lcmp X0.here hx rfl (hb hby d32_24) rfl ?_
    refine XS.ifYes X0.here hx rfl (pc0 := 25) (pc' := 30) rfl (hb hby d32_25) rfl ((if0 _ _).trans (flt hc25).2.1) (by decide) (by decide) ?_
    refine XS.lloadN X0.here hx rfl (hb hby d32_30) rfl ?_
    refine X0.ldc2Long hx hown (mvT hZ (hwi hw 220 rfl)) (g := (mkF m 31 #[.val (.long q1), .second] [(.long q1)])) rfl (hb hby d32_31) _ ?_
    refine XS.lcmp X0.here hx rfl (hb hby d32_34) rfl ?_
    refine XS.ifYes X0.here hx rfl (pc0 := 35) (pc' := 40) rfl (hb hby d32_35) rfl ((if0 _ _).trans (flt hc35).2.1) (by decide) (by decide) ?_
    show St p e below s₁ (mkF m 40 #[.val (.long q1), .second] []) _
    refine XS.lloadN X0.here hx rfl (hb hby d32_40) rfl ?_
    refine X0.ldc2Long hx hown (mvT hZ (hwi hw 221 rfl)) (g := (mkF m 41 #[.val (.long q1), .second] [(.long q1)])) rfl (hb hby d32_41) _ ?_
    refine XS.lcmp X0.here hx rfl (hb hby d32_44) rfl ?_
    refine XS.ifNo X0.here hx rfl (hb hby d32_45) rfl ((if0 _ _).trans (tlt hc45).2.1) ?_
    refine XS.iconst X0.here hx rfl (hb hby d32_48) ?_
    show St p e below s₁ (mkF m 49 #[.val (.long q1), .second] [(.int 5)]) _
    exact retI X0 hx Bd.returns (hb hby d32_49) hr
  · show Q_pure (some (.int 5)) h0 n0 _ s₁.heap _
    rw [e0]
    exact ⟨rfl, N0, rfl⟩
theorem d32_50 : decode method_3_code 50 = .ok (.lload_n 0, 1) := by decide +kernel
theorem d32_51 : decode method_3_code 51 = .ok (.ldc2_w 49, 3) := by decide +kernel
theorem d32_54 : decode method_3_code 54 = .ok (.lcmp, 1) := by decide +kernel
theorem d32_55 : decode method_3_code 55 = .ok (.ifCond .ge 6, 3) := by decide +kernel
theorem d32_58 : decode method_3_code 58 = .ok (.bipush 6, 2) := by decide +kernel
theorem d32_60 : decode method_3_code 60 = .ok (.ireturn, 1) := by decide +kernel
set_option maxRecDepth 65536 in
set_option maxHeartbeats 40000000 in
theorem rm_dg_6 (l : Launch) (Z : State) (a0 : Array Value) (hw : ∀ d ∈ tables_1, d.before a0 Z = true) (ws : List Jvm.Cond) (q1 : Int64) (h0 : Heap) (n0 : Nat) (Z0 : n0 ≤ h0.size) (hc5 : ¬ ((lcmpW q1 (10 : Int64)) < (0 : Int32))) (hc15 : ¬ ((lcmpW q1 (100 : Int64)) < (0 : Int32))) (hc25 : ¬ ((lcmpW q1 (1000 : Int64)) < (0 : Int32))) (hc35 : ¬ ((lcmpW q1 (10000 : Int64)) < (0 : Int32))) (hc45 : ¬ ((lcmpW q1 (100000 : Int64)) < (0 : Int32))) (hc55 : (lcmpW q1 (1000000 : Int64)) < (0 : Int32)) :
    MetFree l mn38 (head1 (Jvm.Cond.code mn38 method_3_code 2 (some .int) :: ws) ro2) (fun a U => a = #[(.long q1)] ∧ Z.Warmed39 U.vm ∧ U.heap = h0) (fun _ _ _ _ _ => True) (fun _ U o U' => ∃ v L, o = .returned v ∧ Q_pure (some (.int 6)) h0 n0 v U'.heap L ∧ FrameEnd U o U' L ro2.cells ro2.slots) := by
  refine MetFree.of_bodySF (plainFor_of_name pn_32) hisR ?_
  intro p e s m args below meth c s₁ Bd hml0 hP hK
  obtain ⟨rfl, hZ, hh⟩ := hP
  have hx := Bd.exec
  have hby := Bd.bytes
  have hml : c.maxLocals = 2 := hml0
  have hown : s.vm.findClass "com/example/demarc/demarc/tool/AccountToStringPinLaw" = some m.cls := findClass_of_methodNamed Bd.named
  have hnm := (name_of_methodNamed Bd.named Bd.method).1
  have X0 : Stand p l e ro2 s m #[(.long q1)] below meth c s₁ [] 0 0 := Stand.of_body Bd
  have e0 : s₁.heap = h0 := by rw [← hh, Bd.state]; rfl
  have N0 := Fr.nil n0
  have pre0 : ∀ t, Steps p.tables e below (s₁.setTop (mkF m 0 #[.val (.long q1), .second] [])) t → Steps p.tables e below (s₁.setTop (entryFrame m #[(.long q1)] 2)) t := fun t k => castTop (ef_32_J m q1) k
  obtain ⟨fs, hr, hrun, hended, hW, hsame⟩ := X0.leave (v := some (.int 6)) (fun h => by rw [Bd.returns] at h; cases h)
  refine ⟨_, _, pre0 _ ?_, hrun, hended, _, _, rfl, ?_, ⟨_, rfl⟩, hW, hsame.mono (by decide) (by decide)⟩
  · show St p e below s₁ (mkF m 0 #[.val (.long q1), .second] []) _
    refine XS.lloadN X0.here hx rfl (hb hby d32_0) rfl ?_
    refine X0.ldc2Long hx hown (mvT hZ (hwi hw 177 rfl)) (g := (mkF m 1 #[.val (.long q1), .second] [(.long q1)])) rfl (hb hby d32_1) _ ?_
    refine XS.lcmp X0.here hx rfl (hb hby d32_4) rfl ?_
    refine XS.ifYes X0.here hx rfl (pc0 := 5) (pc' := 10) rfl (hb hby d32_5) rfl ((if0 _ _).trans (flt hc5).2.1) (by decide) (by decide) ?_
    refine XS.lloadN X0.here hx rfl (hb hby d32_10) rfl ?_
    refine X0.ldc2Long hx hown (mvT hZ (hwi hw 218 rfl)) (g := (mkF m 11 #[.val (.long q1), .second] [(.long q1)])) rfl (hb hby d32_11) _ ?_
    refine XS.lcmp X0.here hx rfl (hb hby d32_14) rfl ?_
    refine XS.ifYes X0.here hx rfl (pc0 := 15) (pc' := 20) rfl (hb hby d32_15) rfl ((if0 _ _).trans (flt hc15).2.1) (by decide) (by decide) ?_
    show St p e below s₁ (mkF m 20 #[.val (.long q1), .second] []) _
    refine XS.lloadN X0.here hx rfl (hb hby d32_20) rfl ?_
    refine X0.ldc2Long hx hown (mvT hZ (hwi hw 219 rfl)) (g := (mkF m 21 #[.val (.long q1), .second] [(.long q1)])) rfl (hb hby d32_21) _ ?_
    refine XS.lcmp X0.here hx rfl (hb hby d32_24) rfl ?_
    refine XS.ifYes X0.here hx rfl (pc0 := 25) (pc' := 30) rfl (hb hby d32_25) rfl ((if0 _ _).trans (flt hc25).2.1) (by decide) (by decide) ?_
    refine XS.lloadN X0.here hx rfl (hb hby d32_30) rfl ?_
    refine X0.ldc2Long hx hown (mvT hZ (hwi hw 220 rfl)) (g := (mkF m 31 #[.val (.long q1), .second] [(.long q1)])) rfl (hb hby d32_31) _ ?_
    refine XS.lcmp X0.here hx rfl (hb hby d32_34) rfl ?_
    refine XS.ifYes X0.here hx rfl (pc0 := 35) (pc' := 40) rfl (hb hby d32_35) rfl ((if0 _ _).trans (flt hc35).2.1) (by decide) (by decide) ?_
    show St p e below s₁ (mkF m 40 #[.val (.long q1), .second] []) _
    refine XS.lloadN X0.here hx rfl (hb hby d32_40) rfl ?_
    refine X0.ldc2Long hx hown (mvT hZ (hwi hw 221 rfl)) (g := (mkF m 41 #[.val (.long q1), .second] [(.long q1)])) rfl (hb hby d32_41) _ ?_
    refine XS.lcmp X0.here hx rfl (hb hby d32_44) rfl ?_
    refine XS.ifYes X0.here hx rfl (pc0 := 45) (pc' := 50) rfl (hb hby d32_45) rfl ((if0 _ _).trans (flt hc45).2.1) (by decide) (by decide) ?_
    refine XS.lloadN X0.here hx rfl (hb hby d32_50) rfl ?_
    refine X0.ldc2Long hx hown (mvT hZ (hwi hw 222 rfl)) (g := (mkF m 51 #[.val (.long q1), .second] [(.long q1)])) rfl (hb hby d32_51) _ ?_
    refine XS.lcmp X0.here hx rfl (hb hby d32_54) rfl ?_
    refine XS.ifNo X0.here hx rfl (hb hby d32_55) rfl ((if0 _ _).trans (tlt hc55).2.1) ?_
    show St p e below s₁ (mkF m 58 #[.val (.long q1), .second] []) _
    refine XS.bipush X0.here hx rfl (hb hby d32_58) ?_
    show St p e below s₁ (mkF m 60 #[.val (.long q1), .second] [(.int 6)]) _
    exact retI X0 hx Bd.returns (hb hby d32_60) hr
  · show Q_pure (some (.int 6)) h0 n0 _ s₁.heap _
    rw [e0]
    exact ⟨rfl, N0, rfl⟩
theorem d32_61 : decode method_3_code 61 = .ok (.lload_n 0, 1) := by decide +kernel
theorem d32_62 : decode method_3_code 62 = .ok (.ldc2_w 51, 3) := by decide +kernel
theorem d32_65 : decode method_3_code 65 = .ok (.lcmp, 1) := by decide +kernel
theorem d32_66 : decode method_3_code 66 = .ok (.ifCond .ge 6, 3) := by decide +kernel
theorem d32_69 : decode method_3_code 69 = .ok (.bipush 7, 2) := by decide +kernel
theorem d32_71 : decode method_3_code 71 = .ok (.ireturn, 1) := by decide +kernel
set_option maxRecDepth 65536 in
set_option maxHeartbeats 40000000 in
theorem rm_dg_7 (l : Launch) (Z : State) (a0 : Array Value) (hw : ∀ d ∈ tables_1, d.before a0 Z = true) (ws : List Jvm.Cond) (q1 : Int64) (h0 : Heap) (n0 : Nat) (Z0 : n0 ≤ h0.size) (hc5 : ¬ ((lcmpW q1 (10 : Int64)) < (0 : Int32))) (hc15 : ¬ ((lcmpW q1 (100 : Int64)) < (0 : Int32))) (hc25 : ¬ ((lcmpW q1 (1000 : Int64)) < (0 : Int32))) (hc35 : ¬ ((lcmpW q1 (10000 : Int64)) < (0 : Int32))) (hc45 : ¬ ((lcmpW q1 (100000 : Int64)) < (0 : Int32))) (hc55 : ¬ ((lcmpW q1 (1000000 : Int64)) < (0 : Int32))) (hc66 : (lcmpW q1 (10000000 : Int64)) < (0 : Int32)) :
    MetFree l mn38 (head1 (Jvm.Cond.code mn38 method_3_code 2 (some .int) :: ws) ro2) (fun a U => a = #[(.long q1)] ∧ Z.Warmed39 U.vm ∧ U.heap = h0) (fun _ _ _ _ _ => True) (fun _ U o U' => ∃ v L, o = .returned v ∧ Q_pure (some (.int 7)) h0 n0 v U'.heap L ∧ FrameEnd U o U' L ro2.cells ro2.slots) := by
  refine MetFree.of_bodySF (plainFor_of_name pn_32) hisR ?_
  intro p e s m args below meth c s₁ Bd hml0 hP hK
  obtain ⟨rfl, hZ, hh⟩ := hP
  have hx := Bd.exec
  have hby := Bd.bytes
  have hml : c.maxLocals = 2 := hml0
  have hown : s.vm.findClass "com/example/demarc/demarc/tool/AccountToStringPinLaw" = some m.cls := findClass_of_methodNamed Bd.named
  have hnm := (name_of_methodNamed Bd.named Bd.method).1
  have X0 : Stand p l e ro2 s m #[(.long q1)] below meth c s₁ [] 0 0 := Stand.of_body Bd
  have e0 : s₁.heap = h0 := by rw [← hh, Bd.state]; rfl
  have N0 := Fr.nil n0
  have pre0 : ∀ t, Steps p.tables e below (s₁.setTop (mkF m 0 #[.val (.long q1), .second] [])) t → Steps p.tables e below (s₁.setTop (entryFrame m #[(.long q1)] 2)) t := fun t k => castTop (ef_32_J m q1) k
  obtain ⟨fs, hr, hrun, hended, hW, hsame⟩ := X0.leave (v := some (.int 7)) (fun h => by rw [Bd.returns] at h; cases h)
  refine ⟨_, _, pre0 _ ?_, hrun, hended, _, _, rfl, ?_, ⟨_, rfl⟩, hW, hsame.mono (by decide) (by decide)⟩
  · show St p e below s₁ (mkF m 0 #[.val (.long q1), .second] []) _
    refine XS.lloadN X0.here hx rfl (hb hby d32_0) rfl ?_
    refine X0.ldc2Long hx hown (mvT hZ (hwi hw 177 rfl)) (g := (mkF m 1 #[.val (.long q1), .second] [(.long q1)])) rfl (hb hby d32_1) _ ?_
    refine XS.lcmp X0.here hx rfl (hb hby d32_4) rfl ?_
    refine XS.ifYes X0.here hx rfl (pc0 := 5) (pc' := 10) rfl (hb hby d32_5) rfl ((if0 _ _).trans (flt hc5).2.1) (by decide) (by decide) ?_
    refine XS.lloadN X0.here hx rfl (hb hby d32_10) rfl ?_
    refine X0.ldc2Long hx hown (mvT hZ (hwi hw 218 rfl)) (g := (mkF m 11 #[.val (.long q1), .second] [(.long q1)])) rfl (hb hby d32_11) _ ?_
    refine XS.lcmp X0.here hx rfl (hb hby d32_14) rfl ?_
    refine XS.ifYes X0.here hx rfl (pc0 := 15) (pc' := 20) rfl (hb hby d32_15) rfl ((if0 _ _).trans (flt hc15).2.1) (by decide) (by decide) ?_
    show St p e below s₁ (mkF m 20 #[.val (.long q1), .second] []) _
    refine XS.lloadN X0.here hx rfl (hb hby d32_20) rfl ?_
    refine X0.ldc2Long hx hown (mvT hZ (hwi hw 219 rfl)) (g := (mkF m 21 #[.val (.long q1), .second] [(.long q1)])) rfl (hb hby d32_21) _ ?_
    refine XS.lcmp X0.here hx rfl (hb hby d32_24) rfl ?_
    refine XS.ifYes X0.here hx rfl (pc0 := 25) (pc' := 30) rfl (hb hby d32_25) rfl ((if0 _ _).trans (flt hc25).2.1) (by decide) (by decide) ?_
    refine XS.lloadN X0.here hx rfl (hb hby d32_30) rfl ?_
    refine X0.ldc2Long hx hown (mvT hZ (hwi hw 220 rfl)) (g := (mkF m 31 #[.val (.long q1), .second] [(.long q1)])) rfl (hb hby d32_31) _ ?_
    refine XS.lcmp X0.here hx rfl (hb hby d32_34) rfl ?_
    refine XS.ifYes X0.here hx rfl (pc0 := 35) (pc' := 40) rfl (hb hby d32_35) rfl ((if0 _ _).trans (flt hc35).2.1) (by decide) (by decide) ?_
    show St p e below s₁ (mkF m 40 #[.val (.long q1), .second] []) _
    refine XS.lloadN X0.here hx rfl (hb hby d32_40) rfl ?_
    refine X0.ldc2Long hx hown (mvT hZ (hwi hw 221 rfl)) (g := (mkF m 41 #[.val (.long q1), .second] [(.long q1)])) rfl (hb hby d32_41) _ ?_
    refine XS.lcmp X0.here hx rfl (hb hby d32_44) rfl ?_
    refine XS.ifYes X0.here hx rfl (pc0 := 45) (pc' := 50) rfl (hb hby d32_45) rfl ((if0 _ _).trans (flt hc45).2.1) (by decide) (by decide) ?_
    refine XS.lloadN X0.here hx rfl (hb hby d32_50) rfl ?_
    refine X0.ldc2Long hx hown (mvT hZ (hwi hw 222 rfl)) (g := (mkF m 51 #[.val (.long q1), .second] [(.long q1)])) rfl (hb hby d32_51) _ ?_
    refine XS.lcmp X0.here hx rfl (hb hby d32_54) rfl ?_
    refine XS.ifYes X0.here hx rfl (pc0 := 55) (pc' := 61) rfl (hb hby d32_55) rfl ((if0 _ _).trans (flt hc55).2.1) (by decide) (by decide) ?_
    show St p e below s₁ (mkF m 61 #[.val (.long q1), .second] []) _
    refine XS.lloadN X0.here hx rfl (hb hby d32_61) rfl ?_
    refine X0.ldc2Long hx hown (mvT hZ (hwi hw 223 rfl)) (g := (mkF m 62 #[.val (.long q1), .second] [(.long q1)])) rfl (hb hby d32_62) _ ?_
    refine XS.lcmp X0.here hx rfl (hb hby d32_65) rfl ?_
    refine XS.ifNo X0.here hx rfl (hb hby d32_66) rfl ((if0 _ _).trans (tlt hc66).2.1) ?_
    refine XS.bipush X0.here hx rfl (hb hby d32_69) ?_
    show St p e below s₁ (mkF m 71 #[.val (.long q1), .second] [(.int 7)]) _
    exact retI X0 hx Bd.returns (hb hby d32_71) hr
  · show Q_pure (some (.int 7)) h0 n0 _ s₁.heap _
    rw [e0]
    exact ⟨rfl, N0, rfl⟩
theorem d32_72 : decode method_3_code 72 = .ok (.lload_n 0, 1) := by decide +kernel
theorem d32_73 : decode method_3_code 73 = .ok (.ldc2_w 53, 3) := by decide +kernel
theorem d32_76 : decode method_3_code 76 = .ok (.lcmp, 1) := by decide +kernel
theorem d32_77 : decode method_3_code 77 = .ok (.ifCond .ge 6, 3) := by decide +kernel
theorem d32_80 : decode method_3_code 80 = .ok (.bipush 8, 2) := by decide +kernel
theorem d32_82 : decode method_3_code 82 = .ok (.ireturn, 1) := by decide +kernel
set_option maxRecDepth 65536 in
set_option maxHeartbeats 40000000 in
theorem rm_dg_8 (l : Launch) (Z : State) (a0 : Array Value) (hw : ∀ d ∈ tables_1, d.before a0 Z = true) (ws : List Jvm.Cond) (q1 : Int64) (h0 : Heap) (n0 : Nat) (Z0 : n0 ≤ h0.size) (hc5 : ¬ ((lcmpW q1 (10 : Int64)) < (0 : Int32))) (hc15 : ¬ ((lcmpW q1 (100 : Int64)) < (0 : Int32))) (hc25 : ¬ ((lcmpW q1 (1000 : Int64)) < (0 : Int32))) (hc35 : ¬ ((lcmpW q1 (10000 : Int64)) < (0 : Int32))) (hc45 : ¬ ((lcmpW q1 (100000 : Int64)) < (0 : Int32))) (hc55 : ¬ ((lcmpW q1 (1000000 : Int64)) < (0 : Int32))) (hc66 : ¬ ((lcmpW q1 (10000000 : Int64)) < (0 : Int32))) (hc77 : (lcmpW q1 (100000000 : Int64)) < (0 : Int32)) :
    MetFree l mn38 (head1 (Jvm.Cond.code mn38 method_3_code 2 (some .int) :: ws) ro2) (fun a U => a = #[(.long q1)] ∧ Z.Warmed39 U.vm ∧ U.heap = h0) (fun _ _ _ _ _ => True) (fun _ U o U' => ∃ v L, o = .returned v ∧ Q_pure (some (.int 8)) h0 n0 v U'.heap L ∧ FrameEnd U o U' L ro2.cells ro2.slots) := by
  refine MetFree.of_bodySF (plainFor_of_name pn_32) hisR ?_
  intro p e s m args below meth c s₁ Bd hml0 hP hK
  obtain ⟨rfl, hZ, hh⟩ := hP
  have hx := Bd.exec
  have hby := Bd.bytes
  have hml : c.maxLocals = 2 := hml0
  have hown : s.vm.findClass "com/example/demarc/demarc/tool/AccountToStringPinLaw" = some m.cls := findClass_of_methodNamed Bd.named
  have hnm := (name_of_methodNamed Bd.named Bd.method).1
  have X0 : Stand p l e ro2 s m #[(.long q1)] below meth c s₁ [] 0 0 := Stand.of_body Bd
  have e0 : s₁.heap = h0 := by rw [← hh, Bd.state]; rfl
  have N0 := Fr.nil n0
  have pre0 : ∀ t, Steps p.tables e below (s₁.setTop (mkF m 0 #[.val (.long q1), .second] [])) t → Steps p.tables e below (s₁.setTop (entryFrame m #[(.long q1)] 2)) t := fun t k => castTop (ef_32_J m q1) k
  obtain ⟨fs, hr, hrun, hended, hW, hsame⟩ := X0.leave (v := some (.int 8)) (fun h => by rw [Bd.returns] at h; cases h)
  refine ⟨_, _, pre0 _ ?_, hrun, hended, _, _, rfl, ?_, ⟨_, rfl⟩, hW, hsame.mono (by decide) (by decide)⟩
  · show St p e below s₁ (mkF m 0 #[.val (.long q1), .second] []) _
    refine XS.lloadN X0.here hx rfl (hb hby d32_0) rfl ?_
    refine X0.ldc2Long hx hown (mvT hZ (hwi hw 177 rfl)) (g := (mkF m 1 #[.val (.long q1), .second] [(.long q1)])) rfl (hb hby d32_1) _ ?_
    refine XS.lcmp X0.here hx rfl (hb hby d32_4) rfl ?_
    refine XS.ifYes X0.here hx rfl (pc0 := 5) (pc' := 10) rfl (hb hby d32_5) rfl ((if0 _ _).trans (flt hc5).2.1) (by decide) (by decide) ?_
    refine XS.lloadN X0.here hx rfl (hb hby d32_10) rfl ?_
    refine X0.ldc2Long hx hown (mvT hZ (hwi hw 218 rfl)) (g := (mkF m 11 #[.val (.long q1), .second] [(.long q1)])) rfl (hb hby d32_11) _ ?_
    refine XS.lcmp X0.here hx rfl (hb hby d32_14) rfl ?_
    refine XS.ifYes X0.here hx rfl (pc0 := 15) (pc' := 20) rfl (hb hby d32_15) rfl ((if0 _ _).trans (flt hc15).2.1) (by decide) (by decide) ?_
    show St p e below s₁ (mkF m 20 #[.val (.long q1), .second] []) _
    refine XS.lloadN X0.here hx rfl (hb hby d32_20) rfl ?_
    refine X0.ldc2Long hx hown (mvT hZ (hwi hw 219 rfl)) (g := (mkF m 21 #[.val (.long q1), .second] [(.long q1)])) rfl (hb hby d32_21) _ ?_
    refine XS.lcmp X0.here hx rfl (hb hby d32_24) rfl ?_
    refine XS.ifYes X0.here hx rfl (pc0 := 25) (pc' := 30) rfl (hb hby d32_25) rfl ((if0 _ _).trans (flt hc25).2.1) (by decide) (by decide) ?_
    refine XS.lloadN X0.here hx rfl (hb hby d32_30) rfl ?_
    refine X0.ldc2Long hx hown (mvT hZ (hwi hw 220 rfl)) (g := (mkF m 31 #[.val (.long q1), .second] [(.long q1)])) rfl (hb hby d32_31) _ ?_
    refine XS.lcmp X0.here hx rfl (hb hby d32_34) rfl ?_
    refine XS.ifYes X0.here hx rfl (pc0 := 35) (pc' := 40) rfl (hb hby d32_35) rfl ((if0 _ _).trans (flt hc35).2.1) (by decide) (by decide) ?_
    show St p e below s₁ (mkF m 40 #[.val (.long q1), .second] []) _
    refine XS.lloadN X0.here hx rfl (hb hby d32_40) rfl ?_
    refine X0.ldc2Long hx hown (mvT hZ (hwi hw 221 rfl)) (g := (mkF m 41 #[.val (.long q1), .second] [(.long q1)])) rfl (hb hby d32_41) _ ?_
    refine XS.lcmp X0.here hx rfl (hb hby d32_44) rfl ?_
    refine XS.ifYes X0.here hx rfl (pc0 := 45) (pc' := 50) rfl (hb hby d32_45) rfl ((if0 _ _).trans (flt hc45).2.1) (by decide) (by decide) ?_
    refine XS.lloadN X0.here hx rfl (hb hby d32_50) rfl ?_
    refine X0.ldc2Long hx hown (mvT hZ (hwi hw 222 rfl)) (g := (mkF m 51 #[.val (.long q1), .second] [(.long q1)])) rfl (hb hby d32_51) _ ?_
    refine XS.lcmp X0.here hx rfl (hb hby d32_54) rfl ?_
    refine XS.ifYes X0.here hx rfl (pc0 := 55) (pc' := 61) rfl (hb hby d32_55) rfl ((if0 _ _).trans (flt hc55).2.1) (by decide) (by decide) ?_
    show St p e below s₁ (mkF m 61 #[.val (.long q1), .second] []) _
    refine XS.lloadN X0.here hx rfl (hb hby d32_61) rfl ?_
    refine X0.ldc2Long hx hown (mvT hZ (hwi hw 223 rfl)) (g := (mkF m 62 #[.val (.long q1), .second] [(.long q1)])) rfl (hb hby d32_62) _ ?_
    refine XS.lcmp X0.here hx rfl (hb hby d32_65) rfl ?_
    refine XS.ifYes X0.here hx rfl (pc0 := 66) (pc' := 72) rfl (hb hby d32_66) rfl ((if0 _ _).trans (flt hc66).2.1) (by decide) (by decide) ?_
    refine XS.lloadN X0.here hx rfl (hb hby d32_72) rfl ?_
    refine X0.ldc2Long hx hown (mvT hZ (hwi hw 224 rfl)) (g := (mkF m 73 #[.val (.long q1), .second] [(.long q1)])) rfl (hb hby d32_73) _ ?_
    refine XS.lcmp X0.here hx rfl (hb hby d32_76) rfl ?_
    refine XS.ifNo X0.here hx rfl (hb hby d32_77) rfl ((if0 _ _).trans (tlt hc77).2.1) ?_
    show St p e below s₁ (mkF m 80 #[.val (.long q1), .second] []) _
    refine XS.bipush X0.here hx rfl (hb hby d32_80) ?_
    show St p e below s₁ (mkF m 82 #[.val (.long q1), .second] [(.int 8)]) _
    exact retI X0 hx Bd.returns (hb hby d32_82) hr
  · show Q_pure (some (.int 8)) h0 n0 _ s₁.heap _
    rw [e0]
    exact ⟨rfl, N0, rfl⟩
theorem d32_83 : decode method_3_code 83 = .ok (.lload_n 0, 1) := by decide +kernel
theorem d32_84 : decode method_3_code 84 = .ok (.ldc2_w 55, 3) := by decide +kernel
theorem d32_87 : decode method_3_code 87 = .ok (.lcmp, 1) := by decide +kernel
theorem d32_88 : decode method_3_code 88 = .ok (.ifCond .ge 6, 3) := by decide +kernel
theorem d32_91 : decode method_3_code 91 = .ok (.bipush 9, 2) := by decide +kernel
theorem d32_93 : decode method_3_code 93 = .ok (.ireturn, 1) := by decide +kernel
set_option maxRecDepth 65536 in
set_option maxHeartbeats 40000000 in
theorem rm_dg_9 (l : Launch) (Z : State) (a0 : Array Value) (hw : ∀ d ∈ tables_1, d.before a0 Z = true) (ws : List Jvm.Cond) (q1 : Int64) (h0 : Heap) (n0 : Nat) (Z0 : n0 ≤ h0.size) (hc5 : ¬ ((lcmpW q1 (10 : Int64)) < (0 : Int32))) (hc15 : ¬ ((lcmpW q1 (100 : Int64)) < (0 : Int32))) (hc25 : ¬ ((lcmpW q1 (1000 : Int64)) < (0 : Int32))) (hc35 : ¬ ((lcmpW q1 (10000 : Int64)) < (0 : Int32))) (hc45 : ¬ ((lcmpW q1 (100000 : Int64)) < (0 : Int32))) (hc55 : ¬ ((lcmpW q1 (1000000 : Int64)) < (0 : Int32))) (hc66 : ¬ ((lcmpW q1 (10000000 : Int64)) < (0 : Int32))) (hc77 : ¬ ((lcmpW q1 (100000000 : Int64)) < (0 : Int32))) (hc88 : (lcmpW q1 (1000000000 : Int64)) < (0 : Int32)) :
    MetFree l mn38 (head1 (Jvm.Cond.code mn38 method_3_code 2 (some .int) :: ws) ro2) (fun a U => a = #[(.long q1)] ∧ Z.Warmed39 U.vm ∧ U.heap = h0) (fun _ _ _ _ _ => True) (fun _ U o U' => ∃ v L, o = .returned v ∧ Q_pure (some (.int 9)) h0 n0 v U'.heap L ∧ FrameEnd U o U' L ro2.cells ro2.slots) := by
  refine MetFree.of_bodySF (plainFor_of_name pn_32) hisR ?_
  intro p e s m args below meth c s₁ Bd hml0 hP hK
  obtain ⟨rfl, hZ, hh⟩ := hP
  have hx := Bd.exec
  have hby := Bd.bytes
  have hml : c.maxLocals = 2 := hml0
  have hown : s.vm.findClass "com/example/demarc/demarc/tool/AccountToStringPinLaw" = some m.cls := findClass_of_methodNamed Bd.named
  have hnm := (name_of_methodNamed Bd.named Bd.method).1
  have X0 : Stand p l e ro2 s m #[(.long q1)] below meth c s₁ [] 0 0 := Stand.of_body Bd
  have e0 : s₁.heap = h0 := by rw [← hh, Bd.state]; rfl
  have N0 := Fr.nil n0
  have pre0 : ∀ t, Steps p.tables e below (s₁.setTop (mkF m 0 #[.val (.long q1), .second] [])) t → Steps p.tables e below (s₁.setTop (entryFrame m #[(.long q1)] 2)) t := fun t k => castTop (ef_32_J m q1) k
  obtain ⟨fs, hr, hrun, hended, hW, hsame⟩ := X0.leave (v := some (.int 9)) (fun h => by rw [Bd.returns] at h; cases h)
  refine ⟨_, _, pre0 _ ?_, hrun, hended, _, _, rfl, ?_, ⟨_, rfl⟩, hW, hsame.mono (by decide) (by decide)⟩
  · show St p e below s₁ (mkF m 0 #[.val (.long q1), .second] []) _
    refine XS.lloadN X0.here hx rfl (hb hby d32_0) rfl ?_
    refine X0.ldc2Long hx hown (mvT hZ (hwi hw 177 rfl)) (g := (mkF m 1 #[.val (.long q1), .second] [(.long q1)])) rfl (hb hby d32_1) _ ?_
    refine XS.lcmp X0.here hx rfl (hb hby d32_4) rfl ?_
    refine XS.ifYes X0.here hx rfl (pc0 := 5) (pc' := 10) rfl (hb hby d32_5) rfl ((if0 _ _).trans (flt hc5).2.1) (by decide) (by decide) ?_
    refine XS.lloadN X0.here hx rfl (hb hby d32_10) rfl ?_
    refine X0.ldc2Long hx hown (mvT hZ (hwi hw 218 rfl)) (g := (mkF m 11 #[.val (.long q1), .second] [(.long q1)])) rfl (hb hby d32_11) _ ?_
    refine XS.lcmp X0.here hx rfl (hb hby d32_14) rfl ?_
    refine XS.ifYes X0.here hx rfl (pc0 := 15) (pc' := 20) rfl (hb hby d32_15) rfl ((if0 _ _).trans (flt hc15).2.1) (by decide) (by decide) ?_
    show St p e below s₁ (mkF m 20 #[.val (.long q1), .second] []) _
    refine XS.lloadN X0.here hx rfl (hb hby d32_20) rfl ?_
    refine X0.ldc2Long hx hown (mvT hZ (hwi hw 219 rfl)) (g := (mkF m 21 #[.val (.long q1), .second] [(.long q1)])) rfl (hb hby d32_21) _ ?_
    refine XS.lcmp X0.here hx rfl (hb hby d32_24) rfl ?_
    refine XS.ifYes X0.here hx rfl (pc0 := 25) (pc' := 30) rfl (hb hby d32_25) rfl ((if0 _ _).trans (flt hc25).2.1) (by decide) (by decide) ?_
    refine XS.lloadN X0.here hx rfl (hb hby d32_30) rfl ?_
    refine X0.ldc2Long hx hown (mvT hZ (hwi hw 220 rfl)) (g := (mkF m 31 #[.val (.long q1), .second] [(.long q1)])) rfl (hb hby d32_31) _ ?_
    refine XS.lcmp X0.here hx rfl (hb hby d32_34) rfl ?_
    refine XS.ifYes X0.here hx rfl (pc0 := 35) (pc' := 40) rfl (hb hby d32_35) rfl ((if0 _ _).trans (flt hc35).2.1) (by decide) (by decide) ?_
    show St p e below s₁ (mkF m 40 #[.val (.long q1), .second] []) _
    refine XS.lloadN X0.here hx rfl (hb hby d32_40) rfl ?_
    refine X0.ldc2Long hx hown (mvT hZ (hwi hw 221 rfl)) (g := (mkF m 41 #[.val (.long q1), .second] [(.long q1)])) rfl (hb hby d32_41) _ ?_
    refine XS.lcmp X0.here hx rfl (hb hby d32_44) rfl ?_
    refine XS.ifYes X0.here hx rfl (pc0 := 45) (pc' := 50) rfl (hb hby d32_45) rfl ((if0 _ _).trans (flt hc45).2.1) (by decide) (by decide) ?_
    refine XS.lloadN X0.here hx rfl (hb hby d32_50) rfl ?_
    refine X0.ldc2Long hx hown (mvT hZ (hwi hw 222 rfl)) (g := (mkF m 51 #[.val (.long q1), .second] [(.long q1)])) rfl (hb hby d32_51) _ ?_
    refine XS.lcmp X0.here hx rfl (hb hby d32_54) rfl ?_
    refine XS.ifYes X0.here hx rfl (pc0 := 55) (pc' := 61) rfl (hb hby d32_55) rfl ((if0 _ _).trans (flt hc55).2.1) (by decide) (by decide) ?_
    show St p e below s₁ (mkF m 61 #[.val (.long q1), .second] []) _
    refine XS.lloadN X0.here hx rfl (hb hby d32_61) rfl ?_
    refine X0.ldc2Long hx hown (mvT hZ (hwi hw 223 rfl)) (g := (mkF m 62 #[.val (.long q1), .second] [(.long q1)])) rfl (hb hby d32_62) _ ?_
    refine XS.lcmp X0.here hx rfl (hb hby d32_65) rfl ?_
    refine XS.ifYes X0.here hx rfl (pc0 := 66) (pc' := 72) rfl (hb hby d32_66) rfl ((if0 _ _).trans (flt hc66).2.1) (by decide) (by decide) ?_
    refine XS.lloadN X0.here hx rfl (hb hby d32_72) rfl ?_
    refine X0.ldc2Long hx hown (mvT hZ (hwi hw 224 rfl)) (g := (mkF m 73 #[.val (.long q1), .second] [(.long q1)])) rfl (hb hby d32_73) _ ?_
    refine XS.lcmp X0.here hx rfl (hb hby d32_76) rfl ?_
    refine XS.ifYes X0.here hx rfl (pc0 := 77) (pc' := 83) rfl (hb hby d32_77) rfl ((if0 _ _).trans (flt hc77).2.1) (by decide) (by decide) ?_
    show St p e below s₁ (mkF m 83 #[.val (.long q1), .second] []) _
    refine XS.lloadN X0.here hx rfl (hb hby d32_83) rfl ?_
    refine X0.ldc2Long hx hown (mvT hZ (hwi hw 225 rfl)) (g := (mkF m 84 #[.val (.long q1), .second] [(.long q1)])) rfl (hb hby d32_84) _ ?_
    refine XS.lcmp X0.here hx rfl (hb hby d32_87) rfl ?_
    refine XS.ifNo X0.here hx rfl (hb hby d32_88) rfl ((if0 _ _).trans (tlt hc88).2.1) ?_
    refine XS.bipush X0.here hx rfl (hb hby d32_91) ?_
    show St p e below s₁ (mkF m 93 #[.val (.long q1), .second] [(.int 9)]) _
    exact retI X0 hx Bd.returns (hb hby d32_93) hr
  · show Q_pure (some (.int 9)) h0 n0 _ s₁.heap _
    rw [e0]
    exact ⟨rfl, N0, rfl⟩
theorem d32_94 : decode method_3_code 94 = .ok (.bipush 10, 2) := by decide +kernel
theorem d32_96 : decode method_3_code 96 = .ok (.ireturn, 1) := by decide +kernel
set_option maxRecDepth 65536 in
set_option maxHeartbeats 40000000 in
theorem rm_dg_10 (l : Launch) (Z : State) (a0 : Array Value) (hw : ∀ d ∈ tables_1, d.before a0 Z = true) (ws : List Jvm.Cond) (q1 : Int64) (h0 : Heap) (n0 : Nat) (Z0 : n0 ≤ h0.size) (hc5 : ¬ ((lcmpW q1 (10 : Int64)) < (0 : Int32))) (hc15 : ¬ ((lcmpW q1 (100 : Int64)) < (0 : Int32))) (hc25 : ¬ ((lcmpW q1 (1000 : Int64)) < (0 : Int32))) (hc35 : ¬ ((lcmpW q1 (10000 : Int64)) < (0 : Int32))) (hc45 : ¬ ((lcmpW q1 (100000 : Int64)) < (0 : Int32))) (hc55 : ¬ ((lcmpW q1 (1000000 : Int64)) < (0 : Int32))) (hc66 : ¬ ((lcmpW q1 (10000000 : Int64)) < (0 : Int32))) (hc77 : ¬ ((lcmpW q1 (100000000 : Int64)) < (0 : Int32))) (hc88 : ¬ ((lcmpW q1 (1000000000 : Int64)) < (0 : Int32))) :
    MetFree l mn38 (head1 (Jvm.Cond.code mn38 method_3_code 2 (some .int) :: ws) ro2) (fun a U => a = #[(.long q1)] ∧ Z.Warmed39 U.vm ∧ U.heap = h0) (fun _ _ _ _ _ => True) (fun _ U o U' => ∃ v L, o = .returned v ∧ Q_pure (some (.int 10)) h0 n0 v U'.heap L ∧ FrameEnd U o U' L ro2.cells ro2.slots) := by
  refine MetFree.of_bodySF (plainFor_of_name pn_32) hisR ?_
  intro p e s m args below meth c s₁ Bd hml0 hP hK
  obtain ⟨rfl, hZ, hh⟩ := hP
  have hx := Bd.exec
  have hby := Bd.bytes
  have hml : c.maxLocals = 2 := hml0
  have hown : s.vm.findClass "com/example/demarc/demarc/tool/AccountToStringPinLaw" = some m.cls := findClass_of_methodNamed Bd.named
  have hnm := (name_of_methodNamed Bd.named Bd.method).1
  have X0 : Stand p l e ro2 s m #[(.long q1)] below meth c s₁ [] 0 0 := Stand.of_body Bd
  have e0 : s₁.heap = h0 := by rw [← hh, Bd.state]; rfl
  have N0 := Fr.nil n0
  have pre0 : ∀ t, Steps p.tables e below (s₁.setTop (mkF m 0 #[.val (.long q1), .second] [])) t → Steps p.tables e below (s₁.setTop (entryFrame m #[(.long q1)] 2)) t := fun t k => castTop (ef_32_J m q1) k
  obtain ⟨fs, hr, hrun, hended, hW, hsame⟩ := X0.leave (v := some (.int 10)) (fun h => by rw [Bd.returns] at h; cases h)
  refine ⟨_, _, pre0 _ ?_, hrun, hended, _, _, rfl, ?_, ⟨_, rfl⟩, hW, hsame.mono (by decide) (by decide)⟩
  · show St p e below s₁ (mkF m 0 #[.val (.long q1), .second] []) _
    refine XS.lloadN X0.here hx rfl (hb hby d32_0) rfl ?_
    refine X0.ldc2Long hx hown (mvT hZ (hwi hw 177 rfl)) (g := (mkF m 1 #[.val (.long q1), .second] [(.long q1)])) rfl (hb hby d32_1) _ ?_
    refine XS.lcmp X0.here hx rfl (hb hby d32_4) rfl ?_
    refine XS.ifYes X0.here hx rfl (pc0 := 5) (pc' := 10) rfl (hb hby d32_5) rfl ((if0 _ _).trans (flt hc5).2.1) (by decide) (by decide) ?_
    refine XS.lloadN X0.here hx rfl (hb hby d32_10) rfl ?_
    refine X0.ldc2Long hx hown (mvT hZ (hwi hw 218 rfl)) (g := (mkF m 11 #[.val (.long q1), .second] [(.long q1)])) rfl (hb hby d32_11) _ ?_
    refine XS.lcmp X0.here hx rfl (hb hby d32_14) rfl ?_
    refine XS.ifYes X0.here hx rfl (pc0 := 15) (pc' := 20) rfl (hb hby d32_15) rfl ((if0 _ _).trans (flt hc15).2.1) (by decide) (by decide) ?_
    show St p e below s₁ (mkF m 20 #[.val (.long q1), .second] []) _
    refine XS.lloadN X0.here hx rfl (hb hby d32_20) rfl ?_
    refine X0.ldc2Long hx hown (mvT hZ (hwi hw 219 rfl)) (g := (mkF m 21 #[.val (.long q1), .second] [(.long q1)])) rfl (hb hby d32_21) _ ?_
    refine XS.lcmp X0.here hx rfl (hb hby d32_24) rfl ?_
    refine XS.ifYes X0.here hx rfl (pc0 := 25) (pc' := 30) rfl (hb hby d32_25) rfl ((if0 _ _).trans (flt hc25).2.1) (by decide) (by decide) ?_
    refine XS.lloadN X0.here hx rfl (hb hby d32_30) rfl ?_
    refine X0.ldc2Long hx hown (mvT hZ (hwi hw 220 rfl)) (g := (mkF m 31 #[.val (.long q1), .second] [(.long q1)])) rfl (hb hby d32_31) _ ?_
    refine XS.lcmp X0.here hx rfl (hb hby d32_34) rfl ?_
    refine XS.ifYes X0.here hx rfl (pc0 := 35) (pc' := 40) rfl (hb hby d32_35) rfl ((if0 _ _).trans (flt hc35).2.1) (by decide) (by decide) ?_
    show St p e below s₁ (mkF m 40 #[.val (.long q1), .second] []) _
    refine XS.lloadN X0.here hx rfl (hb hby d32_40) rfl ?_
    refine X0.ldc2Long hx hown (mvT hZ (hwi hw 221 rfl)) (g := (mkF m 41 #[.val (.long q1), .second] [(.long q1)])) rfl (hb hby d32_41) _ ?_
    refine XS.lcmp X0.here hx rfl (hb hby d32_44) rfl ?_
    refine XS.ifYes X0.here hx rfl (pc0 := 45) (pc' := 50) rfl (hb hby d32_45) rfl ((if0 _ _).trans (flt hc45).2.1) (by decide) (by decide) ?_
    refine XS.lloadN X0.here hx rfl (hb hby d32_50) rfl ?_
    refine X0.ldc2Long hx hown (mvT hZ (hwi hw 222 rfl)) (g := (mkF m 51 #[.val (.long q1), .second] [(.long q1)])) rfl (hb hby d32_51) _ ?_
    refine XS.lcmp X0.here hx rfl (hb hby d32_54) rfl ?_
    refine XS.ifYes X0.here hx rfl (pc0 := 55) (pc' := 61) rfl (hb hby d32_55) rfl ((if0 _ _).trans (flt hc55).2.1) (by decide) (by decide) ?_
    show St p e below s₁ (mkF m 61 #[.val (.long q1), .second] []) _
    refine XS.lloadN X0.here hx rfl (hb hby d32_61) rfl ?_
    refine X0.ldc2Long hx hown (mvT hZ (hwi hw 223 rfl)) (g := (mkF m 62 #[.val (.long q1), .second] [(.long q1)])) rfl (hb hby d32_62) _ ?_
    refine XS.lcmp X0.here hx rfl (hb hby d32_65) rfl ?_
    refine XS.ifYes X0.here hx rfl (pc0 := 66) (pc' := 72) rfl (hb hby d32_66) rfl ((if0 _ _).trans (flt hc66).2.1) (by decide) (by decide) ?_
    refine XS.lloadN X0.here hx rfl (hb hby d32_72) rfl ?_
    refine X0.ldc2Long hx hown (mvT hZ (hwi hw 224 rfl)) (g := (mkF m 73 #[.val (.long q1), .second] [(.long q1)])) rfl (hb hby d32_73) _ ?_
    refine XS.lcmp X0.here hx rfl (hb hby d32_76) rfl ?_
    refine XS.ifYes X0.here hx rfl (pc0 := 77) (pc' := 83) rfl (hb hby d32_77) rfl ((if0 _ _).trans (flt hc77).2.1) (by decide) (by decide) ?_
    show St p e below s₁ (mkF m 83 #[.val (.long q1), .second] []) _
    refine XS.lloadN X0.here hx rfl (hb hby d32_83) rfl ?_
    refine X0.ldc2Long hx hown (mvT hZ (hwi hw 225 rfl)) (g := (mkF m 84 #[.val (.long q1), .second] [(.long q1)])) rfl (hb hby d32_84) _ ?_
    refine XS.lcmp X0.here hx rfl (hb hby d32_87) rfl ?_
    refine XS.ifYes X0.here hx rfl (pc0 := 88) (pc' := 94) rfl (hb hby d32_88) rfl ((if0 _ _).trans (flt hc88).2.1) (by decide) (by decide) ?_
    refine XS.bipush X0.here hx rfl (hb hby d32_94) ?_
    show St p e below s₁ (mkF m 96 #[.val (.long q1), .second] [(.int 10)]) _
    exact retI X0 hx Bd.returns (hb hby d32_96) hr
  · show Q_pure (some (.int 10)) h0 n0 _ s₁.heap _
    rw [e0]
    exact ⟨rfl, N0, rfl⟩
theorem rm_digs (l : Launch) (Z : State) (a0 : Array Value) (hw : ∀ d ∈ tables_1, d.before a0 Z = true) (ws : List Jvm.Cond) (q1 : Int64) (n : Nat) (dd : Int32) (h0 : Heap) (n0 : Nat) (Z0 : n0 ≤ h0.size) (hdg : own_dg q1 n dd) :
    MetFree l mn38 (head1 (Jvm.Cond.code mn38 method_3_code 2 (some .int) :: ws) ro2) (fun a U => a = #[(.long q1)] ∧ Z.Warmed39 U.vm ∧ U.heap = h0) (fun _ _ _ _ _ => True) (fun _ U o U' => ∃ v L, o = .returned v ∧ Q_pure (some (.int dd)) h0 n0 v U'.heap L ∧ FrameEnd U o U' L ro2.cells ro2.slots) := by
  obtain ⟨h1, h2, rfl⟩ := hdg
  have key : ∀ K : Nat, K ≤ 2 ^ 31 → ((lcmpW q1 (Int64.ofNat K)) < (0 : Int32) ↔ n < K) := fun K hK => by
    rw [lw_lt, Int64.lt_iff_toInt_lt, h1, Int64.toInt_ofNat_of_lt (by omega)]; omega
  have k1 : (lcmpW q1 (10 : Int64)) < (0 : Int32) ↔ n < 10 := key 10 (by decide)
  have k2 : (lcmpW q1 (100 : Int64)) < (0 : Int32) ↔ n < 100 := key 100 (by decide)
  have k3 : (lcmpW q1 (1000 : Int64)) < (0 : Int32) ↔ n < 1000 := key 1000 (by decide)
  have k4 : (lcmpW q1 (10000 : Int64)) < (0 : Int32) ↔ n < 10000 := key 10000 (by decide)
  have k5 : (lcmpW q1 (100000 : Int64)) < (0 : Int32) ↔ n < 100000 := key 100000 (by decide)
  have k6 : (lcmpW q1 (1000000 : Int64)) < (0 : Int32) ↔ n < 1000000 := key 1000000 (by decide)
  have k7 : (lcmpW q1 (10000000 : Int64)) < (0 : Int32) ↔ n < 10000000 := key 10000000 (by decide)
  have k8 : (lcmpW q1 (100000000 : Int64)) < (0 : Int32) ↔ n < 100000000 := key 100000000 (by decide)
  have k9 : (lcmpW q1 (1000000000 : Int64)) < (0 : Int32) ↔ n < 1000000000 := key 1000000000 (by decide)
  by_cases c1 : n < 10
  · have e : Jvm.Free.SBG.digits n = 1 := by unfold Jvm.Free.SBG.digits; rw [if_pos c1]
    rw [e]; exact rm_dg_1 l Z a0 hw ws q1 h0 n0 Z0 (k1.mpr c1)
  by_cases c2 : n < 100
  · have e : Jvm.Free.SBG.digits n = 2 := by unfold Jvm.Free.SBG.digits; rw [if_neg c1, if_pos c2]
    rw [e]; exact rm_dg_2 l Z a0 hw ws q1 h0 n0 Z0 (fun q => c1 (k1.mp q)) (k2.mpr c2)
  by_cases c3 : n < 1000
  · have e : Jvm.Free.SBG.digits n = 3 := by unfold Jvm.Free.SBG.digits; rw [if_neg c1, if_neg c2, if_pos c3]
    rw [e]; exact rm_dg_3 l Z a0 hw ws q1 h0 n0 Z0 (fun q => c1 (k1.mp q)) (fun q => c2 (k2.mp q)) (k3.mpr c3)
  by_cases c4 : n < 10000
  · have e : Jvm.Free.SBG.digits n = 4 := by unfold Jvm.Free.SBG.digits; rw [if_neg c1, if_neg c2, if_neg c3, if_pos c4]
    rw [e]; exact rm_dg_4 l Z a0 hw ws q1 h0 n0 Z0 (fun q => c1 (k1.mp q)) (fun q => c2 (k2.mp q)) (fun q => c3 (k3.mp q)) (k4.mpr c4)
  by_cases c5 : n < 100000
  · have e : Jvm.Free.SBG.digits n = 5 := by unfold Jvm.Free.SBG.digits; rw [if_neg c1, if_neg c2, if_neg c3, if_neg c4, if_pos c5]
    rw [e]; exact rm_dg_5 l Z a0 hw ws q1 h0 n0 Z0 (fun q => c1 (k1.mp q)) (fun q => c2 (k2.mp q)) (fun q => c3 (k3.mp q)) (fun q => c4 (k4.mp q)) (k5.mpr c5)
  by_cases c6 : n < 1000000
  · have e : Jvm.Free.SBG.digits n = 6 := by unfold Jvm.Free.SBG.digits; rw [if_neg c1, if_neg c2, if_neg c3, if_neg c4, if_neg c5, if_pos c6]
    rw [e]; exact rm_dg_6 l Z a0 hw ws q1 h0 n0 Z0 (fun q => c1 (k1.mp q)) (fun q => c2 (k2.mp q)) (fun q => c3 (k3.mp q)) (fun q => c4 (k4.mp q)) (fun q => c5 (k5.mp q)) (k6.mpr c6)
  by_cases c7 : n < 10000000
  · have e : Jvm.Free.SBG.digits n = 7 := by unfold Jvm.Free.SBG.digits; rw [if_neg c1, if_neg c2, if_neg c3, if_neg c4, if_neg c5, if_neg c6, if_pos c7]
    rw [e]; exact rm_dg_7 l Z a0 hw ws q1 h0 n0 Z0 (fun q => c1 (k1.mp q)) (fun q => c2 (k2.mp q)) (fun q => c3 (k3.mp q)) (fun q => c4 (k4.mp q)) (fun q => c5 (k5.mp q)) (fun q => c6 (k6.mp q)) (k7.mpr c7)
  by_cases c8 : n < 100000000
  · have e : Jvm.Free.SBG.digits n = 8 := by unfold Jvm.Free.SBG.digits; rw [if_neg c1, if_neg c2, if_neg c3, if_neg c4, if_neg c5, if_neg c6, if_neg c7, if_pos c8]
    rw [e]; exact rm_dg_8 l Z a0 hw ws q1 h0 n0 Z0 (fun q => c1 (k1.mp q)) (fun q => c2 (k2.mp q)) (fun q => c3 (k3.mp q)) (fun q => c4 (k4.mp q)) (fun q => c5 (k5.mp q)) (fun q => c6 (k6.mp q)) (fun q => c7 (k7.mp q)) (k8.mpr c8)
  by_cases c9 : n < 1000000000
  · have e : Jvm.Free.SBG.digits n = 9 := by unfold Jvm.Free.SBG.digits; rw [if_neg c1, if_neg c2, if_neg c3, if_neg c4, if_neg c5, if_neg c6, if_neg c7, if_neg c8, if_pos c9]
    rw [e]; exact rm_dg_9 l Z a0 hw ws q1 h0 n0 Z0 (fun q => c1 (k1.mp q)) (fun q => c2 (k2.mp q)) (fun q => c3 (k3.mp q)) (fun q => c4 (k4.mp q)) (fun q => c5 (k5.mp q)) (fun q => c6 (k6.mp q)) (fun q => c7 (k7.mp q)) (fun q => c8 (k8.mp q)) (k9.mpr c9)
  have e : Jvm.Free.SBG.digits n = 10 := by unfold Jvm.Free.SBG.digits; rw [if_neg c1, if_neg c2, if_neg c3, if_neg c4, if_neg c5, if_neg c6, if_neg c7, if_neg c8, if_neg c9]
  rw [e]; exact rm_dg_10 l Z a0 hw ws q1 h0 n0 Z0 (fun q => c1 (k1.mp q)) (fun q => c2 (k2.mp q)) (fun q => c3 (k3.mp q)) (fun q => c4 (k4.mp q)) (fun q => c5 (k5.mp q)) (fun q => c6 (k6.mp q)) (fun q => c7 (k7.mp q)) (fun q => c8 (k8.mp q)) (fun q => c9 (k9.mp q))
theorem d39_0 : decode method_4_code 0 = .ok (.iload_n 0, 1) := by decide +kernel
theorem d39_1 : decode method_4_code 1 = .ok (.ifCond .ne 5, 3) := by decide +kernel
theorem d39_4 : decode method_4_code 4 = .ok (.lconst 1, 1) := by decide +kernel
theorem d39_5 : decode method_4_code 5 = .ok (.lreturn, 1) := by decide +kernel
theorem pn_39 : plainName "com/example/demarc/demarc/tool/AccountToStringPinLaw" = true := by first | (simp [plainName, overriddenIn]; done) | decide +kernel
theorem ef_39_I (m : MethodId) (x0 : Int32) : entryFrame m #[(.int x0)] 1 = mkF m 0 #[.val (.int x0)] [] := by first | (simp [entryFrame, mkF, argsToLocals, Value.category]; done) | rfl
set_option maxRecDepth 65536 in
set_option maxHeartbeats 40000000 in
theorem rm_pw_0 (l : Launch) (Z : State) (a0 : Array Value) (hw : ∀ d ∈ tables_1, d.before a0 Z = true) (ws : List Jvm.Cond)  (h0 : Heap) (n0 : Nat) (Z0 : n0 ≤ h0.size) :
    MetFree l mn39 (head1 (Jvm.Cond.code mn39 method_4_code 1 (some .long) :: ws) ro2) (fun a U => a = #[(.int 0)] ∧ Z.Warmed39 U.vm ∧ U.heap = h0) (fun _ _ _ _ _ => True) (fun _ U o U' => ∃ v L, o = .returned v ∧ Q_pure (some (.long 1)) h0 n0 v U'.heap L ∧ FrameEnd U o U' L ro2.cells ro2.slots) := by
  refine MetFree.of_bodySF (plainFor_of_name pn_39) hisR ?_
  intro p e s m args below meth c s₁ Bd hml0 hP hK
  obtain ⟨rfl, hZ, hh⟩ := hP
  have hx := Bd.exec
  have hby := Bd.bytes
  have hml : c.maxLocals = 1 := hml0
  have hown : s.vm.findClass "com/example/demarc/demarc/tool/AccountToStringPinLaw" = some m.cls := findClass_of_methodNamed Bd.named
  have hnm := (name_of_methodNamed Bd.named Bd.method).1
  have X0 : Stand p l e ro2 s m #[(.int 0)] below meth c s₁ [] 0 0 := Stand.of_body Bd
  have e0 : s₁.heap = h0 := by rw [← hh, Bd.state]; rfl
  have N0 := Fr.nil n0
  have pre0 : ∀ t, Steps p.tables e below (s₁.setTop (mkF m 0 #[.val (.int 0)] [])) t → Steps p.tables e below (s₁.setTop (entryFrame m #[(.int 0)] 1)) t := fun t k => castTop (ef_39_I m (0 : Int32)) k
  obtain ⟨fs, hr, hrun, hended, hW, hsame⟩ := X0.leave (v := some (.long 1)) (fun h => by rw [Bd.returns] at h; cases h)
  refine ⟨_, _, pre0 _ ?_, hrun, hended, _, _, rfl, ?_, ⟨_, rfl⟩, hW, hsame.mono (by decide) (by decide)⟩
  · show St p e below s₁ (mkF m 0 #[.val (.int 0)] []) _
    refine XS.iloadN X0.here hx rfl (hb hby d39_0) rfl ?_
    refine XS.ifNo X0.here hx rfl (hb hby d39_1) rfl ((if0 _ _).trans (teq (by decide : (0 : Int32) = (0 : Int32))).2) ?_
    refine XS.lconst X0.here hx rfl (hb hby d39_4) ?_
    show St p e below s₁ (mkF m 5 #[.val (.int 0)] [(.long 1)]) _
    jvm_step X0.here [X0.here.top, hx, (hb hby d39_5), X0.method', Bd.returns, narrow]
    first | (intro acts; rw [hr _ acts rfl rfl rfl]) | rw [hr _ _ rfl rfl rfl]
    exact Steps.refl _
  · show Q_pure (some (.long 1)) h0 n0 _ s₁.heap _
    rw [e0]
    exact ⟨rfl, N0, rfl⟩
theorem d39_6 : decode method_4_code 6 = .ok (.iload_n 0, 1) := by decide +kernel
theorem d39_7 : decode method_4_code 7 = .ok (.iconst 1, 1) := by decide +kernel
theorem d39_8 : decode method_4_code 8 = .ok (.if_icmp .ne 7, 3) := by decide +kernel
theorem d39_11 : decode method_4_code 11 = .ok (.ldc2_w 39, 3) := by decide +kernel
theorem d39_14 : decode method_4_code 14 = .ok (.lreturn, 1) := by decide +kernel
set_option maxRecDepth 65536 in
set_option maxHeartbeats 40000000 in
theorem rm_pw_1 (l : Launch) (Z : State) (a0 : Array Value) (hw : ∀ d ∈ tables_1, d.before a0 Z = true) (ws : List Jvm.Cond)  (h0 : Heap) (n0 : Nat) (Z0 : n0 ≤ h0.size) :
    MetFree l mn39 (head1 (Jvm.Cond.code mn39 method_4_code 1 (some .long) :: ws) ro2) (fun a U => a = #[(.int 1)] ∧ Z.Warmed39 U.vm ∧ U.heap = h0) (fun _ _ _ _ _ => True) (fun _ U o U' => ∃ v L, o = .returned v ∧ Q_pure (some (.long 10)) h0 n0 v U'.heap L ∧ FrameEnd U o U' L ro2.cells ro2.slots) := by
  refine MetFree.of_bodySF (plainFor_of_name pn_39) hisR ?_
  intro p e s m args below meth c s₁ Bd hml0 hP hK
  obtain ⟨rfl, hZ, hh⟩ := hP
  have hx := Bd.exec
  have hby := Bd.bytes
  have hml : c.maxLocals = 1 := hml0
  have hown : s.vm.findClass "com/example/demarc/demarc/tool/AccountToStringPinLaw" = some m.cls := findClass_of_methodNamed Bd.named
  have hnm := (name_of_methodNamed Bd.named Bd.method).1
  have X0 : Stand p l e ro2 s m #[(.int 1)] below meth c s₁ [] 0 0 := Stand.of_body Bd
  have e0 : s₁.heap = h0 := by rw [← hh, Bd.state]; rfl
  have N0 := Fr.nil n0
  have pre0 : ∀ t, Steps p.tables e below (s₁.setTop (mkF m 0 #[.val (.int 1)] [])) t → Steps p.tables e below (s₁.setTop (entryFrame m #[(.int 1)] 1)) t := fun t k => castTop (ef_39_I m (1 : Int32)) k
  obtain ⟨fs, hr, hrun, hended, hW, hsame⟩ := X0.leave (v := some (.long 10)) (fun h => by rw [Bd.returns] at h; cases h)
  refine ⟨_, _, pre0 _ ?_, hrun, hended, _, _, rfl, ?_, ⟨_, rfl⟩, hW, hsame.mono (by decide) (by decide)⟩
  · show St p e below s₁ (mkF m 0 #[.val (.int 1)] []) _
    refine XS.iloadN X0.here hx rfl (hb hby d39_0) rfl ?_
    refine XS.ifYes X0.here hx rfl (pc0 := 1) (pc' := 6) rfl (hb hby d39_1) rfl ((if0 _ _).trans (feq (by decide : ¬ ((1 : Int32) = (0 : Int32)))).2) (by decide) (by decide) ?_
    refine XS.iloadN X0.here hx rfl (hb hby d39_6) rfl ?_
    refine XS.iconst X0.here hx rfl (hb hby d39_7) ?_
    refine XS.icmpNo X0.here hx rfl (hb hby d39_8) rfl (teq (by decide : (1 : Int32) = (1 : Int32))).2 ?_
    refine X0.ldc2Long hx hown (mvT hZ (hwi hw 177 rfl)) (g := (mkF m 11 #[.val (.int 1)] [])) rfl (hb hby d39_11) _ ?_
    show St p e below s₁ (mkF m 14 #[.val (.int 1)] [(.long 10)]) _
    jvm_step X0.here [X0.here.top, hx, (hb hby d39_14), X0.method', Bd.returns, narrow]
    first | (intro acts; rw [hr _ acts rfl rfl rfl]) | rw [hr _ _ rfl rfl rfl]
    exact Steps.refl _
  · show Q_pure (some (.long 10)) h0 n0 _ s₁.heap _
    rw [e0]
    exact ⟨rfl, N0, rfl⟩
theorem d39_15 : decode method_4_code 15 = .ok (.iload_n 0, 1) := by decide +kernel
theorem d39_16 : decode method_4_code 16 = .ok (.iconst 2, 1) := by decide +kernel
theorem d39_17 : decode method_4_code 17 = .ok (.if_icmp .ne 7, 3) := by decide +kernel
theorem d39_20 : decode method_4_code 20 = .ok (.ldc2_w 41, 3) := by decide +kernel
theorem d39_23 : decode method_4_code 23 = .ok (.lreturn, 1) := by decide +kernel
set_option maxRecDepth 65536 in
set_option maxHeartbeats 40000000 in
theorem rm_pw_2 (l : Launch) (Z : State) (a0 : Array Value) (hw : ∀ d ∈ tables_1, d.before a0 Z = true) (ws : List Jvm.Cond)  (h0 : Heap) (n0 : Nat) (Z0 : n0 ≤ h0.size) :
    MetFree l mn39 (head1 (Jvm.Cond.code mn39 method_4_code 1 (some .long) :: ws) ro2) (fun a U => a = #[(.int 2)] ∧ Z.Warmed39 U.vm ∧ U.heap = h0) (fun _ _ _ _ _ => True) (fun _ U o U' => ∃ v L, o = .returned v ∧ Q_pure (some (.long 100)) h0 n0 v U'.heap L ∧ FrameEnd U o U' L ro2.cells ro2.slots) := by
  refine MetFree.of_bodySF (plainFor_of_name pn_39) hisR ?_
  intro p e s m args below meth c s₁ Bd hml0 hP hK
  obtain ⟨rfl, hZ, hh⟩ := hP
  have hx := Bd.exec
  have hby := Bd.bytes
  have hml : c.maxLocals = 1 := hml0
  have hown : s.vm.findClass "com/example/demarc/demarc/tool/AccountToStringPinLaw" = some m.cls := findClass_of_methodNamed Bd.named
  have hnm := (name_of_methodNamed Bd.named Bd.method).1
  have X0 : Stand p l e ro2 s m #[(.int 2)] below meth c s₁ [] 0 0 := Stand.of_body Bd
  have e0 : s₁.heap = h0 := by rw [← hh, Bd.state]; rfl
  have N0 := Fr.nil n0
  have pre0 : ∀ t, Steps p.tables e below (s₁.setTop (mkF m 0 #[.val (.int 2)] [])) t → Steps p.tables e below (s₁.setTop (entryFrame m #[(.int 2)] 1)) t := fun t k => castTop (ef_39_I m (2 : Int32)) k
  obtain ⟨fs, hr, hrun, hended, hW, hsame⟩ := X0.leave (v := some (.long 100)) (fun h => by rw [Bd.returns] at h; cases h)
  refine ⟨_, _, pre0 _ ?_, hrun, hended, _, _, rfl, ?_, ⟨_, rfl⟩, hW, hsame.mono (by decide) (by decide)⟩
  · show St p e below s₁ (mkF m 0 #[.val (.int 2)] []) _
    refine XS.iloadN X0.here hx rfl (hb hby d39_0) rfl ?_
    refine XS.ifYes X0.here hx rfl (pc0 := 1) (pc' := 6) rfl (hb hby d39_1) rfl ((if0 _ _).trans (feq (by decide : ¬ ((2 : Int32) = (0 : Int32)))).2) (by decide) (by decide) ?_
    refine XS.iloadN X0.here hx rfl (hb hby d39_6) rfl ?_
    refine XS.iconst X0.here hx rfl (hb hby d39_7) ?_
    refine XS.icmpYes X0.here hx rfl (pc0 := 8) (pc' := 15) rfl (hb hby d39_8) rfl (feq (by decide : ¬ ((2 : Int32) = (1 : Int32)))).2 (by decide) (by decide) ?_
    refine XS.iloadN X0.here hx rfl (hb hby d39_15) rfl ?_
    refine XS.iconst X0.here hx rfl (hb hby d39_16) ?_
    refine XS.icmpNo X0.here hx rfl (hb hby d39_17) rfl (teq (by decide : (2 : Int32) = (2 : Int32))).2 ?_
    show St p e below s₁ (mkF m 20 #[.val (.int 2)] []) _
    refine X0.ldc2Long hx hown (mvT hZ (hwi hw 218 rfl)) (g := (mkF m 20 #[.val (.int 2)] [])) rfl (hb hby d39_20) _ ?_
    show St p e below s₁ (mkF m 23 #[.val (.int 2)] [(.long 100)]) _
    jvm_step X0.here [X0.here.top, hx, (hb hby d39_23), X0.method', Bd.returns, narrow]
    first | (intro acts; rw [hr _ acts rfl rfl rfl]) | rw [hr _ _ rfl rfl rfl]
    exact Steps.refl _
  · show Q_pure (some (.long 100)) h0 n0 _ s₁.heap _
    rw [e0]
    exact ⟨rfl, N0, rfl⟩
theorem d39_24 : decode method_4_code 24 = .ok (.iload_n 0, 1) := by decide +kernel
theorem d39_25 : decode method_4_code 25 = .ok (.iconst 3, 1) := by decide +kernel
theorem d39_26 : decode method_4_code 26 = .ok (.if_icmp .ne 7, 3) := by decide +kernel
theorem d39_29 : decode method_4_code 29 = .ok (.ldc2_w 43, 3) := by decide +kernel
theorem d39_32 : decode method_4_code 32 = .ok (.lreturn, 1) := by decide +kernel
set_option maxRecDepth 65536 in
set_option maxHeartbeats 40000000 in
theorem rm_pw_3 (l : Launch) (Z : State) (a0 : Array Value) (hw : ∀ d ∈ tables_1, d.before a0 Z = true) (ws : List Jvm.Cond)  (h0 : Heap) (n0 : Nat) (Z0 : n0 ≤ h0.size) :
    MetFree l mn39 (head1 (Jvm.Cond.code mn39 method_4_code 1 (some .long) :: ws) ro2) (fun a U => a = #[(.int 3)] ∧ Z.Warmed39 U.vm ∧ U.heap = h0) (fun _ _ _ _ _ => True) (fun _ U o U' => ∃ v L, o = .returned v ∧ Q_pure (some (.long 1000)) h0 n0 v U'.heap L ∧ FrameEnd U o U' L ro2.cells ro2.slots) := by
  refine MetFree.of_bodySF (plainFor_of_name pn_39) hisR ?_
  intro p e s m args below meth c s₁ Bd hml0 hP hK
  obtain ⟨rfl, hZ, hh⟩ := hP
  have hx := Bd.exec
  have hby := Bd.bytes
  have hml : c.maxLocals = 1 := hml0
  have hown : s.vm.findClass "com/example/demarc/demarc/tool/AccountToStringPinLaw" = some m.cls := findClass_of_methodNamed Bd.named
  have hnm := (name_of_methodNamed Bd.named Bd.method).1
  have X0 : Stand p l e ro2 s m #[(.int 3)] below meth c s₁ [] 0 0 := Stand.of_body Bd
  have e0 : s₁.heap = h0 := by rw [← hh, Bd.state]; rfl
  have N0 := Fr.nil n0
  have pre0 : ∀ t, Steps p.tables e below (s₁.setTop (mkF m 0 #[.val (.int 3)] [])) t → Steps p.tables e below (s₁.setTop (entryFrame m #[(.int 3)] 1)) t := fun t k => castTop (ef_39_I m (3 : Int32)) k
  obtain ⟨fs, hr, hrun, hended, hW, hsame⟩ := X0.leave (v := some (.long 1000)) (fun h => by rw [Bd.returns] at h; cases h)
  refine ⟨_, _, pre0 _ ?_, hrun, hended, _, _, rfl, ?_, ⟨_, rfl⟩, hW, hsame.mono (by decide) (by decide)⟩
  · show St p e below s₁ (mkF m 0 #[.val (.int 3)] []) _
    refine XS.iloadN X0.here hx rfl (hb hby d39_0) rfl ?_
    refine XS.ifYes X0.here hx rfl (pc0 := 1) (pc' := 6) rfl (hb hby d39_1) rfl ((if0 _ _).trans (feq (by decide : ¬ ((3 : Int32) = (0 : Int32)))).2) (by decide) (by decide) ?_
    refine XS.iloadN X0.here hx rfl (hb hby d39_6) rfl ?_
    refine XS.iconst X0.here hx rfl (hb hby d39_7) ?_
    refine XS.icmpYes X0.here hx rfl (pc0 := 8) (pc' := 15) rfl (hb hby d39_8) rfl (feq (by decide : ¬ ((3 : Int32) = (1 : Int32)))).2 (by decide) (by decide) ?_
    refine XS.iloadN X0.here hx rfl (hb hby d39_15) rfl ?_
    refine XS.iconst X0.here hx rfl (hb hby d39_16) ?_
    refine XS.icmpYes X0.here hx rfl (pc0 := 17) (pc' := 24) rfl (hb hby d39_17) rfl (feq (by decide : ¬ ((3 : Int32) = (2 : Int32)))).2 (by decide) (by decide) ?_
    show St p e below s₁ (mkF m 24 #[.val (.int 3)] []) _
    refine XS.iloadN X0.here hx rfl (hb hby d39_24) rfl ?_
    refine XS.iconst X0.here hx rfl (hb hby d39_25) ?_
    refine XS.icmpNo X0.here hx rfl (hb hby d39_26) rfl (teq (by decide : (3 : Int32) = (3 : Int32))).2 ?_
    refine X0.ldc2Long hx hown (mvT hZ (hwi hw 219 rfl)) (g := (mkF m 29 #[.val (.int 3)] [])) rfl (hb hby d39_29) _ ?_
    show St p e below s₁ (mkF m 32 #[.val (.int 3)] [(.long 1000)]) _
    jvm_step X0.here [X0.here.top, hx, (hb hby d39_32), X0.method', Bd.returns, narrow]
    first | (intro acts; rw [hr _ acts rfl rfl rfl]) | rw [hr _ _ rfl rfl rfl]
    exact Steps.refl _
  · show Q_pure (some (.long 1000)) h0 n0 _ s₁.heap _
    rw [e0]
    exact ⟨rfl, N0, rfl⟩
theorem d39_33 : decode method_4_code 33 = .ok (.iload_n 0, 1) := by decide +kernel
theorem d39_34 : decode method_4_code 34 = .ok (.iconst 4, 1) := by decide +kernel
theorem d39_35 : decode method_4_code 35 = .ok (.if_icmp .ne 7, 3) := by decide +kernel
theorem d39_38 : decode method_4_code 38 = .ok (.ldc2_w 45, 3) := by decide +kernel
theorem d39_41 : decode method_4_code 41 = .ok (.lreturn, 1) := by decide +kernel
set_option maxRecDepth 65536 in
set_option maxHeartbeats 40000000 in
theorem rm_pw_4 (l : Launch) (Z : State) (a0 : Array Value) (hw : ∀ d ∈ tables_1, d.before a0 Z = true) (ws : List Jvm.Cond)  (h0 : Heap) (n0 : Nat) (Z0 : n0 ≤ h0.size) :
    MetFree l mn39 (head1 (Jvm.Cond.code mn39 method_4_code 1 (some .long) :: ws) ro2) (fun a U => a = #[(.int 4)] ∧ Z.Warmed39 U.vm ∧ U.heap = h0) (fun _ _ _ _ _ => True) (fun _ U o U' => ∃ v L, o = .returned v ∧ Q_pure (some (.long 10000)) h0 n0 v U'.heap L ∧ FrameEnd U o U' L ro2.cells ro2.slots) := by
  refine MetFree.of_bodySF (plainFor_of_name pn_39) hisR ?_
  intro p e s m args below meth c s₁ Bd hml0 hP hK
  obtain ⟨rfl, hZ, hh⟩ := hP
  have hx := Bd.exec
  have hby := Bd.bytes
  have hml : c.maxLocals = 1 := hml0
  have hown : s.vm.findClass "com/example/demarc/demarc/tool/AccountToStringPinLaw" = some m.cls := findClass_of_methodNamed Bd.named
  have hnm := (name_of_methodNamed Bd.named Bd.method).1
  have X0 : Stand p l e ro2 s m #[(.int 4)] below meth c s₁ [] 0 0 := Stand.of_body Bd
  have e0 : s₁.heap = h0 := by rw [← hh, Bd.state]; rfl
  have N0 := Fr.nil n0
  have pre0 : ∀ t, Steps p.tables e below (s₁.setTop (mkF m 0 #[.val (.int 4)] [])) t → Steps p.tables e below (s₁.setTop (entryFrame m #[(.int 4)] 1)) t := fun t k => castTop (ef_39_I m (4 : Int32)) k
  obtain ⟨fs, hr, hrun, hended, hW, hsame⟩ := X0.leave (v := some (.long 10000)) (fun h => by rw [Bd.returns] at h; cases h)
  refine ⟨_, _, pre0 _ ?_, hrun, hended, _, _, rfl, ?_, ⟨_, rfl⟩, hW, hsame.mono (by decide) (by decide)⟩
  · show St p e below s₁ (mkF m 0 #[.val (.int 4)] []) _
    refine XS.iloadN X0.here hx rfl (hb hby d39_0) rfl ?_
    refine XS.ifYes X0.here hx rfl (pc0 := 1) (pc' := 6) rfl (hb hby d39_1) rfl ((if0 _ _).trans (feq (by decide : ¬ ((4 : Int32) = (0 : Int32)))).2) (by decide) (by decide) ?_
    refine XS.iloadN X0.here hx rfl (hb hby d39_6) rfl ?_
    refine XS.iconst X0.here hx rfl (hb hby d39_7) ?_
    refine XS.icmpYes X0.here hx rfl (pc0 := 8) (pc' := 15) rfl (hb hby d39_8) rfl (feq (by decide : ¬ ((4 : Int32) = (1 : Int32)))).2 (by decide) (by decide) ?_
    refine XS.iloadN X0.here hx rfl (hb hby d39_15) rfl ?_
    refine XS.iconst X0.here hx rfl (hb hby d39_16) ?_
    refine XS.icmpYes X0.here hx rfl (pc0 := 17) (pc' := 24) rfl (hb hby d39_17) rfl (feq (by decide : ¬ ((4 : Int32) = (2 : Int32)))).2 (by decide) (by decide) ?_
    show St p e below s₁ (mkF m 24 #[.val (.int 4)] []) _
    refine XS.iloadN X0.here hx rfl (hb hby d39_24) rfl ?_
    refine XS.iconst X0.here hx rfl (hb hby d39_25) ?_
    refine XS.icmpYes X0.here hx rfl (pc0 := 26) (pc' := 33) rfl (hb hby d39_26) rfl (feq (by decide : ¬ ((4 : Int32) = (3 : Int32)))).2 (by decide) (by decide) ?_
    refine XS.iloadN X0.here hx rfl (hb hby d39_33) rfl ?_
    refine XS.iconst X0.here hx rfl (hb hby d39_34) ?_
    refine XS.icmpNo X0.here hx rfl (hb hby d39_35) rfl (teq (by decide : (4 : Int32) = (4 : Int32))).2 ?_
    refine X0.ldc2Long hx hown (mvT hZ (hwi hw 220 rfl)) (g := (mkF m 38 #[.val (.int 4)] [])) rfl (hb hby d39_38) _ ?_
    show St p e below s₁ (mkF m 41 #[.val (.int 4)] [(.long 10000)]) _
    jvm_step X0.here [X0.here.top, hx, (hb hby d39_41), X0.method', Bd.returns, narrow]
    first | (intro acts; rw [hr _ acts rfl rfl rfl]) | rw [hr _ _ rfl rfl rfl]
    exact Steps.refl _
  · show Q_pure (some (.long 10000)) h0 n0 _ s₁.heap _
    rw [e0]
    exact ⟨rfl, N0, rfl⟩
theorem d39_42 : decode method_4_code 42 = .ok (.iload_n 0, 1) := by decide +kernel
theorem d39_43 : decode method_4_code 43 = .ok (.iconst 5, 1) := by decide +kernel
theorem d39_44 : decode method_4_code 44 = .ok (.if_icmp .ne 7, 3) := by decide +kernel
theorem d39_47 : decode method_4_code 47 = .ok (.ldc2_w 47, 3) := by decide +kernel
theorem d39_50 : decode method_4_code 50 = .ok (.lreturn, 1) := by decide +kernel
set_option maxRecDepth 65536 in
set_option maxHeartbeats 40000000 in
theorem rm_pw_5 (l : Launch) (Z : State) (a0 : Array Value) (hw : ∀ d ∈ tables_1, d.before a0 Z = true) (ws : List Jvm.Cond)  (h0 : Heap) (n0 : Nat) (Z0 : n0 ≤ h0.size) :
    MetFree l mn39 (head1 (Jvm.Cond.code mn39 method_4_code 1 (some .long) :: ws) ro2) (fun a U => a = #[(.int 5)] ∧ Z.Warmed39 U.vm ∧ U.heap = h0) (fun _ _ _ _ _ => True) (fun _ U o U' => ∃ v L, o = .returned v ∧ Q_pure (some (.long 100000)) h0 n0 v U'.heap L ∧ FrameEnd U o U' L ro2.cells ro2.slots) := by
  refine MetFree.of_bodySF (plainFor_of_name pn_39) hisR ?_
  intro p e s m args below meth c s₁ Bd hml0 hP hK
  obtain ⟨rfl, hZ, hh⟩ := hP
  have hx := Bd.exec
  have hby := Bd.bytes
  have hml : c.maxLocals = 1 := hml0
  have hown : s.vm.findClass "com/example/demarc/demarc/tool/AccountToStringPinLaw" = some m.cls := findClass_of_methodNamed Bd.named
  have hnm := (name_of_methodNamed Bd.named Bd.method).1
  have X0 : Stand p l e ro2 s m #[(.int 5)] below meth c s₁ [] 0 0 := Stand.of_body Bd
  have e0 : s₁.heap = h0 := by rw [← hh, Bd.state]; rfl
  have N0 := Fr.nil n0
  have pre0 : ∀ t, Steps p.tables e below (s₁.setTop (mkF m 0 #[.val (.int 5)] [])) t → Steps p.tables e below (s₁.setTop (entryFrame m #[(.int 5)] 1)) t := fun t k => castTop (ef_39_I m (5 : Int32)) k
  obtain ⟨fs, hr, hrun, hended, hW, hsame⟩ := X0.leave (v := some (.long 100000)) (fun h => by rw [Bd.returns] at h; cases h)
  refine ⟨_, _, pre0 _ ?_, hrun, hended, _, _, rfl, ?_, ⟨_, rfl⟩, hW, hsame.mono (by decide) (by decide)⟩
  · show St p e below s₁ (mkF m 0 #[.val (.int 5)] []) _
    refine XS.iloadN X0.here hx rfl (hb hby d39_0) rfl ?_
    refine XS.ifYes X0.here hx rfl (pc0 := 1) (pc' := 6) rfl (hb hby d39_1) rfl ((if0 _ _).trans (feq (by decide : ¬ ((5 : Int32) = (0 : Int32)))).2) (by decide) (by decide) ?_
    refine XS.iloadN X0.here hx rfl (hb hby d39_6) rfl ?_
    refine XS.iconst X0.here hx rfl (hb hby d39_7) ?_
    refine XS.icmpYes X0.here hx rfl (pc0 := 8) (pc' := 15) rfl (hb hby d39_8) rfl (feq (by decide : ¬ ((5 : Int32) = (1 : Int32)))).2 (by decide) (by decide) ?_
    refine XS.iloadN X0.here hx rfl (hb hby d39_15) rfl ?_
    refine XS.iconst X0.here hx rfl (hb hby d39_16) ?_
    refine XS.icmpYes X0.here hx rfl (pc0 := 17) (pc' := 24) rfl (hb hby d39_17) rfl (feq (by decide : ¬ ((5 : Int32) = (2 : Int32)))).2 (by decide) (by decide) ?_
    show St p e below s₁ (mkF m 24 #[.val (.int 5)] []) _
    refine XS.iloadN X0.here hx rfl (hb hby d39_24) rfl ?_
    refine XS.iconst X0.here hx rfl (hb hby d39_25) ?_
    refine XS.icmpYes X0.here hx rfl (pc0 := 26) (pc' := 33) rfl (hb hby d39_26) rfl (feq (by decide : ¬ ((5 : Int32) = (3 : Int32)))).2 (by decide) (by decide) ?_
    refine XS.iloadN X0.here hx rfl (hb hby d39_33) rfl ?_
    refine XS.iconst X0.here hx rfl (hb hby d39_34) ?_
    refine XS.icmpYes X0.here hx rfl (pc0 := 35) (pc' := 42) rfl (hb hby d39_35) rfl (feq (by decide : ¬ ((5 : Int32) = (4 : Int32)))).2 (by decide) (by decide) ?_
    refine XS.iloadN X0.here hx rfl (hb hby d39_42) rfl ?_
    refine XS.iconst X0.here hx rfl (hb hby d39_43) ?_
    show St p e below s₁ (mkF m 44 #[.val (.int 5)] [(.int 5), (.int 5)]) _
    refine XS.icmpNo X0.here hx rfl (hb hby d39_44) rfl (teq (by decide : (5 : Int32) = (5 : Int32))).2 ?_
    refine X0.ldc2Long hx hown (mvT hZ (hwi hw 221 rfl)) (g := (mkF m 47 #[.val (.int 5)] [])) rfl (hb hby d39_47) _ ?_
    show St p e below s₁ (mkF m 50 #[.val (.int 5)] [(.long 100000)]) _
    jvm_step X0.here [X0.here.top, hx, (hb hby d39_50), X0.method', Bd.returns, narrow]
    first | (intro acts; rw [hr _ acts rfl rfl rfl]) | rw [hr _ _ rfl rfl rfl]
    exact Steps.refl _
  · show Q_pure (some (.long 100000)) h0 n0 _ s₁.heap _
    rw [e0]
    exact ⟨rfl, N0, rfl⟩
theorem d39_51 : decode method_4_code 51 = .ok (.iload_n 0, 1) := by decide +kernel
theorem d39_52 : decode method_4_code 52 = .ok (.bipush 6, 2) := by decide +kernel
theorem d39_54 : decode method_4_code 54 = .ok (.if_icmp .ne 7, 3) := by decide +kernel
theorem d39_57 : decode method_4_code 57 = .ok (.ldc2_w 49, 3) := by decide +kernel
theorem d39_60 : decode method_4_code 60 = .ok (.lreturn, 1) := by decide +kernel
set_option maxRecDepth 65536 in
set_option maxHeartbeats 40000000 in
theorem rm_pw_6 (l : Launch) (Z : State) (a0 : Array Value) (hw : ∀ d ∈ tables_1, d.before a0 Z = true) (ws : List Jvm.Cond)  (h0 : Heap) (n0 : Nat) (Z0 : n0 ≤ h0.size) :
    MetFree l mn39 (head1 (Jvm.Cond.code mn39 method_4_code 1 (some .long) :: ws) ro2) (fun a U => a = #[(.int 6)] ∧ Z.Warmed39 U.vm ∧ U.heap = h0) (fun _ _ _ _ _ => True) (fun _ U o U' => ∃ v L, o = .returned v ∧ Q_pure (some (.long 1000000)) h0 n0 v U'.heap L ∧ FrameEnd U o U' L ro2.cells ro2.slots) := by
  refine MetFree.of_bodySF (plainFor_of_name pn_39) hisR ?_
  intro p e s m args below meth c s₁ Bd hml0 hP hK
  obtain ⟨rfl, hZ, hh⟩ := hP
  have hx := Bd.exec
  have hby := Bd.bytes
  have hml : c.maxLocals = 1 := hml0
  have hown : s.vm.findClass "com/example/demarc/demarc/tool/AccountToStringPinLaw" = some m.cls := findClass_of_methodNamed Bd.named
  have hnm := (name_of_methodNamed Bd.named Bd.method).1
  have X0 : Stand p l e ro2 s m #[(.int 6)] below meth c s₁ [] 0 0 := Stand.of_body Bd
  have e0 : s₁.heap = h0 := by rw [← hh, Bd.state]; rfl
  have N0 := Fr.nil n0
  have pre0 : ∀ t, Steps p.tables e below (s₁.setTop (mkF m 0 #[.val (.int 6)] [])) t → Steps p.tables e below (s₁.setTop (entryFrame m #[(.int 6)] 1)) t := fun t k => castTop (ef_39_I m (6 : Int32)) k
  obtain ⟨fs, hr, hrun, hended, hW, hsame⟩ := X0.leave (v := some (.long 1000000)) (fun h => by rw [Bd.returns] at h; cases h)
  refine ⟨_, _, pre0 _ ?_, hrun, hended, _, _, rfl, ?_, ⟨_, rfl⟩, hW, hsame.mono (by decide) (by decide)⟩
  · show St p e below s₁ (mkF m 0 #[.val (.int 6)] []) _
    refine XS.iloadN X0.here hx rfl (hb hby d39_0) rfl ?_
    refine XS.ifYes X0.here hx rfl (pc0 := 1) (pc' := 6) rfl (hb hby d39_1) rfl ((if0 _ _).trans (feq (by decide : ¬ ((6 : Int32) = (0 : Int32)))).2) (by decide) (by decide) ?_
    refine XS.iloadN X0.here hx rfl (hb hby d39_6) rfl ?_
    refine XS.iconst X0.here hx rfl (hb hby d39_7) ?_
    refine XS.icmpYes X0.here hx rfl (pc0 := 8) (pc' := 15) rfl (hb hby d39_8) rfl (feq (by decide : ¬ ((6 : Int32) = (1 : Int32)))).2 (by decide) (by decide) ?_
    refine XS.iloadN X0.here hx rfl (hb hby d39_15) rfl ?_
    refine XS.iconst X0.here hx rfl (hb hby d39_16) ?_
    refine XS.icmpYes X0.here hx rfl (pc0 := 17) (pc' := 24) rfl (hb hby d39_17) rfl (feq (by decide : ¬ ((6 : Int32) = (2 : Int32)))).2 (by decide) (by decide) ?_
    show St p e below s₁ (mkF m 24 #[.val (.int 6)] []) _
    refine XS.iloadN X0.here hx rfl (hb hby d39_24) rfl ?_
    refine XS.iconst X0.here hx rfl (hb hby d39_25) ?_
    refine XS.icmpYes X0.here hx rfl (pc0 := 26) (pc' := 33) rfl (hb hby d39_26) rfl (feq (by decide : ¬ ((6 : Int32) = (3 : Int32)))).2 (by decide) (by decide) ?_
    refine XS.iloadN X0.here hx rfl (hb hby d39_33) rfl ?_
    refine XS.iconst X0.here hx rfl (hb hby d39_34) ?_
    refine XS.icmpYes X0.here hx rfl (pc0 := 35) (pc' := 42) rfl (hb hby d39_35) rfl (feq (by decide : ¬ ((6 : Int32) = (4 : Int32)))).2 (by decide) (by decide) ?_
    refine XS.iloadN X0.here hx rfl (hb hby d39_42) rfl ?_
    refine XS.iconst X0.here hx rfl (hb hby d39_43) ?_
    show St p e below s₁ (mkF m 44 #[.val (.int 6)] [(.int 5), (.int 6)]) _
    refine XS.icmpYes X0.here hx rfl (pc0 := 44) (pc' := 51) rfl (hb hby d39_44) rfl (feq (by decide : ¬ ((6 : Int32) = (5 : Int32)))).2 (by decide) (by decide) ?_
    refine XS.iloadN X0.here hx rfl (hb hby d39_51) rfl ?_
    refine XS.bipush X0.here hx rfl (hb hby d39_52) ?_
    refine XS.icmpNo X0.here hx rfl (hb hby d39_54) rfl (teq (by decide : (6 : Int32) = (6 : Int32))).2 ?_
    refine X0.ldc2Long hx hown (mvT hZ (hwi hw 222 rfl)) (g := (mkF m 57 #[.val (.int 6)] [])) rfl (hb hby d39_57) _ ?_
    show St p e below s₁ (mkF m 60 #[.val (.int 6)] [(.long 1000000)]) _
    jvm_step X0.here [X0.here.top, hx, (hb hby d39_60), X0.method', Bd.returns, narrow]
    first | (intro acts; rw [hr _ acts rfl rfl rfl]) | rw [hr _ _ rfl rfl rfl]
    exact Steps.refl _
  · show Q_pure (some (.long 1000000)) h0 n0 _ s₁.heap _
    rw [e0]
    exact ⟨rfl, N0, rfl⟩
theorem d39_61 : decode method_4_code 61 = .ok (.iload_n 0, 1) := by decide +kernel
theorem d39_62 : decode method_4_code 62 = .ok (.bipush 7, 2) := by decide +kernel
theorem d39_64 : decode method_4_code 64 = .ok (.if_icmp .ne 7, 3) := by decide +kernel
theorem d39_67 : decode method_4_code 67 = .ok (.ldc2_w 51, 3) := by decide +kernel
theorem d39_70 : decode method_4_code 70 = .ok (.lreturn, 1) := by decide +kernel
set_option maxRecDepth 65536 in
set_option maxHeartbeats 40000000 in
theorem rm_pw_7 (l : Launch) (Z : State) (a0 : Array Value) (hw : ∀ d ∈ tables_1, d.before a0 Z = true) (ws : List Jvm.Cond)  (h0 : Heap) (n0 : Nat) (Z0 : n0 ≤ h0.size) :
    MetFree l mn39 (head1 (Jvm.Cond.code mn39 method_4_code 1 (some .long) :: ws) ro2) (fun a U => a = #[(.int 7)] ∧ Z.Warmed39 U.vm ∧ U.heap = h0) (fun _ _ _ _ _ => True) (fun _ U o U' => ∃ v L, o = .returned v ∧ Q_pure (some (.long 10000000)) h0 n0 v U'.heap L ∧ FrameEnd U o U' L ro2.cells ro2.slots) := by
  refine MetFree.of_bodySF (plainFor_of_name pn_39) hisR ?_
  intro p e s m args below meth c s₁ Bd hml0 hP hK
  obtain ⟨rfl, hZ, hh⟩ := hP
  have hx := Bd.exec
  have hby := Bd.bytes
  have hml : c.maxLocals = 1 := hml0
  have hown : s.vm.findClass "com/example/demarc/demarc/tool/AccountToStringPinLaw" = some m.cls := findClass_of_methodNamed Bd.named
  have hnm := (name_of_methodNamed Bd.named Bd.method).1
  have X0 : Stand p l e ro2 s m #[(.int 7)] below meth c s₁ [] 0 0 := Stand.of_body Bd
  have e0 : s₁.heap = h0 := by rw [← hh, Bd.state]; rfl
  have N0 := Fr.nil n0
  have pre0 : ∀ t, Steps p.tables e below (s₁.setTop (mkF m 0 #[.val (.int 7)] [])) t → Steps p.tables e below (s₁.setTop (entryFrame m #[(.int 7)] 1)) t := fun t k => castTop (ef_39_I m (7 : Int32)) k
  obtain ⟨fs, hr, hrun, hended, hW, hsame⟩ := X0.leave (v := some (.long 10000000)) (fun h => by rw [Bd.returns] at h; cases h)
  refine ⟨_, _, pre0 _ ?_, hrun, hended, _, _, rfl, ?_, ⟨_, rfl⟩, hW, hsame.mono (by decide) (by decide)⟩
  · show St p e below s₁ (mkF m 0 #[.val (.int 7)] []) _
    refine XS.iloadN X0.here hx rfl (hb hby d39_0) rfl ?_
    refine XS.ifYes X0.here hx rfl (pc0 := 1) (pc' := 6) rfl (hb hby d39_1) rfl ((if0 _ _).trans (feq (by decide : ¬ ((7 : Int32) = (0 : Int32)))).2) (by decide) (by decide) ?_
    refine XS.iloadN X0.here hx rfl (hb hby d39_6) rfl ?_
    refine XS.iconst X0.here hx rfl (hb hby d39_7) ?_
    refine XS.icmpYes X0.here hx rfl (pc0 := 8) (pc' := 15) rfl (hb hby d39_8) rfl (feq (by decide : ¬ ((7 : Int32) = (1 : Int32)))).2 (by decide) (by decide) ?_
    refine XS.iloadN X0.here hx rfl (hb hby d39_15) rfl ?_
    refine XS.iconst X0.here hx rfl (hb hby d39_16) ?_
    refine XS.icmpYes X0.here hx rfl (pc0 := 17) (pc' := 24) rfl (hb hby d39_17) rfl (feq (by decide : ¬ ((7 : Int32) = (2 : Int32)))).2 (by decide) (by decide) ?_
    show St p e below s₁ (mkF m 24 #[.val (.int 7)] []) _
    refine XS.iloadN X0.here hx rfl (hb hby d39_24) rfl ?_
    refine XS.iconst X0.here hx rfl (hb hby d39_25) ?_
    refine XS.icmpYes X0.here hx rfl (pc0 := 26) (pc' := 33) rfl (hb hby d39_26) rfl (feq (by decide : ¬ ((7 : Int32) = (3 : Int32)))).2 (by decide) (by decide) ?_
    refine XS.iloadN X0.here hx rfl (hb hby d39_33) rfl ?_
    refine XS.iconst X0.here hx rfl (hb hby d39_34) ?_
    refine XS.icmpYes X0.here hx rfl (pc0 := 35) (pc' := 42) rfl (hb hby d39_35) rfl (feq (by decide : ¬ ((7 : Int32) = (4 : Int32)))).2 (by decide) (by decide) ?_
    refine XS.iloadN X0.here hx rfl (hb hby d39_42) rfl ?_
    refine XS.iconst X0.here hx rfl (hb hby d39_43) ?_
    show St p e below s₁ (mkF m 44 #[.val (.int 7)] [(.int 5), (.int 7)]) _
    refine XS.icmpYes X0.here hx rfl (pc0 := 44) (pc' := 51) rfl (hb hby d39_44) rfl (feq (by decide : ¬ ((7 : Int32) = (5 : Int32)))).2 (by decide) (by decide) ?_
    refine XS.iloadN X0.here hx rfl (hb hby d39_51) rfl ?_
    refine XS.bipush X0.here hx rfl (hb hby d39_52) ?_
    refine XS.icmpYes X0.here hx rfl (pc0 := 54) (pc' := 61) rfl (hb hby d39_54) rfl (feq (by decide : ¬ ((7 : Int32) = (6 : Int32)))).2 (by decide) (by decide) ?_
    refine XS.iloadN X0.here hx rfl (hb hby d39_61) rfl ?_
    refine XS.bipush X0.here hx rfl (hb hby d39_62) ?_
    refine XS.icmpNo X0.here hx rfl (hb hby d39_64) rfl (teq (by decide : (7 : Int32) = (7 : Int32))).2 ?_
    refine X0.ldc2Long hx hown (mvT hZ (hwi hw 223 rfl)) (g := (mkF m 67 #[.val (.int 7)] [])) rfl (hb hby d39_67) _ ?_
    show St p e below s₁ (mkF m 70 #[.val (.int 7)] [(.long 10000000)]) _
    jvm_step X0.here [X0.here.top, hx, (hb hby d39_70), X0.method', Bd.returns, narrow]
    first | (intro acts; rw [hr _ acts rfl rfl rfl]) | rw [hr _ _ rfl rfl rfl]
    exact Steps.refl _
  · show Q_pure (some (.long 10000000)) h0 n0 _ s₁.heap _
    rw [e0]
    exact ⟨rfl, N0, rfl⟩
theorem d39_71 : decode method_4_code 71 = .ok (.iload_n 0, 1) := by decide +kernel
theorem d39_72 : decode method_4_code 72 = .ok (.bipush 8, 2) := by decide +kernel
theorem d39_74 : decode method_4_code 74 = .ok (.if_icmp .ne 7, 3) := by decide +kernel
theorem d39_77 : decode method_4_code 77 = .ok (.ldc2_w 53, 3) := by decide +kernel
theorem d39_80 : decode method_4_code 80 = .ok (.lreturn, 1) := by decide +kernel
set_option maxRecDepth 65536 in
set_option maxHeartbeats 40000000 in
theorem rm_pw_8 (l : Launch) (Z : State) (a0 : Array Value) (hw : ∀ d ∈ tables_1, d.before a0 Z = true) (ws : List Jvm.Cond)  (h0 : Heap) (n0 : Nat) (Z0 : n0 ≤ h0.size) :
    MetFree l mn39 (head1 (Jvm.Cond.code mn39 method_4_code 1 (some .long) :: ws) ro2) (fun a U => a = #[(.int 8)] ∧ Z.Warmed39 U.vm ∧ U.heap = h0) (fun _ _ _ _ _ => True) (fun _ U o U' => ∃ v L, o = .returned v ∧ Q_pure (some (.long 100000000)) h0 n0 v U'.heap L ∧ FrameEnd U o U' L ro2.cells ro2.slots) := by
  refine MetFree.of_bodySF (plainFor_of_name pn_39) hisR ?_
  intro p e s m args below meth c s₁ Bd hml0 hP hK
  obtain ⟨rfl, hZ, hh⟩ := hP
  have hx := Bd.exec
  have hby := Bd.bytes
  have hml : c.maxLocals = 1 := hml0
  have hown : s.vm.findClass "com/example/demarc/demarc/tool/AccountToStringPinLaw" = some m.cls := findClass_of_methodNamed Bd.named
  have hnm := (name_of_methodNamed Bd.named Bd.method).1
  have X0 : Stand p l e ro2 s m #[(.int 8)] below meth c s₁ [] 0 0 := Stand.of_body Bd
  have e0 : s₁.heap = h0 := by rw [← hh, Bd.state]; rfl
  have N0 := Fr.nil n0
  have pre0 : ∀ t, Steps p.tables e below (s₁.setTop (mkF m 0 #[.val (.int 8)] [])) t → Steps p.tables e below (s₁.setTop (entryFrame m #[(.int 8)] 1)) t := fun t k => castTop (ef_39_I m (8 : Int32)) k
  obtain ⟨fs, hr, hrun, hended, hW, hsame⟩ := X0.leave (v := some (.long 100000000)) (fun h => by rw [Bd.returns] at h; cases h)
  refine ⟨_, _, pre0 _ ?_, hrun, hended, _, _, rfl, ?_, ⟨_, rfl⟩, hW, hsame.mono (by decide) (by decide)⟩
  · show St p e below s₁ (mkF m 0 #[.val (.int 8)] []) _
    refine XS.iloadN X0.here hx rfl (hb hby d39_0) rfl ?_
    refine XS.ifYes X0.here hx rfl (pc0 := 1) (pc' := 6) rfl (hb hby d39_1) rfl ((if0 _ _).trans (feq (by decide : ¬ ((8 : Int32) = (0 : Int32)))).2) (by decide) (by decide) ?_
    refine XS.iloadN X0.here hx rfl (hb hby d39_6) rfl ?_
    refine XS.iconst X0.here hx rfl (hb hby d39_7) ?_
    refine XS.icmpYes X0.here hx rfl (pc0 := 8) (pc' := 15) rfl (hb hby d39_8) rfl (feq (by decide : ¬ ((8 : Int32) = (1 : Int32)))).2 (by decide) (by decide) ?_
    refine XS.iloadN X0.here hx rfl (hb hby d39_15) rfl ?_
    refine XS.iconst X0.here hx rfl (hb hby d39_16) ?_
    refine XS.icmpYes X0.here hx rfl (pc0 := 17) (pc' := 24) rfl (hb hby d39_17) rfl (feq (by decide : ¬ ((8 : Int32) = (2 : Int32)))).2 (by decide) (by decide) ?_
    show St p e below s₁ (mkF m 24 #[.val (.int 8)] []) _
    refine XS.iloadN X0.here hx rfl (hb hby d39_24) rfl ?_
    refine XS.iconst X0.here hx rfl (hb hby d39_25) ?_
    refine XS.icmpYes X0.here hx rfl (pc0 := 26) (pc' := 33) rfl (hb hby d39_26) rfl (feq (by decide : ¬ ((8 : Int32) = (3 : Int32)))).2 (by decide) (by decide) ?_
    refine XS.iloadN X0.here hx rfl (hb hby d39_33) rfl ?_
    refine XS.iconst X0.here hx rfl (hb hby d39_34) ?_
    refine XS.icmpYes X0.here hx rfl (pc0 := 35) (pc' := 42) rfl (hb hby d39_35) rfl (feq (by decide : ¬ ((8 : Int32) = (4 : Int32)))).2 (by decide) (by decide) ?_
    refine XS.iloadN X0.here hx rfl (hb hby d39_42) rfl ?_
    refine XS.iconst X0.here hx rfl (hb hby d39_43) ?_
    show St p e below s₁ (mkF m 44 #[.val (.int 8)] [(.int 5), (.int 8)]) _
    refine XS.icmpYes X0.here hx rfl (pc0 := 44) (pc' := 51) rfl (hb hby d39_44) rfl (feq (by decide : ¬ ((8 : Int32) = (5 : Int32)))).2 (by decide) (by decide) ?_
    refine XS.iloadN X0.here hx rfl (hb hby d39_51) rfl ?_
    refine XS.bipush X0.here hx rfl (hb hby d39_52) ?_
    refine XS.icmpYes X0.here hx rfl (pc0 := 54) (pc' := 61) rfl (hb hby d39_54) rfl (feq (by decide : ¬ ((8 : Int32) = (6 : Int32)))).2 (by decide) (by decide) ?_
    refine XS.iloadN X0.here hx rfl (hb hby d39_61) rfl ?_
    refine XS.bipush X0.here hx rfl (hb hby d39_62) ?_
    refine XS.icmpYes X0.here hx rfl (pc0 := 64) (pc' := 71) rfl (hb hby d39_64) rfl (feq (by decide : ¬ ((8 : Int32) = (7 : Int32)))).2 (by decide) (by decide) ?_
    refine XS.iloadN X0.here hx rfl (hb hby d39_71) rfl ?_
    show St p e below s₁ (mkF m 72 #[.val (.int 8)] [(.int 8)]) _
    refine XS.bipush X0.here hx rfl (hb hby d39_72) ?_
    refine XS.icmpNo X0.here hx rfl (hb hby d39_74) rfl (teq (by decide : (8 : Int32) = (8 : Int32))).2 ?_
    refine X0.ldc2Long hx hown (mvT hZ (hwi hw 224 rfl)) (g := (mkF m 77 #[.val (.int 8)] [])) rfl (hb hby d39_77) _ ?_
    show St p e below s₁ (mkF m 80 #[.val (.int 8)] [(.long 100000000)]) _
    jvm_step X0.here [X0.here.top, hx, (hb hby d39_80), X0.method', Bd.returns, narrow]
    first | (intro acts; rw [hr _ acts rfl rfl rfl]) | rw [hr _ _ rfl rfl rfl]
    exact Steps.refl _
  · show Q_pure (some (.long 100000000)) h0 n0 _ s₁.heap _
    rw [e0]
    exact ⟨rfl, N0, rfl⟩
theorem d39_81 : decode method_4_code 81 = .ok (.ldc2_w 55, 3) := by decide +kernel
theorem d39_84 : decode method_4_code 84 = .ok (.lreturn, 1) := by decide +kernel
set_option maxRecDepth 65536 in
set_option maxHeartbeats 40000000 in
theorem rm_pw_9 (l : Launch) (Z : State) (a0 : Array Value) (hw : ∀ d ∈ tables_1, d.before a0 Z = true) (ws : List Jvm.Cond)  (h0 : Heap) (n0 : Nat) (Z0 : n0 ≤ h0.size) :
    MetFree l mn39 (head1 (Jvm.Cond.code mn39 method_4_code 1 (some .long) :: ws) ro2) (fun a U => a = #[(.int 9)] ∧ Z.Warmed39 U.vm ∧ U.heap = h0) (fun _ _ _ _ _ => True) (fun _ U o U' => ∃ v L, o = .returned v ∧ Q_pure (some (.long 1000000000)) h0 n0 v U'.heap L ∧ FrameEnd U o U' L ro2.cells ro2.slots) := by
  refine MetFree.of_bodySF (plainFor_of_name pn_39) hisR ?_
  intro p e s m args below meth c s₁ Bd hml0 hP hK
  obtain ⟨rfl, hZ, hh⟩ := hP
  have hx := Bd.exec
  have hby := Bd.bytes
  have hml : c.maxLocals = 1 := hml0
  have hown : s.vm.findClass "com/example/demarc/demarc/tool/AccountToStringPinLaw" = some m.cls := findClass_of_methodNamed Bd.named
  have hnm := (name_of_methodNamed Bd.named Bd.method).1
  have X0 : Stand p l e ro2 s m #[(.int 9)] below meth c s₁ [] 0 0 := Stand.of_body Bd
  have e0 : s₁.heap = h0 := by rw [← hh, Bd.state]; rfl
  have N0 := Fr.nil n0
  have pre0 : ∀ t, Steps p.tables e below (s₁.setTop (mkF m 0 #[.val (.int 9)] [])) t → Steps p.tables e below (s₁.setTop (entryFrame m #[(.int 9)] 1)) t := fun t k => castTop (ef_39_I m (9 : Int32)) k
  obtain ⟨fs, hr, hrun, hended, hW, hsame⟩ := X0.leave (v := some (.long 1000000000)) (fun h => by rw [Bd.returns] at h; cases h)
  refine ⟨_, _, pre0 _ ?_, hrun, hended, _, _, rfl, ?_, ⟨_, rfl⟩, hW, hsame.mono (by decide) (by decide)⟩
  · show St p e below s₁ (mkF m 0 #[.val (.int 9)] []) _
    refine XS.iloadN X0.here hx rfl (hb hby d39_0) rfl ?_
    refine XS.ifYes X0.here hx rfl (pc0 := 1) (pc' := 6) rfl (hb hby d39_1) rfl ((if0 _ _).trans (feq (by decide : ¬ ((9 : Int32) = (0 : Int32)))).2) (by decide) (by decide) ?_
    refine XS.iloadN X0.here hx rfl (hb hby d39_6) rfl ?_
    refine XS.iconst X0.here hx rfl (hb hby d39_7) ?_
    refine XS.icmpYes X0.here hx rfl (pc0 := 8) (pc' := 15) rfl (hb hby d39_8) rfl (feq (by decide : ¬ ((9 : Int32) = (1 : Int32)))).2 (by decide) (by decide) ?_
    refine XS.iloadN X0.here hx rfl (hb hby d39_15) rfl ?_
    refine XS.iconst X0.here hx rfl (hb hby d39_16) ?_
    refine XS.icmpYes X0.here hx rfl (pc0 := 17) (pc' := 24) rfl (hb hby d39_17) rfl (feq (by decide : ¬ ((9 : Int32) = (2 : Int32)))).2 (by decide) (by decide) ?_
    show St p e below s₁ (mkF m 24 #[.val (.int 9)] []) _
    refine XS.iloadN X0.here hx rfl (hb hby d39_24) rfl ?_
    refine XS.iconst X0.here hx rfl (hb hby d39_25) ?_
    refine XS.icmpYes X0.here hx rfl (pc0 := 26) (pc' := 33) rfl (hb hby d39_26) rfl (feq (by decide : ¬ ((9 : Int32) = (3 : Int32)))).2 (by decide) (by decide) ?_
    refine XS.iloadN X0.here hx rfl (hb hby d39_33) rfl ?_
    refine XS.iconst X0.here hx rfl (hb hby d39_34) ?_
    refine XS.icmpYes X0.here hx rfl (pc0 := 35) (pc' := 42) rfl (hb hby d39_35) rfl (feq (by decide : ¬ ((9 : Int32) = (4 : Int32)))).2 (by decide) (by decide) ?_
    refine XS.iloadN X0.here hx rfl (hb hby d39_42) rfl ?_
    refine XS.iconst X0.here hx rfl (hb hby d39_43) ?_
    show St p e below s₁ (mkF m 44 #[.val (.int 9)] [(.int 5), (.int 9)]) _
    refine XS.icmpYes X0.here hx rfl (pc0 := 44) (pc' := 51) rfl (hb hby d39_44) rfl (feq (by decide : ¬ ((9 : Int32) = (5 : Int32)))).2 (by decide) (by decide) ?_
    refine XS.iloadN X0.here hx rfl (hb hby d39_51) rfl ?_
    refine XS.bipush X0.here hx rfl (hb hby d39_52) ?_
    refine XS.icmpYes X0.here hx rfl (pc0 := 54) (pc' := 61) rfl (hb hby d39_54) rfl (feq (by decide : ¬ ((9 : Int32) = (6 : Int32)))).2 (by decide) (by decide) ?_
    refine XS.iloadN X0.here hx rfl (hb hby d39_61) rfl ?_
    refine XS.bipush X0.here hx rfl (hb hby d39_62) ?_
    refine XS.icmpYes X0.here hx rfl (pc0 := 64) (pc' := 71) rfl (hb hby d39_64) rfl (feq (by decide : ¬ ((9 : Int32) = (7 : Int32)))).2 (by decide) (by decide) ?_
    refine XS.iloadN X0.here hx rfl (hb hby d39_71) rfl ?_
    show St p e below s₁ (mkF m 72 #[.val (.int 9)] [(.int 9)]) _
    refine XS.bipush X0.here hx rfl (hb hby d39_72) ?_
    refine XS.icmpYes X0.here hx rfl (pc0 := 74) (pc' := 81) rfl (hb hby d39_74) rfl (feq (by decide : ¬ ((9 : Int32) = (8 : Int32)))).2 (by decide) (by decide) ?_
    refine X0.ldc2Long hx hown (mvT hZ (hwi hw 225 rfl)) (g := (mkF m 81 #[.val (.int 9)] [])) rfl (hb hby d39_81) _ ?_
    show St p e below s₁ (mkF m 84 #[.val (.int 9)] [(.long 1000000000)]) _
    jvm_step X0.here [X0.here.top, hx, (hb hby d39_84), X0.method', Bd.returns, narrow]
    first | (intro acts; rw [hr _ acts rfl rfl rfl]) | rw [hr _ _ rfl rfl rfl]
    exact Steps.refl _
  · show Q_pure (some (.long 1000000000)) h0 n0 _ s₁.heap _
    rw [e0]
    exact ⟨rfl, N0, rfl⟩
def own_pw (j : Int32) (pw : Int64) : Prop := ∃ k : Nat, k < 10 ∧ j = Int32.ofNat k ∧ pw = Int64.ofNat (10 ^ k)
theorem rm_pows (l : Launch) (Z : State) (a0 : Array Value) (hw : ∀ d ∈ tables_1, d.before a0 Z = true) (ws : List Jvm.Cond) (p1 : Int32) (pw : Int64) (h0 : Heap) (n0 : Nat) (Z0 : n0 ≤ h0.size) (hpw : own_pw p1 pw) :
    MetFree l mn39 (head1 (Jvm.Cond.code mn39 method_4_code 1 (some .long) :: ws) ro2) (fun a U => a = #[(.int p1)] ∧ Z.Warmed39 U.vm ∧ U.heap = h0) (fun _ _ _ _ _ => True) (fun _ U o U' => ∃ v L, o = .returned v ∧ Q_pure (some (.long pw)) h0 n0 v U'.heap L ∧ FrameEnd U o U' L ro2.cells ro2.slots) := by
  obtain ⟨k, hk, rfl, rfl⟩ := hpw
  match k, hk with
  | 0, _ => exact rm_pw_0 l Z a0 hw ws  h0 n0 Z0
  | 1, _ => exact rm_pw_1 l Z a0 hw ws  h0 n0 Z0
  | 2, _ => exact rm_pw_2 l Z a0 hw ws  h0 n0 Z0
  | 3, _ => exact rm_pw_3 l Z a0 hw ws  h0 n0 Z0
  | 4, _ => exact rm_pw_4 l Z a0 hw ws  h0 n0 Z0
  | 5, _ => exact rm_pw_5 l Z a0 hw ws  h0 n0 Z0
  | 6, _ => exact rm_pw_6 l Z a0 hw ws  h0 n0 Z0
  | 7, _ => exact rm_pw_7 l Z a0 hw ws  h0 n0 Z0
  | 8, _ => exact rm_pw_8 l Z a0 hw ws  h0 n0 Z0
  | 9, _ => exact rm_pw_9 l Z a0 hw ws  h0 n0 Z0
theorem pd_I_J_228 : parseMethodDescriptor "(I)J" = some ⟨[.int], some .long⟩ := by decide +kernel
theorem pd_I_C_221 : parseMethodDescriptor "(I)C" = some ⟨[.int], some .char⟩ := by decide +kernel
theorem d38_0 : decode method_5_code 0 = .ok (.iload_n 3, 1) := by decide +kernel
theorem d38_1 : decode method_5_code 1 = .ok (.iload 4, 2) := by decide +kernel
theorem d38_3 : decode method_5_code 3 = .ok (.if_icmp .lt 5, 3) := by decide +kernel
theorem d38_8 : decode method_5_code 8 = .ok (.bipush 48, 2) := by decide +kernel
theorem d38_10 : decode method_5_code 10 = .ok (.lload_n 1, 1) := by decide +kernel
theorem d38_11 : decode method_5_code 11 = .ok (.iload_n 3, 1) := by decide +kernel
theorem d38_12 : decode method_5_code 12 = .ok (.invokestatic 57, 3) := by decide +kernel
theorem d38_15 : decode method_5_code 15 = .ok (.ldiv, 1) := by decide +kernel
theorem d38_16 : decode method_5_code 16 = .ok (.ldc2_w 39, 3) := by decide +kernel
theorem d38_19 : decode method_5_code 19 = .ok (.lrem, 1) := by decide +kernel
theorem d38_20 : decode method_5_code 20 = .ok (.l2i, 1) := by decide +kernel
theorem d38_21 : decode method_5_code 21 = .ok (.iadd, 1) := by decide +kernel
theorem d38_22 : decode method_5_code 22 = .ok (.i2c, 1) := by decide +kernel
theorem d38_23 : decode method_5_code 23 = .ok (.istore 5, 2) := by decide +kernel
theorem d38_25 : decode method_5_code 25 = .ok (.aload_n 0, 1) := by decide +kernel
theorem d38_26 : decode method_5_code 26 = .ok (.aload_n 0, 1) := by decide +kernel
theorem d38_27 : decode method_5_code 27 = .ok (.invokevirtual 27, 3) := by decide +kernel
theorem d38_30 : decode method_5_code 30 = .ok (.iconst 1, 1) := by decide +kernel
theorem d38_31 : decode method_5_code 31 = .ok (.isub, 1) := by decide +kernel
theorem d38_32 : decode method_5_code 32 = .ok (.iload_n 3, 1) := by decide +kernel
theorem d38_33 : decode method_5_code 33 = .ok (.isub, 1) := by decide +kernel
theorem d38_34 : decode method_5_code 34 = .ok (.invokevirtual 31, 3) := by decide +kernel
theorem d38_37 : decode method_5_code 37 = .ok (.iload 5, 2) := by decide +kernel
theorem d38_39 : decode method_5_code 39 = .ok (.if_icmp .ne 7, 3) := by decide +kernel
theorem d38_42 : decode method_5_code 42 = .ok (.iconst 1, 1) := by decide +kernel
theorem d38_43 : decode method_5_code 43 = .ok (.goto 4, 3) := by decide +kernel
theorem d38_47 : decode method_5_code 47 = .ok (.ireturn, 1) := by decide +kernel
theorem pn_38 : plainName "com/example/demarc/demarc/tool/AccountToStringPinLaw" = true := by first | (simp [plainName, overriddenIn]; done) | decide +kernel
theorem ef_38_RJII (m : MethodId) (x0 : Addr) (x1 : Int64) (x2 : Int32) (x3 : Int32) : entryFrame m #[(.ref x0), (.long x1), (.int x2), (.int x3)] 6 = mkF m 0 #[.val (.ref x0), .val (.long x1), .second, .val (.int x2), .val (.int x3), .unset] [] := by first | (simp [entryFrame, mkF, argsToLocals, Value.category]; done) | rfl
set_option maxRecDepth 65536 in
set_option maxHeartbeats 40000000 in
theorem rm_dokb (l : Launch) (Z : State) (a0 : Array Value) (hw : ∀ d ∈ tables_1, d.before a0 Z = true) (ws : List Jvm.Cond) (a1 : Addr) (q2 : Int64) (p3 : Int32) (p4 : Int32) (w_COMPACT_STRINGS : Int32) (t_a1 : Addr) (k_t_a1 : ClassId) (vs : List Value) (N : Int32) (xb : Int32) (ch : Int32) (jj : Int32) (pw : Int64) (w_SIOOBE_FORMATTER : Value) (h0 : Heap) (n0 : Nat) (Z0 : n0 ≤ h0.size) (S_COMPACT_STRINGS : Sta Z Z.heap "java/lang/String" "COMPACT_STRINGS" "Z" (.int w_COMPACT_STRINGS)) (hcs : ¬ (w_COMPACT_STRINGS = (0 : Int32))) (E_a1 : Exa Z h0 a1 "java/lang/String") (F_a1_coder : Fld Z h0 a1 "java/lang/String" "coder" "B" (.int 0)) (F_a1_value : Fld Z h0 a1 "java/lang/String" "value" "[B" (.ref t_a1)) (V_t_a1 : Arv Z h0 t_a1 k_t_a1 .byte N vs (.int 0)) (hjd : p3 < p4) (hpw : own_pw p3 pw) (hz15 : pw ≠ 0) (hj0 : ¬ (jj < (0 : Int32))) (hj1 : jj < N) (hxb : (vs).getD jj.toNatClampNeg (.int 0) = .int xb) (hch : ((xb &&& (255 : Int32)).toUInt32.toUInt16.toUInt32.toInt32) = ch) (hcn : (ch.toUInt32.toUInt16.toUInt32.toInt32) = ch) (hE : (((48 : Int32) + (((q2 / pw) - ((q2 / pw) / (10 : Int64)) * (10 : Int64)).toInt32)).toUInt32.toUInt16.toUInt32.toInt32) = ch) (O0 : Old Z n0 h0) (hjj : ((N - (1 : Int32)) - p3) = jj) (hr_SIOOBE_FORMATTER : w_SIOOBE_FORMATTER.isRef = true) (S_SIOOBE_FORMATTER : Sta Z Z.heap "jdk/internal/util/Preconditions" "SIOOBE_FORMATTER" "Ljava/util/function/BiFunction;" w_SIOOBE_FORMATTER) :
    MetFree l mn40 (head1 (Jvm.Cond.code mn40 method_5_code 6 (some .boolean) :: ws) ro34) (fun a U => a = #[(.ref a1), (.long q2), (.int p3), (.int p4)] ∧ Z.Warmed39 U.vm ∧ U.heap = h0) (fun _ _ _ _ _ => True) (fun _ U o U' => ∃ v L, o = .returned v ∧ Q_pure (some (.int 1)) h0 n0 v U'.heap L ∧ FrameEnd U o U' L ro34.cells ro34.slots) := by
  refine MetFree.of_bodySF (plainFor_of_name pn_38) hisR ?_
  intro p e s m args below meth c s₁ Bd hml0 hP hK
  obtain ⟨rfl, hZ, hh⟩ := hP
  have hx := Bd.exec
  have hby := Bd.bytes
  have hml : c.maxLocals = 6 := hml0
  have hown : s.vm.findClass "com/example/demarc/demarc/tool/AccountToStringPinLaw" = some m.cls := findClass_of_methodNamed Bd.named
  have hnm := (name_of_methodNamed Bd.named Bd.method).1
  have X0 : Stand p l e ro34 s m #[(.ref a1), (.long q2), (.int p3), (.int p4)] below meth c s₁ [] 0 0 := Stand.of_body Bd
  have e0 : s₁.heap = h0 := by rw [← hh, Bd.state]; rfl
  have N0 := Fr.nil n0
  have pre0 : ∀ t, Steps p.tables e below (s₁.setTop (mkF m 0 #[.val (.ref a1), .val (.long q2), .second, .val (.int p3), .val (.int p4), .unset] [])) t → Steps p.tables e below (s₁.setTop (entryFrame m #[(.ref a1), (.long q2), (.int p3), (.int p4)] 6)) t := fun t k => castTop (ef_38_RJII m a1 q2 p3 p4) k
  obtain ⟨_, _, ⟨T1, L1, k1, n1⟩, -, X1, ⟨Lc1, hQ1, l1, y1, z1⟩, st1⟩ := Jvm.LawKit.callS X0 hx (y := mn39) hown (mvT hZ (hwi hw 204 rfl)) (mvT hZ (hwi hw 205 rfl)) (mvT hZ (hwi hw 175 rfl)) (mvT hZ (hwi hw 206 rfl)) (by decide) (backOf (W := 3) (rm_pows l Z a0 hw [] p3 pw h0 n0 Z0 hpw) hZ (hwi hw 206 rfl) (hwi hw 175 rfl) (by decide) (by decide)) (g := (mkF m 12 #[.val (.ref a1), .val (.long q2), .second, .val (.int p3), .val (.int p4), .unset] [(.int p3), (.long q2), (.int 48)])) rfl (by rw [hml]; rfl) (argsL := [(.int p3)]) (rest := [(.long q2), (.int 48)]) (lenOf pd_I_J_228 rfl) rfl (by show 2 * 0 + _ ≤ _; exact Nat.le_of_eq rfl) (hb hby d38_12) (fun _ _ => ⟨rfl, e0, (by decide : 0 + 0 ≤ _), (by decide : 0 + 0 ≤ _)⟩)
  dsimp only [Pt.U, Pt.locs, Pt.cells, Pt.slots] at X1 l1 y1 z1 st1 hQ1
  subst l1 y1 z1
  obtain ⟨rfl, N1q, e1⟩ := hQ1
  have N1 := Fr.app N0 N1q
  obtain ⟨cq2, kq2, q2a, q2b, q2c⟩ := isOf hZ e1 E_a1
  obtain ⟨_, _, ⟨T2, L2, k2, n2⟩, -, X2, ⟨Lc2, hQ2, l2, y2, z2⟩, st2⟩ := X1.virtualBack hx (y := mn6) (z := mn6) hown (mvT hZ (hwi hw 178 rfl)) (mvT hZ (hwi hw 72 rfl)) (notFace_of_selects (args := #[]) (mvT hZ (hwi hw 74 rfl))) (mvT hZ (hwi hw 74 rfl)) (mvT hZ (hwi hw 73 rfl)) (by decide) (backOf (W := 1) (rm_slen l Z a0 hw [] a1 w_COMPACT_STRINGS t_a1 k_t_a1 vs N h0 n0 Z0 S_COMPACT_STRINGS hcs E_a1 F_a1_coder F_a1_value V_t_a1 O0 (own_sh N)) hZ (hwi hw 75 rfl) (hwi hw 3 rfl) (by decide) (by decide)) q2a q2c (g := (mkF m 27 #[.val (.ref a1), .val (.long q2), .second, .val (.int p3), .val (.int p4), .val (.int ch)] [(.ref a1), (.ref a1)])) rfl (by rw [hml]; rfl) (Steps.refl _) (argsL := []) (rest := [(.ref a1)]) (lenOf pd_I_154 rfl) rfl (by show 2 * 0 + _ ≤ _; exact Nat.le_of_eq rfl) (hb hby d38_27) (fun _ _ => ⟨rfl, e1, (by decide : 0 + 0 ≤ _), (by decide : 0 + 0 ≤ _)⟩)
  dsimp only [Pt.U, Pt.locs, Pt.cells, Pt.slots] at X2 l2 y2 z2 st2 hQ2
  subst l2 y2 z2
  obtain ⟨rfl, N2q, e2⟩ := hQ2
  have N2 := Fr.app N1 N2q
  obtain ⟨cq3, kq3, q3a, q3b, q3c⟩ := isOf hZ e2 E_a1
  obtain ⟨_, _, ⟨T3, L3, k3, n3⟩, -, X3, ⟨Lc3, hQ3, l3, y3, z3⟩, st3⟩ := X2.virtualBack hx (y := mn11) (z := mn11) hown (mvT hZ (hwi hw 179 rfl)) (mvT hZ (hwi hw 180 rfl)) (notFace_of_selects (args := #[]) (mvT hZ (hwi hw 182 rfl))) (mvT hZ (hwi hw 182 rfl)) (mvT hZ (hwi hw 181 rfl)) (by decide) (backOf (W := 0) (rm_schr l Z a0 hw [] a1 jj w_COMPACT_STRINGS t_a1 k_t_a1 vs N xb ch w_SIOOBE_FORMATTER h0 n0 Z0 S_COMPACT_STRINGS hcs E_a1 F_a1_coder F_a1_value V_t_a1 hj0 hj1 hxb O0 hr_SIOOBE_FORMATTER S_SIOOBE_FORMATTER hch hcn) hZ (hwi hw 183 rfl) (hwi hw 3 rfl) (by decide) (by decide)) q3a q3c (g := (mkF m 34 #[.val (.ref a1), .val (.long q2), .second, .val (.int p3), .val (.int p4), .val (.int ch)] [(.int jj), (.ref a1)])) rfl (by rw [hml]; rfl) (Steps.refl _) (argsL := [(.int jj)]) (rest := []) (lenOf pd_I_C_221 rfl) rfl (by show 2 * 0 + _ ≤ _; exact Nat.le_of_eq rfl) (hb hby d38_34) (fun _ _ => ⟨rfl, e2, (by decide : 0 + 0 ≤ _), (by decide : 0 + 0 ≤ _)⟩)
  dsimp only [Pt.U, Pt.locs, Pt.cells, Pt.slots] at X3 l3 y3 z3 st3 hQ3
  subst l3 y3 z3
  obtain ⟨rfl, N3q, e3⟩ := hQ3
  have N3 := Fr.app N2 N3q
  obtain ⟨fs, hr, hrun, hended, hW, hsame⟩ := X3.leave (v := some (.int 1)) (fun h => by rw [Bd.returns] at h; cases h)
  refine ⟨_, _, pre0 _ ?_, hrun, hended, _, _, rfl, ?_, ⟨_, rfl⟩, hW, hsame.mono (by decide) (by decide)⟩
  · show St p e below s₁ (mkF m 0 #[.val (.ref a1), .val (.long q2), .second, .val (.int p3), .val (.int p4), .unset] []) _
    refine XS.iloadN X0.here hx rfl (hb hby d38_0) rfl ?_
    refine XS.iload X0.here hx rfl (hb hby d38_1) rfl ?_
    refine XS.icmpYes X0.here hx rfl (pc0 := 3) (pc' := 8) rfl (hb hby d38_3) rfl (tlt hjd).1 (by decide) (by decide) ?_
    refine XS.bipush X0.here hx rfl (hb hby d38_8) ?_
    refine XS.lloadN X0.here hx rfl (hb hby d38_10) rfl ?_
    refine XS.iloadN X0.here hx rfl (hb hby d38_11) rfl ?_
    refine st1 _ ?_
    refine XS.ldiv X1.here hx rfl (hb hby d38_15) rfl hz15 ?_
    show St p e below T1 (mkF m 16 #[.val (.ref a1), .val (.long q2), .second, .val (.int p3), .val (.int p4), .unset] [(.long (q2 / pw)), (.int 48)]) _
    refine X1.ldc2Long hx hown (mvT hZ (hwi hw 177 rfl)) (g := (mkF m 16 #[.val (.ref a1), .val (.long q2), .second, .val (.int p3), .val (.int p4), .unset] [(.long (q2 / pw)), (.int 48)])) rfl (hb hby d38_16) _ ?_
    refine XS.lrem X1.here hx rfl (hb hby d38_19) rfl (by decide) ?_
    refine XS.l2i X1.here hx rfl (hb hby d38_20) rfl ?_
    refine XS.iadd X1.here hx rfl (hb hby d38_21) rfl ?_
    refine XS.i2c X1.here hx rfl (hb hby d38_22) rfl ?_
    show St p e below T1 (mkF m 23 #[.val (.ref a1), .val (.long q2), .second, .val (.int p3), .val (.int p4), .unset] [(.int (((48 : Int32) + (((q2 / pw) - ((q2 / pw) / (10 : Int64)) * (10 : Int64)).toInt32)).toUInt32.toUInt16.toUInt32.toInt32))]) _
    rw [hE]
    show St p e below T1 (mkF m 23 #[.val (.ref a1), .val (.long q2), .second, .val (.int p3), .val (.int p4), .unset] [(.int ch)]) _
    refine XS.istore X1.here hx rfl (hb hby d38_23) rfl (l' := #[.val (.ref a1), .val (.long q2), .second, .val (.int p3), .val (.int p4), .val (.int ch)]) rfl ?_
    refine XS.aloadN X1.here hx rfl (hb hby d38_25) rfl rfl ?_
    refine XS.aloadN X1.here hx rfl (hb hby d38_26) rfl rfl ?_
    refine st2.trans ?_
    refine XS.iconst X2.here hx rfl (hb hby d38_30) ?_
    refine XS.isub X2.here hx rfl (hb hby d38_31) rfl ?_
    refine XS.iloadN X2.here hx rfl (hb hby d38_32) rfl ?_
    refine XS.isub X2.here hx rfl (hb hby d38_33) rfl ?_
    show St p e below T2 (mkF m 34 #[.val (.ref a1), .val (.long q2), .second, .val (.int p3), .val (.int p4), .val (.int ch)] [(.int ((N - (1 : Int32)) - p3)), (.ref a1)]) _
    rw [hjj]
    show St p e below T2 (mkF m 34 #[.val (.ref a1), .val (.long q2), .second, .val (.int p3), .val (.int p4), .val (.int ch)] [(.int jj), (.ref a1)]) _
    refine st3.trans ?_
    refine XS.iload X3.here hx rfl (hb hby d38_37) rfl ?_
    refine XS.icmpNo X3.here hx rfl (hb hby d38_39) rfl (teq (rfl : ch = ch)).2 ?_
    refine XS.iconst X3.here hx rfl (hb hby d38_42) ?_
    refine XS.goto X3.here hx rfl (pc0 := 43) (pc' := 47) rfl (hb hby d38_43) (by decide) (by decide) ?_
    show St p e below T3 (mkF m 47 #[.val (.ref a1), .val (.long q2), .second, .val (.int p3), .val (.int p4), .val (.int ch)] [(.int 1)]) _
    exact retN X3 hx (t := .boolean) Bd.returns (by simp) (hb hby d38_47) hr
  · show Q_pure (some (.int 1)) h0 n0 _ T3.heap _
    rw [e3]
    exact ⟨rfl, N3, rfl⟩
theorem d38_6 : decode method_5_code 6 = .ok (.iconst 1, 1) := by decide +kernel
theorem d38_7 : decode method_5_code 7 = .ok (.ireturn, 1) := by decide +kernel
set_option maxRecDepth 65536 in
set_option maxHeartbeats 40000000 in
theorem rm_doka (l : Launch) (Z : State) (a0 : Array Value) (hw : ∀ d ∈ tables_1, d.before a0 Z = true) (ws : List Jvm.Cond) (a1 : Addr) (q2 : Int64) (p3 : Int32) (p4 : Int32) (h0 : Heap) (n0 : Nat) (Z0 : n0 ≤ h0.size) (hjd : ¬ (p3 < p4)) :
    MetFree l mn40 (head1 (Jvm.Cond.code mn40 method_5_code 6 (some .boolean) :: ws) ro34) (fun a U => a = #[(.ref a1), (.long q2), (.int p3), (.int p4)] ∧ Z.Warmed39 U.vm ∧ U.heap = h0) (fun _ _ _ _ _ => True) (fun _ U o U' => ∃ v L, o = .returned v ∧ Q_pure (some (.int 1)) h0 n0 v U'.heap L ∧ FrameEnd U o U' L ro34.cells ro34.slots) := by
  refine MetFree.of_bodySF (plainFor_of_name pn_38) hisR ?_
  intro p e s m args below meth c s₁ Bd hml0 hP hK
  obtain ⟨rfl, hZ, hh⟩ := hP
  have hx := Bd.exec
  have hby := Bd.bytes
  have hml : c.maxLocals = 6 := hml0
  have hown : s.vm.findClass "com/example/demarc/demarc/tool/AccountToStringPinLaw" = some m.cls := findClass_of_methodNamed Bd.named
  have hnm := (name_of_methodNamed Bd.named Bd.method).1
  have X0 : Stand p l e ro34 s m #[(.ref a1), (.long q2), (.int p3), (.int p4)] below meth c s₁ [] 0 0 := Stand.of_body Bd
  have e0 : s₁.heap = h0 := by rw [← hh, Bd.state]; rfl
  have N0 := Fr.nil n0
  have pre0 : ∀ t, Steps p.tables e below (s₁.setTop (mkF m 0 #[.val (.ref a1), .val (.long q2), .second, .val (.int p3), .val (.int p4), .unset] [])) t → Steps p.tables e below (s₁.setTop (entryFrame m #[(.ref a1), (.long q2), (.int p3), (.int p4)] 6)) t := fun t k => castTop (ef_38_RJII m a1 q2 p3 p4) k
  obtain ⟨fs, hr, hrun, hended, hW, hsame⟩ := X0.leave (v := some (.int 1)) (fun h => by rw [Bd.returns] at h; cases h)
  refine ⟨_, _, pre0 _ ?_, hrun, hended, _, _, rfl, ?_, ⟨_, rfl⟩, hW, hsame.mono (by decide) (by decide)⟩
  · show St p e below s₁ (mkF m 0 #[.val (.ref a1), .val (.long q2), .second, .val (.int p3), .val (.int p4), .unset] []) _
    refine XS.iloadN X0.here hx rfl (hb hby d38_0) rfl ?_
    refine XS.iload X0.here hx rfl (hb hby d38_1) rfl ?_
    refine XS.icmpNo X0.here hx rfl (hb hby d38_3) rfl (flt hjd).1 ?_
    refine XS.iconst X0.here hx rfl (hb hby d38_6) ?_
    show St p e below s₁ (mkF m 7 #[.val (.ref a1), .val (.long q2), .second, .val (.int p3), .val (.int p4), .unset] [(.int 1)]) _
    exact retN X0 hx (t := .boolean) Bd.returns (by simp) (hb hby d38_7) hr
  · show Q_pure (some (.int 1)) h0 n0 _ s₁.heap _
    rw [e0]
    exact ⟨rfl, N0, rfl⟩
theorem own_pw0 : ∀ k, k < 10 → Int64.ofNat (10 ^ k) ≠ 0 := by decide +kernel
theorem rm_dok (l : Launch) (Z : State) (a0 : Array Value) (hw : ∀ d ∈ tables_1, d.before a0 Z = true) (ws : List Jvm.Cond) (a1 : Addr) (q2 : Int64) (p3 : Int32) (p4 : Int32) (w_COMPACT_STRINGS : Int32) (t_a1 : Addr) (k_t_a1 : ClassId) (vs : List Value) (N : Int32) (pw : Int64) (w_SIOOBE_FORMATTER : Value) (h0 : Heap) (n0 : Nat) (Z0 : n0 ≤ h0.size) (S_COMPACT_STRINGS : Sta Z Z.heap "java/lang/String" "COMPACT_STRINGS" "Z" (.int w_COMPACT_STRINGS)) (hcs : ¬ (w_COMPACT_STRINGS = (0 : Int32))) (E_a1 : Exa Z h0 a1 "java/lang/String") (F_a1_coder : Fld Z h0 a1 "java/lang/String" "coder" "B" (.int 0)) (F_a1_value : Fld Z h0 a1 "java/lang/String" "value" "[B" (.ref t_a1)) (V_t_a1 : Arv Z h0 t_a1 k_t_a1 .byte N vs (.int 0)) (hpw : own_pw p3 pw) (O0 : Old Z n0 h0) (hr_SIOOBE_FORMATTER : w_SIOOBE_FORMATTER.isRef = true) (S_SIOOBE_FORMATTER : Sta Z Z.heap "jdk/internal/util/Preconditions" "SIOOBE_FORMATTER" "Ljava/util/function/BiFunction;" w_SIOOBE_FORMATTER) (hA : own_A vs N q2 p4) :
    MetFree l mn40 (head1 (Jvm.Cond.code mn40 method_5_code 6 (some .boolean) :: ws) ro34) (fun a U => a = #[(.ref a1), (.long q2), (.int p3), (.int p4)] ∧ Z.Warmed39 U.vm ∧ U.heap = h0) (fun _ _ _ _ _ => True) (fun _ U o U' => ∃ v L, o = .returned v ∧ Q_pure (some (.int 1)) h0 n0 v U'.heap L ∧ FrameEnd U o U' L ro34.cells ro34.slots) := by
  by_cases hjd : p3 < p4
  · obtain ⟨k, hk, hk1, hk2⟩ := id hpw
    have hz15 : pw ≠ 0 := by rw [hk2]; exact own_pw0 k hk
    obtain ⟨xb, ch, jj, hjj, hj0, hj1, hxb, hch, hcn, hE⟩ := hA k hk (hk1 ▸ hjd)
    rw [← hk1] at hjj
    rw [← hk2] at hE
    exact rm_dokb l Z a0 hw ws a1 q2 p3 p4 w_COMPACT_STRINGS t_a1 k_t_a1 vs N xb ch jj pw w_SIOOBE_FORMATTER h0 n0 Z0 S_COMPACT_STRINGS hcs E_a1 F_a1_coder F_a1_value V_t_a1 hjd hpw hz15 hj0 hj1 hxb hch hcn hE O0 hjj hr_SIOOBE_FORMATTER S_SIOOBE_FORMATTER
  · exact rm_doka l Z a0 hw ws a1 q2 p3 p4 h0 n0 Z0 hjd
theorem pd_C_V_325 : parseMethodDescriptor "([C)V" = some ⟨[(.array .char)], none⟩ := by decide +kernel
theorem pd_Ljava_lang_String_I_V_936 : parseMethodDescriptor "(Ljava/lang/String;I)V" = some ⟨[(.object "java/lang/String"), .int], none⟩ := by decide +kernel
set_option maxRecDepth 65536 in
set_option maxHeartbeats 40000000 in
theorem sg_front_0 {p : Program} {l : Launch} {e : Env} {s : State} {m : MethodId} {args : Array Value} {below : List Frame} {meth : Method} {c : Code} {T0 : State} {locs : List Loc} {Z : State} {a0 : Array Value} {h0 : Heap} {n0 : Nat} {vm0 : Vm} {k0 : Nat} (p1 : Int32) (p2 : Int32) (w_COMPACT_STRINGS : Int32) (zz : Int32) (n : Nat) (ix : Nat) (cA : Int32) (cB : Int32) (cC : Int32)
    (X0 : Stand p l e room_1 (s.setVm vm0) m args below meth c T0 locs 0 0) (hx : p.tables.exec = Jvm.exec) (hZ : Z.Warmed39 (s.setVm vm0).vm) (hw : ∀ d ∈ tables_1, d.before a0 Z = true) (hby : c.code = code) (hml : c.maxLocals = 14) (hown : (s.setVm vm0).vm.findClass "com/example/demarc/demarc/tool/AccountToStringPinLaw" = some m.cls) (e0 : T0.heap = h0) (N0 : Fr n0 locs) (Z0 : n0 ≤ h0.size) (hEL : EW Z a0 consts_1) (hS0 : s.Since vm0 k0) (hk0 : k0 ≤ h0.size) (H0c : CHv Z consts_1 vm0 h0) (S_COMPACT_STRINGS : Sta Z Z.heap "java/lang/String" "COMPACT_STRINGS" "Z" (.int w_COMPACT_STRINGS)) (hcs : ¬ (w_COMPACT_STRINGS = (0 : Int32))) (hzz : ((1 : Int32) + (Jvm.Free.SBG.strSizeOf p2)) = zz) (hB : own_B Z) (hN : own_N p2 n 1 ix) (hix : zz = Int32.ofNat ix) (hk : (p1 &&& (3 : Int32)) = (0 : Int32)) (hcA : ((((p1.toUInt32 >>> ((2 : Int32) &&& 31).toUInt32).toInt32) &&& (255 : Int32)).toUInt32.toUInt16.toUInt32.toInt32) = cA) (hcB : ((((p1.toUInt32 >>> ((10 : Int32) &&& 31).toUInt32).toInt32) &&& (255 : Int32)).toUInt32.toUInt16.toUInt32.toInt32) = cB) (hcC : ((((p1.toUInt32 >>> ((18 : Int32) &&& 31).toUInt32).toInt32) &&& (255 : Int32)).toUInt32.toUInt16.toUInt32.toInt32) = cC) (O0 : Old Z n0 h0) :
    ∃ (T' : State) (locs' : List Loc) (vm1 : Vm) (k1 : Nat) (b6 : Addr) (b7 : Addr) (ss : Addr) (tt : Addr) (kt : ClassId) (vs : List Value), Stand p l e room_1 (s.setVm vm1) m args below meth c T' locs' 13 62 ∧ Fr n0 locs' ∧ Keep h0 T'.heap [] ∧ s.Since vm1 k1 ∧ k1 ≤ T'.heap.size ∧ Z.Warmed39 (s.setVm vm1).vm ∧ (s.setVm vm1).vm.findClass "com/example/demarc/demarc/tool/AccountToStringPinLaw" = some m.cls ∧ CHr Z consts_1 vm0 h0 vm1 T'.heap ∧ h0.size ≤ ss ∧ Exa Z T'.heap ss "java/lang/String" ∧ Fld Z T'.heap ss "java/lang/String" "coder" "B" (.int 0) ∧ Fld Z T'.heap ss "java/lang/String" "value" "[B" (.ref tt) ∧ Arv Z T'.heap tt kt .byte zz vs (.int 0) ∧ own_T vs [(.int 58), (.int 0), (.int 0), (.int 0), (.int 0), (.int 0), (.int 0), (.int 0), (.int 0), (.int 0), (.int 0), (.int 0), (.int 0), (.int 0), (.int 0), (.int 0)] 1 p2 n ix ∧ ∀ target, Steps p.tables e below (T'.setTop (mkF m 131 #[.val (.int p1), .val (.int p2), .val (.int 0), .val (.int cA), .val (.int cB), .val (.int cC), .val (.ref b6), .val (.ref b7), .val (.ref ss), .unset, .unset, .unset, .unset, .unset] [])) target → Steps p.tables e below (T0.setTop (mkF m 0 #[.val (.int p1), .val (.int p2), .unset, .unset, .unset, .unset, .unset, .unset, .unset, .unset, .unset, .unset, .unset, .unset] [])) target := by
  have C0c : CHr Z consts_1 vm0 h0 vm0 h0 := CHr.refl H0c
  obtain ⟨T1, h1, k1, X1, e1, E1, A1, st1⟩ := newP X0 hx hZ (hwi hw 0 rfl) e0 (g := (mkF m 40 #[.val (.int p1), .val (.int p2), .val (.int 0), .val (.int cA), .val (.int cB), .val (.int cC), .unset, .unset, .unset, .unset, .unset, .unset, .unset, .unset] [(.int 0)])) rfl (hb hby at_40) rfl (by decide) (cap := 0) (by decide) (by decide) (by decide) (by decide)
  obtain ⟨b1, g1⟩ : ∃ z, z = h0.size := ⟨_, rfl⟩
  rw [← g1] at A1 st1
  have bn_b1 : h0.size ≤ b1 := Nat.le_of_eq g1.symm
  have R2 := CHr.ext E1 H0c
  have CR2 := C0c.trans R2
  have sz3 : h0.size ≤ h1.size := E1.1
  have Z3 : n0 ≤ h1.size := Nat.le_trans Z0 sz3
  have hk3 := Nat.le_trans hk0 sz3
  have O3 := O0.ext E1
  have K3 : Keep h0 h1 [] := (Keep.refl h0 []).ext E1
  have V1 : Arv Z h1 b1 k1 .char (0 : Int32) [] (.int 0) := (Arv.new A1 (by decide)).pad (pad_rep [] (.int 0) 0)
  obtain ⟨T4, h4, X4, e4, E4, A4, D4, -, st4⟩ := newO X1 hx hZ hown (hwi hw 1 rfl) (hwi hw 2 rfl) (hwi hw 3 rfl) e1 (g := (mkF m 105 #[.val (.int p1), .val (.int p2), .val (.int 0), .val (.int cA), .val (.int cB), .val (.int cC), .val (.ref b1), .unset, .unset, .unset, .unset, .unset, .unset, .unset] [])) rfl (hb hby at_105) (by decide) (by decide)
  obtain ⟨b4, g4⟩ : ∃ z, z = h1.size := ⟨_, rfl⟩
  rw [← g4] at A4 D4 st4
  have bn_b4 : h0.size ≤ b4 := Nat.le_trans K3.1 (Nat.le_of_eq g4.symm)
  have sfb4 : Safe Z consts_1 vm0 h1 b4 := Safe.new (Nat.le_of_eq g4.symm)
  have R5 := CHr.ext E4 R2.1
  have sf_b4_5 := Safe.ext E4 R2.1 sfb4
  have CR5 := CR2.trans R5
  have sz6 : h1.size ≤ h4.size := E4.1
  have Z6 : n0 ≤ h4.size := Nat.le_trans Z3 sz6
  have hk6 := Nat.le_trans hk3 sz6
  have O6 := O3.ext E4
  have K6 : Keep h0 h4 [] := K3.ext E4
  have F4_value : Fld Z h4 b4 "java/lang/String" "value" "[B" .null := D4 (Or.inr (hwi hw 16 rfl)) (ty := (.array .byte)) (by decide)
  have F4_coder : Fld Z h4 b4 "java/lang/String" "coder" "B" (.int 0) := D4 (Or.inr (hwi hw 17 rfl)) (ty := .byte) (by decide)
  have fc8 := (V1.ext E4)
  obtain ⟨_, _, ⟨T7, L7, k7, n7⟩, -, X7, hS7, gr7, ⟨Lc7, hQ7, l7, y7, z7, C7⟩, st7⟩ := X4.specialBackS hx (y := mn1) rfl hown (mvT hZ (hwi hw 4 rfl)) (mvT hZ (hwi hw 5 rfl)) (mvT hZ (hwi hw 6 rfl)) (by decide) (backOfSH (s := s) (vm0 := vm0) (EL := consts_1) (W := 1) (rm_new1_0 l Z a0 hw hEL [] b4 b1 k1 h4 n0 Z6 A4 F4_value F4_coder fc8 O6 (Nat.le_trans Z0 bn_b4)) hZ (hwi hw 6 rfl) (hwi hw 3 rfl) (by decide) (by decide) hEL R5.1) (g := (mkF m 111 #[.val (.int p1), .val (.int p2), .val (.int 0), .val (.int cA), .val (.int cB), .val (.int cC), .val (.ref b1), .unset, .unset, .unset, .unset, .unset, .unset, .unset] [(.ref b1), (.ref b4), (.ref b4)])) rfl (by rw [hml]; rfl) (Steps.refl _) (a := b4) (argsL := [(.ref b1)]) (rest := [(.ref b4)]) (lenOf pd_C_V_325 rfl) rfl (by show 2 * 0 + _ ≤ _; exact Nat.le_of_eq rfl) (hb hby at_111) (fun _ _ => ⟨rfl, e4, (by decide : 2 + 4 ≤ _), (by decide : 4 + 8 ≤ _)⟩)
  dsimp only [Pt.U, Pt.locs, Pt.cells, Pt.slots] at X7 l7 y7 z7 st7 hQ7 hS7 gr7 C7
  subst l7 y7 z7
  obtain ⟨X7, hS7, hZ7, ho7⟩ := rebS hS0 (by rw [e4]; exact hk6) X7 hS7 gr7 hZ hown
  obtain ⟨t_7, kt_7, rfl, N7q, Kc7, g7_0, g7_1, g7_2, g7_3⟩ := hQ7
  have N7 := Fr.app N0 N7q
  have sf_b4_9 := CHr.safe C7 (show b4 < h4.size from ltN (by have := ltN A4.lt; omega)) sf_b4_5
  have R9 := C7
  have CR9 := CR5.trans R9
  have sz10 : h4.size ≤ T7.heap.size := Kc7.1
  have Z10 : n0 ≤ T7.heap.size := Nat.le_trans Z6 sz10
  have O10 := O6.keep Kc7 (allS (Nat.le_trans Z0 bn_b4) all0)
  have K10 : Keep h0 T7.heap [] := K6.trans Kc7 (allS (Or.inr bn_b4) (all0))
  obtain ⟨T11, h11, X11, e11, E11, A11, D11, -, st11⟩ := newO X7 hx hZ7 ho7 (hwi hw 22 rfl) (hwi hw 23 rfl) (hwi hw 24 rfl) rfl (g := (mkF m 116 #[.val (.int p1), .val (.int p2), .val (.int 0), .val (.int cA), .val (.int cB), .val (.int cC), .val (.ref b1), .val (.ref b4), .unset, .unset, .unset, .unset, .unset, .unset] [])) rfl (hb hby at_116) (by decide) (by decide)
  obtain ⟨b11, g11⟩ : ∃ z, z = T7.heap.size := ⟨_, rfl⟩
  rw [← g11] at A11 D11 st11
  have bn_b11 : h0.size ≤ b11 := Nat.le_trans K10.1 (Nat.le_of_eq g11.symm)
  have R12 := CHr.ext E11 R9.1
  have sf_b4_12 := Safe.ext E11 R9.1 sf_b4_9
  have CR12 := CR9.trans R12
  have sz13 : T7.heap.size ≤ h11.size := E11.1
  have Z13 : n0 ≤ h11.size := Nat.le_trans Z10 sz13
  have hk13 := Nat.le_trans (Nat.le_refl T7.heap.size) sz13
  have O13 := O10.ext E11
  have K13 : Keep h0 h11 [] := K10.ext E11
  have F11_database : Fld Z h11 b11 "com/example/demarc/demarc/tool/Account" "database" "Ljava/lang/String;" .null := D11 (Or.inr (hwi hw 35 rfl)) (ty := (.object "java/lang/String")) (by decide)
  have F11_number : Fld Z h11 b11 "com/example/demarc/demarc/tool/Account" "number" "I" (.int 0) := D11 (Or.inr (hwi hw 37 rfl)) (ty := .int) (by decide)
  obtain ⟨_, _, ⟨T14, L14, k14, n14⟩, -, X14, ⟨Lc14, hQ14, l14, y14, z14⟩, st14⟩ := X11.specialBack hx (y := mn36) rfl ho7 (mvT hZ7 (hwi hw 25 rfl)) (mvT hZ7 (hwi hw 26 rfl)) (mvT hZ7 (hwi hw 27 rfl)) (by decide) (backOf (W := 1) (rm_acinit l Z a0 hw [] b11 b4 p2 .null (.int 0) h11 n0 Z13 A11 F11_database (Nat.le_trans Z0 bn_b11) O13 F11_number) hZ7 (hwi hw 27 rfl) (hwi hw 24 rfl) (by decide) (by decide)) (g := (mkF m 123 #[.val (.int p1), .val (.int p2), .val (.int 0), .val (.int cA), .val (.int cB), .val (.int cC), .val (.ref b1), .val (.ref b4), .unset, .unset, .unset, .unset, .unset, .unset] [(.int p2), (.ref b4), (.ref b11), (.ref b11)])) rfl (by rw [hml]; rfl) (Steps.refl _) (a := b11) (argsL := [(.ref b4), (.int p2)]) (rest := [(.ref b11)]) (lenOf pd_Ljava_lang_String_I_V_936 rfl) rfl (by show 2 * 0 + _ ≤ _; exact Nat.le_of_eq rfl) (hb hby at_123) (fun _ _ => ⟨rfl, e11, (by decide : 7 + 0 ≤ _), (by decide : 14 + 0 ≤ _)⟩)
  dsimp only [Pt.U, Pt.locs, Pt.cells, Pt.slots] at X14 l14 y14 z14 st14 hQ14
  subst l14 y14 z14
  obtain ⟨rfl, N14q, Kc14, g14_0, g14_1, g14_2⟩ := hQ14
  have N14 := Fr.app N7 N14q
  have R15 := CHr.keep Kc14 (sfS (Safe.exa hZ7.alike A11 (by decide) (by decide)) sf0) R12.1
  have sf_b4_15 := Safe.keep Kc14 (sfS (Safe.exa hZ7.alike A11 (by decide) (by decide)) sf0) R12.1 sf_b4_12
  have CR15 := CR12.trans R15
  have sz16 : h11.size ≤ T14.heap.size := Kc14.1
  have Z16 : n0 ≤ T14.heap.size := Nat.le_trans Z13 sz16
  have hk16 := Nat.le_trans hk13 sz16
  have O16 := O13.keep Kc14 (allS (Nat.le_trans Z0 bn_b11) all0)
  have K16 : Keep h0 T14.heap [] := K13.trans Kc14 (allS (Or.inr bn_b11) (all0))
  have fc18 := ((g7_0.ext E11).keep Kc14)
  have fc19 := ((g7_1.ext E11).keep Kc14 (ninS (neN (by have := ltN A4.lt; have := ltN A11.lt; omega)) nin0))
  have fc20 := ((g7_2.ext E11).keep Kc14 (ninS (neN (by have := ltN A4.lt; have := ltN A11.lt; omega)) nin0))
  have fc21 := ((g7_3.ext E11).keep Kc14 (ninS (neN (by have := ltN g7_3.lt; have := ltN A11.lt; omega)) nin0))
  obtain ⟨cq17, kq17, q17a, q17b, q17c⟩ := isOf hZ7 rfl g14_0
  obtain ⟨_, _, ⟨T17, L17, k17, n17⟩, -, X17, hS17, gr17, ⟨Lc17, hQ17, l17, y17, z17, C17⟩, st17⟩ := X14.virtualBackS hx (y := mn37) (z := mn37) ho7 (mvT hZ7 (hwi hw 38 rfl)) (mvT hZ7 (hwi hw 39 rfl)) (notFace_of_selects (args := #[]) (mvT hZ7 (hwi hw 41 rfl))) (mvT hZ7 (hwi hw 41 rfl)) (mvT hZ7 (hwi hw 40 rfl)) (by decide) (backOfSH (s := s) (vm0 := T7.vm) (EL := consts_1) (W := 0) (rm_acstr_0 l Z a0 hw hEL [] b11 w_COMPACT_STRINGS b4 p2 t_7 kt_7 zz n 1 ix T14.heap n0 Z16 S_COMPACT_STRINGS hcs g14_1 fc18 g14_2 fc19 fc20 fc21 hzz hB hN hix O16) hZ7 (hwi hw 42 rfl) (hwi hw 24 rfl) (by decide) (by decide) hEL R15.1) q17a q17c (g := (mkF m 126 #[.val (.int p1), .val (.int p2), .val (.int 0), .val (.int cA), .val (.int cB), .val (.int cC), .val (.ref b1), .val (.ref b4), .unset, .unset, .unset, .unset, .unset, .unset] [(.ref b11)])) rfl (by rw [hml]; rfl) (Steps.refl _) (argsL := []) (rest := []) (lenOf pd_Ljava_lang_String_777 rfl) rfl (by show 2 * 0 + _ ≤ _; exact Nat.le_of_eq rfl) (hb hby at_126) (fun _ _ => ⟨rfl, rfl, (by decide : 7 + 6 ≤ _), (by decide : 14 + 48 ≤ _)⟩)
  dsimp only [Pt.U, Pt.locs, Pt.cells, Pt.slots] at X17 l17 y17 z17 st17 hQ17 hS17 gr17 C17
  subst l17 y17 z17
  obtain ⟨X17, hS17, hZ17, ho17⟩ := rebS hS7 hk16 X17 hS17 gr17 hZ7 ho7
  obtain ⟨r_17, t_17, kt_17, vs_17, rfl, N17q, Kc17, g17_0, g17_1, g17_2, g17_3, g17_4, g17_5, g17_6⟩ := hQ17
  have N17 := Fr.app N14 N17q
  have sf_b4_22 := CHr.safe C17 (show b4 < T14.heap.size from ltN (by have := ltN A4.lt; omega)) sf_b4_15
  have R22 := C17
  have CR22 := CR15.trans R22
  have sz23 : T14.heap.size ≤ T17.heap.size := Kc17.1
  have Z23 : n0 ≤ T17.heap.size := Nat.le_trans Z16 sz23
  have O23 := O16.keep Kc17 all0
  have K23 : Keep h0 T17.heap [] := K16.trans Kc17 (all0)
  have bn_r_17 : h0.size ≤ r_17 := Nat.le_trans K16.1 g17_0
  have bn_t_17 : h0.size ≤ t_17 := Nat.le_trans K16.1 g17_1
  refine ⟨T17, _, T17.vm, _, b1, b4, r_17, t_17, kt_17, vs_17, X17, N17, K23, hS17, (Nat.le_refl T17.heap.size), hZ17, ho17, CR22, bn_r_17, g17_2, g17_3, g17_4, g17_5, g17_6, fun target kt => ?_⟩
  refine XS.iloadN X0.here hx rfl (hb hby at_0) rfl ?_
  refine XS.iconst X0.here hx rfl (hb hby at_1) ?_
  refine XS.iand X0.here hx rfl (hb hby at_2) rfl ?_
  show St p e below T0 (mkF m 3 #[.val (.int p1), .val (.int p2), .unset, .unset, .unset, .unset, .unset, .unset, .unset, .unset, .unset, .unset, .unset, .unset] [(.int (p1 &&& (3 : Int32)))]) _
  rw [hk]
  show St p e below T0 (mkF m 3 #[.val (.int p1), .val (.int p2), .unset, .unset, .unset, .unset, .unset, .unset, .unset, .unset, .unset, .unset, .unset, .unset] [(.int 0)]) _
  refine XS.istoreN X0.here hx rfl (hb hby at_3) rfl (l' := #[.val (.int p1), .val (.int p2), .val (.int 0), .unset, .unset, .unset, .unset, .unset, .unset, .unset, .unset, .unset, .unset, .unset]) rfl ?_
  refine XS.iloadN X0.here hx rfl (hb hby at_4) rfl ?_
  refine XS.iconst X0.here hx rfl (hb hby at_5) ?_
  refine XS.iushr X0.here hx rfl (hb hby at_6) rfl ?_
  refine XS.sipush X0.here hx rfl (hb hby at_7) ?_
  refine XS.iand X0.here hx rfl (hb hby at_10) rfl ?_
  refine XS.i2c X0.here hx rfl (hb hby at_11) rfl ?_
  show St p e below T0 (mkF m 12 #[.val (.int p1), .val (.int p2), .val (.int 0), .unset, .unset, .unset, .unset, .unset, .unset, .unset, .unset, .unset, .unset, .unset] [(.int ((((p1.toUInt32 >>> ((2 : Int32) &&& 31).toUInt32).toInt32) &&& (255 : Int32)).toUInt32.toUInt16.toUInt32.toInt32))]) _
  rw [hcA]
  show St p e below T0 (mkF m 12 #[.val (.int p1), .val (.int p2), .val (.int 0), .unset, .unset, .unset, .unset, .unset, .unset, .unset, .unset, .unset, .unset, .unset] [(.int cA)]) _
  refine XS.istoreN X0.here hx rfl (hb hby at_12) rfl (l' := #[.val (.int p1), .val (.int p2), .val (.int 0), .val (.int cA), .unset, .unset, .unset, .unset, .unset, .unset, .unset, .unset, .unset, .unset]) rfl ?_
  refine XS.iloadN X0.here hx rfl (hb hby at_13) rfl ?_
  refine XS.bipush X0.here hx rfl (hb hby at_14) ?_
  refine XS.iushr X0.here hx rfl (hb hby at_16) rfl ?_
  refine XS.sipush X0.here hx rfl (hb hby at_17) ?_
  refine XS.iand X0.here hx rfl (hb hby at_20) rfl ?_
  refine XS.i2c X0.here hx rfl (hb hby at_21) rfl ?_
  show St p e below T0 (mkF m 22 #[.val (.int p1), .val (.int p2), .val (.int 0), .val (.int cA), .unset, .unset, .unset, .unset, .unset, .unset, .unset, .unset, .unset, .unset] [(.int ((((p1.toUInt32 >>> ((10 : Int32) &&& 31).toUInt32).toInt32) &&& (255 : Int32)).toUInt32.toUInt16.toUInt32.toInt32))]) _
  rw [hcB]
  show St p e below T0 (mkF m 22 #[.val (.int p1), .val (.int p2), .val (.int 0), .val (.int cA), .unset, .unset, .unset, .unset, .unset, .unset, .unset, .unset, .unset, .unset] [(.int cB)]) _
  refine XS.istore X0.here hx rfl (hb hby at_22) rfl (l' := #[.val (.int p1), .val (.int p2), .val (.int 0), .val (.int cA), .val (.int cB), .unset, .unset, .unset, .unset, .unset, .unset, .unset, .unset, .unset]) rfl ?_
  refine XS.iloadN X0.here hx rfl (hb hby at_24) rfl ?_
  refine XS.bipush X0.here hx rfl (hb hby at_25) ?_
  refine XS.iushr X0.here hx rfl (hb hby at_27) rfl ?_
  refine XS.sipush X0.here hx rfl (hb hby at_28) ?_
  refine XS.iand X0.here hx rfl (hb hby at_31) rfl ?_
  refine XS.i2c X0.here hx rfl (hb hby at_32) rfl ?_
  show St p e below T0 (mkF m 33 #[.val (.int p1), .val (.int p2), .val (.int 0), .val (.int cA), .val (.int cB), .unset, .unset, .unset, .unset, .unset, .unset, .unset, .unset, .unset] [(.int ((((p1.toUInt32 >>> ((18 : Int32) &&& 31).toUInt32).toInt32) &&& (255 : Int32)).toUInt32.toUInt16.toUInt32.toInt32))]) _
  rw [hcC]
  show St p e below T0 (mkF m 33 #[.val (.int p1), .val (.int p2), .val (.int 0), .val (.int cA), .val (.int cB), .unset, .unset, .unset, .unset, .unset, .unset, .unset, .unset, .unset] [(.int cC)]) _
  refine XS.istore X0.here hx rfl (hb hby at_33) rfl (l' := #[.val (.int p1), .val (.int p2), .val (.int 0), .val (.int cA), .val (.int cB), .val (.int cC), .unset, .unset, .unset, .unset, .unset, .unset, .unset, .unset]) rfl ?_
  refine XS.iloadN X0.here hx rfl (hb hby at_35) rfl ?_
  refine XS.ifNo X0.here hx rfl (hb hby at_36) rfl ((if0 _ _).trans (teq (by decide : (0 : Int32) = (0 : Int32))).2) ?_
  refine XS.iconst X0.here hx rfl (hb hby at_39) ?_
  refine st1 _ ?_
  refine XS.astore X1.here hx rfl (hb hby at_42) rfl rfl (l' := #[.val (.int p1), .val (.int p2), .val (.int 0), .val (.int cA), .val (.int cB), .val (.int cC), .val (.ref b1), .unset, .unset, .unset, .unset, .unset, .unset, .unset]) rfl ?_
  refine XS.goto X1.here hx rfl (pc0 := 44) (pc' := 105) rfl (hb hby at_44) (by decide) (by decide) ?_
  refine st4 _ ?_
  show St p e below T4 (mkF m 108 #[.val (.int p1), .val (.int p2), .val (.int 0), .val (.int cA), .val (.int cB), .val (.int cC), .val (.ref b1), .unset, .unset, .unset, .unset, .unset, .unset, .unset] [(.ref b4)]) _
  refine XS.dup X4.here hx rfl (hb hby at_108) rfl rfl ?_
  refine XS.aload X4.here hx rfl (hb hby at_109) rfl rfl ?_
  refine st7.trans ?_
  refine XS.astore X7.here hx rfl (hb hby at_114) rfl rfl (l' := #[.val (.int p1), .val (.int p2), .val (.int 0), .val (.int cA), .val (.int cB), .val (.int cC), .val (.ref b1), .val (.ref b4), .unset, .unset, .unset, .unset, .unset, .unset]) rfl ?_
  refine st11 _ ?_
  refine XS.dup X11.here hx rfl (hb hby at_119) rfl rfl ?_
  refine XS.aload X11.here hx rfl (hb hby at_120) rfl rfl ?_
  refine XS.iloadN X11.here hx rfl (hb hby at_122) rfl ?_
  show St p e below T11 (mkF m 123 #[.val (.int p1), .val (.int p2), .val (.int 0), .val (.int cA), .val (.int cB), .val (.int cC), .val (.ref b1), .val (.ref b4), .unset, .unset, .unset, .unset, .unset, .unset] [(.int p2), (.ref b4), (.ref b11), (.ref b11)]) _
  refine st14.trans ?_
  refine st17.trans ?_
  refine XS.astore X17.here hx rfl (hb hby at_129) rfl rfl (l' := #[.val (.int p1), .val (.int p2), .val (.int 0), .val (.int cA), .val (.int cB), .val (.int cC), .val (.ref b1), .val (.ref b4), .val (.ref r_17), .unset, .unset, .unset, .unset, .unset]) rfl ?_
  exact kt
set_option maxRecDepth 65536 in
set_option maxHeartbeats 40000000 in
theorem sg_front_1 {p : Program} {l : Launch} {e : Env} {s : State} {m : MethodId} {args : Array Value} {below : List Frame} {meth : Method} {c : Code} {T0 : State} {locs : List Loc} {Z : State} {a0 : Array Value} {h0 : Heap} {n0 : Nat} {vm0 : Vm} {k0 : Nat} (p1 : Int32) (p2 : Int32) (w_COMPACT_STRINGS : Int32) (zz : Int32) (n : Nat) (ix : Nat) (cA : Int32) (cB : Int32) (cC : Int32)
    (X0 : Stand p l e room_1 (s.setVm vm0) m args below meth c T0 locs 0 0) (hx : p.tables.exec = Jvm.exec) (hZ : Z.Warmed39 (s.setVm vm0).vm) (hw : ∀ d ∈ tables_1, d.before a0 Z = true) (hby : c.code = code) (hml : c.maxLocals = 14) (hown : (s.setVm vm0).vm.findClass "com/example/demarc/demarc/tool/AccountToStringPinLaw" = some m.cls) (e0 : T0.heap = h0) (N0 : Fr n0 locs) (Z0 : n0 ≤ h0.size) (hEL : EW Z a0 consts_1) (hS0 : s.Since vm0 k0) (hk0 : k0 ≤ h0.size) (H0c : CHv Z consts_1 vm0 h0) (S_COMPACT_STRINGS : Sta Z Z.heap "java/lang/String" "COMPACT_STRINGS" "Z" (.int w_COMPACT_STRINGS)) (hcs : ¬ (w_COMPACT_STRINGS = (0 : Int32))) (hbcA : ¬ ((255 : Int32) < cA)) (hzz : ((2 : Int32) + (Jvm.Free.SBG.strSizeOf p2)) = zz) (hB : own_B Z) (hN : own_N p2 n 2 ix) (hix : zz = Int32.ofNat ix) (hk : (p1 &&& (3 : Int32)) = (1 : Int32)) (hcA : ((((p1.toUInt32 >>> ((2 : Int32) &&& 31).toUInt32).toInt32) &&& (255 : Int32)).toUInt32.toUInt16.toUInt32.toInt32) = cA) (hcB : ((((p1.toUInt32 >>> ((10 : Int32) &&& 31).toUInt32).toInt32) &&& (255 : Int32)).toUInt32.toUInt16.toUInt32.toInt32) = cB) (hcC : ((((p1.toUInt32 >>> ((18 : Int32) &&& 31).toUInt32).toInt32) &&& (255 : Int32)).toUInt32.toUInt16.toUInt32.toInt32) = cC) (O0 : Old Z n0 h0) (hncA : (cA.toUInt32.toUInt16.toUInt32.toInt32) = cA) :
    ∃ (T' : State) (locs' : List Loc) (vm1 : Vm) (k1 : Nat) (b6 : Addr) (b7 : Addr) (ss : Addr) (tt : Addr) (kt : ClassId) (vs : List Value), Stand p l e room_1 (s.setVm vm1) m args below meth c T' locs' 10 56 ∧ Fr n0 locs' ∧ Keep h0 T'.heap [] ∧ s.Since vm1 k1 ∧ k1 ≤ T'.heap.size ∧ Z.Warmed39 (s.setVm vm1).vm ∧ (s.setVm vm1).vm.findClass "com/example/demarc/demarc/tool/AccountToStringPinLaw" = some m.cls ∧ CHr Z consts_1 vm0 h0 vm1 T'.heap ∧ h0.size ≤ ss ∧ Exa Z T'.heap ss "java/lang/String" ∧ Fld Z T'.heap ss "java/lang/String" "coder" "B" (.int 0) ∧ Fld Z T'.heap ss "java/lang/String" "value" "[B" (.ref tt) ∧ Arv Z T'.heap tt kt .byte zz vs (.int 0) ∧ own_T vs [(.int (cA.toInt8.toInt32)), (.int 58), (.int 0), (.int 0), (.int 0), (.int 0), (.int 0), (.int 0), (.int 0), (.int 0), (.int 0), (.int 0), (.int 0), (.int 0), (.int 0), (.int 0)] 2 p2 n ix ∧ ∀ target, Steps p.tables e below (T'.setTop (mkF m 131 #[.val (.int p1), .val (.int p2), .val (.int 1), .val (.int cA), .val (.int cB), .val (.int cC), .val (.ref b6), .val (.ref b7), .val (.ref ss), .unset, .unset, .unset, .unset, .unset] [])) target → Steps p.tables e below (T0.setTop (mkF m 0 #[.val (.int p1), .val (.int p2), .unset, .unset, .unset, .unset, .unset, .unset, .unset, .unset, .unset, .unset, .unset, .unset] [])) target := by
  have C0c : CHr Z consts_1 vm0 h0 vm0 h0 := CHr.refl H0c
  obtain ⟨T1, h1, k1, X1, e1, E1, A1, st1⟩ := newP X0 hx hZ (hwi hw 0 rfl) e0 (g := (mkF m 53 #[.val (.int p1), .val (.int p2), .val (.int 1), .val (.int cA), .val (.int cB), .val (.int cC), .unset, .unset, .unset, .unset, .unset, .unset, .unset, .unset] [(.int 1)])) rfl (hb hby at_53) rfl (by decide) (cap := 1) (by decide) (by decide) (by decide) (by decide)
  obtain ⟨b1, g1⟩ : ∃ z, z = h0.size := ⟨_, rfl⟩
  rw [← g1] at A1 st1
  have bn_b1 : h0.size ≤ b1 := Nat.le_of_eq g1.symm
  have R2 := CHr.ext E1 H0c
  have CR2 := C0c.trans R2
  have sz3 : h0.size ≤ h1.size := E1.1
  have Z3 : n0 ≤ h1.size := Nat.le_trans Z0 sz3
  have hk3 := Nat.le_trans hk0 sz3
  have O3 := O0.ext E1
  have K3 : Keep h0 h1 [] := (Keep.refl h0 []).ext E1
  have V1 : Arv Z h1 b1 k1 .char (1 : Int32) [(.int 0)] (.int 0) := (Arv.new A1 (by decide)).pad (pad_rep [] (.int 0) 1)
  obtain ⟨cl4, Ar4, q4, S4, M4, H4, G4⟩ := id V1
  have hin4 : ¬ ((0 : Int32) < 0 ∨ cl4.slots.size ≤ ((0 : Int32)).toNatClampNeg) := inb_of S4 ⟨by decide, by decide⟩
  obtain ⟨T5, h5, X5, e5, W5, st5⟩ := stC X1 hx hZ e1 Ar4 (j := (0 : Int32)) hin4 (g := (mkF m 58 #[.val (.int p1), .val (.int p2), .val (.int 1), .val (.int cA), .val (.int cB), .val (.int cC), .unset, .unset, .unset, .unset, .unset, .unset, .unset, .unset] [(.int cA), (.int 0), (.ref b1), (.ref b1)])) rfl rfl (hb hby at_58)
  have N5 := Fr.snoc X5 N0 (Nat.le_trans Z0 bn_b1)
  have V5 : Arv Z h5 b1 k1 .char (1 : Int32) [(.int (cA.toUInt32.toUInt16.toUInt32.toInt32))] (.int 0) := Arv.set Ar4 q4 S4 M4 H4 G4 (fits_nar_char _) W5 0 rfl (Nat.le_of_ble_eq_true rfl)
  rw [hncA] at V5
  have R6 := CHr.wr W5 (Safe.arv hZ.alike V1 (by decide)) R2.1
  have CR6 := CR2.trans R6
  have sz7 : h1.size ≤ h5.size := Nat.le_of_eq W5.size.symm
  have Z7 : n0 ≤ h5.size := Nat.le_trans Z3 sz7
  have hk7 := Nat.le_trans hk3 sz7
  have O7 := O3.wr W5 (Nat.le_trans Z0 bn_b1)
  have K7 : Keep h0 h5 [] := K3.wr W5 (Or.inr bn_b1)
  obtain ⟨T8, h8, X8, e8, E8, A8, D8, -, st8⟩ := newO X5 hx hZ hown (hwi hw 1 rfl) (hwi hw 2 rfl) (hwi hw 3 rfl) e5 (g := (mkF m 105 #[.val (.int p1), .val (.int p2), .val (.int 1), .val (.int cA), .val (.int cB), .val (.int cC), .val (.ref b1), .unset, .unset, .unset, .unset, .unset, .unset, .unset] [])) rfl (hb hby at_105) (by decide) (by decide)
  obtain ⟨b8, g8⟩ : ∃ z, z = h5.size := ⟨_, rfl⟩
  rw [← g8] at A8 D8 st8
  have bn_b8 : h0.size ≤ b8 := Nat.le_trans K7.1 (Nat.le_of_eq g8.symm)
  have sfb8 : Safe Z consts_1 vm0 h5 b8 := Safe.new (Nat.le_of_eq g8.symm)
  have R9 := CHr.ext E8 R6.1
  have sf_b8_9 := Safe.ext E8 R6.1 sfb8
  have CR9 := CR6.trans R9
  have sz10 : h5.size ≤ h8.size := E8.1
  have Z10 : n0 ≤ h8.size := Nat.le_trans Z7 sz10
  have hk10 := Nat.le_trans hk7 sz10
  have O10 := O7.ext E8
  have K10 : Keep h0 h8 [] := K7.ext E8
  have F8_value : Fld Z h8 b8 "java/lang/String" "value" "[B" .null := D8 (Or.inr (hwi hw 16 rfl)) (ty := (.array .byte)) (by decide)
  have F8_coder : Fld Z h8 b8 "java/lang/String" "coder" "B" (.int 0) := D8 (Or.inr (hwi hw 17 rfl)) (ty := .byte) (by decide)
  have fc12 := (V5.ext E8)
  obtain ⟨_, _, ⟨T11, L11, k11, n11⟩, -, X11, ⟨Lc11, hQ11, l11, y11, z11⟩, st11⟩ := X8.specialBack hx (y := mn1) rfl hown (mvT hZ (hwi hw 4 rfl)) (mvT hZ (hwi hw 5 rfl)) (mvT hZ (hwi hw 6 rfl)) (by decide) (backOf (W := 1) (rm_new1_1 l Z a0 hw [] b8 b1 w_COMPACT_STRINGS k1 cA (.int 0) .null h8 n0 Z10 S_COMPACT_STRINGS hcs fc12 hbcA O10 A8 F8_coder (Nat.le_trans Z0 bn_b8) F8_value) hZ (hwi hw 6 rfl) (hwi hw 3 rfl) (by decide) (by decide)) (g := (mkF m 111 #[.val (.int p1), .val (.int p2), .val (.int 1), .val (.int cA), .val (.int cB), .val (.int cC), .val (.ref b1), .unset, .unset, .unset, .unset, .unset, .unset, .unset] [(.ref b1), (.ref b8), (.ref b8)])) rfl (by rw [hml]; rfl) (Steps.refl _) (a := b8) (argsL := [(.ref b1)]) (rest := [(.ref b8)]) (lenOf pd_C_V_325 rfl) rfl (by show 2 * 0 + _ ≤ _; exact Nat.le_of_eq rfl) (hb hby at_111) (fun _ _ => ⟨rfl, e8, (by decide : 2 + 1 ≤ _), (by decide : 5 + 1 ≤ _)⟩)
  dsimp only [Pt.U, Pt.locs, Pt.cells, Pt.slots] at X11 l11 y11 z11 st11 hQ11
  subst l11 y11 z11
  obtain ⟨t_11, kt_11, rfl, N11q, Kc11, g11_0, g11_1, g11_2, g11_3, g11_4⟩ := hQ11
  have N11 := Fr.app N5 N11q
  have sfb11_3 : Safe Z consts_1 vm0 h8 t_11 := Safe.new g11_3
  have R13 := CHr.keep Kc11 (sfS sf_b8_9 sf0) R9.1
  have sf_b8_13 := Safe.keep Kc11 (sfS sf_b8_9 sf0) R9.1 sf_b8_9
  have sf_t_11_13 := Safe.keep Kc11 (sfS sf_b8_9 sf0) R9.1 sfb11_3
  have CR13 := CR9.trans R13
  have sz14 : h8.size ≤ T11.heap.size := Kc11.1
  have Z14 : n0 ≤ T11.heap.size := Nat.le_trans Z10 sz14
  have hk14 := Nat.le_trans hk10 sz14
  have O14 := O10.keep Kc11 (allS (Nat.le_trans Z0 bn_b8) all0)
  have K14 : Keep h0 T11.heap [] := K10.trans Kc11 (allS (Or.inr bn_b8) (all0))
  have bn_t_11 : h0.size ≤ t_11 := Nat.le_trans K10.1 g11_3
  obtain ⟨T15, h15, X15, e15, E15, A15, D15, -, st15⟩ := newO X11 hx hZ hown (hwi hw 22 rfl) (hwi hw 23 rfl) (hwi hw 24 rfl) rfl (g := (mkF m 116 #[.val (.int p1), .val (.int p2), .val (.int 1), .val (.int cA), .val (.int cB), .val (.int cC), .val (.ref b1), .val (.ref b8), .unset, .unset, .unset, .unset, .unset, .unset] [])) rfl (hb hby at_116) (by decide) (by decide)
  obtain ⟨b15, g15⟩ : ∃ z, z = T11.heap.size := ⟨_, rfl⟩
  rw [← g15] at A15 D15 st15
  have bn_b15 : h0.size ≤ b15 := Nat.le_trans K14.1 (Nat.le_of_eq g15.symm)
  have R16 := CHr.ext E15 R13.1
  have sf_b8_16 := Safe.ext E15 R13.1 sf_b8_13
  have sf_t_11_16 := Safe.ext E15 R13.1 sf_t_11_13
  have CR16 := CR13.trans R16
  have sz17 : T11.heap.size ≤ h15.size := E15.1
  have Z17 : n0 ≤ h15.size := Nat.le_trans Z14 sz17
  have hk17 := Nat.le_trans hk14 sz17
  have O17 := O14.ext E15
  have K17 : Keep h0 h15 [] := K14.ext E15
  have F15_database : Fld Z h15 b15 "com/example/demarc/demarc/tool/Account" "database" "Ljava/lang/String;" .null := D15 (Or.inr (hwi hw 35 rfl)) (ty := (.object "java/lang/String")) (by decide)
  have F15_number : Fld Z h15 b15 "com/example/demarc/demarc/tool/Account" "number" "I" (.int 0) := D15 (Or.inr (hwi hw 37 rfl)) (ty := .int) (by decide)
  obtain ⟨_, _, ⟨T18, L18, k18, n18⟩, -, X18, ⟨Lc18, hQ18, l18, y18, z18⟩, st18⟩ := X15.specialBack hx (y := mn36) rfl hown (mvT hZ (hwi hw 25 rfl)) (mvT hZ (hwi hw 26 rfl)) (mvT hZ (hwi hw 27 rfl)) (by decide) (backOf (W := 1) (rm_acinit l Z a0 hw [] b15 b8 p2 .null (.int 0) h15 n0 Z17 A15 F15_database (Nat.le_trans Z0 bn_b15) O17 F15_number) hZ (hwi hw 27 rfl) (hwi hw 24 rfl) (by decide) (by decide)) (g := (mkF m 123 #[.val (.int p1), .val (.int p2), .val (.int 1), .val (.int cA), .val (.int cB), .val (.int cC), .val (.ref b1), .val (.ref b8), .unset, .unset, .unset, .unset, .unset, .unset] [(.int p2), (.ref b8), (.ref b15), (.ref b15)])) rfl (by rw [hml]; rfl) (Steps.refl _) (a := b15) (argsL := [(.ref b8), (.int p2)]) (rest := [(.ref b15)]) (lenOf pd_Ljava_lang_String_I_V_936 rfl) rfl (by show 2 * 0 + _ ≤ _; exact Nat.le_of_eq rfl) (hb hby at_123) (fun _ _ => ⟨rfl, e15, (by decide : 4 + 0 ≤ _), (by decide : 8 + 0 ≤ _)⟩)
  dsimp only [Pt.U, Pt.locs, Pt.cells, Pt.slots] at X18 l18 y18 z18 st18 hQ18
  subst l18 y18 z18
  obtain ⟨rfl, N18q, Kc18, g18_0, g18_1, g18_2⟩ := hQ18
  have N18 := Fr.app N11 N18q
  have R19 := CHr.keep Kc18 (sfS (Safe.exa hZ.alike A15 (by decide) (by decide)) sf0) R16.1
  have sf_b8_19 := Safe.keep Kc18 (sfS (Safe.exa hZ.alike A15 (by decide) (by decide)) sf0) R16.1 sf_b8_16
  have sf_t_11_19 := Safe.keep Kc18 (sfS (Safe.exa hZ.alike A15 (by decide) (by decide)) sf0) R16.1 sf_t_11_16
  have CR19 := CR16.trans R19
  have sz20 : h15.size ≤ T18.heap.size := Kc18.1
  have Z20 : n0 ≤ T18.heap.size := Nat.le_trans Z17 sz20
  have hk20 := Nat.le_trans hk17 sz20
  have O20 := O17.keep Kc18 (allS (Nat.le_trans Z0 bn_b15) all0)
  have K20 : Keep h0 T18.heap [] := K17.trans Kc18 (allS (Or.inr bn_b15) (all0))
  have fc22 := ((g11_0.ext E15).keep Kc18)
  have fc23 := ((g11_1.ext E15).keep Kc18 (ninS (neN (by have := ltN A8.lt; have := ltN A15.lt; omega)) nin0))
  have fc24 := ((g11_2.ext E15).keep Kc18 (ninS (neN (by have := ltN A8.lt; have := ltN A15.lt; omega)) nin0))
  have fc25 := ((g11_4.ext E15).keep Kc18 (ninS (neN (by have := ltN g11_4.lt; have := ltN A15.lt; omega)) nin0))
  obtain ⟨cq21, kq21, q21a, q21b, q21c⟩ := isOf hZ rfl g18_0
  obtain ⟨_, _, ⟨T21, L21, k21, n21⟩, -, X21, hS21, gr21, ⟨Lc21, hQ21, l21, y21, z21, C21⟩, st21⟩ := X18.virtualBackS hx (y := mn37) (z := mn37) hown (mvT hZ (hwi hw 38 rfl)) (mvT hZ (hwi hw 39 rfl)) (notFace_of_selects (args := #[]) (mvT hZ (hwi hw 41 rfl))) (mvT hZ (hwi hw 41 rfl)) (mvT hZ (hwi hw 40 rfl)) (by decide) (backOfSH (s := s) (vm0 := vm0) (EL := consts_1) (W := 0) (rm_acstr_1 l Z a0 hw hEL [] b15 w_COMPACT_STRINGS b8 p2 cA t_11 kt_11 zz n 2 ix T18.heap n0 Z20 S_COMPACT_STRINGS hcs g18_1 fc22 g18_2 fc23 fc24 fc25 hzz hB hN hix O20) hZ (hwi hw 42 rfl) (hwi hw 24 rfl) (by decide) (by decide) hEL R19.1) q21a q21c (g := (mkF m 126 #[.val (.int p1), .val (.int p2), .val (.int 1), .val (.int cA), .val (.int cB), .val (.int cC), .val (.ref b1), .val (.ref b8), .unset, .unset, .unset, .unset, .unset, .unset] [(.ref b15)])) rfl (by rw [hml]; rfl) (Steps.refl _) (argsL := []) (rest := []) (lenOf pd_Ljava_lang_String_777 rfl) rfl (by show 2 * 0 + _ ≤ _; exact Nat.le_of_eq rfl) (hb hby at_126) (fun _ _ => ⟨rfl, rfl, (by decide : 4 + 6 ≤ _), (by decide : 8 + 48 ≤ _)⟩)
  dsimp only [Pt.U, Pt.locs, Pt.cells, Pt.slots] at X21 l21 y21 z21 st21 hQ21 hS21 gr21 C21
  subst l21 y21 z21
  obtain ⟨X21, hS21, hZ21, ho21⟩ := rebS hS0 hk20 X21 hS21 gr21 hZ hown
  obtain ⟨r_21, t_21, kt_21, vs_21, rfl, N21q, Kc21, g21_0, g21_1, g21_2, g21_3, g21_4, g21_5, g21_6⟩ := hQ21
  have N21 := Fr.app N18 N21q
  have sf_b8_26 := CHr.safe C21 (show b8 < T18.heap.size from ltN (by have := ltN A8.lt; omega)) sf_b8_19
  have sf_t_11_26 := CHr.safe C21 (show t_11 < T18.heap.size from ltN (by have := ltN g11_4.lt; omega)) sf_t_11_19
  have R26 := C21
  have CR26 := CR19.trans R26
  have sz27 : T18.heap.size ≤ T21.heap.size := Kc21.1
  have Z27 : n0 ≤ T21.heap.size := Nat.le_trans Z20 sz27
  have O27 := O20.keep Kc21 all0
  have K27 : Keep h0 T21.heap [] := K20.trans Kc21 (all0)
  have bn_r_21 : h0.size ≤ r_21 := Nat.le_trans K20.1 g21_0
  have bn_t_21 : h0.size ≤ t_21 := Nat.le_trans K20.1 g21_1
  refine ⟨T21, _, T21.vm, _, b1, b8, r_21, t_21, kt_21, vs_21, X21, N21, K27, hS21, (Nat.le_refl T21.heap.size), hZ21, ho21, CR26, bn_r_21, g21_2, g21_3, g21_4, g21_5, g21_6, fun target kt => ?_⟩
  refine XS.iloadN X0.here hx rfl (hb hby at_0) rfl ?_
  refine XS.iconst X0.here hx rfl (hb hby at_1) ?_
  refine XS.iand X0.here hx rfl (hb hby at_2) rfl ?_
  show St p e below T0 (mkF m 3 #[.val (.int p1), .val (.int p2), .unset, .unset, .unset, .unset, .unset, .unset, .unset, .unset, .unset, .unset, .unset, .unset] [(.int (p1 &&& (3 : Int32)))]) _
  rw [hk]
  show St p e below T0 (mkF m 3 #[.val (.int p1), .val (.int p2), .unset, .unset, .unset, .unset, .unset, .unset, .unset, .unset, .unset, .unset, .unset, .unset] [(.int 1)]) _
  refine XS.istoreN X0.here hx rfl (hb hby at_3) rfl (l' := #[.val (.int p1), .val (.int p2), .val (.int 1), .unset, .unset, .unset, .unset, .unset, .unset, .unset, .unset, .unset, .unset, .unset]) rfl ?_
  refine XS.iloadN X0.here hx rfl (hb hby at_4) rfl ?_
  refine XS.iconst X0.here hx rfl (hb hby at_5) ?_
  refine XS.iushr X0.here hx rfl (hb hby at_6) rfl ?_
  refine XS.sipush X0.here hx rfl (hb hby at_7) ?_
  refine XS.iand X0.here hx rfl (hb hby at_10) rfl ?_
  refine XS.i2c X0.here hx rfl (hb hby at_11) rfl ?_
  show St p e below T0 (mkF m 12 #[.val (.int p1), .val (.int p2), .val (.int 1), .unset, .unset, .unset, .unset, .unset, .unset, .unset, .unset, .unset, .unset, .unset] [(.int ((((p1.toUInt32 >>> ((2 : Int32) &&& 31).toUInt32).toInt32) &&& (255 : Int32)).toUInt32.toUInt16.toUInt32.toInt32))]) _
  rw [hcA]
  show St p e below T0 (mkF m 12 #[.val (.int p1), .val (.int p2), .val (.int 1), .unset, .unset, .unset, .unset, .unset, .unset, .unset, .unset, .unset, .unset, .unset] [(.int cA)]) _
  refine XS.istoreN X0.here hx rfl (hb hby at_12) rfl (l' := #[.val (.int p1), .val (.int p2), .val (.int 1), .val (.int cA), .unset, .unset, .unset, .unset, .unset, .unset, .unset, .unset, .unset, .unset]) rfl ?_
  refine XS.iloadN X0.here hx rfl (hb hby at_13) rfl ?_
  refine XS.bipush X0.here hx rfl (hb hby at_14) ?_
  refine XS.iushr X0.here hx rfl (hb hby at_16) rfl ?_
  refine XS.sipush X0.here hx rfl (hb hby at_17) ?_
  refine XS.iand X0.here hx rfl (hb hby at_20) rfl ?_
  refine XS.i2c X0.here hx rfl (hb hby at_21) rfl ?_
  show St p e below T0 (mkF m 22 #[.val (.int p1), .val (.int p2), .val (.int 1), .val (.int cA), .unset, .unset, .unset, .unset, .unset, .unset, .unset, .unset, .unset, .unset] [(.int ((((p1.toUInt32 >>> ((10 : Int32) &&& 31).toUInt32).toInt32) &&& (255 : Int32)).toUInt32.toUInt16.toUInt32.toInt32))]) _
  rw [hcB]
  show St p e below T0 (mkF m 22 #[.val (.int p1), .val (.int p2), .val (.int 1), .val (.int cA), .unset, .unset, .unset, .unset, .unset, .unset, .unset, .unset, .unset, .unset] [(.int cB)]) _
  refine XS.istore X0.here hx rfl (hb hby at_22) rfl (l' := #[.val (.int p1), .val (.int p2), .val (.int 1), .val (.int cA), .val (.int cB), .unset, .unset, .unset, .unset, .unset, .unset, .unset, .unset, .unset]) rfl ?_
  refine XS.iloadN X0.here hx rfl (hb hby at_24) rfl ?_
  refine XS.bipush X0.here hx rfl (hb hby at_25) ?_
  refine XS.iushr X0.here hx rfl (hb hby at_27) rfl ?_
  refine XS.sipush X0.here hx rfl (hb hby at_28) ?_
  refine XS.iand X0.here hx rfl (hb hby at_31) rfl ?_
  refine XS.i2c X0.here hx rfl (hb hby at_32) rfl ?_
  show St p e below T0 (mkF m 33 #[.val (.int p1), .val (.int p2), .val (.int 1), .val (.int cA), .val (.int cB), .unset, .unset, .unset, .unset, .unset, .unset, .unset, .unset, .unset] [(.int ((((p1.toUInt32 >>> ((18 : Int32) &&& 31).toUInt32).toInt32) &&& (255 : Int32)).toUInt32.toUInt16.toUInt32.toInt32))]) _
  rw [hcC]
  show St p e below T0 (mkF m 33 #[.val (.int p1), .val (.int p2), .val (.int 1), .val (.int cA), .val (.int cB), .unset, .unset, .unset, .unset, .unset, .unset, .unset, .unset, .unset] [(.int cC)]) _
  refine XS.istore X0.here hx rfl (hb hby at_33) rfl (l' := #[.val (.int p1), .val (.int p2), .val (.int 1), .val (.int cA), .val (.int cB), .val (.int cC), .unset, .unset, .unset, .unset, .unset, .unset, .unset, .unset]) rfl ?_
  refine XS.iloadN X0.here hx rfl (hb hby at_35) rfl ?_
  refine XS.ifYes X0.here hx rfl (pc0 := 36) (pc' := 47) rfl (hb hby at_36) rfl ((if0 _ _).trans (feq (by decide : ¬ ((1 : Int32) = (0 : Int32)))).2) (by decide) (by decide) ?_
  refine XS.iloadN X0.here hx rfl (hb hby at_47) rfl ?_
  refine XS.iconst X0.here hx rfl (hb hby at_48) ?_
  refine XS.icmpNo X0.here hx rfl (hb hby at_49) rfl (teq (by decide : (1 : Int32) = (1 : Int32))).2 ?_
  refine XS.iconst X0.here hx rfl (hb hby at_52) ?_
  refine st1 _ ?_
  show St p e below T1 (mkF m 55 #[.val (.int p1), .val (.int p2), .val (.int 1), .val (.int cA), .val (.int cB), .val (.int cC), .unset, .unset, .unset, .unset, .unset, .unset, .unset, .unset] [(.ref b1)]) _
  refine XS.dup X1.here hx rfl (hb hby at_55) rfl rfl ?_
  refine XS.iconst X1.here hx rfl (hb hby at_56) ?_
  refine XS.iloadN X1.here hx rfl (hb hby at_57) rfl ?_
  refine st5 _ ?_
  refine XS.astore X5.here hx rfl (hb hby at_59) rfl rfl (l' := #[.val (.int p1), .val (.int p2), .val (.int 1), .val (.int cA), .val (.int cB), .val (.int cC), .val (.ref b1), .unset, .unset, .unset, .unset, .unset, .unset, .unset]) rfl ?_
  refine XS.goto X5.here hx rfl (pc0 := 61) (pc' := 105) rfl (hb hby at_61) (by decide) (by decide) ?_
  refine st8 _ ?_
  refine XS.dup X8.here hx rfl (hb hby at_108) rfl rfl ?_
  show St p e below T8 (mkF m 109 #[.val (.int p1), .val (.int p2), .val (.int 1), .val (.int cA), .val (.int cB), .val (.int cC), .val (.ref b1), .unset, .unset, .unset, .unset, .unset, .unset, .unset] [(.ref b8), (.ref b8)]) _
  refine XS.aload X8.here hx rfl (hb hby at_109) rfl rfl ?_
  refine st11.trans ?_
  refine XS.astore X11.here hx rfl (hb hby at_114) rfl rfl (l' := #[.val (.int p1), .val (.int p2), .val (.int 1), .val (.int cA), .val (.int cB), .val (.int cC), .val (.ref b1), .val (.ref b8), .unset, .unset, .unset, .unset, .unset, .unset]) rfl ?_
  refine st15 _ ?_
  refine XS.dup X15.here hx rfl (hb hby at_119) rfl rfl ?_
  refine XS.aload X15.here hx rfl (hb hby at_120) rfl rfl ?_
  refine XS.iloadN X15.here hx rfl (hb hby at_122) rfl ?_
  refine st18.trans ?_
  show St p e below T18 (mkF m 126 #[.val (.int p1), .val (.int p2), .val (.int 1), .val (.int cA), .val (.int cB), .val (.int cC), .val (.ref b1), .val (.ref b8), .unset, .unset, .unset, .unset, .unset, .unset] [(.ref b15)]) _
  refine st21.trans ?_
  refine XS.astore X21.here hx rfl (hb hby at_129) rfl rfl (l' := #[.val (.int p1), .val (.int p2), .val (.int 1), .val (.int cA), .val (.int cB), .val (.int cC), .val (.ref b1), .val (.ref b8), .val (.ref r_21), .unset, .unset, .unset, .unset, .unset]) rfl ?_
  exact kt
set_option maxRecDepth 65536 in
set_option maxHeartbeats 40000000 in
theorem sg_front_2 {p : Program} {l : Launch} {e : Env} {s : State} {m : MethodId} {args : Array Value} {below : List Frame} {meth : Method} {c : Code} {T0 : State} {locs : List Loc} {Z : State} {a0 : Array Value} {h0 : Heap} {n0 : Nat} {vm0 : Vm} {k0 : Nat} (p1 : Int32) (p2 : Int32) (w_COMPACT_STRINGS : Int32) (zz : Int32) (n : Nat) (ix : Nat) (cA : Int32) (cB : Int32) (cC : Int32)
    (X0 : Stand p l e room_1 (s.setVm vm0) m args below meth c T0 locs 0 0) (hx : p.tables.exec = Jvm.exec) (hZ : Z.Warmed39 (s.setVm vm0).vm) (hw : ∀ d ∈ tables_1, d.before a0 Z = true) (hby : c.code = code) (hml : c.maxLocals = 14) (hown : (s.setVm vm0).vm.findClass "com/example/demarc/demarc/tool/AccountToStringPinLaw" = some m.cls) (e0 : T0.heap = h0) (N0 : Fr n0 locs) (Z0 : n0 ≤ h0.size) (hEL : EW Z a0 consts_1) (hS0 : s.Since vm0 k0) (hk0 : k0 ≤ h0.size) (H0c : CHv Z consts_1 vm0 h0) (S_COMPACT_STRINGS : Sta Z Z.heap "java/lang/String" "COMPACT_STRINGS" "Z" (.int w_COMPACT_STRINGS)) (hcs : ¬ (w_COMPACT_STRINGS = (0 : Int32))) (hbcA : ¬ ((255 : Int32) < cA)) (hbcB : ¬ ((255 : Int32) < cB)) (hzz : ((3 : Int32) + (Jvm.Free.SBG.strSizeOf p2)) = zz) (hB : own_B Z) (hN : own_N p2 n 3 ix) (hix : zz = Int32.ofNat ix) (hk : (p1 &&& (3 : Int32)) = (2 : Int32)) (hcA : ((((p1.toUInt32 >>> ((2 : Int32) &&& 31).toUInt32).toInt32) &&& (255 : Int32)).toUInt32.toUInt16.toUInt32.toInt32) = cA) (hcB : ((((p1.toUInt32 >>> ((10 : Int32) &&& 31).toUInt32).toInt32) &&& (255 : Int32)).toUInt32.toUInt16.toUInt32.toInt32) = cB) (hcC : ((((p1.toUInt32 >>> ((18 : Int32) &&& 31).toUInt32).toInt32) &&& (255 : Int32)).toUInt32.toUInt16.toUInt32.toInt32) = cC) (O0 : Old Z n0 h0) (hncA : (cA.toUInt32.toUInt16.toUInt32.toInt32) = cA) (hncB : (cB.toUInt32.toUInt16.toUInt32.toInt32) = cB) :
    ∃ (T' : State) (locs' : List Loc) (vm1 : Vm) (k1 : Nat) (b6 : Addr) (b7 : Addr) (ss : Addr) (tt : Addr) (kt : ClassId) (vs : List Value), Stand p l e room_1 (s.setVm vm1) m args below meth c T' locs' 10 58 ∧ Fr n0 locs' ∧ Keep h0 T'.heap [] ∧ s.Since vm1 k1 ∧ k1 ≤ T'.heap.size ∧ Z.Warmed39 (s.setVm vm1).vm ∧ (s.setVm vm1).vm.findClass "com/example/demarc/demarc/tool/AccountToStringPinLaw" = some m.cls ∧ CHr Z consts_1 vm0 h0 vm1 T'.heap ∧ h0.size ≤ ss ∧ Exa Z T'.heap ss "java/lang/String" ∧ Fld Z T'.heap ss "java/lang/String" "coder" "B" (.int 0) ∧ Fld Z T'.heap ss "java/lang/String" "value" "[B" (.ref tt) ∧ Arv Z T'.heap tt kt .byte zz vs (.int 0) ∧ own_T vs [(.int (cA.toInt8.toInt32)), (.int (cB.toInt8.toInt32)), (.int 58), (.int 0), (.int 0), (.int 0), (.int 0), (.int 0), (.int 0), (.int 0), (.int 0), (.int 0), (.int 0), (.int 0), (.int 0), (.int 0)] 3 p2 n ix ∧ ∀ target, Steps p.tables e below (T'.setTop (mkF m 131 #[.val (.int p1), .val (.int p2), .val (.int 2), .val (.int cA), .val (.int cB), .val (.int cC), .val (.ref b6), .val (.ref b7), .val (.ref ss), .unset, .unset, .unset, .unset, .unset] [])) target → Steps p.tables e below (T0.setTop (mkF m 0 #[.val (.int p1), .val (.int p2), .unset, .unset, .unset, .unset, .unset, .unset, .unset, .unset, .unset, .unset, .unset, .unset] [])) target := by
  have C0c : CHr Z consts_1 vm0 h0 vm0 h0 := CHr.refl H0c
  obtain ⟨T1, h1, k1, X1, e1, E1, A1, st1⟩ := newP X0 hx hZ (hwi hw 0 rfl) e0 (g := (mkF m 70 #[.val (.int p1), .val (.int p2), .val (.int 2), .val (.int cA), .val (.int cB), .val (.int cC), .unset, .unset, .unset, .unset, .unset, .unset, .unset, .unset] [(.int 2)])) rfl (hb hby at_70) rfl (by decide) (cap := 2) (by decide) (by decide) (by decide) (by decide)
  obtain ⟨b1, g1⟩ : ∃ z, z = h0.size := ⟨_, rfl⟩
  rw [← g1] at A1 st1
  have bn_b1 : h0.size ≤ b1 := Nat.le_of_eq g1.symm
  have R2 := CHr.ext E1 H0c
  have CR2 := C0c.trans R2
  have sz3 : h0.size ≤ h1.size := E1.1
  have Z3 : n0 ≤ h1.size := Nat.le_trans Z0 sz3
  have hk3 := Nat.le_trans hk0 sz3
  have O3 := O0.ext E1
  have K3 : Keep h0 h1 [] := (Keep.refl h0 []).ext E1
  have V1 : Arv Z h1 b1 k1 .char (2 : Int32) [(.int 0), (.int 0)] (.int 0) := (Arv.new A1 (by decide)).pad (pad_rep [] (.int 0) 2)
  obtain ⟨cl4, Ar4, q4, S4, M4, H4, G4⟩ := id V1
  have hin4 : ¬ ((0 : Int32) < 0 ∨ cl4.slots.size ≤ ((0 : Int32)).toNatClampNeg) := inb_of S4 ⟨by decide, by decide⟩
  obtain ⟨T5, h5, X5, e5, W5, st5⟩ := stC X1 hx hZ e1 Ar4 (j := (0 : Int32)) hin4 (g := (mkF m 75 #[.val (.int p1), .val (.int p2), .val (.int 2), .val (.int cA), .val (.int cB), .val (.int cC), .unset, .unset, .unset, .unset, .unset, .unset, .unset, .unset] [(.int cA), (.int 0), (.ref b1), (.ref b1)])) rfl rfl (hb hby at_75)
  have N5 := Fr.snoc X5 N0 (Nat.le_trans Z0 bn_b1)
  have V5 : Arv Z h5 b1 k1 .char (2 : Int32) [(.int (cA.toUInt32.toUInt16.toUInt32.toInt32)), (.int 0)] (.int 0) := Arv.set Ar4 q4 S4 M4 H4 G4 (fits_nar_char _) W5 0 rfl (Nat.le_of_ble_eq_true rfl)
  rw [hncA] at V5
  have R6 := CHr.wr W5 (Safe.arv hZ.alike V1 (by decide)) R2.1
  have CR6 := CR2.trans R6
  have sz7 : h1.size ≤ h5.size := Nat.le_of_eq W5.size.symm
  have Z7 : n0 ≤ h5.size := Nat.le_trans Z3 sz7
  have hk7 := Nat.le_trans hk3 sz7
  have O7 := O3.wr W5 (Nat.le_trans Z0 bn_b1)
  have K7 : Keep h0 h5 [] := K3.wr W5 (Or.inr bn_b1)
  obtain ⟨cl8, Ar8, q8, S8, M8, H8, G8⟩ := id V5
  have hin8 : ¬ ((1 : Int32) < 0 ∨ cl8.slots.size ≤ ((1 : Int32)).toNatClampNeg) := inb_of S8 ⟨by decide, by decide⟩
  obtain ⟨T9, h9, X9, e9, W9, st9⟩ := stC X5 hx hZ e5 Ar8 (j := (1 : Int32)) hin8 (g := (mkF m 80 #[.val (.int p1), .val (.int p2), .val (.int 2), .val (.int cA), .val (.int cB), .val (.int cC), .unset, .unset, .unset, .unset, .unset, .unset, .unset, .unset] [(.int cB), (.int 1), (.ref b1), (.ref b1)])) rfl rfl (hb hby at_80)
  have N9 := Fr.snoc X9 N5 (Nat.le_trans Z0 bn_b1)
  have V9 : Arv Z h9 b1 k1 .char (2 : Int32) [(.int cA), (.int (cB.toUInt32.toUInt16.toUInt32.toInt32))] (.int 0) := Arv.set Ar8 q8 S8 M8 H8 G8 (fits_nar_char _) W9 1 rfl (Nat.le_of_ble_eq_true rfl)
  rw [hncB] at V9
  have R10 := CHr.wr W9 (Safe.arv hZ.alike V5 (by decide)) R6.1
  have CR10 := CR6.trans R10
  have sz11 : h5.size ≤ h9.size := Nat.le_of_eq W9.size.symm
  have Z11 : n0 ≤ h9.size := Nat.le_trans Z7 sz11
  have hk11 := Nat.le_trans hk7 sz11
  have O11 := O7.wr W9 (Nat.le_trans Z0 bn_b1)
  have K11 : Keep h0 h9 [] := K7.wr W9 (Or.inr bn_b1)
  obtain ⟨T12, h12, X12, e12, E12, A12, D12, -, st12⟩ := newO X9 hx hZ hown (hwi hw 1 rfl) (hwi hw 2 rfl) (hwi hw 3 rfl) e9 (g := (mkF m 105 #[.val (.int p1), .val (.int p2), .val (.int 2), .val (.int cA), .val (.int cB), .val (.int cC), .val (.ref b1), .unset, .unset, .unset, .unset, .unset, .unset, .unset] [])) rfl (hb hby at_105) (by decide) (by decide)
  obtain ⟨b12, g12⟩ : ∃ z, z = h9.size := ⟨_, rfl⟩
  rw [← g12] at A12 D12 st12
  have bn_b12 : h0.size ≤ b12 := Nat.le_trans K11.1 (Nat.le_of_eq g12.symm)
  have sfb12 : Safe Z consts_1 vm0 h9 b12 := Safe.new (Nat.le_of_eq g12.symm)
  have R13 := CHr.ext E12 R10.1
  have sf_b12_13 := Safe.ext E12 R10.1 sfb12
  have CR13 := CR10.trans R13
  have sz14 : h9.size ≤ h12.size := E12.1
  have Z14 : n0 ≤ h12.size := Nat.le_trans Z11 sz14
  have hk14 := Nat.le_trans hk11 sz14
  have O14 := O11.ext E12
  have K14 : Keep h0 h12 [] := K11.ext E12
  have F12_value : Fld Z h12 b12 "java/lang/String" "value" "[B" .null := D12 (Or.inr (hwi hw 16 rfl)) (ty := (.array .byte)) (by decide)
  have F12_coder : Fld Z h12 b12 "java/lang/String" "coder" "B" (.int 0) := D12 (Or.inr (hwi hw 17 rfl)) (ty := .byte) (by decide)
  have fc16 := (V9.ext E12)
  obtain ⟨_, _, ⟨T15, L15, k15, n15⟩, -, X15, ⟨Lc15, hQ15, l15, y15, z15⟩, st15⟩ := X12.specialBack hx (y := mn1) rfl hown (mvT hZ (hwi hw 4 rfl)) (mvT hZ (hwi hw 5 rfl)) (mvT hZ (hwi hw 6 rfl)) (by decide) (backOf (W := 1) (rm_new1_2 l Z a0 hw [] b12 b1 w_COMPACT_STRINGS k1 cA cB (.int 0) .null h12 n0 Z14 S_COMPACT_STRINGS hcs fc16 hbcA hbcB O14 A12 F12_coder (Nat.le_trans Z0 bn_b12) F12_value) hZ (hwi hw 6 rfl) (hwi hw 3 rfl) (by decide) (by decide)) (g := (mkF m 111 #[.val (.int p1), .val (.int p2), .val (.int 2), .val (.int cA), .val (.int cB), .val (.int cC), .val (.ref b1), .unset, .unset, .unset, .unset, .unset, .unset, .unset] [(.ref b1), (.ref b12), (.ref b12)])) rfl (by rw [hml]; rfl) (Steps.refl _) (a := b12) (argsL := [(.ref b1)]) (rest := [(.ref b12)]) (lenOf pd_C_V_325 rfl) rfl (by show 2 * 0 + _ ≤ _; exact Nat.le_of_eq rfl) (hb hby at_111) (fun _ _ => ⟨rfl, e12, (by decide : 2 + 1 ≤ _), (by decide : 6 + 2 ≤ _)⟩)
  dsimp only [Pt.U, Pt.locs, Pt.cells, Pt.slots] at X15 l15 y15 z15 st15 hQ15
  subst l15 y15 z15
  obtain ⟨t_15, kt_15, rfl, N15q, Kc15, g15_0, g15_1, g15_2, g15_3, g15_4⟩ := hQ15
  have N15 := Fr.app N9 N15q
  have sfb15_3 : Safe Z consts_1 vm0 h12 t_15 := Safe.new g15_3
  have R17 := CHr.keep Kc15 (sfS sf_b12_13 sf0) R13.1
  have sf_b12_17 := Safe.keep Kc15 (sfS sf_b12_13 sf0) R13.1 sf_b12_13
  have sf_t_15_17 := Safe.keep Kc15 (sfS sf_b12_13 sf0) R13.1 sfb15_3
  have CR17 := CR13.trans R17
  have sz18 : h12.size ≤ T15.heap.size := Kc15.1
  have Z18 : n0 ≤ T15.heap.size := Nat.le_trans Z14 sz18
  have hk18 := Nat.le_trans hk14 sz18
  have O18 := O14.keep Kc15 (allS (Nat.le_trans Z0 bn_b12) all0)
  have K18 : Keep h0 T15.heap [] := K14.trans Kc15 (allS (Or.inr bn_b12) (all0))
  have bn_t_15 : h0.size ≤ t_15 := Nat.le_trans K14.1 g15_3
  obtain ⟨T19, h19, X19, e19, E19, A19, D19, -, st19⟩ := newO X15 hx hZ hown (hwi hw 22 rfl) (hwi hw 23 rfl) (hwi hw 24 rfl) rfl (g := (mkF m 116 #[.val (.int p1), .val (.int p2), .val (.int 2), .val (.int cA), .val (.int cB), .val (.int cC), .val (.ref b1), .val (.ref b12), .unset, .unset, .unset, .unset, .unset, .unset] [])) rfl (hb hby at_116) (by decide) (by decide)
  obtain ⟨b19, g19⟩ : ∃ z, z = T15.heap.size := ⟨_, rfl⟩
  rw [← g19] at A19 D19 st19
  have bn_b19 : h0.size ≤ b19 := Nat.le_trans K18.1 (Nat.le_of_eq g19.symm)
  have R20 := CHr.ext E19 R17.1
  have sf_b12_20 := Safe.ext E19 R17.1 sf_b12_17
  have sf_t_15_20 := Safe.ext E19 R17.1 sf_t_15_17
  have CR20 := CR17.trans R20
  have sz21 : T15.heap.size ≤ h19.size := E19.1
  have Z21 : n0 ≤ h19.size := Nat.le_trans Z18 sz21
  have hk21 := Nat.le_trans hk18 sz21
  have O21 := O18.ext E19
  have K21 : Keep h0 h19 [] := K18.ext E19
  have F19_database : Fld Z h19 b19 "com/example/demarc/demarc/tool/Account" "database" "Ljava/lang/String;" .null := D19 (Or.inr (hwi hw 35 rfl)) (ty := (.object "java/lang/String")) (by decide)
  have F19_number : Fld Z h19 b19 "com/example/demarc/demarc/tool/Account" "number" "I" (.int 0) := D19 (Or.inr (hwi hw 37 rfl)) (ty := .int) (by decide)
  obtain ⟨_, _, ⟨T22, L22, k22, n22⟩, -, X22, ⟨Lc22, hQ22, l22, y22, z22⟩, st22⟩ := X19.specialBack hx (y := mn36) rfl hown (mvT hZ (hwi hw 25 rfl)) (mvT hZ (hwi hw 26 rfl)) (mvT hZ (hwi hw 27 rfl)) (by decide) (backOf (W := 1) (rm_acinit l Z a0 hw [] b19 b12 p2 .null (.int 0) h19 n0 Z21 A19 F19_database (Nat.le_trans Z0 bn_b19) O21 F19_number) hZ (hwi hw 27 rfl) (hwi hw 24 rfl) (by decide) (by decide)) (g := (mkF m 123 #[.val (.int p1), .val (.int p2), .val (.int 2), .val (.int cA), .val (.int cB), .val (.int cC), .val (.ref b1), .val (.ref b12), .unset, .unset, .unset, .unset, .unset, .unset] [(.int p2), (.ref b12), (.ref b19), (.ref b19)])) rfl (by rw [hml]; rfl) (Steps.refl _) (a := b19) (argsL := [(.ref b12), (.int p2)]) (rest := [(.ref b19)]) (lenOf pd_Ljava_lang_String_I_V_936 rfl) rfl (by show 2 * 0 + _ ≤ _; exact Nat.le_of_eq rfl) (hb hby at_123) (fun _ _ => ⟨rfl, e19, (by decide : 4 + 0 ≤ _), (by decide : 10 + 0 ≤ _)⟩)
  dsimp only [Pt.U, Pt.locs, Pt.cells, Pt.slots] at X22 l22 y22 z22 st22 hQ22
  subst l22 y22 z22
  obtain ⟨rfl, N22q, Kc22, g22_0, g22_1, g22_2⟩ := hQ22
  have N22 := Fr.app N15 N22q
  have R23 := CHr.keep Kc22 (sfS (Safe.exa hZ.alike A19 (by decide) (by decide)) sf0) R20.1
  have sf_b12_23 := Safe.keep Kc22 (sfS (Safe.exa hZ.alike A19 (by decide) (by decide)) sf0) R20.1 sf_b12_20
  have sf_t_15_23 := Safe.keep Kc22 (sfS (Safe.exa hZ.alike A19 (by decide) (by decide)) sf0) R20.1 sf_t_15_20
  have CR23 := CR20.trans R23
  have sz24 : h19.size ≤ T22.heap.size := Kc22.1
  have Z24 : n0 ≤ T22.heap.size := Nat.le_trans Z21 sz24
  have hk24 := Nat.le_trans hk21 sz24
  have O24 := O21.keep Kc22 (allS (Nat.le_trans Z0 bn_b19) all0)
  have K24 : Keep h0 T22.heap [] := K21.trans Kc22 (allS (Or.inr bn_b19) (all0))
  have fc26 := ((g15_0.ext E19).keep Kc22)
  have fc27 := ((g15_1.ext E19).keep Kc22 (ninS (neN (by have := ltN A12.lt; have := ltN A19.lt; omega)) nin0))
  have fc28 := ((g15_2.ext E19).keep Kc22 (ninS (neN (by have := ltN A12.lt; have := ltN A19.lt; omega)) nin0))
  have fc29 := ((g15_4.ext E19).keep Kc22 (ninS (neN (by have := ltN g15_4.lt; have := ltN A19.lt; omega)) nin0))
  obtain ⟨cq25, kq25, q25a, q25b, q25c⟩ := isOf hZ rfl g22_0
  obtain ⟨_, _, ⟨T25, L25, k25, n25⟩, -, X25, hS25, gr25, ⟨Lc25, hQ25, l25, y25, z25, C25⟩, st25⟩ := X22.virtualBackS hx (y := mn37) (z := mn37) hown (mvT hZ (hwi hw 38 rfl)) (mvT hZ (hwi hw 39 rfl)) (notFace_of_selects (args := #[]) (mvT hZ (hwi hw 41 rfl))) (mvT hZ (hwi hw 41 rfl)) (mvT hZ (hwi hw 40 rfl)) (by decide) (backOfSH (s := s) (vm0 := vm0) (EL := consts_1) (W := 0) (rm_acstr_2 l Z a0 hw hEL [] b19 w_COMPACT_STRINGS b12 p2 cA cB t_15 kt_15 zz n 3 ix T22.heap n0 Z24 S_COMPACT_STRINGS hcs g22_1 fc26 g22_2 fc27 fc28 fc29 hzz hB hN hix O24) hZ (hwi hw 42 rfl) (hwi hw 24 rfl) (by decide) (by decide) hEL R23.1) q25a q25c (g := (mkF m 126 #[.val (.int p1), .val (.int p2), .val (.int 2), .val (.int cA), .val (.int cB), .val (.int cC), .val (.ref b1), .val (.ref b12), .unset, .unset, .unset, .unset, .unset, .unset] [(.ref b19)])) rfl (by rw [hml]; rfl) (Steps.refl _) (argsL := []) (rest := []) (lenOf pd_Ljava_lang_String_777 rfl) rfl (by show 2 * 0 + _ ≤ _; exact Nat.le_of_eq rfl) (hb hby at_126) (fun _ _ => ⟨rfl, rfl, (by decide : 4 + 6 ≤ _), (by decide : 10 + 48 ≤ _)⟩)
  dsimp only [Pt.U, Pt.locs, Pt.cells, Pt.slots] at X25 l25 y25 z25 st25 hQ25 hS25 gr25 C25
  subst l25 y25 z25
  obtain ⟨X25, hS25, hZ25, ho25⟩ := rebS hS0 hk24 X25 hS25 gr25 hZ hown
  obtain ⟨r_25, t_25, kt_25, vs_25, rfl, N25q, Kc25, g25_0, g25_1, g25_2, g25_3, g25_4, g25_5, g25_6⟩ := hQ25
  have N25 := Fr.app N22 N25q
  have sf_b12_30 := CHr.safe C25 (show b12 < T22.heap.size from ltN (by have := ltN A12.lt; omega)) sf_b12_23
  have sf_t_15_30 := CHr.safe C25 (show t_15 < T22.heap.size from ltN (by have := ltN g15_4.lt; omega)) sf_t_15_23
  have R30 := C25
  have CR30 := CR23.trans R30
  have sz31 : T22.heap.size ≤ T25.heap.size := Kc25.1
  have Z31 : n0 ≤ T25.heap.size := Nat.le_trans Z24 sz31
  have O31 := O24.keep Kc25 all0
  have K31 : Keep h0 T25.heap [] := K24.trans Kc25 (all0)
  have bn_r_25 : h0.size ≤ r_25 := Nat.le_trans K24.1 g25_0
  have bn_t_25 : h0.size ≤ t_25 := Nat.le_trans K24.1 g25_1
  refine ⟨T25, _, T25.vm, _, b1, b12, r_25, t_25, kt_25, vs_25, X25, N25, K31, hS25, (Nat.le_refl T25.heap.size), hZ25, ho25, CR30, bn_r_25, g25_2, g25_3, g25_4, g25_5, g25_6, fun target kt => ?_⟩
  refine XS.iloadN X0.here hx rfl (hb hby at_0) rfl ?_
  refine XS.iconst X0.here hx rfl (hb hby at_1) ?_
  refine XS.iand X0.here hx rfl (hb hby at_2) rfl ?_
  show St p e below T0 (mkF m 3 #[.val (.int p1), .val (.int p2), .unset, .unset, .unset, .unset, .unset, .unset, .unset, .unset, .unset, .unset, .unset, .unset] [(.int (p1 &&& (3 : Int32)))]) _
  rw [hk]
  show St p e below T0 (mkF m 3 #[.val (.int p1), .val (.int p2), .unset, .unset, .unset, .unset, .unset, .unset, .unset, .unset, .unset, .unset, .unset, .unset] [(.int 2)]) _
  refine XS.istoreN X0.here hx rfl (hb hby at_3) rfl (l' := #[.val (.int p1), .val (.int p2), .val (.int 2), .unset, .unset, .unset, .unset, .unset, .unset, .unset, .unset, .unset, .unset, .unset]) rfl ?_
  refine XS.iloadN X0.here hx rfl (hb hby at_4) rfl ?_
  refine XS.iconst X0.here hx rfl (hb hby at_5) ?_
  refine XS.iushr X0.here hx rfl (hb hby at_6) rfl ?_
  refine XS.sipush X0.here hx rfl (hb hby at_7) ?_
  refine XS.iand X0.here hx rfl (hb hby at_10) rfl ?_
  refine XS.i2c X0.here hx rfl (hb hby at_11) rfl ?_
  show St p e below T0 (mkF m 12 #[.val (.int p1), .val (.int p2), .val (.int 2), .unset, .unset, .unset, .unset, .unset, .unset, .unset, .unset, .unset, .unset, .unset] [(.int ((((p1.toUInt32 >>> ((2 : Int32) &&& 31).toUInt32).toInt32) &&& (255 : Int32)).toUInt32.toUInt16.toUInt32.toInt32))]) _
  rw [hcA]
  show St p e below T0 (mkF m 12 #[.val (.int p1), .val (.int p2), .val (.int 2), .unset, .unset, .unset, .unset, .unset, .unset, .unset, .unset, .unset, .unset, .unset] [(.int cA)]) _
  refine XS.istoreN X0.here hx rfl (hb hby at_12) rfl (l' := #[.val (.int p1), .val (.int p2), .val (.int 2), .val (.int cA), .unset, .unset, .unset, .unset, .unset, .unset, .unset, .unset, .unset, .unset]) rfl ?_
  refine XS.iloadN X0.here hx rfl (hb hby at_13) rfl ?_
  refine XS.bipush X0.here hx rfl (hb hby at_14) ?_
  refine XS.iushr X0.here hx rfl (hb hby at_16) rfl ?_
  refine XS.sipush X0.here hx rfl (hb hby at_17) ?_
  refine XS.iand X0.here hx rfl (hb hby at_20) rfl ?_
  refine XS.i2c X0.here hx rfl (hb hby at_21) rfl ?_
  show St p e below T0 (mkF m 22 #[.val (.int p1), .val (.int p2), .val (.int 2), .val (.int cA), .unset, .unset, .unset, .unset, .unset, .unset, .unset, .unset, .unset, .unset] [(.int ((((p1.toUInt32 >>> ((10 : Int32) &&& 31).toUInt32).toInt32) &&& (255 : Int32)).toUInt32.toUInt16.toUInt32.toInt32))]) _
  rw [hcB]
  show St p e below T0 (mkF m 22 #[.val (.int p1), .val (.int p2), .val (.int 2), .val (.int cA), .unset, .unset, .unset, .unset, .unset, .unset, .unset, .unset, .unset, .unset] [(.int cB)]) _
  refine XS.istore X0.here hx rfl (hb hby at_22) rfl (l' := #[.val (.int p1), .val (.int p2), .val (.int 2), .val (.int cA), .val (.int cB), .unset, .unset, .unset, .unset, .unset, .unset, .unset, .unset, .unset]) rfl ?_
  refine XS.iloadN X0.here hx rfl (hb hby at_24) rfl ?_
  refine XS.bipush X0.here hx rfl (hb hby at_25) ?_
  refine XS.iushr X0.here hx rfl (hb hby at_27) rfl ?_
  refine XS.sipush X0.here hx rfl (hb hby at_28) ?_
  refine XS.iand X0.here hx rfl (hb hby at_31) rfl ?_
  refine XS.i2c X0.here hx rfl (hb hby at_32) rfl ?_
  show St p e below T0 (mkF m 33 #[.val (.int p1), .val (.int p2), .val (.int 2), .val (.int cA), .val (.int cB), .unset, .unset, .unset, .unset, .unset, .unset, .unset, .unset, .unset] [(.int ((((p1.toUInt32 >>> ((18 : Int32) &&& 31).toUInt32).toInt32) &&& (255 : Int32)).toUInt32.toUInt16.toUInt32.toInt32))]) _
  rw [hcC]
  show St p e below T0 (mkF m 33 #[.val (.int p1), .val (.int p2), .val (.int 2), .val (.int cA), .val (.int cB), .unset, .unset, .unset, .unset, .unset, .unset, .unset, .unset, .unset] [(.int cC)]) _
  refine XS.istore X0.here hx rfl (hb hby at_33) rfl (l' := #[.val (.int p1), .val (.int p2), .val (.int 2), .val (.int cA), .val (.int cB), .val (.int cC), .unset, .unset, .unset, .unset, .unset, .unset, .unset, .unset]) rfl ?_
  refine XS.iloadN X0.here hx rfl (hb hby at_35) rfl ?_
  refine XS.ifYes X0.here hx rfl (pc0 := 36) (pc' := 47) rfl (hb hby at_36) rfl ((if0 _ _).trans (feq (by decide : ¬ ((2 : Int32) = (0 : Int32)))).2) (by decide) (by decide) ?_
  refine XS.iloadN X0.here hx rfl (hb hby at_47) rfl ?_
  refine XS.iconst X0.here hx rfl (hb hby at_48) ?_
  refine XS.icmpYes X0.here hx rfl (pc0 := 49) (pc' := 64) rfl (hb hby at_49) rfl (feq (by decide : ¬ ((2 : Int32) = (1 : Int32)))).2 (by decide) (by decide) ?_
  refine XS.iloadN X0.here hx rfl (hb hby at_64) rfl ?_
  refine XS.iconst X0.here hx rfl (hb hby at_65) ?_
  show St p e below T0 (mkF m 66 #[.val (.int p1), .val (.int p2), .val (.int 2), .val (.int cA), .val (.int cB), .val (.int cC), .unset, .unset, .unset, .unset, .unset, .unset, .unset, .unset] [(.int 2), (.int 2)]) _
  refine XS.icmpNo X0.here hx rfl (hb hby at_66) rfl (teq (by decide : (2 : Int32) = (2 : Int32))).2 ?_
  refine XS.iconst X0.here hx rfl (hb hby at_69) ?_
  refine st1 _ ?_
  refine XS.dup X1.here hx rfl (hb hby at_72) rfl rfl ?_
  refine XS.iconst X1.here hx rfl (hb hby at_73) ?_
  refine XS.iloadN X1.here hx rfl (hb hby at_74) rfl ?_
  refine st5 _ ?_
  refine XS.dup X5.here hx rfl (hb hby at_76) rfl rfl ?_
  show St p e below T5 (mkF m 77 #[.val (.int p1), .val (.int p2), .val (.int 2), .val (.int cA), .val (.int cB), .val (.int cC), .unset, .unset, .unset, .unset, .unset, .unset, .unset, .unset] [(.ref b1), (.ref b1)]) _
  refine XS.iconst X5.here hx rfl (hb hby at_77) ?_
  refine XS.iload X5.here hx rfl (hb hby at_78) rfl ?_
  refine st9 _ ?_
  refine XS.astore X9.here hx rfl (hb hby at_81) rfl rfl (l' := #[.val (.int p1), .val (.int p2), .val (.int 2), .val (.int cA), .val (.int cB), .val (.int cC), .val (.ref b1), .unset, .unset, .unset, .unset, .unset, .unset, .unset]) rfl ?_
  refine XS.goto X9.here hx rfl (pc0 := 83) (pc' := 105) rfl (hb hby at_83) (by decide) (by decide) ?_
  refine st12 _ ?_
  refine XS.dup X12.here hx rfl (hb hby at_108) rfl rfl ?_
  refine XS.aload X12.here hx rfl (hb hby at_109) rfl rfl ?_
  show St p e below T12 (mkF m 111 #[.val (.int p1), .val (.int p2), .val (.int 2), .val (.int cA), .val (.int cB), .val (.int cC), .val (.ref b1), .unset, .unset, .unset, .unset, .unset, .unset, .unset] [(.ref b1), (.ref b12), (.ref b12)]) _
  refine st15.trans ?_
  refine XS.astore X15.here hx rfl (hb hby at_114) rfl rfl (l' := #[.val (.int p1), .val (.int p2), .val (.int 2), .val (.int cA), .val (.int cB), .val (.int cC), .val (.ref b1), .val (.ref b12), .unset, .unset, .unset, .unset, .unset, .unset]) rfl ?_
  refine st19 _ ?_
  refine XS.dup X19.here hx rfl (hb hby at_119) rfl rfl ?_
  refine XS.aload X19.here hx rfl (hb hby at_120) rfl rfl ?_
  refine XS.iloadN X19.here hx rfl (hb hby at_122) rfl ?_
  refine st22.trans ?_
  refine st25.trans ?_
  show St p e below T25 (mkF m 129 #[.val (.int p1), .val (.int p2), .val (.int 2), .val (.int cA), .val (.int cB), .val (.int cC), .val (.ref b1), .val (.ref b12), .unset, .unset, .unset, .unset, .unset, .unset] [(.ref r_25)]) _
  refine XS.astore X25.here hx rfl (hb hby at_129) rfl rfl (l' := #[.val (.int p1), .val (.int p2), .val (.int 2), .val (.int cA), .val (.int cB), .val (.int cC), .val (.ref b1), .val (.ref b12), .val (.ref r_25), .unset, .unset, .unset, .unset, .unset]) rfl ?_
  exact kt
set_option maxRecDepth 65536 in
set_option maxHeartbeats 40000000 in
theorem sg_front_3 {p : Program} {l : Launch} {e : Env} {s : State} {m : MethodId} {args : Array Value} {below : List Frame} {meth : Method} {c : Code} {T0 : State} {locs : List Loc} {Z : State} {a0 : Array Value} {h0 : Heap} {n0 : Nat} {vm0 : Vm} {k0 : Nat} (p1 : Int32) (p2 : Int32) (w_COMPACT_STRINGS : Int32) (zz : Int32) (n : Nat) (ix : Nat) (cA : Int32) (cB : Int32) (cC : Int32)
    (X0 : Stand p l e room_1 (s.setVm vm0) m args below meth c T0 locs 0 0) (hx : p.tables.exec = Jvm.exec) (hZ : Z.Warmed39 (s.setVm vm0).vm) (hw : ∀ d ∈ tables_1, d.before a0 Z = true) (hby : c.code = code) (hml : c.maxLocals = 14) (hown : (s.setVm vm0).vm.findClass "com/example/demarc/demarc/tool/AccountToStringPinLaw" = some m.cls) (e0 : T0.heap = h0) (N0 : Fr n0 locs) (Z0 : n0 ≤ h0.size) (hEL : EW Z a0 consts_1) (hS0 : s.Since vm0 k0) (hk0 : k0 ≤ h0.size) (H0c : CHv Z consts_1 vm0 h0) (S_COMPACT_STRINGS : Sta Z Z.heap "java/lang/String" "COMPACT_STRINGS" "Z" (.int w_COMPACT_STRINGS)) (hcs : ¬ (w_COMPACT_STRINGS = (0 : Int32))) (hbcA : ¬ ((255 : Int32) < cA)) (hbcB : ¬ ((255 : Int32) < cB)) (hbcC : ¬ ((255 : Int32) < cC)) (hzz : ((4 : Int32) + (Jvm.Free.SBG.strSizeOf p2)) = zz) (hB : own_B Z) (hN : own_N p2 n 4 ix) (hix : zz = Int32.ofNat ix) (hk : (p1 &&& (3 : Int32)) = (3 : Int32)) (hcA : ((((p1.toUInt32 >>> ((2 : Int32) &&& 31).toUInt32).toInt32) &&& (255 : Int32)).toUInt32.toUInt16.toUInt32.toInt32) = cA) (hcB : ((((p1.toUInt32 >>> ((10 : Int32) &&& 31).toUInt32).toInt32) &&& (255 : Int32)).toUInt32.toUInt16.toUInt32.toInt32) = cB) (hcC : ((((p1.toUInt32 >>> ((18 : Int32) &&& 31).toUInt32).toInt32) &&& (255 : Int32)).toUInt32.toUInt16.toUInt32.toInt32) = cC) (O0 : Old Z n0 h0) (hncA : (cA.toUInt32.toUInt16.toUInt32.toInt32) = cA) (hncB : (cB.toUInt32.toUInt16.toUInt32.toInt32) = cB) (hncC : (cC.toUInt32.toUInt16.toUInt32.toInt32) = cC) :
    ∃ (T' : State) (locs' : List Loc) (vm1 : Vm) (k1 : Nat) (b6 : Addr) (b7 : Addr) (ss : Addr) (tt : Addr) (kt : ClassId) (vs : List Value), Stand p l e room_1 (s.setVm vm1) m args below meth c T' locs' 10 60 ∧ Fr n0 locs' ∧ Keep h0 T'.heap [] ∧ s.Since vm1 k1 ∧ k1 ≤ T'.heap.size ∧ Z.Warmed39 (s.setVm vm1).vm ∧ (s.setVm vm1).vm.findClass "com/example/demarc/demarc/tool/AccountToStringPinLaw" = some m.cls ∧ CHr Z consts_1 vm0 h0 vm1 T'.heap ∧ h0.size ≤ ss ∧ Exa Z T'.heap ss "java/lang/String" ∧ Fld Z T'.heap ss "java/lang/String" "coder" "B" (.int 0) ∧ Fld Z T'.heap ss "java/lang/String" "value" "[B" (.ref tt) ∧ Arv Z T'.heap tt kt .byte zz vs (.int 0) ∧ own_T vs [(.int (cA.toInt8.toInt32)), (.int (cB.toInt8.toInt32)), (.int (cC.toInt8.toInt32)), (.int 58), (.int 0), (.int 0), (.int 0), (.int 0), (.int 0), (.int 0), (.int 0), (.int 0), (.int 0), (.int 0), (.int 0), (.int 0)] 4 p2 n ix ∧ ∀ target, Steps p.tables e below (T'.setTop (mkF m 131 #[.val (.int p1), .val (.int p2), .val (.int 3), .val (.int cA), .val (.int cB), .val (.int cC), .val (.ref b6), .val (.ref b7), .val (.ref ss), .unset, .unset, .unset, .unset, .unset] [])) target → Steps p.tables e below (T0.setTop (mkF m 0 #[.val (.int p1), .val (.int p2), .unset, .unset, .unset, .unset, .unset, .unset, .unset, .unset, .unset, .unset, .unset, .unset] [])) target := by
  have C0c : CHr Z consts_1 vm0 h0 vm0 h0 := CHr.refl H0c
  obtain ⟨T1, h1, k1, X1, e1, E1, A1, st1⟩ := newP X0 hx hZ (hwi hw 0 rfl) e0 (g := (mkF m 87 #[.val (.int p1), .val (.int p2), .val (.int 3), .val (.int cA), .val (.int cB), .val (.int cC), .unset, .unset, .unset, .unset, .unset, .unset, .unset, .unset] [(.int 3)])) rfl (hb hby at_87) rfl (by decide) (cap := 3) (by decide) (by decide) (by decide) (by decide)
  obtain ⟨b1, g1⟩ : ∃ z, z = h0.size := ⟨_, rfl⟩
  rw [← g1] at A1 st1
  have bn_b1 : h0.size ≤ b1 := Nat.le_of_eq g1.symm
  have R2 := CHr.ext E1 H0c
  have CR2 := C0c.trans R2
  have sz3 : h0.size ≤ h1.size := E1.1
  have Z3 : n0 ≤ h1.size := Nat.le_trans Z0 sz3
  have hk3 := Nat.le_trans hk0 sz3
  have O3 := O0.ext E1
  have K3 : Keep h0 h1 [] := (Keep.refl h0 []).ext E1
  have V1 : Arv Z h1 b1 k1 .char (3 : Int32) [(.int 0), (.int 0), (.int 0)] (.int 0) := (Arv.new A1 (by decide)).pad (pad_rep [] (.int 0) 3)
  obtain ⟨cl4, Ar4, q4, S4, M4, H4, G4⟩ := id V1
  have hin4 : ¬ ((0 : Int32) < 0 ∨ cl4.slots.size ≤ ((0 : Int32)).toNatClampNeg) := inb_of S4 ⟨by decide, by decide⟩
  obtain ⟨T5, h5, X5, e5, W5, st5⟩ := stC X1 hx hZ e1 Ar4 (j := (0 : Int32)) hin4 (g := (mkF m 92 #[.val (.int p1), .val (.int p2), .val (.int 3), .val (.int cA), .val (.int cB), .val (.int cC), .unset, .unset, .unset, .unset, .unset, .unset, .unset, .unset] [(.int cA), (.int 0), (.ref b1), (.ref b1)])) rfl rfl (hb hby at_92)
  have N5 := Fr.snoc X5 N0 (Nat.le_trans Z0 bn_b1)
  have V5 : Arv Z h5 b1 k1 .char (3 : Int32) [(.int (cA.toUInt32.toUInt16.toUInt32.toInt32)), (.int 0), (.int 0)] (.int 0) := Arv.set Ar4 q4 S4 M4 H4 G4 (fits_nar_char _) W5 0 rfl (Nat.le_of_ble_eq_true rfl)
  rw [hncA] at V5
  have R6 := CHr.wr W5 (Safe.arv hZ.alike V1 (by decide)) R2.1
  have CR6 := CR2.trans R6
  have sz7 : h1.size ≤ h5.size := Nat.le_of_eq W5.size.symm
  have Z7 : n0 ≤ h5.size := Nat.le_trans Z3 sz7
  have hk7 := Nat.le_trans hk3 sz7
  have O7 := O3.wr W5 (Nat.le_trans Z0 bn_b1)
  have K7 : Keep h0 h5 [] := K3.wr W5 (Or.inr bn_b1)
  obtain ⟨cl8, Ar8, q8, S8, M8, H8, G8⟩ := id V5
  have hin8 : ¬ ((1 : Int32) < 0 ∨ cl8.slots.size ≤ ((1 : Int32)).toNatClampNeg) := inb_of S8 ⟨by decide, by decide⟩
  obtain ⟨T9, h9, X9, e9, W9, st9⟩ := stC X5 hx hZ e5 Ar8 (j := (1 : Int32)) hin8 (g := (mkF m 97 #[.val (.int p1), .val (.int p2), .val (.int 3), .val (.int cA), .val (.int cB), .val (.int cC), .unset, .unset, .unset, .unset, .unset, .unset, .unset, .unset] [(.int cB), (.int 1), (.ref b1), (.ref b1)])) rfl rfl (hb hby at_97)
  have N9 := Fr.snoc X9 N5 (Nat.le_trans Z0 bn_b1)
  have V9 : Arv Z h9 b1 k1 .char (3 : Int32) [(.int cA), (.int (cB.toUInt32.toUInt16.toUInt32.toInt32)), (.int 0)] (.int 0) := Arv.set Ar8 q8 S8 M8 H8 G8 (fits_nar_char _) W9 1 rfl (Nat.le_of_ble_eq_true rfl)
  rw [hncB] at V9
  have R10 := CHr.wr W9 (Safe.arv hZ.alike V5 (by decide)) R6.1
  have CR10 := CR6.trans R10
  have sz11 : h5.size ≤ h9.size := Nat.le_of_eq W9.size.symm
  have Z11 : n0 ≤ h9.size := Nat.le_trans Z7 sz11
  have hk11 := Nat.le_trans hk7 sz11
  have O11 := O7.wr W9 (Nat.le_trans Z0 bn_b1)
  have K11 : Keep h0 h9 [] := K7.wr W9 (Or.inr bn_b1)
  obtain ⟨cl12, Ar12, q12, S12, M12, H12, G12⟩ := id V9
  have hin12 : ¬ ((2 : Int32) < 0 ∨ cl12.slots.size ≤ ((2 : Int32)).toNatClampNeg) := inb_of S12 ⟨by decide, by decide⟩
  obtain ⟨T13, h13, X13, e13, W13, st13⟩ := stC X9 hx hZ e9 Ar12 (j := (2 : Int32)) hin12 (g := (mkF m 102 #[.val (.int p1), .val (.int p2), .val (.int 3), .val (.int cA), .val (.int cB), .val (.int cC), .unset, .unset, .unset, .unset, .unset, .unset, .unset, .unset] [(.int cC), (.int 2), (.ref b1), (.ref b1)])) rfl rfl (hb hby at_102)
  have N13 := Fr.snoc X13 N9 (Nat.le_trans Z0 bn_b1)
  have V13 : Arv Z h13 b1 k1 .char (3 : Int32) [(.int cA), (.int cB), (.int (cC.toUInt32.toUInt16.toUInt32.toInt32))] (.int 0) := Arv.set Ar12 q12 S12 M12 H12 G12 (fits_nar_char _) W13 2 rfl (Nat.le_of_ble_eq_true rfl)
  rw [hncC] at V13
  have R14 := CHr.wr W13 (Safe.arv hZ.alike V9 (by decide)) R10.1
  have CR14 := CR10.trans R14
  have sz15 : h9.size ≤ h13.size := Nat.le_of_eq W13.size.symm
  have Z15 : n0 ≤ h13.size := Nat.le_trans Z11 sz15
  have hk15 := Nat.le_trans hk11 sz15
  have O15 := O11.wr W13 (Nat.le_trans Z0 bn_b1)
  have K15 : Keep h0 h13 [] := K11.wr W13 (Or.inr bn_b1)
  obtain ⟨T16, h16, X16, e16, E16, A16, D16, -, st16⟩ := newO X13 hx hZ hown (hwi hw 1 rfl) (hwi hw 2 rfl) (hwi hw 3 rfl) e13 (g := (mkF m 105 #[.val (.int p1), .val (.int p2), .val (.int 3), .val (.int cA), .val (.int cB), .val (.int cC), .val (.ref b1), .unset, .unset, .unset, .unset, .unset, .unset, .unset] [])) rfl (hb hby at_105) (by decide) (by decide)
  obtain ⟨b16, g16⟩ : ∃ z, z = h13.size := ⟨_, rfl⟩
  rw [← g16] at A16 D16 st16
  have bn_b16 : h0.size ≤ b16 := Nat.le_trans K15.1 (Nat.le_of_eq g16.symm)
  have sfb16 : Safe Z consts_1 vm0 h13 b16 := Safe.new (Nat.le_of_eq g16.symm)
  have R17 := CHr.ext E16 R14.1
  have sf_b16_17 := Safe.ext E16 R14.1 sfb16
  have CR17 := CR14.trans R17
  have sz18 : h13.size ≤ h16.size := E16.1
  have Z18 : n0 ≤ h16.size := Nat.le_trans Z15 sz18
  have hk18 := Nat.le_trans hk15 sz18
  have O18 := O15.ext E16
  have K18 : Keep h0 h16 [] := K15.ext E16
  have F16_value : Fld Z h16 b16 "java/lang/String" "value" "[B" .null := D16 (Or.inr (hwi hw 16 rfl)) (ty := (.array .byte)) (by decide)
  have F16_coder : Fld Z h16 b16 "java/lang/String" "coder" "B" (.int 0) := D16 (Or.inr (hwi hw 17 rfl)) (ty := .byte) (by decide)
  have fc20 := (V13.ext E16)
  obtain ⟨_, _, ⟨T19, L19, k19, n19⟩, -, X19, ⟨Lc19, hQ19, l19, y19, z19⟩, st19⟩ := X16.specialBack hx (y := mn1) rfl hown (mvT hZ (hwi hw 4 rfl)) (mvT hZ (hwi hw 5 rfl)) (mvT hZ (hwi hw 6 rfl)) (by decide) (backOf (W := 1) (rm_new1_3 l Z a0 hw [] b16 b1 w_COMPACT_STRINGS k1 cA cB cC (.int 0) .null h16 n0 Z18 S_COMPACT_STRINGS hcs fc20 hbcA hbcB hbcC O18 A16 F16_coder (Nat.le_trans Z0 bn_b16) F16_value) hZ (hwi hw 6 rfl) (hwi hw 3 rfl) (by decide) (by decide)) (g := (mkF m 111 #[.val (.int p1), .val (.int p2), .val (.int 3), .val (.int cA), .val (.int cB), .val (.int cC), .val (.ref b1), .unset, .unset, .unset, .unset, .unset, .unset, .unset] [(.ref b1), (.ref b16), (.ref b16)])) rfl (by rw [hml]; rfl) (Steps.refl _) (a := b16) (argsL := [(.ref b1)]) (rest := [(.ref b16)]) (lenOf pd_C_V_325 rfl) rfl (by show 2 * 0 + _ ≤ _; exact Nat.le_of_eq rfl) (hb hby at_111) (fun _ _ => ⟨rfl, e16, (by decide : 2 + 1 ≤ _), (by decide : 7 + 3 ≤ _)⟩)
  dsimp only [Pt.U, Pt.locs, Pt.cells, Pt.slots] at X19 l19 y19 z19 st19 hQ19
  subst l19 y19 z19
  obtain ⟨t_19, kt_19, rfl, N19q, Kc19, g19_0, g19_1, g19_2, g19_3, g19_4⟩ := hQ19
  have N19 := Fr.app N13 N19q
  have sfb19_3 : Safe Z consts_1 vm0 h16 t_19 := Safe.new g19_3
  have R21 := CHr.keep Kc19 (sfS sf_b16_17 sf0) R17.1
  have sf_b16_21 := Safe.keep Kc19 (sfS sf_b16_17 sf0) R17.1 sf_b16_17
  have sf_t_19_21 := Safe.keep Kc19 (sfS sf_b16_17 sf0) R17.1 sfb19_3
  have CR21 := CR17.trans R21
  have sz22 : h16.size ≤ T19.heap.size := Kc19.1
  have Z22 : n0 ≤ T19.heap.size := Nat.le_trans Z18 sz22
  have hk22 := Nat.le_trans hk18 sz22
  have O22 := O18.keep Kc19 (allS (Nat.le_trans Z0 bn_b16) all0)
  have K22 : Keep h0 T19.heap [] := K18.trans Kc19 (allS (Or.inr bn_b16) (all0))
  have bn_t_19 : h0.size ≤ t_19 := Nat.le_trans K18.1 g19_3
  obtain ⟨T23, h23, X23, e23, E23, A23, D23, -, st23⟩ := newO X19 hx hZ hown (hwi hw 22 rfl) (hwi hw 23 rfl) (hwi hw 24 rfl) rfl (g := (mkF m 116 #[.val (.int p1), .val (.int p2), .val (.int 3), .val (.int cA), .val (.int cB), .val (.int cC), .val (.ref b1), .val (.ref b16), .unset, .unset, .unset, .unset, .unset, .unset] [])) rfl (hb hby at_116) (by decide) (by decide)
  obtain ⟨b23, g23⟩ : ∃ z, z = T19.heap.size := ⟨_, rfl⟩
  rw [← g23] at A23 D23 st23
  have bn_b23 : h0.size ≤ b23 := Nat.le_trans K22.1 (Nat.le_of_eq g23.symm)
  have R24 := CHr.ext E23 R21.1
  have sf_b16_24 := Safe.ext E23 R21.1 sf_b16_21
  have sf_t_19_24 := Safe.ext E23 R21.1 sf_t_19_21
  have CR24 := CR21.trans R24
  have sz25 : T19.heap.size ≤ h23.size := E23.1
  have Z25 : n0 ≤ h23.size := Nat.le_trans Z22 sz25
  have hk25 := Nat.le_trans hk22 sz25
  have O25 := O22.ext E23
  have K25 : Keep h0 h23 [] := K22.ext E23
  have F23_database : Fld Z h23 b23 "com/example/demarc/demarc/tool/Account" "database" "Ljava/lang/String;" .null := D23 (Or.inr (hwi hw 35 rfl)) (ty := (.object "java/lang/String")) (by decide)
  have F23_number : Fld Z h23 b23 "com/example/demarc/demarc/tool/Account" "number" "I" (.int 0) := D23 (Or.inr (hwi hw 37 rfl)) (ty := .int) (by decide)
  obtain ⟨_, _, ⟨T26, L26, k26, n26⟩, -, X26, ⟨Lc26, hQ26, l26, y26, z26⟩, st26⟩ := X23.specialBack hx (y := mn36) rfl hown (mvT hZ (hwi hw 25 rfl)) (mvT hZ (hwi hw 26 rfl)) (mvT hZ (hwi hw 27 rfl)) (by decide) (backOf (W := 1) (rm_acinit l Z a0 hw [] b23 b16 p2 .null (.int 0) h23 n0 Z25 A23 F23_database (Nat.le_trans Z0 bn_b23) O25 F23_number) hZ (hwi hw 27 rfl) (hwi hw 24 rfl) (by decide) (by decide)) (g := (mkF m 123 #[.val (.int p1), .val (.int p2), .val (.int 3), .val (.int cA), .val (.int cB), .val (.int cC), .val (.ref b1), .val (.ref b16), .unset, .unset, .unset, .unset, .unset, .unset] [(.int p2), (.ref b16), (.ref b23), (.ref b23)])) rfl (by rw [hml]; rfl) (Steps.refl _) (a := b23) (argsL := [(.ref b16), (.int p2)]) (rest := [(.ref b23)]) (lenOf pd_Ljava_lang_String_I_V_936 rfl) rfl (by show 2 * 0 + _ ≤ _; exact Nat.le_of_eq rfl) (hb hby at_123) (fun _ _ => ⟨rfl, e23, (by decide : 4 + 0 ≤ _), (by decide : 12 + 0 ≤ _)⟩)
  dsimp only [Pt.U, Pt.locs, Pt.cells, Pt.slots] at X26 l26 y26 z26 st26 hQ26
  subst l26 y26 z26
  obtain ⟨rfl, N26q, Kc26, g26_0, g26_1, g26_2⟩ := hQ26
  have N26 := Fr.app N19 N26q
  have R27 := CHr.keep Kc26 (sfS (Safe.exa hZ.alike A23 (by decide) (by decide)) sf0) R24.1
  have sf_b16_27 := Safe.keep Kc26 (sfS (Safe.exa hZ.alike A23 (by decide) (by decide)) sf0) R24.1 sf_b16_24
  have sf_t_19_27 := Safe.keep Kc26 (sfS (Safe.exa hZ.alike A23 (by decide) (by decide)) sf0) R24.1 sf_t_19_24
  have CR27 := CR24.trans R27
  have sz28 : h23.size ≤ T26.heap.size := Kc26.1
  have Z28 : n0 ≤ T26.heap.size := Nat.le_trans Z25 sz28
  have hk28 := Nat.le_trans hk25 sz28
  have O28 := O25.keep Kc26 (allS (Nat.le_trans Z0 bn_b23) all0)
  have K28 : Keep h0 T26.heap [] := K25.trans Kc26 (allS (Or.inr bn_b23) (all0))
  have fc30 := ((g19_0.ext E23).keep Kc26)
  have fc31 := ((g19_1.ext E23).keep Kc26 (ninS (neN (by have := ltN A16.lt; have := ltN A23.lt; omega)) nin0))
  have fc32 := ((g19_2.ext E23).keep Kc26 (ninS (neN (by have := ltN A16.lt; have := ltN A23.lt; omega)) nin0))
  have fc33 := ((g19_4.ext E23).keep Kc26 (ninS (neN (by have := ltN g19_4.lt; have := ltN A23.lt; omega)) nin0))
  obtain ⟨cq29, kq29, q29a, q29b, q29c⟩ := isOf hZ rfl g26_0
  obtain ⟨_, _, ⟨T29, L29, k29, n29⟩, -, X29, hS29, gr29, ⟨Lc29, hQ29, l29, y29, z29, C29⟩, st29⟩ := X26.virtualBackS hx (y := mn37) (z := mn37) hown (mvT hZ (hwi hw 38 rfl)) (mvT hZ (hwi hw 39 rfl)) (notFace_of_selects (args := #[]) (mvT hZ (hwi hw 41 rfl))) (mvT hZ (hwi hw 41 rfl)) (mvT hZ (hwi hw 40 rfl)) (by decide) (backOfSH (s := s) (vm0 := vm0) (EL := consts_1) (W := 0) (rm_acstr_3 l Z a0 hw hEL [] b23 w_COMPACT_STRINGS b16 p2 cA cB cC t_19 kt_19 zz n 4 ix T26.heap n0 Z28 S_COMPACT_STRINGS hcs g26_1 fc30 g26_2 fc31 fc32 fc33 hzz hB hN hix O28) hZ (hwi hw 42 rfl) (hwi hw 24 rfl) (by decide) (by decide) hEL R27.1) q29a q29c (g := (mkF m 126 #[.val (.int p1), .val (.int p2), .val (.int 3), .val (.int cA), .val (.int cB), .val (.int cC), .val (.ref b1), .val (.ref b16), .unset, .unset, .unset, .unset, .unset, .unset] [(.ref b23)])) rfl (by rw [hml]; rfl) (Steps.refl _) (argsL := []) (rest := []) (lenOf pd_Ljava_lang_String_777 rfl) rfl (by show 2 * 0 + _ ≤ _; exact Nat.le_of_eq rfl) (hb hby at_126) (fun _ _ => ⟨rfl, rfl, (by decide : 4 + 6 ≤ _), (by decide : 12 + 48 ≤ _)⟩)
  dsimp only [Pt.U, Pt.locs, Pt.cells, Pt.slots] at X29 l29 y29 z29 st29 hQ29 hS29 gr29 C29
  subst l29 y29 z29
  obtain ⟨X29, hS29, hZ29, ho29⟩ := rebS hS0 hk28 X29 hS29 gr29 hZ hown
  obtain ⟨r_29, t_29, kt_29, vs_29, rfl, N29q, Kc29, g29_0, g29_1, g29_2, g29_3, g29_4, g29_5, g29_6⟩ := hQ29
  have N29 := Fr.app N26 N29q
  have sf_b16_34 := CHr.safe C29 (show b16 < T26.heap.size from ltN (by have := ltN A16.lt; omega)) sf_b16_27
  have sf_t_19_34 := CHr.safe C29 (show t_19 < T26.heap.size from ltN (by have := ltN g19_4.lt; omega)) sf_t_19_27
  have R34 := C29
  have CR34 := CR27.trans R34
  have sz35 : T26.heap.size ≤ T29.heap.size := Kc29.1
  have Z35 : n0 ≤ T29.heap.size := Nat.le_trans Z28 sz35
  have O35 := O28.keep Kc29 all0
  have K35 : Keep h0 T29.heap [] := K28.trans Kc29 (all0)
  have bn_r_29 : h0.size ≤ r_29 := Nat.le_trans K28.1 g29_0
  have bn_t_29 : h0.size ≤ t_29 := Nat.le_trans K28.1 g29_1
  refine ⟨T29, _, T29.vm, _, b1, b16, r_29, t_29, kt_29, vs_29, X29, N29, K35, hS29, (Nat.le_refl T29.heap.size), hZ29, ho29, CR34, bn_r_29, g29_2, g29_3, g29_4, g29_5, g29_6, fun target kt => ?_⟩
  refine XS.iloadN X0.here hx rfl (hb hby at_0) rfl ?_
  refine XS.iconst X0.here hx rfl (hb hby at_1) ?_
  refine XS.iand X0.here hx rfl (hb hby at_2) rfl ?_
  show St p e below T0 (mkF m 3 #[.val (.int p1), .val (.int p2), .unset, .unset, .unset, .unset, .unset, .unset, .unset, .unset, .unset, .unset, .unset, .unset] [(.int (p1 &&& (3 : Int32)))]) _
  rw [hk]
  show St p e below T0 (mkF m 3 #[.val (.int p1), .val (.int p2), .unset, .unset, .unset, .unset, .unset, .unset, .unset, .unset, .unset, .unset, .unset, .unset] [(.int 3)]) _
  refine XS.istoreN X0.here hx rfl (hb hby at_3) rfl (l' := #[.val (.int p1), .val (.int p2), .val (.int 3), .unset, .unset, .unset, .unset, .unset, .unset, .unset, .unset, .unset, .unset, .unset]) rfl ?_
  refine XS.iloadN X0.here hx rfl (hb hby at_4) rfl ?_
  refine XS.iconst X0.here hx rfl (hb hby at_5) ?_
  refine XS.iushr X0.here hx rfl (hb hby at_6) rfl ?_
  refine XS.sipush X0.here hx rfl (hb hby at_7) ?_
  refine XS.iand X0.here hx rfl (hb hby at_10) rfl ?_
  refine XS.i2c X0.here hx rfl (hb hby at_11) rfl ?_
  show St p e below T0 (mkF m 12 #[.val (.int p1), .val (.int p2), .val (.int 3), .unset, .unset, .unset, .unset, .unset, .unset, .unset, .unset, .unset, .unset, .unset] [(.int ((((p1.toUInt32 >>> ((2 : Int32) &&& 31).toUInt32).toInt32) &&& (255 : Int32)).toUInt32.toUInt16.toUInt32.toInt32))]) _
  rw [hcA]
  show St p e below T0 (mkF m 12 #[.val (.int p1), .val (.int p2), .val (.int 3), .unset, .unset, .unset, .unset, .unset, .unset, .unset, .unset, .unset, .unset, .unset] [(.int cA)]) _
  refine XS.istoreN X0.here hx rfl (hb hby at_12) rfl (l' := #[.val (.int p1), .val (.int p2), .val (.int 3), .val (.int cA), .unset, .unset, .unset, .unset, .unset, .unset, .unset, .unset, .unset, .unset]) rfl ?_
  refine XS.iloadN X0.here hx rfl (hb hby at_13) rfl ?_
  refine XS.bipush X0.here hx rfl (hb hby at_14) ?_
  refine XS.iushr X0.here hx rfl (hb hby at_16) rfl ?_
  refine XS.sipush X0.here hx rfl (hb hby at_17) ?_
  refine XS.iand X0.here hx rfl (hb hby at_20) rfl ?_
  refine XS.i2c X0.here hx rfl (hb hby at_21) rfl ?_
  show St p e below T0 (mkF m 22 #[.val (.int p1), .val (.int p2), .val (.int 3), .val (.int cA), .unset, .unset, .unset, .unset, .unset, .unset, .unset, .unset, .unset, .unset] [(.int ((((p1.toUInt32 >>> ((10 : Int32) &&& 31).toUInt32).toInt32) &&& (255 : Int32)).toUInt32.toUInt16.toUInt32.toInt32))]) _
  rw [hcB]
  show St p e below T0 (mkF m 22 #[.val (.int p1), .val (.int p2), .val (.int 3), .val (.int cA), .unset, .unset, .unset, .unset, .unset, .unset, .unset, .unset, .unset, .unset] [(.int cB)]) _
  refine XS.istore X0.here hx rfl (hb hby at_22) rfl (l' := #[.val (.int p1), .val (.int p2), .val (.int 3), .val (.int cA), .val (.int cB), .unset, .unset, .unset, .unset, .unset, .unset, .unset, .unset, .unset]) rfl ?_
  refine XS.iloadN X0.here hx rfl (hb hby at_24) rfl ?_
  refine XS.bipush X0.here hx rfl (hb hby at_25) ?_
  refine XS.iushr X0.here hx rfl (hb hby at_27) rfl ?_
  refine XS.sipush X0.here hx rfl (hb hby at_28) ?_
  refine XS.iand X0.here hx rfl (hb hby at_31) rfl ?_
  refine XS.i2c X0.here hx rfl (hb hby at_32) rfl ?_
  show St p e below T0 (mkF m 33 #[.val (.int p1), .val (.int p2), .val (.int 3), .val (.int cA), .val (.int cB), .unset, .unset, .unset, .unset, .unset, .unset, .unset, .unset, .unset] [(.int ((((p1.toUInt32 >>> ((18 : Int32) &&& 31).toUInt32).toInt32) &&& (255 : Int32)).toUInt32.toUInt16.toUInt32.toInt32))]) _
  rw [hcC]
  show St p e below T0 (mkF m 33 #[.val (.int p1), .val (.int p2), .val (.int 3), .val (.int cA), .val (.int cB), .unset, .unset, .unset, .unset, .unset, .unset, .unset, .unset, .unset] [(.int cC)]) _
  refine XS.istore X0.here hx rfl (hb hby at_33) rfl (l' := #[.val (.int p1), .val (.int p2), .val (.int 3), .val (.int cA), .val (.int cB), .val (.int cC), .unset, .unset, .unset, .unset, .unset, .unset, .unset, .unset]) rfl ?_
  refine XS.iloadN X0.here hx rfl (hb hby at_35) rfl ?_
  refine XS.ifYes X0.here hx rfl (pc0 := 36) (pc' := 47) rfl (hb hby at_36) rfl ((if0 _ _).trans (feq (by decide : ¬ ((3 : Int32) = (0 : Int32)))).2) (by decide) (by decide) ?_
  refine XS.iloadN X0.here hx rfl (hb hby at_47) rfl ?_
  refine XS.iconst X0.here hx rfl (hb hby at_48) ?_
  refine XS.icmpYes X0.here hx rfl (pc0 := 49) (pc' := 64) rfl (hb hby at_49) rfl (feq (by decide : ¬ ((3 : Int32) = (1 : Int32)))).2 (by decide) (by decide) ?_
  refine XS.iloadN X0.here hx rfl (hb hby at_64) rfl ?_
  refine XS.iconst X0.here hx rfl (hb hby at_65) ?_
  show St p e below T0 (mkF m 66 #[.val (.int p1), .val (.int p2), .val (.int 3), .val (.int cA), .val (.int cB), .val (.int cC), .unset, .unset, .unset, .unset, .unset, .unset, .unset, .unset] [(.int 2), (.int 3)]) _
  refine XS.icmpYes X0.here hx rfl (pc0 := 66) (pc' := 86) rfl (hb hby at_66) rfl (feq (by decide : ¬ ((3 : Int32) = (2 : Int32)))).2 (by decide) (by decide) ?_
  refine XS.iconst X0.here hx rfl (hb hby at_86) ?_
  refine st1 _ ?_
  refine XS.dup X1.here hx rfl (hb hby at_89) rfl rfl ?_
  refine XS.iconst X1.here hx rfl (hb hby at_90) ?_
  refine XS.iloadN X1.here hx rfl (hb hby at_91) rfl ?_
  refine st5 _ ?_
  refine XS.dup X5.here hx rfl (hb hby at_93) rfl rfl ?_
  show St p e below T5 (mkF m 94 #[.val (.int p1), .val (.int p2), .val (.int 3), .val (.int cA), .val (.int cB), .val (.int cC), .unset, .unset, .unset, .unset, .unset, .unset, .unset, .unset] [(.ref b1), (.ref b1)]) _
  refine XS.iconst X5.here hx rfl (hb hby at_94) ?_
  refine XS.iload X5.here hx rfl (hb hby at_95) rfl ?_
  refine st9 _ ?_
  refine XS.dup X9.here hx rfl (hb hby at_98) rfl rfl ?_
  refine XS.iconst X9.here hx rfl (hb hby at_99) ?_
  refine XS.iload X9.here hx rfl (hb hby at_100) rfl ?_
  refine st13 _ ?_
  refine XS.astore X13.here hx rfl (hb hby at_103) rfl rfl (l' := #[.val (.int p1), .val (.int p2), .val (.int 3), .val (.int cA), .val (.int cB), .val (.int cC), .val (.ref b1), .unset, .unset, .unset, .unset, .unset, .unset, .unset]) rfl ?_
  show St p e below T13 (mkF m 105 #[.val (.int p1), .val (.int p2), .val (.int 3), .val (.int cA), .val (.int cB), .val (.int cC), .val (.ref b1), .unset, .unset, .unset, .unset, .unset, .unset, .unset] []) _
  refine st16 _ ?_
  refine XS.dup X16.here hx rfl (hb hby at_108) rfl rfl ?_
  refine XS.aload X16.here hx rfl (hb hby at_109) rfl rfl ?_
  refine st19.trans ?_
  refine XS.astore X19.here hx rfl (hb hby at_114) rfl rfl (l' := #[.val (.int p1), .val (.int p2), .val (.int 3), .val (.int cA), .val (.int cB), .val (.int cC), .val (.ref b1), .val (.ref b16), .unset, .unset, .unset, .unset, .unset, .unset]) rfl ?_
  refine st23 _ ?_
  refine XS.dup X23.here hx rfl (hb hby at_119) rfl rfl ?_
  refine XS.aload X23.here hx rfl (hb hby at_120) rfl rfl ?_
  show St p e below T23 (mkF m 122 #[.val (.int p1), .val (.int p2), .val (.int 3), .val (.int cA), .val (.int cB), .val (.int cC), .val (.ref b1), .val (.ref b16), .unset, .unset, .unset, .unset, .unset, .unset] [(.ref b16), (.ref b23), (.ref b23)]) _
  refine XS.iloadN X23.here hx rfl (hb hby at_122) rfl ?_
  refine st26.trans ?_
  refine st29.trans ?_
  refine XS.astore X29.here hx rfl (hb hby at_129) rfl rfl (l' := #[.val (.int p1), .val (.int p2), .val (.int 3), .val (.int cA), .val (.int cB), .val (.int cC), .val (.ref b1), .val (.ref b16), .val (.ref r_29), .unset, .unset, .unset, .unset, .unset]) rfl ?_
  exact kt
theorem pd_Ljava_lang_String_JII_Z_87 : parseMethodDescriptor "(Ljava/lang/String;JII)Z" = some ⟨[(.object "java/lang/String"), .long, .int, .int], some .boolean⟩ := by decide +kernel
set_option maxRecDepth 65536 in
set_option maxHeartbeats 40000000 in
theorem sg_tail {p : Program} {l : Launch} {e : Env} {s : State} {m : MethodId} {args : Array Value} {below : List Frame} {meth : Method} {c : Code} {T0 : State} {locs : List Loc} {Z : State} {a0 : Array Value} {h0 : Heap} {n0 : Nat} {vm0 : Vm} {k0 : Nat} (p1 : Int32) (p2 : Int32) (l2 : Int32) (cA : Int32) (cB : Int32) (cC : Int32) (b6 : Addr) (b7 : Addr) (ss : Addr) (l9 : Int32) (mm : Int64) (dd : Int32) (l13 : Int32) (w_COMPACT_STRINGS : Int32) (t_ss : Addr) (k_t_ss : ClassId) (vs : List Value) (N : Int32) (w_SIOOBE_FORMATTER : Value)
    (X0 : Stand p l e room_1 (s.setVm vm0) m args below meth c T0 locs 13 62) (hx : p.tables.exec = Jvm.exec) (hZ : Z.Warmed39 (s.setVm vm0).vm) (hw : ∀ d ∈ tables_1, d.before a0 Z = true) (hby : c.code = code) (hml : c.maxLocals = 14) (hown : (s.setVm vm0).vm.findClass "com/example/demarc/demarc/tool/AccountToStringPinLaw" = some m.cls) (e0 : T0.heap = h0) (N0 : Fr n0 locs) (Z0 : n0 ≤ h0.size) (hEL : EW Z a0 consts_1) (hS0 : s.Since vm0 k0) (hk0 : k0 ≤ h0.size) (H0c : CHv Z consts_1 vm0 h0) (S_COMPACT_STRINGS : Sta Z Z.heap "java/lang/String" "COMPACT_STRINGS" "Z" (.int w_COMPACT_STRINGS)) (hcs : ¬ (w_COMPACT_STRINGS = (0 : Int32))) (E_ss : Exa Z h0 ss "java/lang/String") (F_ss_coder : Fld Z h0 ss "java/lang/String" "coder" "B" (.int 0)) (F_ss_value : Fld Z h0 ss "java/lang/String" "value" "[B" (.ref t_ss)) (V_t_ss : Arv Z h0 t_ss k_t_ss .byte N vs (.int 0)) (hA : own_A vs N mm dd) (O0 : Old Z n0 h0) (hr_SIOOBE_FORMATTER : w_SIOOBE_FORMATTER.isRef = true) (S_SIOOBE_FORMATTER : Sta Z Z.heap "jdk/internal/util/Preconditions" "SIOOBE_FORMATTER" "Ljava/util/function/BiFunction;" w_SIOOBE_FORMATTER) :
    ∃ (T' : State) (locs' : List Loc) (vm1 : Vm) (k1 : Nat), Stand p l e room_1 (s.setVm vm1) m args below meth c T' locs' 13 62 ∧ Fr n0 locs' ∧ Keep h0 T'.heap [] ∧ s.Since vm1 k1 ∧ k1 ≤ T'.heap.size ∧ Z.Warmed39 (s.setVm vm1).vm ∧ (s.setVm vm1).vm.findClass "com/example/demarc/demarc/tool/AccountToStringPinLaw" = some m.cls ∧ CHr Z consts_1 vm0 h0 vm1 T'.heap ∧ ∀ target, Steps p.tables e below (T'.setTop (mkF m 419 #[.val (.int p1), .val (.int p2), .val (.int l2), .val (.int cA), .val (.int cB), .val (.int cC), .val (.ref b6), .val (.ref b7), .val (.ref ss), .val (.int l9), .val (.long mm), .second, .val (.int dd), .val (.int l13)] [(.int 1)])) target → Steps p.tables e below (T0.setTop (mkF m 280 #[.val (.int p1), .val (.int p2), .val (.int l2), .val (.int cA), .val (.int cB), .val (.int cC), .val (.ref b6), .val (.ref b7), .val (.ref ss), .val (.int l9), .val (.long mm), .second, .val (.int dd), .val (.int l13)] [])) target := by
  have C0c : CHr Z consts_1 vm0 h0 vm0 h0 := CHr.refl H0c
  obtain ⟨_, _, ⟨T1, L1, k1, n1⟩, -, X1, ⟨Lc1, hQ1, l1, y1, z1⟩, st1⟩ := Jvm.LawKit.callS X0 hx (y := mn40) hown (mvT hZ (hwi hw 201 rfl)) (mvT hZ (hwi hw 202 rfl)) (mvT hZ (hwi hw 175 rfl)) (mvT hZ (hwi hw 203 rfl)) (by decide) (backOf (W := 0) (rm_dok l Z a0 hw [] ss mm (0 : Int32) dd w_COMPACT_STRINGS t_ss k_t_ss vs N (1 : Int64) w_SIOOBE_FORMATTER h0 n0 Z0 S_COMPACT_STRINGS hcs E_ss F_ss_coder F_ss_value V_t_ss ⟨0, by decide, rfl, rfl⟩ O0 hr_SIOOBE_FORMATTER S_SIOOBE_FORMATTER hA) hZ (hwi hw 203 rfl) (hwi hw 175 rfl) (by decide) (by decide)) (g := (mkF m 287 #[.val (.int p1), .val (.int p2), .val (.int l2), .val (.int cA), .val (.int cB), .val (.int cC), .val (.ref b6), .val (.ref b7), .val (.ref ss), .val (.int l9), .val (.long mm), .second, .val (.int dd), .val (.int l13)] [(.int dd), (.int 0), (.long mm), (.ref ss)])) rfl (by rw [hml]; rfl) (argsL := [(.ref ss), (.long mm), (.int 0), (.int dd)]) (rest := []) (lenOf pd_Ljava_lang_String_JII_Z_87 rfl) rfl (by show 2 * 0 + _ ≤ _; exact Nat.le_of_eq rfl) (hb hby at_287) (fun _ _ => ⟨rfl, e0, (by decide : 13 + 0 ≤ _), (by decide : 62 + 0 ≤ _)⟩)
  dsimp only [Pt.U, Pt.locs, Pt.cells, Pt.slots] at X1 l1 y1 z1 st1 hQ1
  subst l1 y1 z1
  obtain ⟨rfl, N1q, e1⟩ := hQ1
  have N1 := Fr.app N0 N1q
  obtain ⟨_, _, ⟨T2, L2, k2, n2⟩, -, X2, ⟨Lc2, hQ2, l2, y2, z2⟩, st2⟩ := Jvm.LawKit.callS X1 hx (y := mn40) hown (mvT hZ (hwi hw 201 rfl)) (mvT hZ (hwi hw 202 rfl)) (mvT hZ (hwi hw 175 rfl)) (mvT hZ (hwi hw 203 rfl)) (by decide) (backOf (W := 0) (rm_dok l Z a0 hw [] ss mm (1 : Int32) dd w_COMPACT_STRINGS t_ss k_t_ss vs N (10 : Int64) w_SIOOBE_FORMATTER h0 n0 Z0 S_COMPACT_STRINGS hcs E_ss F_ss_coder F_ss_value V_t_ss ⟨1, by decide, rfl, rfl⟩ O0 hr_SIOOBE_FORMATTER S_SIOOBE_FORMATTER hA) hZ (hwi hw 203 rfl) (hwi hw 175 rfl) (by decide) (by decide)) (g := (mkF m 300 #[.val (.int p1), .val (.int p2), .val (.int l2), .val (.int cA), .val (.int cB), .val (.int cC), .val (.ref b6), .val (.ref b7), .val (.ref ss), .val (.int l9), .val (.long mm), .second, .val (.int dd), .val (.int l13)] [(.int dd), (.int 1), (.long mm), (.ref ss)])) rfl (by rw [hml]; rfl) (argsL := [(.ref ss), (.long mm), (.int 1), (.int dd)]) (rest := []) (lenOf pd_Ljava_lang_String_JII_Z_87 rfl) rfl (by show 2 * 0 + _ ≤ _; exact Nat.le_of_eq rfl) (hb hby at_300) (fun _ _ => ⟨rfl, e1, (by decide : 13 + 0 ≤ _), (by decide : 62 + 0 ≤ _)⟩)
  dsimp only [Pt.U, Pt.locs, Pt.cells, Pt.slots] at X2 l2 y2 z2 st2 hQ2
  subst l2 y2 z2
  obtain ⟨rfl, N2q, e2⟩ := hQ2
  have N2 := Fr.app N1 N2q
  obtain ⟨_, _, ⟨T3, L3, k3, n3⟩, -, X3, ⟨Lc3, hQ3, l3, y3, z3⟩, st3⟩ := Jvm.LawKit.callS X2 hx (y := mn40) hown (mvT hZ (hwi hw 201 rfl)) (mvT hZ (hwi hw 202 rfl)) (mvT hZ (hwi hw 175 rfl)) (mvT hZ (hwi hw 203 rfl)) (by decide) (backOf (W := 0) (rm_dok l Z a0 hw [] ss mm (2 : Int32) dd w_COMPACT_STRINGS t_ss k_t_ss vs N (100 : Int64) w_SIOOBE_FORMATTER h0 n0 Z0 S_COMPACT_STRINGS hcs E_ss F_ss_coder F_ss_value V_t_ss ⟨2, by decide, rfl, rfl⟩ O0 hr_SIOOBE_FORMATTER S_SIOOBE_FORMATTER hA) hZ (hwi hw 203 rfl) (hwi hw 175 rfl) (by decide) (by decide)) (g := (mkF m 313 #[.val (.int p1), .val (.int p2), .val (.int l2), .val (.int cA), .val (.int cB), .val (.int cC), .val (.ref b6), .val (.ref b7), .val (.ref ss), .val (.int l9), .val (.long mm), .second, .val (.int dd), .val (.int l13)] [(.int dd), (.int 2), (.long mm), (.ref ss)])) rfl (by rw [hml]; rfl) (argsL := [(.ref ss), (.long mm), (.int 2), (.int dd)]) (rest := []) (lenOf pd_Ljava_lang_String_JII_Z_87 rfl) rfl (by show 2 * 0 + _ ≤ _; exact Nat.le_of_eq rfl) (hb hby at_313) (fun _ _ => ⟨rfl, e2, (by decide : 13 + 0 ≤ _), (by decide : 62 + 0 ≤ _)⟩)
  dsimp only [Pt.U, Pt.locs, Pt.cells, Pt.slots] at X3 l3 y3 z3 st3 hQ3
  subst l3 y3 z3
  obtain ⟨rfl, N3q, e3⟩ := hQ3
  have N3 := Fr.app N2 N3q
  obtain ⟨_, _, ⟨T4, L4, k4, n4⟩, -, X4, ⟨Lc4, hQ4, l4, y4, z4⟩, st4⟩ := Jvm.LawKit.callS X3 hx (y := mn40) hown (mvT hZ (hwi hw 201 rfl)) (mvT hZ (hwi hw 202 rfl)) (mvT hZ (hwi hw 175 rfl)) (mvT hZ (hwi hw 203 rfl)) (by decide) (backOf (W := 0) (rm_dok l Z a0 hw [] ss mm (3 : Int32) dd w_COMPACT_STRINGS t_ss k_t_ss vs N (1000 : Int64) w_SIOOBE_FORMATTER h0 n0 Z0 S_COMPACT_STRINGS hcs E_ss F_ss_coder F_ss_value V_t_ss ⟨3, by decide, rfl, rfl⟩ O0 hr_SIOOBE_FORMATTER S_SIOOBE_FORMATTER hA) hZ (hwi hw 203 rfl) (hwi hw 175 rfl) (by decide) (by decide)) (g := (mkF m 326 #[.val (.int p1), .val (.int p2), .val (.int l2), .val (.int cA), .val (.int cB), .val (.int cC), .val (.ref b6), .val (.ref b7), .val (.ref ss), .val (.int l9), .val (.long mm), .second, .val (.int dd), .val (.int l13)] [(.int dd), (.int 3), (.long mm), (.ref ss)])) rfl (by rw [hml]; rfl) (argsL := [(.ref ss), (.long mm), (.int 3), (.int dd)]) (rest := []) (lenOf pd_Ljava_lang_String_JII_Z_87 rfl) rfl (by show 2 * 0 + _ ≤ _; exact Nat.le_of_eq rfl) (hb hby at_326) (fun _ _ => ⟨rfl, e3, (by decide : 13 + 0 ≤ _), (by decide : 62 + 0 ≤ _)⟩)
  dsimp only [Pt.U, Pt.locs, Pt.cells, Pt.slots] at X4 l4 y4 z4 st4 hQ4
  subst l4 y4 z4
  obtain ⟨rfl, N4q, e4⟩ := hQ4
  have N4 := Fr.app N3 N4q
  obtain ⟨_, _, ⟨T5, L5, k5, n5⟩, -, X5, ⟨Lc5, hQ5, l5, y5, z5⟩, st5⟩ := Jvm.LawKit.callS X4 hx (y := mn40) hown (mvT hZ (hwi hw 201 rfl)) (mvT hZ (hwi hw 202 rfl)) (mvT hZ (hwi hw 175 rfl)) (mvT hZ (hwi hw 203 rfl)) (by decide) (backOf (W := 0) (rm_dok l Z a0 hw [] ss mm (4 : Int32) dd w_COMPACT_STRINGS t_ss k_t_ss vs N (10000 : Int64) w_SIOOBE_FORMATTER h0 n0 Z0 S_COMPACT_STRINGS hcs E_ss F_ss_coder F_ss_value V_t_ss ⟨4, by decide, rfl, rfl⟩ O0 hr_SIOOBE_FORMATTER S_SIOOBE_FORMATTER hA) hZ (hwi hw 203 rfl) (hwi hw 175 rfl) (by decide) (by decide)) (g := (mkF m 339 #[.val (.int p1), .val (.int p2), .val (.int l2), .val (.int cA), .val (.int cB), .val (.int cC), .val (.ref b6), .val (.ref b7), .val (.ref ss), .val (.int l9), .val (.long mm), .second, .val (.int dd), .val (.int l13)] [(.int dd), (.int 4), (.long mm), (.ref ss)])) rfl (by rw [hml]; rfl) (argsL := [(.ref ss), (.long mm), (.int 4), (.int dd)]) (rest := []) (lenOf pd_Ljava_lang_String_JII_Z_87 rfl) rfl (by show 2 * 0 + _ ≤ _; exact Nat.le_of_eq rfl) (hb hby at_339) (fun _ _ => ⟨rfl, e4, (by decide : 13 + 0 ≤ _), (by decide : 62 + 0 ≤ _)⟩)
  dsimp only [Pt.U, Pt.locs, Pt.cells, Pt.slots] at X5 l5 y5 z5 st5 hQ5
  subst l5 y5 z5
  obtain ⟨rfl, N5q, e5⟩ := hQ5
  have N5 := Fr.app N4 N5q
  obtain ⟨_, _, ⟨T6, L6, k6, n6⟩, -, X6, ⟨Lc6, hQ6, l6, y6, z6⟩, st6⟩ := Jvm.LawKit.callS X5 hx (y := mn40) hown (mvT hZ (hwi hw 201 rfl)) (mvT hZ (hwi hw 202 rfl)) (mvT hZ (hwi hw 175 rfl)) (mvT hZ (hwi hw 203 rfl)) (by decide) (backOf (W := 0) (rm_dok l Z a0 hw [] ss mm (5 : Int32) dd w_COMPACT_STRINGS t_ss k_t_ss vs N (100000 : Int64) w_SIOOBE_FORMATTER h0 n0 Z0 S_COMPACT_STRINGS hcs E_ss F_ss_coder F_ss_value V_t_ss ⟨5, by decide, rfl, rfl⟩ O0 hr_SIOOBE_FORMATTER S_SIOOBE_FORMATTER hA) hZ (hwi hw 203 rfl) (hwi hw 175 rfl) (by decide) (by decide)) (g := (mkF m 352 #[.val (.int p1), .val (.int p2), .val (.int l2), .val (.int cA), .val (.int cB), .val (.int cC), .val (.ref b6), .val (.ref b7), .val (.ref ss), .val (.int l9), .val (.long mm), .second, .val (.int dd), .val (.int l13)] [(.int dd), (.int 5), (.long mm), (.ref ss)])) rfl (by rw [hml]; rfl) (argsL := [(.ref ss), (.long mm), (.int 5), (.int dd)]) (rest := []) (lenOf pd_Ljava_lang_String_JII_Z_87 rfl) rfl (by show 2 * 0 + _ ≤ _; exact Nat.le_of_eq rfl) (hb hby at_352) (fun _ _ => ⟨rfl, e5, (by decide : 13 + 0 ≤ _), (by decide : 62 + 0 ≤ _)⟩)
  dsimp only [Pt.U, Pt.locs, Pt.cells, Pt.slots] at X6 l6 y6 z6 st6 hQ6
  subst l6 y6 z6
  obtain ⟨rfl, N6q, e6⟩ := hQ6
  have N6 := Fr.app N5 N6q
  obtain ⟨_, _, ⟨T7, L7, k7, n7⟩, -, X7, ⟨Lc7, hQ7, l7, y7, z7⟩, st7⟩ := Jvm.LawKit.callS X6 hx (y := mn40) hown (mvT hZ (hwi hw 201 rfl)) (mvT hZ (hwi hw 202 rfl)) (mvT hZ (hwi hw 175 rfl)) (mvT hZ (hwi hw 203 rfl)) (by decide) (backOf (W := 0) (rm_dok l Z a0 hw [] ss mm (6 : Int32) dd w_COMPACT_STRINGS t_ss k_t_ss vs N (1000000 : Int64) w_SIOOBE_FORMATTER h0 n0 Z0 S_COMPACT_STRINGS hcs E_ss F_ss_coder F_ss_value V_t_ss ⟨6, by decide, rfl, rfl⟩ O0 hr_SIOOBE_FORMATTER S_SIOOBE_FORMATTER hA) hZ (hwi hw 203 rfl) (hwi hw 175 rfl) (by decide) (by decide)) (g := (mkF m 366 #[.val (.int p1), .val (.int p2), .val (.int l2), .val (.int cA), .val (.int cB), .val (.int cC), .val (.ref b6), .val (.ref b7), .val (.ref ss), .val (.int l9), .val (.long mm), .second, .val (.int dd), .val (.int l13)] [(.int dd), (.int 6), (.long mm), (.ref ss)])) rfl (by rw [hml]; rfl) (argsL := [(.ref ss), (.long mm), (.int 6), (.int dd)]) (rest := []) (lenOf pd_Ljava_lang_String_JII_Z_87 rfl) rfl (by show 2 * 0 + _ ≤ _; exact Nat.le_of_eq rfl) (hb hby at_366) (fun _ _ => ⟨rfl, e6, (by decide : 13 + 0 ≤ _), (by decide : 62 + 0 ≤ _)⟩)
  dsimp only [Pt.U, Pt.locs, Pt.cells, Pt.slots] at X7 l7 y7 z7 st7 hQ7
  subst l7 y7 z7
  obtain ⟨rfl, N7q, e7⟩ := hQ7
  have N7 := Fr.app N6 N7q
  obtain ⟨_, _, ⟨T8, L8, k8, n8⟩, -, X8, ⟨Lc8, hQ8, l8, y8, z8⟩, st8⟩ := Jvm.LawKit.callS X7 hx (y := mn40) hown (mvT hZ (hwi hw 201 rfl)) (mvT hZ (hwi hw 202 rfl)) (mvT hZ (hwi hw 175 rfl)) (mvT hZ (hwi hw 203 rfl)) (by decide) (backOf (W := 0) (rm_dok l Z a0 hw [] ss mm (7 : Int32) dd w_COMPACT_STRINGS t_ss k_t_ss vs N (10000000 : Int64) w_SIOOBE_FORMATTER h0 n0 Z0 S_COMPACT_STRINGS hcs E_ss F_ss_coder F_ss_value V_t_ss ⟨7, by decide, rfl, rfl⟩ O0 hr_SIOOBE_FORMATTER S_SIOOBE_FORMATTER hA) hZ (hwi hw 203 rfl) (hwi hw 175 rfl) (by decide) (by decide)) (g := (mkF m 380 #[.val (.int p1), .val (.int p2), .val (.int l2), .val (.int cA), .val (.int cB), .val (.int cC), .val (.ref b6), .val (.ref b7), .val (.ref ss), .val (.int l9), .val (.long mm), .second, .val (.int dd), .val (.int l13)] [(.int dd), (.int 7), (.long mm), (.ref ss)])) rfl (by rw [hml]; rfl) (argsL := [(.ref ss), (.long mm), (.int 7), (.int dd)]) (rest := []) (lenOf pd_Ljava_lang_String_JII_Z_87 rfl) rfl (by show 2 * 0 + _ ≤ _; exact Nat.le_of_eq rfl) (hb hby at_380) (fun _ _ => ⟨rfl, e7, (by decide : 13 + 0 ≤ _), (by decide : 62 + 0 ≤ _)⟩)
  dsimp only [Pt.U, Pt.locs, Pt.cells, Pt.slots] at X8 l8 y8 z8 st8 hQ8
  subst l8 y8 z8
  obtain ⟨rfl, N8q, e8⟩ := hQ8
  have N8 := Fr.app N7 N8q
  obtain ⟨_, _, ⟨T9, L9, k9, n9⟩, -, X9, ⟨Lc9, hQ9, l9, y9, z9⟩, st9⟩ := Jvm.LawKit.callS X8 hx (y := mn40) hown (mvT hZ (hwi hw 201 rfl)) (mvT hZ (hwi hw 202 rfl)) (mvT hZ (hwi hw 175 rfl)) (mvT hZ (hwi hw 203 rfl)) (by decide) (backOf (W := 0) (rm_dok l Z a0 hw [] ss mm (8 : Int32) dd w_COMPACT_STRINGS t_ss k_t_ss vs N (100000000 : Int64) w_SIOOBE_FORMATTER h0 n0 Z0 S_COMPACT_STRINGS hcs E_ss F_ss_coder F_ss_value V_t_ss ⟨8, by decide, rfl, rfl⟩ O0 hr_SIOOBE_FORMATTER S_SIOOBE_FORMATTER hA) hZ (hwi hw 203 rfl) (hwi hw 175 rfl) (by decide) (by decide)) (g := (mkF m 394 #[.val (.int p1), .val (.int p2), .val (.int l2), .val (.int cA), .val (.int cB), .val (.int cC), .val (.ref b6), .val (.ref b7), .val (.ref ss), .val (.int l9), .val (.long mm), .second, .val (.int dd), .val (.int l13)] [(.int dd), (.int 8), (.long mm), (.ref ss)])) rfl (by rw [hml]; rfl) (argsL := [(.ref ss), (.long mm), (.int 8), (.int dd)]) (rest := []) (lenOf pd_Ljava_lang_String_JII_Z_87 rfl) rfl (by show 2 * 0 + _ ≤ _; exact Nat.le_of_eq rfl) (hb hby at_394) (fun _ _ => ⟨rfl, e8, (by decide : 13 + 0 ≤ _), (by decide : 62 + 0 ≤ _)⟩)
  dsimp only [Pt.U, Pt.locs, Pt.cells, Pt.slots] at X9 l9 y9 z9 st9 hQ9
  subst l9 y9 z9
  obtain ⟨rfl, N9q, e9⟩ := hQ9
  have N9 := Fr.app N8 N9q
  obtain ⟨_, _, ⟨T10, L10, k10, n10⟩, -, X10, ⟨Lc10, hQ10, l10, y10, z10⟩, st10⟩ := Jvm.LawKit.callS X9 hx (y := mn40) hown (mvT hZ (hwi hw 201 rfl)) (mvT hZ (hwi hw 202 rfl)) (mvT hZ (hwi hw 175 rfl)) (mvT hZ (hwi hw 203 rfl)) (by decide) (backOf (W := 0) (rm_dok l Z a0 hw [] ss mm (9 : Int32) dd w_COMPACT_STRINGS t_ss k_t_ss vs N (1000000000 : Int64) w_SIOOBE_FORMATTER h0 n0 Z0 S_COMPACT_STRINGS hcs E_ss F_ss_coder F_ss_value V_t_ss ⟨9, by decide, rfl, rfl⟩ O0 hr_SIOOBE_FORMATTER S_SIOOBE_FORMATTER hA) hZ (hwi hw 203 rfl) (hwi hw 175 rfl) (by decide) (by decide)) (g := (mkF m 408 #[.val (.int p1), .val (.int p2), .val (.int l2), .val (.int cA), .val (.int cB), .val (.int cC), .val (.ref b6), .val (.ref b7), .val (.ref ss), .val (.int l9), .val (.long mm), .second, .val (.int dd), .val (.int l13)] [(.int dd), (.int 9), (.long mm), (.ref ss)])) rfl (by rw [hml]; rfl) (argsL := [(.ref ss), (.long mm), (.int 9), (.int dd)]) (rest := []) (lenOf pd_Ljava_lang_String_JII_Z_87 rfl) rfl (by show 2 * 0 + _ ≤ _; exact Nat.le_of_eq rfl) (hb hby at_408) (fun _ _ => ⟨rfl, e9, (by decide : 13 + 0 ≤ _), (by decide : 62 + 0 ≤ _)⟩)
  dsimp only [Pt.U, Pt.locs, Pt.cells, Pt.slots] at X10 l10 y10 z10 st10 hQ10
  subst l10 y10 z10
  obtain ⟨rfl, N10q, e10⟩ := hQ10
  have N10 := Fr.app N9 N10q
  subst e10
  refine ⟨T10, _, vm0, _, X10, N10, Keep.refl _ _, hS0, hk0, hZ, hown, C0c, fun target kt => ?_⟩
  refine XS.aload X0.here hx rfl (hb hby at_280) rfl rfl ?_
  refine XS.lload X0.here hx rfl (hb hby at_282) rfl ?_
  refine XS.iconst X0.here hx rfl (hb hby at_284) ?_
  refine XS.iload X0.here hx rfl (hb hby at_285) rfl ?_
  show St p e below T0 (mkF m 287 #[.val (.int p1), .val (.int p2), .val (.int l2), .val (.int cA), .val (.int cB), .val (.int cC), .val (.ref b6), .val (.ref b7), .val (.ref ss), .val (.int l9), .val (.long mm), .second, .val (.int dd), .val (.int l13)] [(.int dd), (.int 0), (.long mm), (.ref ss)]) _
  refine st1 _ ?_
  refine XS.ifNo X1.here hx rfl (hb hby at_290) rfl ((if0 _ _).trans (feq (by decide : ¬ ((1 : Int32) = (0 : Int32)))).1) ?_
  refine XS.aload X1.here hx rfl (hb hby at_293) rfl rfl ?_
  refine XS.lload X1.here hx rfl (hb hby at_295) rfl ?_
  refine XS.iconst X1.here hx rfl (hb hby at_297) ?_
  refine XS.iload X1.here hx rfl (hb hby at_298) rfl ?_
  refine st2 _ ?_
  refine XS.ifNo X2.here hx rfl (hb hby at_303) rfl ((if0 _ _).trans (feq (by decide : ¬ ((1 : Int32) = (0 : Int32)))).1) ?_
  show St p e below T2 (mkF m 306 #[.val (.int p1), .val (.int p2), .val (.int l2), .val (.int cA), .val (.int cB), .val (.int cC), .val (.ref b6), .val (.ref b7), .val (.ref ss), .val (.int l9), .val (.long mm), .second, .val (.int dd), .val (.int l13)] []) _
  refine XS.aload X2.here hx rfl (hb hby at_306) rfl rfl ?_
  refine XS.lload X2.here hx rfl (hb hby at_308) rfl ?_
  refine XS.iconst X2.here hx rfl (hb hby at_310) ?_
  refine XS.iload X2.here hx rfl (hb hby at_311) rfl ?_
  refine st3 _ ?_
  refine XS.ifNo X3.here hx rfl (hb hby at_316) rfl ((if0 _ _).trans (feq (by decide : ¬ ((1 : Int32) = (0 : Int32)))).1) ?_
  refine XS.aload X3.here hx rfl (hb hby at_319) rfl rfl ?_
  refine XS.lload X3.here hx rfl (hb hby at_321) rfl ?_
  show St p e below T3 (mkF m 323 #[.val (.int p1), .val (.int p2), .val (.int l2), .val (.int cA), .val (.int cB), .val (.int cC), .val (.ref b6), .val (.ref b7), .val (.ref ss), .val (.int l9), .val (.long mm), .second, .val (.int dd), .val (.int l13)] [(.long mm), (.ref ss)]) _
  refine XS.iconst X3.here hx rfl (hb hby at_323) ?_
  refine XS.iload X3.here hx rfl (hb hby at_324) rfl ?_
  refine st4 _ ?_
  refine XS.ifNo X4.here hx rfl (hb hby at_329) rfl ((if0 _ _).trans (feq (by decide : ¬ ((1 : Int32) = (0 : Int32)))).1) ?_
  refine XS.aload X4.here hx rfl (hb hby at_332) rfl rfl ?_
  refine XS.lload X4.here hx rfl (hb hby at_334) rfl ?_
  refine XS.iconst X4.here hx rfl (hb hby at_336) ?_
  refine XS.iload X4.here hx rfl (hb hby at_337) rfl ?_
  show St p e below T4 (mkF m 339 #[.val (.int p1), .val (.int p2), .val (.int l2), .val (.int cA), .val (.int cB), .val (.int cC), .val (.ref b6), .val (.ref b7), .val (.ref ss), .val (.int l9), .val (.long mm), .second, .val (.int dd), .val (.int l13)] [(.int dd), (.int 4), (.long mm), (.ref ss)]) _
  refine st5 _ ?_
  refine XS.ifNo X5.here hx rfl (hb hby at_342) rfl ((if0 _ _).trans (feq (by decide : ¬ ((1 : Int32) = (0 : Int32)))).1) ?_
  refine XS.aload X5.here hx rfl (hb hby at_345) rfl rfl ?_
  refine XS.lload X5.here hx rfl (hb hby at_347) rfl ?_
  refine XS.iconst X5.here hx rfl (hb hby at_349) ?_
  refine XS.iload X5.here hx rfl (hb hby at_350) rfl ?_
  refine st6 _ ?_
  refine XS.ifNo X6.here hx rfl (hb hby at_355) rfl ((if0 _ _).trans (feq (by decide : ¬ ((1 : Int32) = (0 : Int32)))).1) ?_
  show St p e below T6 (mkF m 358 #[.val (.int p1), .val (.int p2), .val (.int l2), .val (.int cA), .val (.int cB), .val (.int cC), .val (.ref b6), .val (.ref b7), .val (.ref ss), .val (.int l9), .val (.long mm), .second, .val (.int dd), .val (.int l13)] []) _
  refine XS.aload X6.here hx rfl (hb hby at_358) rfl rfl ?_
  refine XS.lload X6.here hx rfl (hb hby at_360) rfl ?_
  refine XS.bipush X6.here hx rfl (hb hby at_362) ?_
  refine XS.iload X6.here hx rfl (hb hby at_364) rfl ?_
  refine st7 _ ?_
  refine XS.ifNo X7.here hx rfl (hb hby at_369) rfl ((if0 _ _).trans (feq (by decide : ¬ ((1 : Int32) = (0 : Int32)))).1) ?_
  refine XS.aload X7.here hx rfl (hb hby at_372) rfl rfl ?_
  refine XS.lload X7.here hx rfl (hb hby at_374) rfl ?_
  show St p e below T7 (mkF m 376 #[.val (.int p1), .val (.int p2), .val (.int l2), .val (.int cA), .val (.int cB), .val (.int cC), .val (.ref b6), .val (.ref b7), .val (.ref ss), .val (.int l9), .val (.long mm), .second, .val (.int dd), .val (.int l13)] [(.long mm), (.ref ss)]) _
  refine XS.bipush X7.here hx rfl (hb hby at_376) ?_
  refine XS.iload X7.here hx rfl (hb hby at_378) rfl ?_
  refine st8 _ ?_
  refine XS.ifNo X8.here hx rfl (hb hby at_383) rfl ((if0 _ _).trans (feq (by decide : ¬ ((1 : Int32) = (0 : Int32)))).1) ?_
  refine XS.aload X8.here hx rfl (hb hby at_386) rfl rfl ?_
  refine XS.lload X8.here hx rfl (hb hby at_388) rfl ?_
  refine XS.bipush X8.here hx rfl (hb hby at_390) ?_
  refine XS.iload X8.here hx rfl (hb hby at_392) rfl ?_
  show St p e below T8 (mkF m 394 #[.val (.int p1), .val (.int p2), .val (.int l2), .val (.int cA), .val (.int cB), .val (.int cC), .val (.ref b6), .val (.ref b7), .val (.ref ss), .val (.int l9), .val (.long mm), .second, .val (.int dd), .val (.int l13)] [(.int dd), (.int 8), (.long mm), (.ref ss)]) _
  refine st9 _ ?_
  refine XS.ifNo X9.here hx rfl (hb hby at_397) rfl ((if0 _ _).trans (feq (by decide : ¬ ((1 : Int32) = (0 : Int32)))).1) ?_
  refine XS.aload X9.here hx rfl (hb hby at_400) rfl rfl ?_
  refine XS.lload X9.here hx rfl (hb hby at_402) rfl ?_
  refine XS.bipush X9.here hx rfl (hb hby at_404) ?_
  refine XS.iload X9.here hx rfl (hb hby at_406) rfl ?_
  refine st10 _ ?_
  refine XS.ifNo X10.here hx rfl (hb hby at_411) rfl ((if0 _ _).trans (feq (by decide : ¬ ((1 : Int32) = (0 : Int32)))).1) ?_
  show St p e below T10 (mkF m 414 #[.val (.int p1), .val (.int p2), .val (.int l2), .val (.int cA), .val (.int cB), .val (.int cC), .val (.ref b6), .val (.ref b7), .val (.ref ss), .val (.int l9), .val (.long mm), .second, .val (.int dd), .val (.int l13)] []) _
  refine XS.iconst X10.here hx rfl (hb hby at_414) ?_
  refine XS.goto X10.here hx rfl (pc0 := 415) (pc' := 419) rfl (hb hby at_415) (by decide) (by decide) ?_
  exact kt
theorem pd_J_I_228 : parseMethodDescriptor "(J)I" = some ⟨[.long], some .int⟩ := by decide +kernel
theorem pn_0 : plainName "com/example/demarc/demarc/tool/AccountToStringPinLaw" = true := by first | (simp [plainName, overriddenIn]; done) | decide +kernel
theorem ef_0_II (m : MethodId) (x0 : Int32) (x1 : Int32) : entryFrame m #[(.int x0), (.int x1)] maxLocals = mkF m 0 #[.val (.int x0), .val (.int x1), .unset, .unset, .unset, .unset, .unset, .unset, .unset, .unset, .unset, .unset, .unset, .unset] [] := by first | (simp [entryFrame, mkF, argsToLocals, Value.category, maxLocals]; done) | rfl
def Q_law (n0 : Nat) (v : Option Value) (L : List Loc) : Prop := v = some (.int 1) ∧ Fr n0 L
set_option maxRecDepth 65536 in
set_option maxHeartbeats 40000000 in
theorem rm_law_0_0 (l : Launch) (Z : State) (a0 : Array Value) (hw : ∀ d ∈ tables_1, d.before a0 Z = true) (hEL : EW Z a0 consts_1) (ws : List Jvm.Cond) (p1 : Int32) (p2 : Int32) (mm : Int64) (dd : Int32) (w_COMPACT_STRINGS : Int32) (zz : Int32) (n : Nat) (ix : Nat) (cA : Int32) (cB : Int32) (cC : Int32) (w_SIOOBE_FORMATTER : Value) (h0 : Heap) (n0 : Nat) (Z0 : n0 ≤ h0.size) (S_COMPACT_STRINGS : Sta Z Z.heap "java/lang/String" "COMPACT_STRINGS" "Z" (.int w_COMPACT_STRINGS)) (hcs : ¬ (w_COMPACT_STRINGS = (0 : Int32))) (hzz : ((1 : Int32) + (Jvm.Free.SBG.strSizeOf p2)) = zz) (hB : own_B Z) (hN : own_N p2 n 1 ix) (hix : zz = Int32.ofNat ix) (hneg : ¬ (p2 < (0 : Int32))) (hdg : own_dg mm n dd) (hlen : zz = ((1 : Int32) + dd)) (hk : (p1 &&& (3 : Int32)) = (0 : Int32)) (hcA : ((((p1.toUInt32 >>> ((2 : Int32) &&& 31).toUInt32).toInt32) &&& (255 : Int32)).toUInt32.toUInt16.toUInt32.toInt32) = cA) (hcB : ((((p1.toUInt32 >>> ((10 : Int32) &&& 31).toUInt32).toInt32) &&& (255 : Int32)).toUInt32.toUInt16.toUInt32.toInt32) = cB) (hcC : ((((p1.toUInt32 >>> ((18 : Int32) &&& 31).toUInt32).toInt32) &&& (255 : Int32)).toUInt32.toUInt16.toUInt32.toInt32) = cC) (O0 : Old Z n0 h0) (hmm : (p2.toInt64) = mm) (hr_SIOOBE_FORMATTER : w_SIOOBE_FORMATTER.isRef = true) (S_SIOOBE_FORMATTER : Sta Z Z.heap "jdk/internal/util/Preconditions" "SIOOBE_FORMATTER" "Ljava/util/function/BiFunction;" w_SIOOBE_FORMATTER) :
    MetFree l x (head1 (Jvm.Cond.code x code maxLocals ret :: ws) room_1) (fun a U => a = #[(.int p1), (.int p2)] ∧ Z.Warmed39 U.vm ∧ U.heap = h0 ∧ CHv Z consts_1 U.vm h0) (fun _ _ _ _ _ => True) (fun _ U o U' => ∃ v L, o = .returned v ∧ Q_law n0 v L ∧ CHr Z consts_1 U.vm U.heap U'.vm U'.heap ∧ ReturnedEndW U o U' L room_1.cells room_1.slots) := by
  refine MetFree.of_bodySF (plainFor_of_name pn_0) hisR ?_
  intro p e s m args below meth c s₁ Bd hml0 hP hK
  obtain ⟨rfl, hZ, hh, H0c⟩ := hP
  have hx := Bd.exec
  have hby := Bd.bytes
  have hml : c.maxLocals = 14 := hml0
  have hown : s.vm.findClass "com/example/demarc/demarc/tool/AccountToStringPinLaw" = some m.cls := findClass_of_methodNamed Bd.named
  have hnm := (name_of_methodNamed Bd.named Bd.method).1
  have X0 : Stand p l e room_1 (s.setVm s.vm) m #[(.int p1), (.int p2)] below meth c s₁ [] 0 0 := Stand.of_body Bd
  have e0 : s₁.heap = h0 := by rw [← hh, Bd.state]; rfl
  have N0 := Fr.nil n0
  have pre0 : ∀ t, Steps p.tables e below (s₁.setTop (mkF m 0 #[.val (.int p1), .val (.int p2), .unset, .unset, .unset, .unset, .unset, .unset, .unset, .unset, .unset, .unset, .unset, .unset] [])) t → Steps p.tables e below (s₁.setTop (entryFrame m #[(.int p1), (.int p2)] maxLocals)) t := fun t k => castTop (ef_0_II m p1 p2) k
  have hS0 : s.Since s.vm 0 := (State.WarmedH.refl s).since 0
  have hk0 : 0 ≤ h0.size := Nat.zero_le _
  have C0c : CHr Z consts_1 s.vm h0 s.vm h0 := CHr.refl H0c
  obtain ⟨T1, L1, vm1, j1, b6_1, b7_1, ss_1, tt_1, kt_1, vs_1, X1, N1, Kc1, hS1, hk1, hZ1, ho1, C1, g1_0, g1_1, g1_2, g1_3, g1_4, g1_5, st1⟩ := sg_front_0 p1 p2 w_COMPACT_STRINGS zz n ix cA cB cC X0 hx hZ hw hby hml hown e0 N0 Z0 hEL hS0 hk0 H0c S_COMPACT_STRINGS hcs hzz hB hN hix hk hcA hcB hcC O0
  have R2 := C1
  have CR2 := C0c.trans R2
  have sz3 : h0.size ≤ T1.heap.size := Kc1.1
  have Z3 : n0 ≤ T1.heap.size := Nat.le_trans Z0 sz3
  have O3 := O0.keep Kc1 all0
  have K3 : Keep h0 T1.heap [] := (Keep.refl h0 []).trans Kc1 (all0)
  have bn_ss_1 : h0.size ≤ ss_1 := g1_0
  obtain ⟨_, _, ⟨T4, L4, k4, n4⟩, -, X4, ⟨Lc4, hQ4, l4, y4, z4⟩, st4⟩ := Jvm.LawKit.callS X1 hx (y := mn38) ho1 (mvT hZ1 (hwi hw 173 rfl)) (mvT hZ1 (hwi hw 174 rfl)) (mvT hZ1 (hwi hw 175 rfl)) (mvT hZ1 (hwi hw 176 rfl)) (by decide) (backOf (W := 0) (rm_digs l Z a0 hw [] mm n dd T1.heap n0 Z3 hdg) hZ1 (hwi hw 176 rfl) (hwi hw 175 rfl) (by decide) (by decide)) (g := (mkF m 159 #[.val (.int p1), .val (.int p2), .val (.int 0), .val (.int cA), .val (.int cB), .val (.int cC), .val (.ref b6_1), .val (.ref b7_1), .val (.ref ss_1), .val (.int 0), .val (.long mm), .second, .unset, .unset] [(.long mm)])) rfl (by rw [hml]; rfl) (argsL := [(.long mm)]) (rest := []) (lenOf pd_J_I_228 rfl) rfl (by show 2 * 0 + _ ≤ _; exact Nat.le_of_eq rfl) (hb hby at_159) (fun _ _ => ⟨rfl, rfl, (by decide : 13 + 0 ≤ _), (by decide : 62 + 0 ≤ _)⟩)
  dsimp only [Pt.U, Pt.locs, Pt.cells, Pt.slots] at X4 l4 y4 z4 st4 hQ4
  subst l4 y4 z4
  obtain ⟨rfl, N4q, e4⟩ := hQ4
  have N4 := Fr.app N1 N4q
  obtain ⟨cq5, kq5, q5a, q5b, q5c⟩ := isOf hZ1 e4 g1_1
  obtain ⟨_, _, ⟨T5, L5, k5, n5⟩, -, X5, ⟨Lc5, hQ5, l5, y5, z5⟩, st5⟩ := X4.virtualBack hx (y := mn6) (z := mn6) ho1 (mvT hZ1 (hwi hw 178 rfl)) (mvT hZ1 (hwi hw 72 rfl)) (notFace_of_selects (args := #[]) (mvT hZ1 (hwi hw 74 rfl))) (mvT hZ1 (hwi hw 74 rfl)) (mvT hZ1 (hwi hw 73 rfl)) (by decide) (backOf (W := 0) (rm_slen l Z a0 hw [] ss_1 w_COMPACT_STRINGS tt_1 kt_1 vs_1 zz T1.heap n0 Z3 S_COMPACT_STRINGS hcs g1_1 g1_2 g1_3 g1_4 O3 (own_sh zz)) hZ1 (hwi hw 75 rfl) (hwi hw 3 rfl) (by decide) (by decide)) q5a q5c (g := (mkF m 178 #[.val (.int p1), .val (.int p2), .val (.int 0), .val (.int cA), .val (.int cB), .val (.int cC), .val (.ref b6_1), .val (.ref b7_1), .val (.ref ss_1), .val (.int 0), .val (.long mm), .second, .val (.int dd), .val (.int 0)] [(.ref ss_1)])) rfl (by rw [hml]; rfl) (Steps.refl _) (argsL := []) (rest := []) (lenOf pd_I_154 rfl) rfl (by show 2 * 0 + _ ≤ _; exact Nat.le_of_eq rfl) (hb hby at_178) (fun _ _ => ⟨rfl, e4, (by decide : 13 + 0 ≤ _), (by decide : 62 + 0 ≤ _)⟩)
  dsimp only [Pt.U, Pt.locs, Pt.cells, Pt.slots] at X5 l5 y5 z5 st5 hQ5
  subst l5 y5 z5
  obtain ⟨rfl, N5q, e5⟩ := hQ5
  have N5 := Fr.app N4 N5q
  obtain ⟨cq6, kq6, q6a, q6b, q6c⟩ := isOf hZ1 e5 g1_1
  obtain ⟨_, _, ⟨T6, L6, k6, n6⟩, -, X6, ⟨Lc6, hQ6, l6, y6, z6⟩, st6⟩ := X5.virtualBack hx (y := mn11) (z := mn11) ho1 (mvT hZ1 (hwi hw 179 rfl)) (mvT hZ1 (hwi hw 180 rfl)) (notFace_of_selects (args := #[]) (mvT hZ1 (hwi hw 182 rfl))) (mvT hZ1 (hwi hw 182 rfl)) (mvT hZ1 (hwi hw 181 rfl)) (by decide) (backOf (W := 0) (rm_schr l Z a0 hw [] ss_1 (0 : Int32) w_COMPACT_STRINGS tt_1 kt_1 vs_1 zz (58 : Int32) (58 : Int32) w_SIOOBE_FORMATTER T1.heap n0 Z3 S_COMPACT_STRINGS hcs g1_1 g1_2 g1_3 g1_4 (by decide : ¬ ((0 : Int32) < (0 : Int32))) (own_lt hN hix (j := 0) (by decide)) (g1_5.1 0 (by decide)) O3 hr_SIOOBE_FORMATTER S_SIOOBE_FORMATTER (by decide : (((58 : Int32) &&& (255 : Int32)).toUInt32.toUInt16.toUInt32.toInt32) = (58 : Int32)) (by decide : ((58 : Int32).toUInt32.toUInt16.toUInt32.toInt32) = (58 : Int32))) hZ1 (hwi hw 183 rfl) (hwi hw 3 rfl) (by decide) (by decide)) q6a q6c (g := (mkF m 250 #[.val (.int p1), .val (.int p2), .val (.int 0), .val (.int cA), .val (.int cB), .val (.int cC), .val (.ref b6_1), .val (.ref b7_1), .val (.ref ss_1), .val (.int 0), .val (.long mm), .second, .val (.int dd), .val (.int 0)] [(.int 0), (.ref ss_1)])) rfl (by rw [hml]; rfl) (Steps.refl _) (argsL := [(.int 0)]) (rest := []) (lenOf pd_I_C_221 rfl) rfl (by show 2 * 0 + _ ≤ _; exact Nat.le_of_eq rfl) (hb hby at_250) (fun _ _ => ⟨rfl, e5, (by decide : 13 + 0 ≤ _), (by decide : 62 + 0 ≤ _)⟩)
  dsimp only [Pt.U, Pt.locs, Pt.cells, Pt.slots] at X6 l6 y6 z6 st6 hQ6
  subst l6 y6 z6
  obtain ⟨rfl, N6q, e6⟩ := hQ6
  have N6 := Fr.app N5 N6q
  obtain ⟨T7, L7, vm7, j7, X7, N7, Kc7, hS7, hk7, hZ7, ho7, C7, st7⟩ := sg_tail p1 p2 (0 : Int32) cA cB cC b6_1 b7_1 ss_1 (0 : Int32) mm dd (0 : Int32) w_COMPACT_STRINGS tt_1 kt_1 vs_1 zz w_SIOOBE_FORMATTER X6 hx hZ1 hw hby hml ho1 e6 N6 Z3 hEL hS1 hk1 R2.1 S_COMPACT_STRINGS hcs g1_1 g1_2 g1_3 g1_4 (own_all g1_5 hN hix hdg) O3 hr_SIOOBE_FORMATTER S_SIOOBE_FORMATTER
  have R8 := C7
  have CR8 := CR2.trans R8
  have sz9 : T1.heap.size ≤ T7.heap.size := Kc7.1
  have Z9 : n0 ≤ T7.heap.size := Nat.le_trans Z3 sz9
  have O9 := O3.keep Kc7 all0
  have K9 : Keep h0 T7.heap [] := K3.trans Kc7 (all0)
  have CRe := CR8.trans (CHv.at X7 hZ7 hEL R8.1)
  obtain ⟨fs, hr, hrun, hended, hRE⟩ := X7.leaveW hS7 hk7 (v := some (.int 1)) (fun h => by rw [Bd.returns] at h; cases h)
  refine ⟨_, _, pre0 _ ?_, hrun, hended, _, _, rfl, ?_, ?_, ⟨hRE.1, hRE.2.1, hRE.2.2.1, hRE.2.2.2.mono (by decide) (by decide)⟩⟩
  · show St p e below s₁ (mkF m 0 #[.val (.int p1), .val (.int p2), .unset, .unset, .unset, .unset, .unset, .unset, .unset, .unset, .unset, .unset, .unset, .unset] []) _
    refine st1 _ ?_
    refine XS.iloadN X1.here hx rfl (hb hby at_131) rfl ?_
    refine XS.ifYes X1.here hx rfl (pc0 := 132) (pc' := 139) rfl (hb hby at_132) rfl ((if0 _ _).trans (flt hneg).2.1) (by decide) (by decide) ?_
    refine XS.iconst X1.here hx rfl (hb hby at_139) ?_
    refine XS.istore X1.here hx rfl (hb hby at_140) rfl (l' := #[.val (.int p1), .val (.int p2), .val (.int 0), .val (.int cA), .val (.int cB), .val (.int cC), .val (.ref b6_1), .val (.ref b7_1), .val (.ref ss_1), .val (.int 0), .unset, .unset, .unset, .unset]) rfl ?_
    refine XS.iload X1.here hx rfl (hb hby at_142) rfl ?_
    refine XS.ifYes X1.here hx rfl (pc0 := 144) (pc' := 153) rfl (hb hby at_144) rfl ((if0 _ _).trans (teq (by decide : (0 : Int32) = (0 : Int32))).1) (by decide) (by decide) ?_
    show St p e below T1 (mkF m 153 #[.val (.int p1), .val (.int p2), .val (.int 0), .val (.int cA), .val (.int cB), .val (.int cC), .val (.ref b6_1), .val (.ref b7_1), .val (.ref ss_1), .val (.int 0), .unset, .unset, .unset, .unset] []) _
    refine XS.iloadN X1.here hx rfl (hb hby at_153) rfl ?_
    refine XS.i2l X1.here hx rfl (hb hby at_154) rfl ?_
    show St p e below T1 (mkF m 155 #[.val (.int p1), .val (.int p2), .val (.int 0), .val (.int cA), .val (.int cB), .val (.int cC), .val (.ref b6_1), .val (.ref b7_1), .val (.ref ss_1), .val (.int 0), .unset, .unset, .unset, .unset] [(.long (p2.toInt64))]) _
    rw [hmm]
    show St p e below T1 (mkF m 155 #[.val (.int p1), .val (.int p2), .val (.int 0), .val (.int cA), .val (.int cB), .val (.int cC), .val (.ref b6_1), .val (.ref b7_1), .val (.ref ss_1), .val (.int 0), .unset, .unset, .unset, .unset] [(.long mm)]) _
    refine XS.lstore X1.here hx rfl (hb hby at_155) rfl (l' := #[.val (.int p1), .val (.int p2), .val (.int 0), .val (.int cA), .val (.int cB), .val (.int cC), .val (.ref b6_1), .val (.ref b7_1), .val (.ref ss_1), .val (.int 0), .val (.long mm), .second, .unset, .unset]) rfl ?_
    refine XS.lload X1.here hx rfl (hb hby at_157) rfl ?_
    refine st4 _ ?_
    refine XS.istore X4.here hx rfl (hb hby at_162) rfl (l' := #[.val (.int p1), .val (.int p2), .val (.int 0), .val (.int cA), .val (.int cB), .val (.int cC), .val (.ref b6_1), .val (.ref b7_1), .val (.ref ss_1), .val (.int 0), .val (.long mm), .second, .val (.int dd), .unset]) rfl ?_
    refine XS.iload X4.here hx rfl (hb hby at_164) rfl ?_
    refine XS.ifYes X4.here hx rfl (pc0 := 166) (pc' := 173) rfl (hb hby at_166) rfl ((if0 _ _).trans (teq (by decide : (0 : Int32) = (0 : Int32))).1) (by decide) (by decide) ?_
    refine XS.iconst X4.here hx rfl (hb hby at_173) ?_
    refine XS.istore X4.here hx rfl (hb hby at_174) rfl (l' := #[.val (.int p1), .val (.int p2), .val (.int 0), .val (.int cA), .val (.int cB), .val (.int cC), .val (.ref b6_1), .val (.ref b7_1), .val (.ref ss_1), .val (.int 0), .val (.long mm), .second, .val (.int dd), .val (.int 0)]) rfl ?_
    show St p e below T4 (mkF m 176 #[.val (.int p1), .val (.int p2), .val (.int 0), .val (.int cA), .val (.int cB), .val (.int cC), .val (.ref b6_1), .val (.ref b7_1), .val (.ref ss_1), .val (.int 0), .val (.long mm), .second, .val (.int dd), .val (.int 0)] []) _
    refine XS.aload X4.here hx rfl (hb hby at_176) rfl rfl ?_
    refine st5.trans ?_
    refine XS.iloadN X5.here hx rfl (hb hby at_181) rfl ?_
    refine XS.iconst X5.here hx rfl (hb hby at_182) ?_
    refine XS.iadd X5.here hx rfl (hb hby at_183) rfl ?_
    show St p e below T5 (mkF m 184 #[.val (.int p1), .val (.int p2), .val (.int 0), .val (.int cA), .val (.int cB), .val (.int cC), .val (.ref b6_1), .val (.ref b7_1), .val (.ref ss_1), .val (.int 0), .val (.long mm), .second, .val (.int dd), .val (.int 0)] [(.int ((0 : Int32) + (1 : Int32))), (.int zz)]) _
    rw [(by decide : ((0 : Int32) + (1 : Int32)) = (1 : Int32))]
    show St p e below T5 (mkF m 184 #[.val (.int p1), .val (.int p2), .val (.int 0), .val (.int cA), .val (.int cB), .val (.int cC), .val (.ref b6_1), .val (.ref b7_1), .val (.ref ss_1), .val (.int 0), .val (.long mm), .second, .val (.int dd), .val (.int 0)] [(.int 1), (.int zz)]) _
    refine XS.iload X5.here hx rfl (hb hby at_184) rfl ?_
    refine XS.iadd X5.here hx rfl (hb hby at_186) rfl ?_
    show St p e below T5 (mkF m 187 #[.val (.int p1), .val (.int p2), .val (.int 0), .val (.int cA), .val (.int cB), .val (.int cC), .val (.ref b6_1), .val (.ref b7_1), .val (.ref ss_1), .val (.int 0), .val (.long mm), .second, .val (.int dd), .val (.int 0)] [(.int ((1 : Int32) + (0 : Int32))), (.int zz)]) _
    rw [(by decide : ((1 : Int32) + (0 : Int32)) = (1 : Int32))]
    show St p e below T5 (mkF m 187 #[.val (.int p1), .val (.int p2), .val (.int 0), .val (.int cA), .val (.int cB), .val (.int cC), .val (.ref b6_1), .val (.ref b7_1), .val (.ref ss_1), .val (.int 0), .val (.long mm), .second, .val (.int dd), .val (.int 0)] [(.int 1), (.int zz)]) _
    refine XS.iload X5.here hx rfl (hb hby at_187) rfl ?_
    refine XS.iadd X5.here hx rfl (hb hby at_189) rfl ?_
    refine XS.icmpYes X5.here hx rfl (pc0 := 190) (pc' := 195) rfl (hb hby at_190) rfl (teq hlen).1 (by decide) (by decide) ?_
    refine XS.iloadN X5.here hx rfl (hb hby at_195) rfl ?_
    refine XS.ifYes X5.here hx rfl (pc0 := 196) (pc' := 211) rfl (hb hby at_196) rfl ((if0 _ _).trans (flt (by decide : ¬ ((0 : Int32) < (0 : Int32)))).2.2.2) (by decide) (by decide) ?_
    refine XS.iloadN X5.here hx rfl (hb hby at_211) rfl ?_
    refine XS.iconst X5.here hx rfl (hb hby at_212) ?_
    refine XS.icmpYes X5.here hx rfl (pc0 := 213) (pc' := 229) rfl (hb hby at_213) rfl (flt (by decide : ¬ ((1 : Int32) < (0 : Int32)))).2.2.2 (by decide) (by decide) ?_
    show St p e below T5 (mkF m 229 #[.val (.int p1), .val (.int p2), .val (.int 0), .val (.int cA), .val (.int cB), .val (.int cC), .val (.ref b6_1), .val (.ref b7_1), .val (.ref ss_1), .val (.int 0), .val (.long mm), .second, .val (.int dd), .val (.int 0)] []) _
    refine XS.iloadN X5.here hx rfl (hb hby at_229) rfl ?_
    refine XS.iconst X5.here hx rfl (hb hby at_230) ?_
    refine XS.icmpYes X5.here hx rfl (pc0 := 231) (pc' := 247) rfl (hb hby at_231) rfl (flt (by decide : ¬ ((2 : Int32) < (0 : Int32)))).2.2.2 (by decide) (by decide) ?_
    refine XS.aload X5.here hx rfl (hb hby at_247) rfl rfl ?_
    refine XS.iloadN X5.here hx rfl (hb hby at_249) rfl ?_
    refine st6.trans ?_
    refine XS.bipush X6.here hx rfl (hb hby at_253) ?_
    refine XS.icmpYes X6.here hx rfl (pc0 := 255) (pc' := 260) rfl (hb hby at_255) rfl (teq (by decide : (58 : Int32) = (58 : Int32))).1 (by decide) (by decide) ?_
    show St p e below T6 (mkF m 260 #[.val (.int p1), .val (.int p2), .val (.int 0), .val (.int cA), .val (.int cB), .val (.int cC), .val (.ref b6_1), .val (.ref b7_1), .val (.ref ss_1), .val (.int 0), .val (.long mm), .second, .val (.int dd), .val (.int 0)] []) _
    refine XS.iload X6.here hx rfl (hb hby at_260) rfl ?_
    refine XS.ifYes X6.here hx rfl (pc0 := 262) (pc' := 280) rfl (hb hby at_262) rfl ((if0 _ _).trans (teq (by decide : (0 : Int32) = (0 : Int32))).1) (by decide) (by decide) ?_
    refine st7 _ ?_
    show St p e below T7 (mkF m 419 #[.val (.int p1), .val (.int p2), .val (.int 0), .val (.int cA), .val (.int cB), .val (.int cC), .val (.ref b6_1), .val (.ref b7_1), .val (.ref ss_1), .val (.int 0), .val (.long mm), .second, .val (.int dd), .val (.int 0)] [(.int 1)]) _
    exact retN X7 hx (t := .boolean) Bd.returns (by simp) (hb hby at_419) hr
  · exact ⟨rfl, N7⟩
  · show CHr Z consts_1 s.vm s.heap T7.vm T7.heap
    rw [hh]
    exact CRe
set_option maxRecDepth 65536 in
set_option maxHeartbeats 40000000 in
theorem rm_law_0_1 (l : Launch) (Z : State) (a0 : Array Value) (hw : ∀ d ∈ tables_1, d.before a0 Z = true) (hEL : EW Z a0 consts_1) (ws : List Jvm.Cond) (p1 : Int32) (p2 : Int32) (mm : Int64) (dd : Int32) (w_COMPACT_STRINGS : Int32) (zz : Int32) (n : Nat) (ix : Nat) (cA : Int32) (cB : Int32) (cC : Int32) (w_SIOOBE_FORMATTER : Value) (h0 : Heap) (n0 : Nat) (Z0 : n0 ≤ h0.size) (S_COMPACT_STRINGS : Sta Z Z.heap "java/lang/String" "COMPACT_STRINGS" "Z" (.int w_COMPACT_STRINGS)) (hcs : ¬ (w_COMPACT_STRINGS = (0 : Int32))) (hzz : ((1 : Int32) + (Jvm.Free.SBG.strSizeOf p2)) = zz) (hB : own_B Z) (hN : own_N p2 n 1 ix) (hix : zz = Int32.ofNat ix) (hneg : p2 < (0 : Int32)) (hdg : own_dg mm n dd) (hlen : zz = ((2 : Int32) + dd)) (hk : (p1 &&& (3 : Int32)) = (0 : Int32)) (hcA : ((((p1.toUInt32 >>> ((2 : Int32) &&& 31).toUInt32).toInt32) &&& (255 : Int32)).toUInt32.toUInt16.toUInt32.toInt32) = cA) (hcB : ((((p1.toUInt32 >>> ((10 : Int32) &&& 31).toUInt32).toInt32) &&& (255 : Int32)).toUInt32.toUInt16.toUInt32.toInt32) = cB) (hcC : ((((p1.toUInt32 >>> ((18 : Int32) &&& 31).toUInt32).toInt32) &&& (255 : Int32)).toUInt32.toUInt16.toUInt32.toInt32) = cC) (O0 : Old Z n0 h0) (hmm : (-(p2.toInt64)) = mm) (hr_SIOOBE_FORMATTER : w_SIOOBE_FORMATTER.isRef = true) (S_SIOOBE_FORMATTER : Sta Z Z.heap "jdk/internal/util/Preconditions" "SIOOBE_FORMATTER" "Ljava/util/function/BiFunction;" w_SIOOBE_FORMATTER) :
    MetFree l x (head1 (Jvm.Cond.code x code maxLocals ret :: ws) room_1) (fun a U => a = #[(.int p1), (.int p2)] ∧ Z.Warmed39 U.vm ∧ U.heap = h0 ∧ CHv Z consts_1 U.vm h0) (fun _ _ _ _ _ => True) (fun _ U o U' => ∃ v L, o = .returned v ∧ Q_law n0 v L ∧ CHr Z consts_1 U.vm U.heap U'.vm U'.heap ∧ ReturnedEndW U o U' L room_1.cells room_1.slots) := by
  refine MetFree.of_bodySF (plainFor_of_name pn_0) hisR ?_
  intro p e s m args below meth c s₁ Bd hml0 hP hK
  obtain ⟨rfl, hZ, hh, H0c⟩ := hP
  have hx := Bd.exec
  have hby := Bd.bytes
  have hml : c.maxLocals = 14 := hml0
  have hown : s.vm.findClass "com/example/demarc/demarc/tool/AccountToStringPinLaw" = some m.cls := findClass_of_methodNamed Bd.named
  have hnm := (name_of_methodNamed Bd.named Bd.method).1
  have X0 : Stand p l e room_1 (s.setVm s.vm) m #[(.int p1), (.int p2)] below meth c s₁ [] 0 0 := Stand.of_body Bd
  have e0 : s₁.heap = h0 := by rw [← hh, Bd.state]; rfl
  have N0 := Fr.nil n0
  have pre0 : ∀ t, Steps p.tables e below (s₁.setTop (mkF m 0 #[.val (.int p1), .val (.int p2), .unset, .unset, .unset, .unset, .unset, .unset, .unset, .unset, .unset, .unset, .unset, .unset] [])) t → Steps p.tables e below (s₁.setTop (entryFrame m #[(.int p1), (.int p2)] maxLocals)) t := fun t k => castTop (ef_0_II m p1 p2) k
  have hS0 : s.Since s.vm 0 := (State.WarmedH.refl s).since 0
  have hk0 : 0 ≤ h0.size := Nat.zero_le _
  have C0c : CHr Z consts_1 s.vm h0 s.vm h0 := CHr.refl H0c
  obtain ⟨T1, L1, vm1, j1, b6_1, b7_1, ss_1, tt_1, kt_1, vs_1, X1, N1, Kc1, hS1, hk1, hZ1, ho1, C1, g1_0, g1_1, g1_2, g1_3, g1_4, g1_5, st1⟩ := sg_front_0 p1 p2 w_COMPACT_STRINGS zz n ix cA cB cC X0 hx hZ hw hby hml hown e0 N0 Z0 hEL hS0 hk0 H0c S_COMPACT_STRINGS hcs hzz hB hN hix hk hcA hcB hcC O0
  have R2 := C1
  have CR2 := C0c.trans R2
  have sz3 : h0.size ≤ T1.heap.size := Kc1.1
  have Z3 : n0 ≤ T1.heap.size := Nat.le_trans Z0 sz3
  have O3 := O0.keep Kc1 all0
  have K3 : Keep h0 T1.heap [] := (Keep.refl h0 []).trans Kc1 (all0)
  have bn_ss_1 : h0.size ≤ ss_1 := g1_0
  obtain ⟨_, _, ⟨T4, L4, k4, n4⟩, -, X4, ⟨Lc4, hQ4, l4, y4, z4⟩, st4⟩ := Jvm.LawKit.callS X1 hx (y := mn38) ho1 (mvT hZ1 (hwi hw 173 rfl)) (mvT hZ1 (hwi hw 174 rfl)) (mvT hZ1 (hwi hw 175 rfl)) (mvT hZ1 (hwi hw 176 rfl)) (by decide) (backOf (W := 0) (rm_digs l Z a0 hw [] mm n dd T1.heap n0 Z3 hdg) hZ1 (hwi hw 176 rfl) (hwi hw 175 rfl) (by decide) (by decide)) (g := (mkF m 159 #[.val (.int p1), .val (.int p2), .val (.int 0), .val (.int cA), .val (.int cB), .val (.int cC), .val (.ref b6_1), .val (.ref b7_1), .val (.ref ss_1), .val (.int 1), .val (.long mm), .second, .unset, .unset] [(.long mm)])) rfl (by rw [hml]; rfl) (argsL := [(.long mm)]) (rest := []) (lenOf pd_J_I_228 rfl) rfl (by show 2 * 0 + _ ≤ _; exact Nat.le_of_eq rfl) (hb hby at_159) (fun _ _ => ⟨rfl, rfl, (by decide : 13 + 0 ≤ _), (by decide : 62 + 0 ≤ _)⟩)
  dsimp only [Pt.U, Pt.locs, Pt.cells, Pt.slots] at X4 l4 y4 z4 st4 hQ4
  subst l4 y4 z4
  obtain ⟨rfl, N4q, e4⟩ := hQ4
  have N4 := Fr.app N1 N4q
  obtain ⟨cq5, kq5, q5a, q5b, q5c⟩ := isOf hZ1 e4 g1_1
  obtain ⟨_, _, ⟨T5, L5, k5, n5⟩, -, X5, ⟨Lc5, hQ5, l5, y5, z5⟩, st5⟩ := X4.virtualBack hx (y := mn6) (z := mn6) ho1 (mvT hZ1 (hwi hw 178 rfl)) (mvT hZ1 (hwi hw 72 rfl)) (notFace_of_selects (args := #[]) (mvT hZ1 (hwi hw 74 rfl))) (mvT hZ1 (hwi hw 74 rfl)) (mvT hZ1 (hwi hw 73 rfl)) (by decide) (backOf (W := 0) (rm_slen l Z a0 hw [] ss_1 w_COMPACT_STRINGS tt_1 kt_1 vs_1 zz T1.heap n0 Z3 S_COMPACT_STRINGS hcs g1_1 g1_2 g1_3 g1_4 O3 (own_sh zz)) hZ1 (hwi hw 75 rfl) (hwi hw 3 rfl) (by decide) (by decide)) q5a q5c (g := (mkF m 178 #[.val (.int p1), .val (.int p2), .val (.int 0), .val (.int cA), .val (.int cB), .val (.int cC), .val (.ref b6_1), .val (.ref b7_1), .val (.ref ss_1), .val (.int 1), .val (.long mm), .second, .val (.int dd), .val (.int 1)] [(.ref ss_1)])) rfl (by rw [hml]; rfl) (Steps.refl _) (argsL := []) (rest := []) (lenOf pd_I_154 rfl) rfl (by show 2 * 0 + _ ≤ _; exact Nat.le_of_eq rfl) (hb hby at_178) (fun _ _ => ⟨rfl, e4, (by decide : 13 + 0 ≤ _), (by decide : 62 + 0 ≤ _)⟩)
  dsimp only [Pt.U, Pt.locs, Pt.cells, Pt.slots] at X5 l5 y5 z5 st5 hQ5
  subst l5 y5 z5
  obtain ⟨rfl, N5q, e5⟩ := hQ5
  have N5 := Fr.app N4 N5q
  obtain ⟨cq6, kq6, q6a, q6b, q6c⟩ := isOf hZ1 e5 g1_1
  obtain ⟨_, _, ⟨T6, L6, k6, n6⟩, -, X6, ⟨Lc6, hQ6, l6, y6, z6⟩, st6⟩ := X5.virtualBack hx (y := mn11) (z := mn11) ho1 (mvT hZ1 (hwi hw 179 rfl)) (mvT hZ1 (hwi hw 180 rfl)) (notFace_of_selects (args := #[]) (mvT hZ1 (hwi hw 182 rfl))) (mvT hZ1 (hwi hw 182 rfl)) (mvT hZ1 (hwi hw 181 rfl)) (by decide) (backOf (W := 0) (rm_schr l Z a0 hw [] ss_1 (0 : Int32) w_COMPACT_STRINGS tt_1 kt_1 vs_1 zz (58 : Int32) (58 : Int32) w_SIOOBE_FORMATTER T1.heap n0 Z3 S_COMPACT_STRINGS hcs g1_1 g1_2 g1_3 g1_4 (by decide : ¬ ((0 : Int32) < (0 : Int32))) (own_lt hN hix (j := 0) (by decide)) (g1_5.1 0 (by decide)) O3 hr_SIOOBE_FORMATTER S_SIOOBE_FORMATTER (by decide : (((58 : Int32) &&& (255 : Int32)).toUInt32.toUInt16.toUInt32.toInt32) = (58 : Int32)) (by decide : ((58 : Int32).toUInt32.toUInt16.toUInt32.toInt32) = (58 : Int32))) hZ1 (hwi hw 183 rfl) (hwi hw 3 rfl) (by decide) (by decide)) q6a q6c (g := (mkF m 250 #[.val (.int p1), .val (.int p2), .val (.int 0), .val (.int cA), .val (.int cB), .val (.int cC), .val (.ref b6_1), .val (.ref b7_1), .val (.ref ss_1), .val (.int 1), .val (.long mm), .second, .val (.int dd), .val (.int 1)] [(.int 0), (.ref ss_1)])) rfl (by rw [hml]; rfl) (Steps.refl _) (argsL := [(.int 0)]) (rest := []) (lenOf pd_I_C_221 rfl) rfl (by show 2 * 0 + _ ≤ _; exact Nat.le_of_eq rfl) (hb hby at_250) (fun _ _ => ⟨rfl, e5, (by decide : 13 + 0 ≤ _), (by decide : 62 + 0 ≤ _)⟩)
  dsimp only [Pt.U, Pt.locs, Pt.cells, Pt.slots] at X6 l6 y6 z6 st6 hQ6
  subst l6 y6 z6
  obtain ⟨rfl, N6q, e6⟩ := hQ6
  have N6 := Fr.app N5 N6q
  obtain ⟨cq7, kq7, q7a, q7b, q7c⟩ := isOf hZ1 e6 g1_1
  obtain ⟨_, _, ⟨T7, L7, k7, n7⟩, -, X7, ⟨Lc7, hQ7, l7, y7, z7⟩, st7⟩ := X6.virtualBack hx (y := mn11) (z := mn11) ho1 (mvT hZ1 (hwi hw 179 rfl)) (mvT hZ1 (hwi hw 180 rfl)) (notFace_of_selects (args := #[]) (mvT hZ1 (hwi hw 182 rfl))) (mvT hZ1 (hwi hw 182 rfl)) (mvT hZ1 (hwi hw 181 rfl)) (by decide) (backOf (W := 0) (rm_schr l Z a0 hw [] ss_1 (1 : Int32) w_COMPACT_STRINGS tt_1 kt_1 vs_1 zz (45 : Int32) (45 : Int32) w_SIOOBE_FORMATTER T1.heap n0 Z3 S_COMPACT_STRINGS hcs g1_1 g1_2 g1_3 g1_4 (by decide : ¬ ((1 : Int32) < (0 : Int32))) (own_lt hN hix (j := 1) (by decide)) (g1_5.2.1 hneg) O3 hr_SIOOBE_FORMATTER S_SIOOBE_FORMATTER (by decide : (((45 : Int32) &&& (255 : Int32)).toUInt32.toUInt16.toUInt32.toInt32) = (45 : Int32)) (by decide : ((45 : Int32).toUInt32.toUInt16.toUInt32.toInt32) = (45 : Int32))) hZ1 (hwi hw 183 rfl) (hwi hw 3 rfl) (by decide) (by decide)) q7a q7c (g := (mkF m 270 #[.val (.int p1), .val (.int p2), .val (.int 0), .val (.int cA), .val (.int cB), .val (.int cC), .val (.ref b6_1), .val (.ref b7_1), .val (.ref ss_1), .val (.int 1), .val (.long mm), .second, .val (.int dd), .val (.int 1)] [(.int 1), (.ref ss_1)])) rfl (by rw [hml]; rfl) (Steps.refl _) (argsL := [(.int 1)]) (rest := []) (lenOf pd_I_C_221 rfl) rfl (by show 2 * 0 + _ ≤ _; exact Nat.le_of_eq rfl) (hb hby at_270) (fun _ _ => ⟨rfl, e6, (by decide : 13 + 0 ≤ _), (by decide : 62 + 0 ≤ _)⟩)
  dsimp only [Pt.U, Pt.locs, Pt.cells, Pt.slots] at X7 l7 y7 z7 st7 hQ7
  subst l7 y7 z7
  obtain ⟨rfl, N7q, e7⟩ := hQ7
  have N7 := Fr.app N6 N7q
  obtain ⟨T8, L8, vm8, j8, X8, N8, Kc8, hS8, hk8, hZ8, ho8, C8, st8⟩ := sg_tail p1 p2 (0 : Int32) cA cB cC b6_1 b7_1 ss_1 (1 : Int32) mm dd (1 : Int32) w_COMPACT_STRINGS tt_1 kt_1 vs_1 zz w_SIOOBE_FORMATTER X7 hx hZ1 hw hby hml ho1 e7 N7 Z3 hEL hS1 hk1 R2.1 S_COMPACT_STRINGS hcs g1_1 g1_2 g1_3 g1_4 (own_all g1_5 hN hix hdg) O3 hr_SIOOBE_FORMATTER S_SIOOBE_FORMATTER
  have R9 := C8
  have CR9 := CR2.trans R9
  have sz10 : T1.heap.size ≤ T8.heap.size := Kc8.1
  have Z10 : n0 ≤ T8.heap.size := Nat.le_trans Z3 sz10
  have O10 := O3.keep Kc8 all0
  have K10 : Keep h0 T8.heap [] := K3.trans Kc8 (all0)
  have CRe := CR9.trans (CHv.at X8 hZ8 hEL R9.1)
  obtain ⟨fs, hr, hrun, hended, hRE⟩ := X8.leaveW hS8 hk8 (v := some (.int 1)) (fun h => by rw [Bd.returns] at h; cases h)
  refine ⟨_, _, pre0 _ ?_, hrun, hended, _, _, rfl, ?_, ?_, ⟨hRE.1, hRE.2.1, hRE.2.2.1, hRE.2.2.2.mono (by decide) (by decide)⟩⟩
  · show St p e below s₁ (mkF m 0 #[.val (.int p1), .val (.int p2), .unset, .unset, .unset, .unset, .unset, .unset, .unset, .unset, .unset, .unset, .unset, .unset] []) _
    refine st1 _ ?_
    refine XS.iloadN X1.here hx rfl (hb hby at_131) rfl ?_
    refine XS.ifNo X1.here hx rfl (hb hby at_132) rfl ((if0 _ _).trans (tlt hneg).2.1) ?_
    refine XS.iconst X1.here hx rfl (hb hby at_135) ?_
    refine XS.goto X1.here hx rfl (pc0 := 136) (pc' := 140) rfl (hb hby at_136) (by decide) (by decide) ?_
    refine XS.istore X1.here hx rfl (hb hby at_140) rfl (l' := #[.val (.int p1), .val (.int p2), .val (.int 0), .val (.int cA), .val (.int cB), .val (.int cC), .val (.ref b6_1), .val (.ref b7_1), .val (.ref ss_1), .val (.int 1), .unset, .unset, .unset, .unset]) rfl ?_
    refine XS.iload X1.here hx rfl (hb hby at_142) rfl ?_
    refine XS.ifNo X1.here hx rfl (hb hby at_144) rfl ((if0 _ _).trans (feq (by decide : ¬ ((1 : Int32) = (0 : Int32)))).1) ?_
    show St p e below T1 (mkF m 147 #[.val (.int p1), .val (.int p2), .val (.int 0), .val (.int cA), .val (.int cB), .val (.int cC), .val (.ref b6_1), .val (.ref b7_1), .val (.ref ss_1), .val (.int 1), .unset, .unset, .unset, .unset] []) _
    refine XS.iloadN X1.here hx rfl (hb hby at_147) rfl ?_
    refine XS.i2l X1.here hx rfl (hb hby at_148) rfl ?_
    refine XS.lneg X1.here hx rfl (hb hby at_149) rfl ?_
    show St p e below T1 (mkF m 150 #[.val (.int p1), .val (.int p2), .val (.int 0), .val (.int cA), .val (.int cB), .val (.int cC), .val (.ref b6_1), .val (.ref b7_1), .val (.ref ss_1), .val (.int 1), .unset, .unset, .unset, .unset] [(.long (-(p2.toInt64)))]) _
    rw [hmm]
    show St p e below T1 (mkF m 150 #[.val (.int p1), .val (.int p2), .val (.int 0), .val (.int cA), .val (.int cB), .val (.int cC), .val (.ref b6_1), .val (.ref b7_1), .val (.ref ss_1), .val (.int 1), .unset, .unset, .unset, .unset] [(.long mm)]) _
    refine XS.goto X1.here hx rfl (pc0 := 150) (pc' := 155) rfl (hb hby at_150) (by decide) (by decide) ?_
    refine XS.lstore X1.here hx rfl (hb hby at_155) rfl (l' := #[.val (.int p1), .val (.int p2), .val (.int 0), .val (.int cA), .val (.int cB), .val (.int cC), .val (.ref b6_1), .val (.ref b7_1), .val (.ref ss_1), .val (.int 1), .val (.long mm), .second, .unset, .unset]) rfl ?_
    refine XS.lload X1.here hx rfl (hb hby at_157) rfl ?_
    refine st4 _ ?_
    refine XS.istore X4.here hx rfl (hb hby at_162) rfl (l' := #[.val (.int p1), .val (.int p2), .val (.int 0), .val (.int cA), .val (.int cB), .val (.int cC), .val (.ref b6_1), .val (.ref b7_1), .val (.ref ss_1), .val (.int 1), .val (.long mm), .second, .val (.int dd), .unset]) rfl ?_
    refine XS.iload X4.here hx rfl (hb hby at_164) rfl ?_
    refine XS.ifNo X4.here hx rfl (hb hby at_166) rfl ((if0 _ _).trans (feq (by decide : ¬ ((1 : Int32) = (0 : Int32)))).1) ?_
    refine XS.iconst X4.here hx rfl (hb hby at_169) ?_
    show St p e below T4 (mkF m 170 #[.val (.int p1), .val (.int p2), .val (.int 0), .val (.int cA), .val (.int cB), .val (.int cC), .val (.ref b6_1), .val (.ref b7_1), .val (.ref ss_1), .val (.int 1), .val (.long mm), .second, .val (.int dd), .unset] [(.int 1)]) _
    refine XS.goto X4.here hx rfl (pc0 := 170) (pc' := 174) rfl (hb hby at_170) (by decide) (by decide) ?_
    refine XS.istore X4.here hx rfl (hb hby at_174) rfl (l' := #[.val (.int p1), .val (.int p2), .val (.int 0), .val (.int cA), .val (.int cB), .val (.int cC), .val (.ref b6_1), .val (.ref b7_1), .val (.ref ss_1), .val (.int 1), .val (.long mm), .second, .val (.int dd), .val (.int 1)]) rfl ?_
    refine XS.aload X4.here hx rfl (hb hby at_176) rfl rfl ?_
    refine st5.trans ?_
    refine XS.iloadN X5.here hx rfl (hb hby at_181) rfl ?_
    refine XS.iconst X5.here hx rfl (hb hby at_182) ?_
    refine XS.iadd X5.here hx rfl (hb hby at_183) rfl ?_
    show St p e below T5 (mkF m 184 #[.val (.int p1), .val (.int p2), .val (.int 0), .val (.int cA), .val (.int cB), .val (.int cC), .val (.ref b6_1), .val (.ref b7_1), .val (.ref ss_1), .val (.int 1), .val (.long mm), .second, .val (.int dd), .val (.int 1)] [(.int ((0 : Int32) + (1 : Int32))), (.int zz)]) _
    rw [(by decide : ((0 : Int32) + (1 : Int32)) = (1 : Int32))]
    show St p e below T5 (mkF m 184 #[.val (.int p1), .val (.int p2), .val (.int 0), .val (.int cA), .val (.int cB), .val (.int cC), .val (.ref b6_1), .val (.ref b7_1), .val (.ref ss_1), .val (.int 1), .val (.long mm), .second, .val (.int dd), .val (.int 1)] [(.int 1), (.int zz)]) _
    refine XS.iload X5.here hx rfl (hb hby at_184) rfl ?_
    refine XS.iadd X5.here hx rfl (hb hby at_186) rfl ?_
    show St p e below T5 (mkF m 187 #[.val (.int p1), .val (.int p2), .val (.int 0), .val (.int cA), .val (.int cB), .val (.int cC), .val (.ref b6_1), .val (.ref b7_1), .val (.ref ss_1), .val (.int 1), .val (.long mm), .second, .val (.int dd), .val (.int 1)] [(.int ((1 : Int32) + (1 : Int32))), (.int zz)]) _
    rw [(by decide : ((1 : Int32) + (1 : Int32)) = (2 : Int32))]
    show St p e below T5 (mkF m 187 #[.val (.int p1), .val (.int p2), .val (.int 0), .val (.int cA), .val (.int cB), .val (.int cC), .val (.ref b6_1), .val (.ref b7_1), .val (.ref ss_1), .val (.int 1), .val (.long mm), .second, .val (.int dd), .val (.int 1)] [(.int 2), (.int zz)]) _
    refine XS.iload X5.here hx rfl (hb hby at_187) rfl ?_
    refine XS.iadd X5.here hx rfl (hb hby at_189) rfl ?_
    refine XS.icmpYes X5.here hx rfl (pc0 := 190) (pc' := 195) rfl (hb hby at_190) rfl (teq hlen).1 (by decide) (by decide) ?_
    refine XS.iloadN X5.here hx rfl (hb hby at_195) rfl ?_
    refine XS.ifYes X5.here hx rfl (pc0 := 196) (pc' := 211) rfl (hb hby at_196) rfl ((if0 _ _).trans (flt (by decide : ¬ ((0 : Int32) < (0 : Int32)))).2.2.2) (by decide) (by decide) ?_
    refine XS.iloadN X5.here hx rfl (hb hby at_211) rfl ?_
    refine XS.iconst X5.here hx rfl (hb hby at_212) ?_
    refine XS.icmpYes X5.here hx rfl (pc0 := 213) (pc' := 229) rfl (hb hby at_213) rfl (flt (by decide : ¬ ((1 : Int32) < (0 : Int32)))).2.2.2 (by decide) (by decide) ?_
    show St p e below T5 (mkF m 229 #[.val (.int p1), .val (.int p2), .val (.int 0), .val (.int cA), .val (.int cB), .val (.int cC), .val (.ref b6_1), .val (.ref b7_1), .val (.ref ss_1), .val (.int 1), .val (.long mm), .second, .val (.int dd), .val (.int 1)] []) _
    refine XS.iloadN X5.here hx rfl (hb hby at_229) rfl ?_
    refine XS.iconst X5.here hx rfl (hb hby at_230) ?_
    refine XS.icmpYes X5.here hx rfl (pc0 := 231) (pc' := 247) rfl (hb hby at_231) rfl (flt (by decide : ¬ ((2 : Int32) < (0 : Int32)))).2.2.2 (by decide) (by decide) ?_
    refine XS.aload X5.here hx rfl (hb hby at_247) rfl rfl ?_
    refine XS.iloadN X5.here hx rfl (hb hby at_249) rfl ?_
    refine st6.trans ?_
    refine XS.bipush X6.here hx rfl (hb hby at_253) ?_
    refine XS.icmpYes X6.here hx rfl (pc0 := 255) (pc' := 260) rfl (hb hby at_255) rfl (teq (by decide : (58 : Int32) = (58 : Int32))).1 (by decide) (by decide) ?_
    show St p e below T6 (mkF m 260 #[.val (.int p1), .val (.int p2), .val (.int 0), .val (.int cA), .val (.int cB), .val (.int cC), .val (.ref b6_1), .val (.ref b7_1), .val (.ref ss_1), .val (.int 1), .val (.long mm), .second, .val (.int dd), .val (.int 1)] []) _
    refine XS.iload X6.here hx rfl (hb hby at_260) rfl ?_
    refine XS.ifNo X6.here hx rfl (hb hby at_262) rfl ((if0 _ _).trans (feq (by decide : ¬ ((1 : Int32) = (0 : Int32)))).1) ?_
    refine XS.aload X6.here hx rfl (hb hby at_265) rfl rfl ?_
    refine XS.iloadN X6.here hx rfl (hb hby at_267) rfl ?_
    refine XS.iconst X6.here hx rfl (hb hby at_268) ?_
    refine XS.iadd X6.here hx rfl (hb hby at_269) rfl ?_
    show St p e below T6 (mkF m 270 #[.val (.int p1), .val (.int p2), .val (.int 0), .val (.int cA), .val (.int cB), .val (.int cC), .val (.ref b6_1), .val (.ref b7_1), .val (.ref ss_1), .val (.int 1), .val (.long mm), .second, .val (.int dd), .val (.int 1)] [(.int ((0 : Int32) + (1 : Int32))), (.ref ss_1)]) _
    rw [(by decide : ((0 : Int32) + (1 : Int32)) = (1 : Int32))]
    show St p e below T6 (mkF m 270 #[.val (.int p1), .val (.int p2), .val (.int 0), .val (.int cA), .val (.int cB), .val (.int cC), .val (.ref b6_1), .val (.ref b7_1), .val (.ref ss_1), .val (.int 1), .val (.long mm), .second, .val (.int dd), .val (.int 1)] [(.int 1), (.ref ss_1)]) _
    refine st7.trans ?_
    refine XS.bipush X7.here hx rfl (hb hby at_273) ?_
    refine XS.icmpYes X7.here hx rfl (pc0 := 275) (pc' := 280) rfl (hb hby at_275) rfl (teq (by decide : (45 : Int32) = (45 : Int32))).1 (by decide) (by decide) ?_
    refine st8 _ ?_
    show St p e below T8 (mkF m 419 #[.val (.int p1), .val (.int p2), .val (.int 0), .val (.int cA), .val (.int cB), .val (.int cC), .val (.ref b6_1), .val (.ref b7_1), .val (.ref ss_1), .val (.int 1), .val (.long mm), .second, .val (.int dd), .val (.int 1)] [(.int 1)]) _
    exact retN X8 hx (t := .boolean) Bd.returns (by simp) (hb hby at_419) hr
  · exact ⟨rfl, N8⟩
  · show CHr Z consts_1 s.vm s.heap T8.vm T8.heap
    rw [hh]
    exact CRe
set_option maxRecDepth 65536 in
set_option maxHeartbeats 40000000 in
theorem rm_law_1_0 (l : Launch) (Z : State) (a0 : Array Value) (hw : ∀ d ∈ tables_1, d.before a0 Z = true) (hEL : EW Z a0 consts_1) (ws : List Jvm.Cond) (p1 : Int32) (p2 : Int32) (mm : Int64) (dd : Int32) (w_COMPACT_STRINGS : Int32) (zz : Int32) (n : Nat) (ix : Nat) (cA : Int32) (cB : Int32) (cC : Int32) (w_SIOOBE_FORMATTER : Value) (h0 : Heap) (n0 : Nat) (Z0 : n0 ≤ h0.size) (S_COMPACT_STRINGS : Sta Z Z.heap "java/lang/String" "COMPACT_STRINGS" "Z" (.int w_COMPACT_STRINGS)) (hcs : ¬ (w_COMPACT_STRINGS = (0 : Int32))) (hbcA : ¬ ((255 : Int32) < cA)) (hzz : ((2 : Int32) + (Jvm.Free.SBG.strSizeOf p2)) = zz) (hB : own_B Z) (hN : own_N p2 n 2 ix) (hix : zz = Int32.ofNat ix) (hneg : ¬ (p2 < (0 : Int32))) (hkcA : (((cA.toInt8.toInt32) &&& (255 : Int32)).toUInt32.toUInt16.toUInt32.toInt32) = cA) (hdg : own_dg mm n dd) (hlen : zz = ((2 : Int32) + dd)) (hk : (p1 &&& (3 : Int32)) = (1 : Int32)) (hcA : ((((p1.toUInt32 >>> ((2 : Int32) &&& 31).toUInt32).toInt32) &&& (255 : Int32)).toUInt32.toUInt16.toUInt32.toInt32) = cA) (hcB : ((((p1.toUInt32 >>> ((10 : Int32) &&& 31).toUInt32).toInt32) &&& (255 : Int32)).toUInt32.toUInt16.toUInt32.toInt32) = cB) (hcC : ((((p1.toUInt32 >>> ((18 : Int32) &&& 31).toUInt32).toInt32) &&& (255 : Int32)).toUInt32.toUInt16.toUInt32.toInt32) = cC) (O0 : Old Z n0 h0) (hncA : (cA.toUInt32.toUInt16.toUInt32.toInt32) = cA) (hmm : (p2.toInt64) = mm) (hr_SIOOBE_FORMATTER : w_SIOOBE_FORMATTER.isRef = true) (S_SIOOBE_FORMATTER : Sta Z Z.heap "jdk/internal/util/Preconditions" "SIOOBE_FORMATTER" "Ljava/util/function/BiFunction;" w_SIOOBE_FORMATTER) :
    MetFree l x (head1 (Jvm.Cond.code x code maxLocals ret :: ws) room_1) (fun a U => a = #[(.int p1), (.int p2)] ∧ Z.Warmed39 U.vm ∧ U.heap = h0 ∧ CHv Z consts_1 U.vm h0) (fun _ _ _ _ _ => True) (fun _ U o U' => ∃ v L, o = .returned v ∧ Q_law n0 v L ∧ CHr Z consts_1 U.vm U.heap U'.vm U'.heap ∧ ReturnedEndW U o U' L room_1.cells room_1.slots) := by
  refine MetFree.of_bodySF (plainFor_of_name pn_0) hisR ?_
  intro p e s m args below meth c s₁ Bd hml0 hP hK
  obtain ⟨rfl, hZ, hh, H0c⟩ := hP
  have hx := Bd.exec
  have hby := Bd.bytes
  have hml : c.maxLocals = 14 := hml0
  have hown : s.vm.findClass "com/example/demarc/demarc/tool/AccountToStringPinLaw" = some m.cls := findClass_of_methodNamed Bd.named
  have hnm := (name_of_methodNamed Bd.named Bd.method).1
  have X0 : Stand p l e room_1 (s.setVm s.vm) m #[(.int p1), (.int p2)] below meth c s₁ [] 0 0 := Stand.of_body Bd
  have e0 : s₁.heap = h0 := by rw [← hh, Bd.state]; rfl
  have N0 := Fr.nil n0
  have pre0 : ∀ t, Steps p.tables e below (s₁.setTop (mkF m 0 #[.val (.int p1), .val (.int p2), .unset, .unset, .unset, .unset, .unset, .unset, .unset, .unset, .unset, .unset, .unset, .unset] [])) t → Steps p.tables e below (s₁.setTop (entryFrame m #[(.int p1), (.int p2)] maxLocals)) t := fun t k => castTop (ef_0_II m p1 p2) k
  have hS0 : s.Since s.vm 0 := (State.WarmedH.refl s).since 0
  have hk0 : 0 ≤ h0.size := Nat.zero_le _
  have C0c : CHr Z consts_1 s.vm h0 s.vm h0 := CHr.refl H0c
  obtain ⟨T1, L1, vm1, j1, b6_1, b7_1, ss_1, tt_1, kt_1, vs_1, X1, N1, Kc1, hS1, hk1, hZ1, ho1, C1, g1_0, g1_1, g1_2, g1_3, g1_4, g1_5, st1⟩ := sg_front_1 p1 p2 w_COMPACT_STRINGS zz n ix cA cB cC X0 hx hZ hw hby hml hown e0 N0 Z0 hEL hS0 hk0 H0c S_COMPACT_STRINGS hcs hbcA hzz hB hN hix hk hcA hcB hcC O0 hncA
  have R2 := C1
  have CR2 := C0c.trans R2
  have sz3 : h0.size ≤ T1.heap.size := Kc1.1
  have Z3 : n0 ≤ T1.heap.size := Nat.le_trans Z0 sz3
  have O3 := O0.keep Kc1 all0
  have K3 : Keep h0 T1.heap [] := (Keep.refl h0 []).trans Kc1 (all0)
  have bn_ss_1 : h0.size ≤ ss_1 := g1_0
  obtain ⟨_, _, ⟨T4, L4, k4, n4⟩, -, X4, ⟨Lc4, hQ4, l4, y4, z4⟩, st4⟩ := Jvm.LawKit.callS X1 hx (y := mn38) ho1 (mvT hZ1 (hwi hw 173 rfl)) (mvT hZ1 (hwi hw 174 rfl)) (mvT hZ1 (hwi hw 175 rfl)) (mvT hZ1 (hwi hw 176 rfl)) (by decide) (backOf (W := 0) (rm_digs l Z a0 hw [] mm n dd T1.heap n0 Z3 hdg) hZ1 (hwi hw 176 rfl) (hwi hw 175 rfl) (by decide) (by decide)) (g := (mkF m 159 #[.val (.int p1), .val (.int p2), .val (.int 1), .val (.int cA), .val (.int cB), .val (.int cC), .val (.ref b6_1), .val (.ref b7_1), .val (.ref ss_1), .val (.int 0), .val (.long mm), .second, .unset, .unset] [(.long mm)])) rfl (by rw [hml]; rfl) (argsL := [(.long mm)]) (rest := []) (lenOf pd_J_I_228 rfl) rfl (by show 2 * 0 + _ ≤ _; exact Nat.le_of_eq rfl) (hb hby at_159) (fun _ _ => ⟨rfl, rfl, (by decide : 10 + 0 ≤ _), (by decide : 56 + 0 ≤ _)⟩)
  dsimp only [Pt.U, Pt.locs, Pt.cells, Pt.slots] at X4 l4 y4 z4 st4 hQ4
  subst l4 y4 z4
  obtain ⟨rfl, N4q, e4⟩ := hQ4
  have N4 := Fr.app N1 N4q
  obtain ⟨cq5, kq5, q5a, q5b, q5c⟩ := isOf hZ1 e4 g1_1
  obtain ⟨_, _, ⟨T5, L5, k5, n5⟩, -, X5, ⟨Lc5, hQ5, l5, y5, z5⟩, st5⟩ := X4.virtualBack hx (y := mn6) (z := mn6) ho1 (mvT hZ1 (hwi hw 178 rfl)) (mvT hZ1 (hwi hw 72 rfl)) (notFace_of_selects (args := #[]) (mvT hZ1 (hwi hw 74 rfl))) (mvT hZ1 (hwi hw 74 rfl)) (mvT hZ1 (hwi hw 73 rfl)) (by decide) (backOf (W := 0) (rm_slen l Z a0 hw [] ss_1 w_COMPACT_STRINGS tt_1 kt_1 vs_1 zz T1.heap n0 Z3 S_COMPACT_STRINGS hcs g1_1 g1_2 g1_3 g1_4 O3 (own_sh zz)) hZ1 (hwi hw 75 rfl) (hwi hw 3 rfl) (by decide) (by decide)) q5a q5c (g := (mkF m 178 #[.val (.int p1), .val (.int p2), .val (.int 1), .val (.int cA), .val (.int cB), .val (.int cC), .val (.ref b6_1), .val (.ref b7_1), .val (.ref ss_1), .val (.int 0), .val (.long mm), .second, .val (.int dd), .val (.int 0)] [(.ref ss_1)])) rfl (by rw [hml]; rfl) (Steps.refl _) (argsL := []) (rest := []) (lenOf pd_I_154 rfl) rfl (by show 2 * 0 + _ ≤ _; exact Nat.le_of_eq rfl) (hb hby at_178) (fun _ _ => ⟨rfl, e4, (by decide : 10 + 0 ≤ _), (by decide : 56 + 0 ≤ _)⟩)
  dsimp only [Pt.U, Pt.locs, Pt.cells, Pt.slots] at X5 l5 y5 z5 st5 hQ5
  subst l5 y5 z5
  obtain ⟨rfl, N5q, e5⟩ := hQ5
  have N5 := Fr.app N4 N5q
  obtain ⟨cq6, kq6, q6a, q6b, q6c⟩ := isOf hZ1 e5 g1_1
  obtain ⟨_, _, ⟨T6, L6, k6, n6⟩, -, X6, ⟨Lc6, hQ6, l6, y6, z6⟩, st6⟩ := X5.virtualBack hx (y := mn11) (z := mn11) ho1 (mvT hZ1 (hwi hw 179 rfl)) (mvT hZ1 (hwi hw 180 rfl)) (notFace_of_selects (args := #[]) (mvT hZ1 (hwi hw 182 rfl))) (mvT hZ1 (hwi hw 182 rfl)) (mvT hZ1 (hwi hw 181 rfl)) (by decide) (backOf (W := 0) (rm_schr l Z a0 hw [] ss_1 (0 : Int32) w_COMPACT_STRINGS tt_1 kt_1 vs_1 zz (cA.toInt8.toInt32) cA w_SIOOBE_FORMATTER T1.heap n0 Z3 S_COMPACT_STRINGS hcs g1_1 g1_2 g1_3 g1_4 (by decide : ¬ ((0 : Int32) < (0 : Int32))) (own_lt hN hix (j := 0) (by decide)) (g1_5.1 0 (by decide)) O3 hr_SIOOBE_FORMATTER S_SIOOBE_FORMATTER hkcA hncA) hZ1 (hwi hw 183 rfl) (hwi hw 3 rfl) (by decide) (by decide)) q6a q6c (g := (mkF m 202 #[.val (.int p1), .val (.int p2), .val (.int 1), .val (.int cA), .val (.int cB), .val (.int cC), .val (.ref b6_1), .val (.ref b7_1), .val (.ref ss_1), .val (.int 0), .val (.long mm), .second, .val (.int dd), .val (.int 0)] [(.int 0), (.ref ss_1)])) rfl (by rw [hml]; rfl) (Steps.refl _) (argsL := [(.int 0)]) (rest := []) (lenOf pd_I_C_221 rfl) rfl (by show 2 * 0 + _ ≤ _; exact Nat.le_of_eq rfl) (hb hby at_202) (fun _ _ => ⟨rfl, e5, (by decide : 10 + 0 ≤ _), (by decide : 56 + 0 ≤ _)⟩)
  dsimp only [Pt.U, Pt.locs, Pt.cells, Pt.slots] at X6 l6 y6 z6 st6 hQ6
  subst l6 y6 z6
  obtain ⟨rfl, N6q, e6⟩ := hQ6
  have N6 := Fr.app N5 N6q
  obtain ⟨cq7, kq7, q7a, q7b, q7c⟩ := isOf hZ1 e6 g1_1
  obtain ⟨_, _, ⟨T7, L7, k7, n7⟩, -, X7, ⟨Lc7, hQ7, l7, y7, z7⟩, st7⟩ := X6.virtualBack hx (y := mn11) (z := mn11) ho1 (mvT hZ1 (hwi hw 179 rfl)) (mvT hZ1 (hwi hw 180 rfl)) (notFace_of_selects (args := #[]) (mvT hZ1 (hwi hw 182 rfl))) (mvT hZ1 (hwi hw 182 rfl)) (mvT hZ1 (hwi hw 181 rfl)) (by decide) (backOf (W := 0) (rm_schr l Z a0 hw [] ss_1 (1 : Int32) w_COMPACT_STRINGS tt_1 kt_1 vs_1 zz (58 : Int32) (58 : Int32) w_SIOOBE_FORMATTER T1.heap n0 Z3 S_COMPACT_STRINGS hcs g1_1 g1_2 g1_3 g1_4 (by decide : ¬ ((1 : Int32) < (0 : Int32))) (own_lt hN hix (j := 1) (by decide)) (g1_5.1 1 (by decide)) O3 hr_SIOOBE_FORMATTER S_SIOOBE_FORMATTER (by decide : (((58 : Int32) &&& (255 : Int32)).toUInt32.toUInt16.toUInt32.toInt32) = (58 : Int32)) (by decide : ((58 : Int32).toUInt32.toUInt16.toUInt32.toInt32) = (58 : Int32))) hZ1 (hwi hw 183 rfl) (hwi hw 3 rfl) (by decide) (by decide)) q7a q7c (g := (mkF m 250 #[.val (.int p1), .val (.int p2), .val (.int 1), .val (.int cA), .val (.int cB), .val (.int cC), .val (.ref b6_1), .val (.ref b7_1), .val (.ref ss_1), .val (.int 0), .val (.long mm), .second, .val (.int dd), .val (.int 0)] [(.int 1), (.ref ss_1)])) rfl (by rw [hml]; rfl) (Steps.refl _) (argsL := [(.int 1)]) (rest := []) (lenOf pd_I_C_221 rfl) rfl (by show 2 * 0 + _ ≤ _; exact Nat.le_of_eq rfl) (hb hby at_250) (fun _ _ => ⟨rfl, e6, (by decide : 10 + 0 ≤ _), (by decide : 56 + 0 ≤ _)⟩)
  dsimp only [Pt.U, Pt.locs, Pt.cells, Pt.slots] at X7 l7 y7 z7 st7 hQ7
  subst l7 y7 z7
  obtain ⟨rfl, N7q, e7⟩ := hQ7
  have N7 := Fr.app N6 N7q
  have X8 := X7.more (cells' := 13) (slots' := 62) (by decide) (by decide)
  obtain ⟨T9, L9, vm9, j9, X9, N9, Kc9, hS9, hk9, hZ9, ho9, C9, st9⟩ := sg_tail p1 p2 (1 : Int32) cA cB cC b6_1 b7_1 ss_1 (0 : Int32) mm dd (0 : Int32) w_COMPACT_STRINGS tt_1 kt_1 vs_1 zz w_SIOOBE_FORMATTER X8 hx hZ1 hw hby hml ho1 e7 N7 Z3 hEL hS1 hk1 R2.1 S_COMPACT_STRINGS hcs g1_1 g1_2 g1_3 g1_4 (own_all g1_5 hN hix hdg) O3 hr_SIOOBE_FORMATTER S_SIOOBE_FORMATTER
  have R10 := C9
  have CR10 := CR2.trans R10
  have sz11 : T1.heap.size ≤ T9.heap.size := Kc9.1
  have Z11 : n0 ≤ T9.heap.size := Nat.le_trans Z3 sz11
  have O11 := O3.keep Kc9 all0
  have K11 : Keep h0 T9.heap [] := K3.trans Kc9 (all0)
  have CRe := CR10.trans (CHv.at X9 hZ9 hEL R10.1)
  obtain ⟨fs, hr, hrun, hended, hRE⟩ := X9.leaveW hS9 hk9 (v := some (.int 1)) (fun h => by rw [Bd.returns] at h; cases h)
  refine ⟨_, _, pre0 _ ?_, hrun, hended, _, _, rfl, ?_, ?_, ⟨hRE.1, hRE.2.1, hRE.2.2.1, hRE.2.2.2.mono (by decide) (by decide)⟩⟩
  · show St p e below s₁ (mkF m 0 #[.val (.int p1), .val (.int p2), .unset, .unset, .unset, .unset, .unset, .unset, .unset, .unset, .unset, .unset, .unset, .unset] []) _
    refine st1 _ ?_
    refine XS.iloadN X1.here hx rfl (hb hby at_131) rfl ?_
    refine XS.ifYes X1.here hx rfl (pc0 := 132) (pc' := 139) rfl (hb hby at_132) rfl ((if0 _ _).trans (flt hneg).2.1) (by decide) (by decide) ?_
    refine XS.iconst X1.here hx rfl (hb hby at_139) ?_
    refine XS.istore X1.here hx rfl (hb hby at_140) rfl (l' := #[.val (.int p1), .val (.int p2), .val (.int 1), .val (.int cA), .val (.int cB), .val (.int cC), .val (.ref b6_1), .val (.ref b7_1), .val (.ref ss_1), .val (.int 0), .unset, .unset, .unset, .unset]) rfl ?_
    refine XS.iload X1.here hx rfl (hb hby at_142) rfl ?_
    refine XS.ifYes X1.here hx rfl (pc0 := 144) (pc' := 153) rfl (hb hby at_144) rfl ((if0 _ _).trans (teq (by decide : (0 : Int32) = (0 : Int32))).1) (by decide) (by decide) ?_
    refine XS.iloadN X1.here hx rfl (hb hby at_153) rfl ?_
    show St p e below T1 (mkF m 154 #[.val (.int p1), .val (.int p2), .val (.int 1), .val (.int cA), .val (.int cB), .val (.int cC), .val (.ref b6_1), .val (.ref b7_1), .val (.ref ss_1), .val (.int 0), .unset, .unset, .unset, .unset] [(.int p2)]) _
    refine XS.i2l X1.here hx rfl (hb hby at_154) rfl ?_
    show St p e below T1 (mkF m 155 #[.val (.int p1), .val (.int p2), .val (.int 1), .val (.int cA), .val (.int cB), .val (.int cC), .val (.ref b6_1), .val (.ref b7_1), .val (.ref ss_1), .val (.int 0), .unset, .unset, .unset, .unset] [(.long (p2.toInt64))]) _
    rw [hmm]
    show St p e below T1 (mkF m 155 #[.val (.int p1), .val (.int p2), .val (.int 1), .val (.int cA), .val (.int cB), .val (.int cC), .val (.ref b6_1), .val (.ref b7_1), .val (.ref ss_1), .val (.int 0), .unset, .unset, .unset, .unset] [(.long mm)]) _
    refine XS.lstore X1.here hx rfl (hb hby at_155) rfl (l' := #[.val (.int p1), .val (.int p2), .val (.int 1), .val (.int cA), .val (.int cB), .val (.int cC), .val (.ref b6_1), .val (.ref b7_1), .val (.ref ss_1), .val (.int 0), .val (.long mm), .second, .unset, .unset]) rfl ?_
    refine XS.lload X1.here hx rfl (hb hby at_157) rfl ?_
    refine st4 _ ?_
    refine XS.istore X4.here hx rfl (hb hby at_162) rfl (l' := #[.val (.int p1), .val (.int p2), .val (.int 1), .val (.int cA), .val (.int cB), .val (.int cC), .val (.ref b6_1), .val (.ref b7_1), .val (.ref ss_1), .val (.int 0), .val (.long mm), .second, .val (.int dd), .unset]) rfl ?_
    refine XS.iload X4.here hx rfl (hb hby at_164) rfl ?_
    refine XS.ifYes X4.here hx rfl (pc0 := 166) (pc' := 173) rfl (hb hby at_166) rfl ((if0 _ _).trans (teq (by decide : (0 : Int32) = (0 : Int32))).1) (by decide) (by decide) ?_
    refine XS.iconst X4.here hx rfl (hb hby at_173) ?_
    refine XS.istore X4.here hx rfl (hb hby at_174) rfl (l' := #[.val (.int p1), .val (.int p2), .val (.int 1), .val (.int cA), .val (.int cB), .val (.int cC), .val (.ref b6_1), .val (.ref b7_1), .val (.ref ss_1), .val (.int 0), .val (.long mm), .second, .val (.int dd), .val (.int 0)]) rfl ?_
    show St p e below T4 (mkF m 176 #[.val (.int p1), .val (.int p2), .val (.int 1), .val (.int cA), .val (.int cB), .val (.int cC), .val (.ref b6_1), .val (.ref b7_1), .val (.ref ss_1), .val (.int 0), .val (.long mm), .second, .val (.int dd), .val (.int 0)] []) _
    refine XS.aload X4.here hx rfl (hb hby at_176) rfl rfl ?_
    refine st5.trans ?_
    refine XS.iloadN X5.here hx rfl (hb hby at_181) rfl ?_
    refine XS.iconst X5.here hx rfl (hb hby at_182) ?_
    refine XS.iadd X5.here hx rfl (hb hby at_183) rfl ?_
    show St p e below T5 (mkF m 184 #[.val (.int p1), .val (.int p2), .val (.int 1), .val (.int cA), .val (.int cB), .val (.int cC), .val (.ref b6_1), .val (.ref b7_1), .val (.ref ss_1), .val (.int 0), .val (.long mm), .second, .val (.int dd), .val (.int 0)] [(.int ((1 : Int32) + (1 : Int32))), (.int zz)]) _
    rw [(by decide : ((1 : Int32) + (1 : Int32)) = (2 : Int32))]
    show St p e below T5 (mkF m 184 #[.val (.int p1), .val (.int p2), .val (.int 1), .val (.int cA), .val (.int cB), .val (.int cC), .val (.ref b6_1), .val (.ref b7_1), .val (.ref ss_1), .val (.int 0), .val (.long mm), .second, .val (.int dd), .val (.int 0)] [(.int 2), (.int zz)]) _
    refine XS.iload X5.here hx rfl (hb hby at_184) rfl ?_
    refine XS.iadd X5.here hx rfl (hb hby at_186) rfl ?_
    show St p e below T5 (mkF m 187 #[.val (.int p1), .val (.int p2), .val (.int 1), .val (.int cA), .val (.int cB), .val (.int cC), .val (.ref b6_1), .val (.ref b7_1), .val (.ref ss_1), .val (.int 0), .val (.long mm), .second, .val (.int dd), .val (.int 0)] [(.int ((2 : Int32) + (0 : Int32))), (.int zz)]) _
    rw [(by decide : ((2 : Int32) + (0 : Int32)) = (2 : Int32))]
    show St p e below T5 (mkF m 187 #[.val (.int p1), .val (.int p2), .val (.int 1), .val (.int cA), .val (.int cB), .val (.int cC), .val (.ref b6_1), .val (.ref b7_1), .val (.ref ss_1), .val (.int 0), .val (.long mm), .second, .val (.int dd), .val (.int 0)] [(.int 2), (.int zz)]) _
    refine XS.iload X5.here hx rfl (hb hby at_187) rfl ?_
    refine XS.iadd X5.here hx rfl (hb hby at_189) rfl ?_
    refine XS.icmpYes X5.here hx rfl (pc0 := 190) (pc' := 195) rfl (hb hby at_190) rfl (teq hlen).1 (by decide) (by decide) ?_
    refine XS.iloadN X5.here hx rfl (hb hby at_195) rfl ?_
    refine XS.ifNo X5.here hx rfl (hb hby at_196) rfl ((if0 _ _).trans (tlt (by decide : (0 : Int32) < (1 : Int32))).2.2.2) ?_
    refine XS.aload X5.here hx rfl (hb hby at_199) rfl rfl ?_
    refine XS.iconst X5.here hx rfl (hb hby at_201) ?_
    refine st6.trans ?_
    show St p e below T6 (mkF m 205 #[.val (.int p1), .val (.int p2), .val (.int 1), .val (.int cA), .val (.int cB), .val (.int cC), .val (.ref b6_1), .val (.ref b7_1), .val (.ref ss_1), .val (.int 0), .val (.long mm), .second, .val (.int dd), .val (.int 0)] [(.int cA)]) _
    refine XS.iloadN X6.here hx rfl (hb hby at_205) rfl ?_
    refine XS.icmpYes X6.here hx rfl (pc0 := 206) (pc' := 211) rfl (hb hby at_206) rfl (teq (rfl : cA = cA)).1 (by decide) (by decide) ?_
    refine XS.iloadN X6.here hx rfl (hb hby at_211) rfl ?_
    refine XS.iconst X6.here hx rfl (hb hby at_212) ?_
    refine XS.icmpYes X6.here hx rfl (pc0 := 213) (pc' := 229) rfl (hb hby at_213) rfl (flt (by decide : ¬ ((1 : Int32) < (1 : Int32)))).2.2.2 (by decide) (by decide) ?_
    refine XS.iloadN X6.here hx rfl (hb hby at_229) rfl ?_
    refine XS.iconst X6.here hx rfl (hb hby at_230) ?_
    refine XS.icmpYes X6.here hx rfl (pc0 := 231) (pc' := 247) rfl (hb hby at_231) rfl (flt (by decide : ¬ ((2 : Int32) < (1 : Int32)))).2.2.2 (by decide) (by decide) ?_
    show St p e below T6 (mkF m 247 #[.val (.int p1), .val (.int p2), .val (.int 1), .val (.int cA), .val (.int cB), .val (.int cC), .val (.ref b6_1), .val (.ref b7_1), .val (.ref ss_1), .val (.int 0), .val (.long mm), .second, .val (.int dd), .val (.int 0)] []) _
    refine XS.aload X6.here hx rfl (hb hby at_247) rfl rfl ?_
    refine XS.iloadN X6.here hx rfl (hb hby at_249) rfl ?_
    refine st7.trans ?_
    refine XS.bipush X7.here hx rfl (hb hby at_253) ?_
    refine XS.icmpYes X7.here hx rfl (pc0 := 255) (pc' := 260) rfl (hb hby at_255) rfl (teq (by decide : (58 : Int32) = (58 : Int32))).1 (by decide) (by decide) ?_
    refine XS.iload X7.here hx rfl (hb hby at_260) rfl ?_
    refine XS.ifYes X7.here hx rfl (pc0 := 262) (pc' := 280) rfl (hb hby at_262) rfl ((if0 _ _).trans (teq (by decide : (0 : Int32) = (0 : Int32))).1) (by decide) (by decide) ?_
    refine st9 _ ?_
    show St p e below T9 (mkF m 419 #[.val (.int p1), .val (.int p2), .val (.int 1), .val (.int cA), .val (.int cB), .val (.int cC), .val (.ref b6_1), .val (.ref b7_1), .val (.ref ss_1), .val (.int 0), .val (.long mm), .second, .val (.int dd), .val (.int 0)] [(.int 1)]) _
    exact retN X9 hx (t := .boolean) Bd.returns (by simp) (hb hby at_419) hr
  · exact ⟨rfl, N9⟩
  · show CHr Z consts_1 s.vm s.heap T9.vm T9.heap
    rw [hh]
    exact CRe
set_option maxRecDepth 65536 in
set_option maxHeartbeats 40000000 in
theorem rm_law_1_1 (l : Launch) (Z : State) (a0 : Array Value) (hw : ∀ d ∈ tables_1, d.before a0 Z = true) (hEL : EW Z a0 consts_1) (ws : List Jvm.Cond) (p1 : Int32) (p2 : Int32) (mm : Int64) (dd : Int32) (w_COMPACT_STRINGS : Int32) (zz : Int32) (n : Nat) (ix : Nat) (cA : Int32) (cB : Int32) (cC : Int32) (w_SIOOBE_FORMATTER : Value) (h0 : Heap) (n0 : Nat) (Z0 : n0 ≤ h0.size) (S_COMPACT_STRINGS : Sta Z Z.heap "java/lang/String" "COMPACT_STRINGS" "Z" (.int w_COMPACT_STRINGS)) (hcs : ¬ (w_COMPACT_STRINGS = (0 : Int32))) (hbcA : ¬ ((255 : Int32) < cA)) (hzz : ((2 : Int32) + (Jvm.Free.SBG.strSizeOf p2)) = zz) (hB : own_B Z) (hN : own_N p2 n 2 ix) (hix : zz = Int32.ofNat ix) (hneg : p2 < (0 : Int32)) (hkcA : (((cA.toInt8.toInt32) &&& (255 : Int32)).toUInt32.toUInt16.toUInt32.toInt32) = cA) (hdg : own_dg mm n dd) (hlen : zz = ((3 : Int32) + dd)) (hk : (p1 &&& (3 : Int32)) = (1 : Int32)) (hcA : ((((p1.toUInt32 >>> ((2 : Int32) &&& 31).toUInt32).toInt32) &&& (255 : Int32)).toUInt32.toUInt16.toUInt32.toInt32) = cA) (hcB : ((((p1.toUInt32 >>> ((10 : Int32) &&& 31).toUInt32).toInt32) &&& (255 : Int32)).toUInt32.toUInt16.toUInt32.toInt32) = cB) (hcC : ((((p1.toUInt32 >>> ((18 : Int32) &&& 31).toUInt32).toInt32) &&& (255 : Int32)).toUInt32.toUInt16.toUInt32.toInt32) = cC) (O0 : Old Z n0 h0) (hncA : (cA.toUInt32.toUInt16.toUInt32.toInt32) = cA) (hmm : (-(p2.toInt64)) = mm) (hr_SIOOBE_FORMATTER : w_SIOOBE_FORMATTER.isRef = true) (S_SIOOBE_FORMATTER : Sta Z Z.heap "jdk/internal/util/Preconditions" "SIOOBE_FORMATTER" "Ljava/util/function/BiFunction;" w_SIOOBE_FORMATTER) :
    MetFree l x (head1 (Jvm.Cond.code x code maxLocals ret :: ws) room_1) (fun a U => a = #[(.int p1), (.int p2)] ∧ Z.Warmed39 U.vm ∧ U.heap = h0 ∧ CHv Z consts_1 U.vm h0) (fun _ _ _ _ _ => True) (fun _ U o U' => ∃ v L, o = .returned v ∧ Q_law n0 v L ∧ CHr Z consts_1 U.vm U.heap U'.vm U'.heap ∧ ReturnedEndW U o U' L room_1.cells room_1.slots) := by
  refine MetFree.of_bodySF (plainFor_of_name pn_0) hisR ?_
  intro p e s m args below meth c s₁ Bd hml0 hP hK
  obtain ⟨rfl, hZ, hh, H0c⟩ := hP
  have hx := Bd.exec
  have hby := Bd.bytes
  have hml : c.maxLocals = 14 := hml0
  have hown : s.vm.findClass "com/example/demarc/demarc/tool/AccountToStringPinLaw" = some m.cls := findClass_of_methodNamed Bd.named
  have hnm := (name_of_methodNamed Bd.named Bd.method).1
  have X0 : Stand p l e room_1 (s.setVm s.vm) m #[(.int p1), (.int p2)] below meth c s₁ [] 0 0 := Stand.of_body Bd
  have e0 : s₁.heap = h0 := by rw [← hh, Bd.state]; rfl
  have N0 := Fr.nil n0
  have pre0 : ∀ t, Steps p.tables e below (s₁.setTop (mkF m 0 #[.val (.int p1), .val (.int p2), .unset, .unset, .unset, .unset, .unset, .unset, .unset, .unset, .unset, .unset, .unset, .unset] [])) t → Steps p.tables e below (s₁.setTop (entryFrame m #[(.int p1), (.int p2)] maxLocals)) t := fun t k => castTop (ef_0_II m p1 p2) k
  have hS0 : s.Since s.vm 0 := (State.WarmedH.refl s).since 0
  have hk0 : 0 ≤ h0.size := Nat.zero_le _
  have C0c : CHr Z consts_1 s.vm h0 s.vm h0 := CHr.refl H0c
  obtain ⟨T1, L1, vm1, j1, b6_1, b7_1, ss_1, tt_1, kt_1, vs_1, X1, N1, Kc1, hS1, hk1, hZ1, ho1, C1, g1_0, g1_1, g1_2, g1_3, g1_4, g1_5, st1⟩ := sg_front_1 p1 p2 w_COMPACT_STRINGS zz n ix cA cB cC X0 hx hZ hw hby hml hown e0 N0 Z0 hEL hS0 hk0 H0c S_COMPACT_STRINGS hcs hbcA hzz hB hN hix hk hcA hcB hcC O0 hncA
  have R2 := C1
  have CR2 := C0c.trans R2
  have sz3 : h0.size ≤ T1.heap.size := Kc1.1
  have Z3 : n0 ≤ T1.heap.size := Nat.le_trans Z0 sz3
  have O3 := O0.keep Kc1 all0
  have K3 : Keep h0 T1.heap [] := (Keep.refl h0 []).trans Kc1 (all0)
  have bn_ss_1 : h0.size ≤ ss_1 := g1_0
  obtain ⟨_, _, ⟨T4, L4, k4, n4⟩, -, X4, ⟨Lc4, hQ4, l4, y4, z4⟩, st4⟩ := Jvm.LawKit.callS X1 hx (y := mn38) ho1 (mvT hZ1 (hwi hw 173 rfl)) (mvT hZ1 (hwi hw 174 rfl)) (mvT hZ1 (hwi hw 175 rfl)) (mvT hZ1 (hwi hw 176 rfl)) (by decide) (backOf (W := 0) (rm_digs l Z a0 hw [] mm n dd T1.heap n0 Z3 hdg) hZ1 (hwi hw 176 rfl) (hwi hw 175 rfl) (by decide) (by decide)) (g := (mkF m 159 #[.val (.int p1), .val (.int p2), .val (.int 1), .val (.int cA), .val (.int cB), .val (.int cC), .val (.ref b6_1), .val (.ref b7_1), .val (.ref ss_1), .val (.int 1), .val (.long mm), .second, .unset, .unset] [(.long mm)])) rfl (by rw [hml]; rfl) (argsL := [(.long mm)]) (rest := []) (lenOf pd_J_I_228 rfl) rfl (by show 2 * 0 + _ ≤ _; exact Nat.le_of_eq rfl) (hb hby at_159) (fun _ _ => ⟨rfl, rfl, (by decide : 10 + 0 ≤ _), (by decide : 56 + 0 ≤ _)⟩)
  dsimp only [Pt.U, Pt.locs, Pt.cells, Pt.slots] at X4 l4 y4 z4 st4 hQ4
  subst l4 y4 z4
  obtain ⟨rfl, N4q, e4⟩ := hQ4
  have N4 := Fr.app N1 N4q
  obtain ⟨cq5, kq5, q5a, q5b, q5c⟩ := isOf hZ1 e4 g1_1
  obtain ⟨_, _, ⟨T5, L5, k5, n5⟩, -, X5, ⟨Lc5, hQ5, l5, y5, z5⟩, st5⟩ := X4.virtualBack hx (y := mn6) (z := mn6) ho1 (mvT hZ1 (hwi hw 178 rfl)) (mvT hZ1 (hwi hw 72 rfl)) (notFace_of_selects (args := #[]) (mvT hZ1 (hwi hw 74 rfl))) (mvT hZ1 (hwi hw 74 rfl)) (mvT hZ1 (hwi hw 73 rfl)) (by decide) (backOf (W := 0) (rm_slen l Z a0 hw [] ss_1 w_COMPACT_STRINGS tt_1 kt_1 vs_1 zz T1.heap n0 Z3 S_COMPACT_STRINGS hcs g1_1 g1_2 g1_3 g1_4 O3 (own_sh zz)) hZ1 (hwi hw 75 rfl) (hwi hw 3 rfl) (by decide) (by decide)) q5a q5c (g := (mkF m 178 #[.val (.int p1), .val (.int p2), .val (.int 1), .val (.int cA), .val (.int cB), .val (.int cC), .val (.ref b6_1), .val (.ref b7_1), .val (.ref ss_1), .val (.int 1), .val (.long mm), .second, .val (.int dd), .val (.int 1)] [(.ref ss_1)])) rfl (by rw [hml]; rfl) (Steps.refl _) (argsL := []) (rest := []) (lenOf pd_I_154 rfl) rfl (by show 2 * 0 + _ ≤ _; exact Nat.le_of_eq rfl) (hb hby at_178) (fun _ _ => ⟨rfl, e4, (by decide : 10 + 0 ≤ _), (by decide : 56 + 0 ≤ _)⟩)
  dsimp only [Pt.U, Pt.locs, Pt.cells, Pt.slots] at X5 l5 y5 z5 st5 hQ5
  subst l5 y5 z5
  obtain ⟨rfl, N5q, e5⟩ := hQ5
  have N5 := Fr.app N4 N5q
  obtain ⟨cq6, kq6, q6a, q6b, q6c⟩ := isOf hZ1 e5 g1_1
  obtain ⟨_, _, ⟨T6, L6, k6, n6⟩, -, X6, ⟨Lc6, hQ6, l6, y6, z6⟩, st6⟩ := X5.virtualBack hx (y := mn11) (z := mn11) ho1 (mvT hZ1 (hwi hw 179 rfl)) (mvT hZ1 (hwi hw 180 rfl)) (notFace_of_selects (args := #[]) (mvT hZ1 (hwi hw 182 rfl))) (mvT hZ1 (hwi hw 182 rfl)) (mvT hZ1 (hwi hw 181 rfl)) (by decide) (backOf (W := 0) (rm_schr l Z a0 hw [] ss_1 (0 : Int32) w_COMPACT_STRINGS tt_1 kt_1 vs_1 zz (cA.toInt8.toInt32) cA w_SIOOBE_FORMATTER T1.heap n0 Z3 S_COMPACT_STRINGS hcs g1_1 g1_2 g1_3 g1_4 (by decide : ¬ ((0 : Int32) < (0 : Int32))) (own_lt hN hix (j := 0) (by decide)) (g1_5.1 0 (by decide)) O3 hr_SIOOBE_FORMATTER S_SIOOBE_FORMATTER hkcA hncA) hZ1 (hwi hw 183 rfl) (hwi hw 3 rfl) (by decide) (by decide)) q6a q6c (g := (mkF m 202 #[.val (.int p1), .val (.int p2), .val (.int 1), .val (.int cA), .val (.int cB), .val (.int cC), .val (.ref b6_1), .val (.ref b7_1), .val (.ref ss_1), .val (.int 1), .val (.long mm), .second, .val (.int dd), .val (.int 1)] [(.int 0), (.ref ss_1)])) rfl (by rw [hml]; rfl) (Steps.refl _) (argsL := [(.int 0)]) (rest := []) (lenOf pd_I_C_221 rfl) rfl (by show 2 * 0 + _ ≤ _; exact Nat.le_of_eq rfl) (hb hby at_202) (fun _ _ => ⟨rfl, e5, (by decide : 10 + 0 ≤ _), (by decide : 56 + 0 ≤ _)⟩)
  dsimp only [Pt.U, Pt.locs, Pt.cells, Pt.slots] at X6 l6 y6 z6 st6 hQ6
  subst l6 y6 z6
  obtain ⟨rfl, N6q, e6⟩ := hQ6
  have N6 := Fr.app N5 N6q
  obtain ⟨cq7, kq7, q7a, q7b, q7c⟩ := isOf hZ1 e6 g1_1
  obtain ⟨_, _, ⟨T7, L7, k7, n7⟩, -, X7, ⟨Lc7, hQ7, l7, y7, z7⟩, st7⟩ := X6.virtualBack hx (y := mn11) (z := mn11) ho1 (mvT hZ1 (hwi hw 179 rfl)) (mvT hZ1 (hwi hw 180 rfl)) (notFace_of_selects (args := #[]) (mvT hZ1 (hwi hw 182 rfl))) (mvT hZ1 (hwi hw 182 rfl)) (mvT hZ1 (hwi hw 181 rfl)) (by decide) (backOf (W := 0) (rm_schr l Z a0 hw [] ss_1 (1 : Int32) w_COMPACT_STRINGS tt_1 kt_1 vs_1 zz (58 : Int32) (58 : Int32) w_SIOOBE_FORMATTER T1.heap n0 Z3 S_COMPACT_STRINGS hcs g1_1 g1_2 g1_3 g1_4 (by decide : ¬ ((1 : Int32) < (0 : Int32))) (own_lt hN hix (j := 1) (by decide)) (g1_5.1 1 (by decide)) O3 hr_SIOOBE_FORMATTER S_SIOOBE_FORMATTER (by decide : (((58 : Int32) &&& (255 : Int32)).toUInt32.toUInt16.toUInt32.toInt32) = (58 : Int32)) (by decide : ((58 : Int32).toUInt32.toUInt16.toUInt32.toInt32) = (58 : Int32))) hZ1 (hwi hw 183 rfl) (hwi hw 3 rfl) (by decide) (by decide)) q7a q7c (g := (mkF m 250 #[.val (.int p1), .val (.int p2), .val (.int 1), .val (.int cA), .val (.int cB), .val (.int cC), .val (.ref b6_1), .val (.ref b7_1), .val (.ref ss_1), .val (.int 1), .val (.long mm), .second, .val (.int dd), .val (.int 1)] [(.int 1), (.ref ss_1)])) rfl (by rw [hml]; rfl) (Steps.refl _) (argsL := [(.int 1)]) (rest := []) (lenOf pd_I_C_221 rfl) rfl (by show 2 * 0 + _ ≤ _; exact Nat.le_of_eq rfl) (hb hby at_250) (fun _ _ => ⟨rfl, e6, (by decide : 10 + 0 ≤ _), (by decide : 56 + 0 ≤ _)⟩)
  dsimp only [Pt.U, Pt.locs, Pt.cells, Pt.slots] at X7 l7 y7 z7 st7 hQ7
  subst l7 y7 z7
  obtain ⟨rfl, N7q, e7⟩ := hQ7
  have N7 := Fr.app N6 N7q
  obtain ⟨cq8, kq8, q8a, q8b, q8c⟩ := isOf hZ1 e7 g1_1
  obtain ⟨_, _, ⟨T8, L8, k8, n8⟩, -, X8, ⟨Lc8, hQ8, l8, y8, z8⟩, st8⟩ := X7.virtualBack hx (y := mn11) (z := mn11) ho1 (mvT hZ1 (hwi hw 179 rfl)) (mvT hZ1 (hwi hw 180 rfl)) (notFace_of_selects (args := #[]) (mvT hZ1 (hwi hw 182 rfl))) (mvT hZ1 (hwi hw 182 rfl)) (mvT hZ1 (hwi hw 181 rfl)) (by decide) (backOf (W := 0) (rm_schr l Z a0 hw [] ss_1 (2 : Int32) w_COMPACT_STRINGS tt_1 kt_1 vs_1 zz (45 : Int32) (45 : Int32) w_SIOOBE_FORMATTER T1.heap n0 Z3 S_COMPACT_STRINGS hcs g1_1 g1_2 g1_3 g1_4 (by decide : ¬ ((2 : Int32) < (0 : Int32))) (own_lt hN hix (j := 2) (by decide)) (g1_5.2.1 hneg) O3 hr_SIOOBE_FORMATTER S_SIOOBE_FORMATTER (by decide : (((45 : Int32) &&& (255 : Int32)).toUInt32.toUInt16.toUInt32.toInt32) = (45 : Int32)) (by decide : ((45 : Int32).toUInt32.toUInt16.toUInt32.toInt32) = (45 : Int32))) hZ1 (hwi hw 183 rfl) (hwi hw 3 rfl) (by decide) (by decide)) q8a q8c (g := (mkF m 270 #[.val (.int p1), .val (.int p2), .val (.int 1), .val (.int cA), .val (.int cB), .val (.int cC), .val (.ref b6_1), .val (.ref b7_1), .val (.ref ss_1), .val (.int 1), .val (.long mm), .second, .val (.int dd), .val (.int 1)] [(.int 2), (.ref ss_1)])) rfl (by rw [hml]; rfl) (Steps.refl _) (argsL := [(.int 2)]) (rest := []) (lenOf pd_I_C_221 rfl) rfl (by show 2 * 0 + _ ≤ _; exact Nat.le_of_eq rfl) (hb hby at_270) (fun _ _ => ⟨rfl, e7, (by decide : 10 + 0 ≤ _), (by decide : 56 + 0 ≤ _)⟩)
  dsimp only [Pt.U, Pt.locs, Pt.cells, Pt.slots] at X8 l8 y8 z8 st8 hQ8
  subst l8 y8 z8
  obtain ⟨rfl, N8q, e8⟩ := hQ8
  have N8 := Fr.app N7 N8q
  have X9 := X8.more (cells' := 13) (slots' := 62) (by decide) (by decide)
  obtain ⟨T10, L10, vm10, j10, X10, N10, Kc10, hS10, hk10, hZ10, ho10, C10, st10⟩ := sg_tail p1 p2 (1 : Int32) cA cB cC b6_1 b7_1 ss_1 (1 : Int32) mm dd (1 : Int32) w_COMPACT_STRINGS tt_1 kt_1 vs_1 zz w_SIOOBE_FORMATTER X9 hx hZ1 hw hby hml ho1 e8 N8 Z3 hEL hS1 hk1 R2.1 S_COMPACT_STRINGS hcs g1_1 g1_2 g1_3 g1_4 (own_all g1_5 hN hix hdg) O3 hr_SIOOBE_FORMATTER S_SIOOBE_FORMATTER
  have R11 := C10
  have CR11 := CR2.trans R11
  have sz12 : T1.heap.size ≤ T10.heap.size := Kc10.1
  have Z12 : n0 ≤ T10.heap.size := Nat.le_trans Z3 sz12
  have O12 := O3.keep Kc10 all0
  have K12 : Keep h0 T10.heap [] := K3.trans Kc10 (all0)
  have CRe := CR11.trans (CHv.at X10 hZ10 hEL R11.1)
  obtain ⟨fs, hr, hrun, hended, hRE⟩ := X10.leaveW hS10 hk10 (v := some (.int 1)) (fun h => by rw [Bd.returns] at h; cases h)
  refine ⟨_, _, pre0 _ ?_, hrun, hended, _, _, rfl, ?_, ?_, ⟨hRE.1, hRE.2.1, hRE.2.2.1, hRE.2.2.2.mono (by decide) (by decide)⟩⟩
  · show St p e below s₁ (mkF m 0 #[.val (.int p1), .val (.int p2), .unset, .unset, .unset, .unset, .unset, .unset, .unset, .unset, .unset, .unset, .unset, .unset] []) _
    refine st1 _ ?_
    refine XS.iloadN X1.here hx rfl (hb hby at_131) rfl ?_
    refine XS.ifNo X1.here hx rfl (hb hby at_132) rfl ((if0 _ _).trans (tlt hneg).2.1) ?_
    refine XS.iconst X1.here hx rfl (hb hby at_135) ?_
    refine XS.goto X1.here hx rfl (pc0 := 136) (pc' := 140) rfl (hb hby at_136) (by decide) (by decide) ?_
    refine XS.istore X1.here hx rfl (hb hby at_140) rfl (l' := #[.val (.int p1), .val (.int p2), .val (.int 1), .val (.int cA), .val (.int cB), .val (.int cC), .val (.ref b6_1), .val (.ref b7_1), .val (.ref ss_1), .val (.int 1), .unset, .unset, .unset, .unset]) rfl ?_
    refine XS.iload X1.here hx rfl (hb hby at_142) rfl ?_
    refine XS.ifNo X1.here hx rfl (hb hby at_144) rfl ((if0 _ _).trans (feq (by decide : ¬ ((1 : Int32) = (0 : Int32)))).1) ?_
    show St p e below T1 (mkF m 147 #[.val (.int p1), .val (.int p2), .val (.int 1), .val (.int cA), .val (.int cB), .val (.int cC), .val (.ref b6_1), .val (.ref b7_1), .val (.ref ss_1), .val (.int 1), .unset, .unset, .unset, .unset] []) _
    refine XS.iloadN X1.here hx rfl (hb hby at_147) rfl ?_
    refine XS.i2l X1.here hx rfl (hb hby at_148) rfl ?_
    refine XS.lneg X1.here hx rfl (hb hby at_149) rfl ?_
    show St p e below T1 (mkF m 150 #[.val (.int p1), .val (.int p2), .val (.int 1), .val (.int cA), .val (.int cB), .val (.int cC), .val (.ref b6_1), .val (.ref b7_1), .val (.ref ss_1), .val (.int 1), .unset, .unset, .unset, .unset] [(.long (-(p2.toInt64)))]) _
    rw [hmm]
    show St p e below T1 (mkF m 150 #[.val (.int p1), .val (.int p2), .val (.int 1), .val (.int cA), .val (.int cB), .val (.int cC), .val (.ref b6_1), .val (.ref b7_1), .val (.ref ss_1), .val (.int 1), .unset, .unset, .unset, .unset] [(.long mm)]) _
    refine XS.goto X1.here hx rfl (pc0 := 150) (pc' := 155) rfl (hb hby at_150) (by decide) (by decide) ?_
    refine XS.lstore X1.here hx rfl (hb hby at_155) rfl (l' := #[.val (.int p1), .val (.int p2), .val (.int 1), .val (.int cA), .val (.int cB), .val (.int cC), .val (.ref b6_1), .val (.ref b7_1), .val (.ref ss_1), .val (.int 1), .val (.long mm), .second, .unset, .unset]) rfl ?_
    refine XS.lload X1.here hx rfl (hb hby at_157) rfl ?_
    refine st4 _ ?_
    refine XS.istore X4.here hx rfl (hb hby at_162) rfl (l' := #[.val (.int p1), .val (.int p2), .val (.int 1), .val (.int cA), .val (.int cB), .val (.int cC), .val (.ref b6_1), .val (.ref b7_1), .val (.ref ss_1), .val (.int 1), .val (.long mm), .second, .val (.int dd), .unset]) rfl ?_
    refine XS.iload X4.here hx rfl (hb hby at_164) rfl ?_
    refine XS.ifNo X4.here hx rfl (hb hby at_166) rfl ((if0 _ _).trans (feq (by decide : ¬ ((1 : Int32) = (0 : Int32)))).1) ?_
    refine XS.iconst X4.here hx rfl (hb hby at_169) ?_
    show St p e below T4 (mkF m 170 #[.val (.int p1), .val (.int p2), .val (.int 1), .val (.int cA), .val (.int cB), .val (.int cC), .val (.ref b6_1), .val (.ref b7_1), .val (.ref ss_1), .val (.int 1), .val (.long mm), .second, .val (.int dd), .unset] [(.int 1)]) _
    refine XS.goto X4.here hx rfl (pc0 := 170) (pc' := 174) rfl (hb hby at_170) (by decide) (by decide) ?_
    refine XS.istore X4.here hx rfl (hb hby at_174) rfl (l' := #[.val (.int p1), .val (.int p2), .val (.int 1), .val (.int cA), .val (.int cB), .val (.int cC), .val (.ref b6_1), .val (.ref b7_1), .val (.ref ss_1), .val (.int 1), .val (.long mm), .second, .val (.int dd), .val (.int 1)]) rfl ?_
    refine XS.aload X4.here hx rfl (hb hby at_176) rfl rfl ?_
    refine st5.trans ?_
    refine XS.iloadN X5.here hx rfl (hb hby at_181) rfl ?_
    refine XS.iconst X5.here hx rfl (hb hby at_182) ?_
    refine XS.iadd X5.here hx rfl (hb hby at_183) rfl ?_
    show St p e below T5 (mkF m 184 #[.val (.int p1), .val (.int p2), .val (.int 1), .val (.int cA), .val (.int cB), .val (.int cC), .val (.ref b6_1), .val (.ref b7_1), .val (.ref ss_1), .val (.int 1), .val (.long mm), .second, .val (.int dd), .val (.int 1)] [(.int ((1 : Int32) + (1 : Int32))), (.int zz)]) _
    rw [(by decide : ((1 : Int32) + (1 : Int32)) = (2 : Int32))]
    show St p e below T5 (mkF m 184 #[.val (.int p1), .val (.int p2), .val (.int 1), .val (.int cA), .val (.int cB), .val (.int cC), .val (.ref b6_1), .val (.ref b7_1), .val (.ref ss_1), .val (.int 1), .val (.long mm), .second, .val (.int dd), .val (.int 1)] [(.int 2), (.int zz)]) _
    refine XS.iload X5.here hx rfl (hb hby at_184) rfl ?_
    refine XS.iadd X5.here hx rfl (hb hby at_186) rfl ?_
    show St p e below T5 (mkF m 187 #[.val (.int p1), .val (.int p2), .val (.int 1), .val (.int cA), .val (.int cB), .val (.int cC), .val (.ref b6_1), .val (.ref b7_1), .val (.ref ss_1), .val (.int 1), .val (.long mm), .second, .val (.int dd), .val (.int 1)] [(.int ((2 : Int32) + (1 : Int32))), (.int zz)]) _
    rw [(by decide : ((2 : Int32) + (1 : Int32)) = (3 : Int32))]
    show St p e below T5 (mkF m 187 #[.val (.int p1), .val (.int p2), .val (.int 1), .val (.int cA), .val (.int cB), .val (.int cC), .val (.ref b6_1), .val (.ref b7_1), .val (.ref ss_1), .val (.int 1), .val (.long mm), .second, .val (.int dd), .val (.int 1)] [(.int 3), (.int zz)]) _
    refine XS.iload X5.here hx rfl (hb hby at_187) rfl ?_
    refine XS.iadd X5.here hx rfl (hb hby at_189) rfl ?_
    refine XS.icmpYes X5.here hx rfl (pc0 := 190) (pc' := 195) rfl (hb hby at_190) rfl (teq hlen).1 (by decide) (by decide) ?_
    refine XS.iloadN X5.here hx rfl (hb hby at_195) rfl ?_
    refine XS.ifNo X5.here hx rfl (hb hby at_196) rfl ((if0 _ _).trans (tlt (by decide : (0 : Int32) < (1 : Int32))).2.2.2) ?_
    refine XS.aload X5.here hx rfl (hb hby at_199) rfl rfl ?_
    refine XS.iconst X5.here hx rfl (hb hby at_201) ?_
    refine st6.trans ?_
    show St p e below T6 (mkF m 205 #[.val (.int p1), .val (.int p2), .val (.int 1), .val (.int cA), .val (.int cB), .val (.int cC), .val (.ref b6_1), .val (.ref b7_1), .val (.ref ss_1), .val (.int 1), .val (.long mm), .second, .val (.int dd), .val (.int 1)] [(.int cA)]) _
    refine XS.iloadN X6.here hx rfl (hb hby at_205) rfl ?_
    refine XS.icmpYes X6.here hx rfl (pc0 := 206) (pc' := 211) rfl (hb hby at_206) rfl (teq (rfl : cA = cA)).1 (by decide) (by decide) ?_
    refine XS.iloadN X6.here hx rfl (hb hby at_211) rfl ?_
    refine XS.iconst X6.here hx rfl (hb hby at_212) ?_
    refine XS.icmpYes X6.here hx rfl (pc0 := 213) (pc' := 229) rfl (hb hby at_213) rfl (flt (by decide : ¬ ((1 : Int32) < (1 : Int32)))).2.2.2 (by decide) (by decide) ?_
    refine XS.iloadN X6.here hx rfl (hb hby at_229) rfl ?_
    refine XS.iconst X6.here hx rfl (hb hby at_230) ?_
    refine XS.icmpYes X6.here hx rfl (pc0 := 231) (pc' := 247) rfl (hb hby at_231) rfl (flt (by decide : ¬ ((2 : Int32) < (1 : Int32)))).2.2.2 (by decide) (by decide) ?_
    show St p e below T6 (mkF m 247 #[.val (.int p1), .val (.int p2), .val (.int 1), .val (.int cA), .val (.int cB), .val (.int cC), .val (.ref b6_1), .val (.ref b7_1), .val (.ref ss_1), .val (.int 1), .val (.long mm), .second, .val (.int dd), .val (.int 1)] []) _
    refine XS.aload X6.here hx rfl (hb hby at_247) rfl rfl ?_
    refine XS.iloadN X6.here hx rfl (hb hby at_249) rfl ?_
    refine st7.trans ?_
    refine XS.bipush X7.here hx rfl (hb hby at_253) ?_
    refine XS.icmpYes X7.here hx rfl (pc0 := 255) (pc' := 260) rfl (hb hby at_255) rfl (teq (by decide : (58 : Int32) = (58 : Int32))).1 (by decide) (by decide) ?_
    refine XS.iload X7.here hx rfl (hb hby at_260) rfl ?_
    refine XS.ifNo X7.here hx rfl (hb hby at_262) rfl ((if0 _ _).trans (feq (by decide : ¬ ((1 : Int32) = (0 : Int32)))).1) ?_
    refine XS.aload X7.here hx rfl (hb hby at_265) rfl rfl ?_
    show St p e below T7 (mkF m 267 #[.val (.int p1), .val (.int p2), .val (.int 1), .val (.int cA), .val (.int cB), .val (.int cC), .val (.ref b6_1), .val (.ref b7_1), .val (.ref ss_1), .val (.int 1), .val (.long mm), .second, .val (.int dd), .val (.int 1)] [(.ref ss_1)]) _
    refine XS.iloadN X7.here hx rfl (hb hby at_267) rfl ?_
    refine XS.iconst X7.here hx rfl (hb hby at_268) ?_
    refine XS.iadd X7.here hx rfl (hb hby at_269) rfl ?_
    show St p e below T7 (mkF m 270 #[.val (.int p1), .val (.int p2), .val (.int 1), .val (.int cA), .val (.int cB), .val (.int cC), .val (.ref b6_1), .val (.ref b7_1), .val (.ref ss_1), .val (.int 1), .val (.long mm), .second, .val (.int dd), .val (.int 1)] [(.int ((1 : Int32) + (1 : Int32))), (.ref ss_1)]) _
    rw [(by decide : ((1 : Int32) + (1 : Int32)) = (2 : Int32))]
    show St p e below T7 (mkF m 270 #[.val (.int p1), .val (.int p2), .val (.int 1), .val (.int cA), .val (.int cB), .val (.int cC), .val (.ref b6_1), .val (.ref b7_1), .val (.ref ss_1), .val (.int 1), .val (.long mm), .second, .val (.int dd), .val (.int 1)] [(.int 2), (.ref ss_1)]) _
    refine st8.trans ?_
    refine XS.bipush X8.here hx rfl (hb hby at_273) ?_
    refine XS.icmpYes X8.here hx rfl (pc0 := 275) (pc' := 280) rfl (hb hby at_275) rfl (teq (by decide : (45 : Int32) = (45 : Int32))).1 (by decide) (by decide) ?_
    refine st10 _ ?_
    show St p e below T10 (mkF m 419 #[.val (.int p1), .val (.int p2), .val (.int 1), .val (.int cA), .val (.int cB), .val (.int cC), .val (.ref b6_1), .val (.ref b7_1), .val (.ref ss_1), .val (.int 1), .val (.long mm), .second, .val (.int dd), .val (.int 1)] [(.int 1)]) _
    exact retN X10 hx (t := .boolean) Bd.returns (by simp) (hb hby at_419) hr
  · exact ⟨rfl, N10⟩
  · show CHr Z consts_1 s.vm s.heap T10.vm T10.heap
    rw [hh]
    exact CRe
set_option maxRecDepth 65536 in
set_option maxHeartbeats 40000000 in
theorem rm_law_2_0 (l : Launch) (Z : State) (a0 : Array Value) (hw : ∀ d ∈ tables_1, d.before a0 Z = true) (hEL : EW Z a0 consts_1) (ws : List Jvm.Cond) (p1 : Int32) (p2 : Int32) (mm : Int64) (dd : Int32) (w_COMPACT_STRINGS : Int32) (zz : Int32) (n : Nat) (ix : Nat) (cA : Int32) (cB : Int32) (cC : Int32) (w_SIOOBE_FORMATTER : Value) (h0 : Heap) (n0 : Nat) (Z0 : n0 ≤ h0.size) (S_COMPACT_STRINGS : Sta Z Z.heap "java/lang/String" "COMPACT_STRINGS" "Z" (.int w_COMPACT_STRINGS)) (hcs : ¬ (w_COMPACT_STRINGS = (0 : Int32))) (hbcA : ¬ ((255 : Int32) < cA)) (hbcB : ¬ ((255 : Int32) < cB)) (hzz : ((3 : Int32) + (Jvm.Free.SBG.strSizeOf p2)) = zz) (hB : own_B Z) (hN : own_N p2 n 3 ix) (hix : zz = Int32.ofNat ix) (hneg : ¬ (p2 < (0 : Int32))) (hkcA : (((cA.toInt8.toInt32) &&& (255 : Int32)).toUInt32.toUInt16.toUInt32.toInt32) = cA) (hkcB : (((cB.toInt8.toInt32) &&& (255 : Int32)).toUInt32.toUInt16.toUInt32.toInt32) = cB) (hdg : own_dg mm n dd) (hlen : zz = ((3 : Int32) + dd)) (hk : (p1 &&& (3 : Int32)) = (2 : Int32)) (hcA : ((((p1.toUInt32 >>> ((2 : Int32) &&& 31).toUInt32).toInt32) &&& (255 : Int32)).toUInt32.toUInt16.toUInt32.toInt32) = cA) (hcB : ((((p1.toUInt32 >>> ((10 : Int32) &&& 31).toUInt32).toInt32) &&& (255 : Int32)).toUInt32.toUInt16.toUInt32.toInt32) = cB) (hcC : ((((p1.toUInt32 >>> ((18 : Int32) &&& 31).toUInt32).toInt32) &&& (255 : Int32)).toUInt32.toUInt16.toUInt32.toInt32) = cC) (O0 : Old Z n0 h0) (hncA : (cA.toUInt32.toUInt16.toUInt32.toInt32) = cA) (hncB : (cB.toUInt32.toUInt16.toUInt32.toInt32) = cB) (hmm : (p2.toInt64) = mm) (hr_SIOOBE_FORMATTER : w_SIOOBE_FORMATTER.isRef = true) (S_SIOOBE_FORMATTER : Sta Z Z.heap "jdk/internal/util/Preconditions" "SIOOBE_FORMATTER" "Ljava/util/function/BiFunction;" w_SIOOBE_FORMATTER) :
    MetFree l x (head1 (Jvm.Cond.code x code maxLocals ret :: ws) room_1) (fun a U => a = #[(.int p1), (.int p2)] ∧ Z.Warmed39 U.vm ∧ U.heap = h0 ∧ CHv Z consts_1 U.vm h0) (fun _ _ _ _ _ => True) (fun _ U o U' => ∃ v L, o = .returned v ∧ Q_law n0 v L ∧ CHr Z consts_1 U.vm U.heap U'.vm U'.heap ∧ ReturnedEndW U o U' L room_1.cells room_1.slots) := by
  refine MetFree.of_bodySF (plainFor_of_name pn_0) hisR ?_
  intro p e s m args below meth c s₁ Bd hml0 hP hK
  obtain ⟨rfl, hZ, hh, H0c⟩ := hP
  have hx := Bd.exec
  have hby := Bd.bytes
  have hml : c.maxLocals = 14 := hml0
  have hown : s.vm.findClass "com/example/demarc/demarc/tool/AccountToStringPinLaw" = some m.cls := findClass_of_methodNamed Bd.named
  have hnm := (name_of_methodNamed Bd.named Bd.method).1
  have X0 : Stand p l e room_1 (s.setVm s.vm) m #[(.int p1), (.int p2)] below meth c s₁ [] 0 0 := Stand.of_body Bd
  have e0 : s₁.heap = h0 := by rw [← hh, Bd.state]; rfl
  have N0 := Fr.nil n0
  have pre0 : ∀ t, Steps p.tables e below (s₁.setTop (mkF m 0 #[.val (.int p1), .val (.int p2), .unset, .unset, .unset, .unset, .unset, .unset, .unset, .unset, .unset, .unset, .unset, .unset] [])) t → Steps p.tables e below (s₁.setTop (entryFrame m #[(.int p1), (.int p2)] maxLocals)) t := fun t k => castTop (ef_0_II m p1 p2) k
  have hS0 : s.Since s.vm 0 := (State.WarmedH.refl s).since 0
  have hk0 : 0 ≤ h0.size := Nat.zero_le _
  have C0c : CHr Z consts_1 s.vm h0 s.vm h0 := CHr.refl H0c
  obtain ⟨T1, L1, vm1, j1, b6_1, b7_1, ss_1, tt_1, kt_1, vs_1, X1, N1, Kc1, hS1, hk1, hZ1, ho1, C1, g1_0, g1_1, g1_2, g1_3, g1_4, g1_5, st1⟩ := sg_front_2 p1 p2 w_COMPACT_STRINGS zz n ix cA cB cC X0 hx hZ hw hby hml hown e0 N0 Z0 hEL hS0 hk0 H0c S_COMPACT_STRINGS hcs hbcA hbcB hzz hB hN hix hk hcA hcB hcC O0 hncA hncB
  have R2 := C1
  have CR2 := C0c.trans R2
  have sz3 : h0.size ≤ T1.heap.size := Kc1.1
  have Z3 : n0 ≤ T1.heap.size := Nat.le_trans Z0 sz3
  have O3 := O0.keep Kc1 all0
  have K3 : Keep h0 T1.heap [] := (Keep.refl h0 []).trans Kc1 (all0)
  have bn_ss_1 : h0.size ≤ ss_1 := g1_0
  obtain ⟨_, _, ⟨T4, L4, k4, n4⟩, -, X4, ⟨Lc4, hQ4, l4, y4, z4⟩, st4⟩ := Jvm.LawKit.callS X1 hx (y := mn38) ho1 (mvT hZ1 (hwi hw 173 rfl)) (mvT hZ1 (hwi hw 174 rfl)) (mvT hZ1 (hwi hw 175 rfl)) (mvT hZ1 (hwi hw 176 rfl)) (by decide) (backOf (W := 0) (rm_digs l Z a0 hw [] mm n dd T1.heap n0 Z3 hdg) hZ1 (hwi hw 176 rfl) (hwi hw 175 rfl) (by decide) (by decide)) (g := (mkF m 159 #[.val (.int p1), .val (.int p2), .val (.int 2), .val (.int cA), .val (.int cB), .val (.int cC), .val (.ref b6_1), .val (.ref b7_1), .val (.ref ss_1), .val (.int 0), .val (.long mm), .second, .unset, .unset] [(.long mm)])) rfl (by rw [hml]; rfl) (argsL := [(.long mm)]) (rest := []) (lenOf pd_J_I_228 rfl) rfl (by show 2 * 0 + _ ≤ _; exact Nat.le_of_eq rfl) (hb hby at_159) (fun _ _ => ⟨rfl, rfl, (by decide : 10 + 0 ≤ _), (by decide : 58 + 0 ≤ _)⟩)
  dsimp only [Pt.U, Pt.locs, Pt.cells, Pt.slots] at X4 l4 y4 z4 st4 hQ4
  subst l4 y4 z4
  obtain ⟨rfl, N4q, e4⟩ := hQ4
  have N4 := Fr.app N1 N4q
  obtain ⟨cq5, kq5, q5a, q5b, q5c⟩ := isOf hZ1 e4 g1_1
  obtain ⟨_, _, ⟨T5, L5, k5, n5⟩, -, X5, ⟨Lc5, hQ5, l5, y5, z5⟩, st5⟩ := X4.virtualBack hx (y := mn6) (z := mn6) ho1 (mvT hZ1 (hwi hw 178 rfl)) (mvT hZ1 (hwi hw 72 rfl)) (notFace_of_selects (args := #[]) (mvT hZ1 (hwi hw 74 rfl))) (mvT hZ1 (hwi hw 74 rfl)) (mvT hZ1 (hwi hw 73 rfl)) (by decide) (backOf (W := 0) (rm_slen l Z a0 hw [] ss_1 w_COMPACT_STRINGS tt_1 kt_1 vs_1 zz T1.heap n0 Z3 S_COMPACT_STRINGS hcs g1_1 g1_2 g1_3 g1_4 O3 (own_sh zz)) hZ1 (hwi hw 75 rfl) (hwi hw 3 rfl) (by decide) (by decide)) q5a q5c (g := (mkF m 178 #[.val (.int p1), .val (.int p2), .val (.int 2), .val (.int cA), .val (.int cB), .val (.int cC), .val (.ref b6_1), .val (.ref b7_1), .val (.ref ss_1), .val (.int 0), .val (.long mm), .second, .val (.int dd), .val (.int 0)] [(.ref ss_1)])) rfl (by rw [hml]; rfl) (Steps.refl _) (argsL := []) (rest := []) (lenOf pd_I_154 rfl) rfl (by show 2 * 0 + _ ≤ _; exact Nat.le_of_eq rfl) (hb hby at_178) (fun _ _ => ⟨rfl, e4, (by decide : 10 + 0 ≤ _), (by decide : 58 + 0 ≤ _)⟩)
  dsimp only [Pt.U, Pt.locs, Pt.cells, Pt.slots] at X5 l5 y5 z5 st5 hQ5
  subst l5 y5 z5
  obtain ⟨rfl, N5q, e5⟩ := hQ5
  have N5 := Fr.app N4 N5q
  obtain ⟨cq6, kq6, q6a, q6b, q6c⟩ := isOf hZ1 e5 g1_1
  obtain ⟨_, _, ⟨T6, L6, k6, n6⟩, -, X6, ⟨Lc6, hQ6, l6, y6, z6⟩, st6⟩ := X5.virtualBack hx (y := mn11) (z := mn11) ho1 (mvT hZ1 (hwi hw 179 rfl)) (mvT hZ1 (hwi hw 180 rfl)) (notFace_of_selects (args := #[]) (mvT hZ1 (hwi hw 182 rfl))) (mvT hZ1 (hwi hw 182 rfl)) (mvT hZ1 (hwi hw 181 rfl)) (by decide) (backOf (W := 0) (rm_schr l Z a0 hw [] ss_1 (0 : Int32) w_COMPACT_STRINGS tt_1 kt_1 vs_1 zz (cA.toInt8.toInt32) cA w_SIOOBE_FORMATTER T1.heap n0 Z3 S_COMPACT_STRINGS hcs g1_1 g1_2 g1_3 g1_4 (by decide : ¬ ((0 : Int32) < (0 : Int32))) (own_lt hN hix (j := 0) (by decide)) (g1_5.1 0 (by decide)) O3 hr_SIOOBE_FORMATTER S_SIOOBE_FORMATTER hkcA hncA) hZ1 (hwi hw 183 rfl) (hwi hw 3 rfl) (by decide) (by decide)) q6a q6c (g := (mkF m 202 #[.val (.int p1), .val (.int p2), .val (.int 2), .val (.int cA), .val (.int cB), .val (.int cC), .val (.ref b6_1), .val (.ref b7_1), .val (.ref ss_1), .val (.int 0), .val (.long mm), .second, .val (.int dd), .val (.int 0)] [(.int 0), (.ref ss_1)])) rfl (by rw [hml]; rfl) (Steps.refl _) (argsL := [(.int 0)]) (rest := []) (lenOf pd_I_C_221 rfl) rfl (by show 2 * 0 + _ ≤ _; exact Nat.le_of_eq rfl) (hb hby at_202) (fun _ _ => ⟨rfl, e5, (by decide : 10 + 0 ≤ _), (by decide : 58 + 0 ≤ _)⟩)
  dsimp only [Pt.U, Pt.locs, Pt.cells, Pt.slots] at X6 l6 y6 z6 st6 hQ6
  subst l6 y6 z6
  obtain ⟨rfl, N6q, e6⟩ := hQ6
  have N6 := Fr.app N5 N6q
  obtain ⟨cq7, kq7, q7a, q7b, q7c⟩ := isOf hZ1 e6 g1_1
  obtain ⟨_, _, ⟨T7, L7, k7, n7⟩, -, X7, ⟨Lc7, hQ7, l7, y7, z7⟩, st7⟩ := X6.virtualBack hx (y := mn11) (z := mn11) ho1 (mvT hZ1 (hwi hw 179 rfl)) (mvT hZ1 (hwi hw 180 rfl)) (notFace_of_selects (args := #[]) (mvT hZ1 (hwi hw 182 rfl))) (mvT hZ1 (hwi hw 182 rfl)) (mvT hZ1 (hwi hw 181 rfl)) (by decide) (backOf (W := 0) (rm_schr l Z a0 hw [] ss_1 (1 : Int32) w_COMPACT_STRINGS tt_1 kt_1 vs_1 zz (cB.toInt8.toInt32) cB w_SIOOBE_FORMATTER T1.heap n0 Z3 S_COMPACT_STRINGS hcs g1_1 g1_2 g1_3 g1_4 (by decide : ¬ ((1 : Int32) < (0 : Int32))) (own_lt hN hix (j := 1) (by decide)) (g1_5.1 1 (by decide)) O3 hr_SIOOBE_FORMATTER S_SIOOBE_FORMATTER hkcB hncB) hZ1 (hwi hw 183 rfl) (hwi hw 3 rfl) (by decide) (by decide)) q7a q7c (g := (mkF m 219 #[.val (.int p1), .val (.int p2), .val (.int 2), .val (.int cA), .val (.int cB), .val (.int cC), .val (.ref b6_1), .val (.ref b7_1), .val (.ref ss_1), .val (.int 0), .val (.long mm), .second, .val (.int dd), .val (.int 0)] [(.int 1), (.ref ss_1)])) rfl (by rw [hml]; rfl) (Steps.refl _) (argsL := [(.int 1)]) (rest := []) (lenOf pd_I_C_221 rfl) rfl (by show 2 * 0 + _ ≤ _; exact Nat.le_of_eq rfl) (hb hby at_219) (fun _ _ => ⟨rfl, e6, (by decide : 10 + 0 ≤ _), (by decide : 58 + 0 ≤ _)⟩)
  dsimp only [Pt.U, Pt.locs, Pt.cells, Pt.slots] at X7 l7 y7 z7 st7 hQ7
  subst l7 y7 z7
  obtain ⟨rfl, N7q, e7⟩ := hQ7
  have N7 := Fr.app N6 N7q
  obtain ⟨cq8, kq8, q8a, q8b, q8c⟩ := isOf hZ1 e7 g1_1
  obtain ⟨_, _, ⟨T8, L8, k8, n8⟩, -, X8, ⟨Lc8, hQ8, l8, y8, z8⟩, st8⟩ := X7.virtualBack hx (y := mn11) (z := mn11) ho1 (mvT hZ1 (hwi hw 179 rfl)) (mvT hZ1 (hwi hw 180 rfl)) (notFace_of_selects (args := #[]) (mvT hZ1 (hwi hw 182 rfl))) (mvT hZ1 (hwi hw 182 rfl)) (mvT hZ1 (hwi hw 181 rfl)) (by decide) (backOf (W := 0) (rm_schr l Z a0 hw [] ss_1 (2 : Int32) w_COMPACT_STRINGS tt_1 kt_1 vs_1 zz (58 : Int32) (58 : Int32) w_SIOOBE_FORMATTER T1.heap n0 Z3 S_COMPACT_STRINGS hcs g1_1 g1_2 g1_3 g1_4 (by decide : ¬ ((2 : Int32) < (0 : Int32))) (own_lt hN hix (j := 2) (by decide)) (g1_5.1 2 (by decide)) O3 hr_SIOOBE_FORMATTER S_SIOOBE_FORMATTER (by decide : (((58 : Int32) &&& (255 : Int32)).toUInt32.toUInt16.toUInt32.toInt32) = (58 : Int32)) (by decide : ((58 : Int32).toUInt32.toUInt16.toUInt32.toInt32) = (58 : Int32))) hZ1 (hwi hw 183 rfl) (hwi hw 3 rfl) (by decide) (by decide)) q8a q8c (g := (mkF m 250 #[.val (.int p1), .val (.int p2), .val (.int 2), .val (.int cA), .val (.int cB), .val (.int cC), .val (.ref b6_1), .val (.ref b7_1), .val (.ref ss_1), .val (.int 0), .val (.long mm), .second, .val (.int dd), .val (.int 0)] [(.int 2), (.ref ss_1)])) rfl (by rw [hml]; rfl) (Steps.refl _) (argsL := [(.int 2)]) (rest := []) (lenOf pd_I_C_221 rfl) rfl (by show 2 * 0 + _ ≤ _; exact Nat.le_of_eq rfl) (hb hby at_250) (fun _ _ => ⟨rfl, e7, (by decide : 10 + 0 ≤ _), (by decide : 58 + 0 ≤ _)⟩)
  dsimp only [Pt.U, Pt.locs, Pt.cells, Pt.slots] at X8 l8 y8 z8 st8 hQ8
  subst l8 y8 z8
  obtain ⟨rfl, N8q, e8⟩ := hQ8
  have N8 := Fr.app N7 N8q
  have X9 := X8.more (cells' := 13) (slots' := 62) (by decide) (by decide)
  obtain ⟨T10, L10, vm10, j10, X10, N10, Kc10, hS10, hk10, hZ10, ho10, C10, st10⟩ := sg_tail p1 p2 (2 : Int32) cA cB cC b6_1 b7_1 ss_1 (0 : Int32) mm dd (0 : Int32) w_COMPACT_STRINGS tt_1 kt_1 vs_1 zz w_SIOOBE_FORMATTER X9 hx hZ1 hw hby hml ho1 e8 N8 Z3 hEL hS1 hk1 R2.1 S_COMPACT_STRINGS hcs g1_1 g1_2 g1_3 g1_4 (own_all g1_5 hN hix hdg) O3 hr_SIOOBE_FORMATTER S_SIOOBE_FORMATTER
  have R11 := C10
  have CR11 := CR2.trans R11
  have sz12 : T1.heap.size ≤ T10.heap.size := Kc10.1
  have Z12 : n0 ≤ T10.heap.size := Nat.le_trans Z3 sz12
  have O12 := O3.keep Kc10 all0
  have K12 : Keep h0 T10.heap [] := K3.trans Kc10 (all0)
  have CRe := CR11.trans (CHv.at X10 hZ10 hEL R11.1)
  obtain ⟨fs, hr, hrun, hended, hRE⟩ := X10.leaveW hS10 hk10 (v := some (.int 1)) (fun h => by rw [Bd.returns] at h; cases h)
  refine ⟨_, _, pre0 _ ?_, hrun, hended, _, _, rfl, ?_, ?_, ⟨hRE.1, hRE.2.1, hRE.2.2.1, hRE.2.2.2.mono (by decide) (by decide)⟩⟩
  · show St p e below s₁ (mkF m 0 #[.val (.int p1), .val (.int p2), .unset, .unset, .unset, .unset, .unset, .unset, .unset, .unset, .unset, .unset, .unset, .unset] []) _
    refine st1 _ ?_
    refine XS.iloadN X1.here hx rfl (hb hby at_131) rfl ?_
    refine XS.ifYes X1.here hx rfl (pc0 := 132) (pc' := 139) rfl (hb hby at_132) rfl ((if0 _ _).trans (flt hneg).2.1) (by decide) (by decide) ?_
    refine XS.iconst X1.here hx rfl (hb hby at_139) ?_
    refine XS.istore X1.here hx rfl (hb hby at_140) rfl (l' := #[.val (.int p1), .val (.int p2), .val (.int 2), .val (.int cA), .val (.int cB), .val (.int cC), .val (.ref b6_1), .val (.ref b7_1), .val (.ref ss_1), .val (.int 0), .unset, .unset, .unset, .unset]) rfl ?_
    refine XS.iload X1.here hx rfl (hb hby at_142) rfl ?_
    refine XS.ifYes X1.here hx rfl (pc0 := 144) (pc' := 153) rfl (hb hby at_144) rfl ((if0 _ _).trans (teq (by decide : (0 : Int32) = (0 : Int32))).1) (by decide) (by decide) ?_
    refine XS.iloadN X1.here hx rfl (hb hby at_153) rfl ?_
    show St p e below T1 (mkF m 154 #[.val (.int p1), .val (.int p2), .val (.int 2), .val (.int cA), .val (.int cB), .val (.int cC), .val (.ref b6_1), .val (.ref b7_1), .val (.ref ss_1), .val (.int 0), .unset, .unset, .unset, .unset] [(.int p2)]) _
    refine XS.i2l X1.here hx rfl (hb hby at_154) rfl ?_
    show St p e below T1 (mkF m 155 #[.val (.int p1), .val (.int p2), .val (.int 2), .val (.int cA), .val (.int cB), .val (.int cC), .val (.ref b6_1), .val (.ref b7_1), .val (.ref ss_1), .val (.int 0), .unset, .unset, .unset, .unset] [(.long (p2.toInt64))]) _
    rw [hmm]
    show St p e below T1 (mkF m 155 #[.val (.int p1), .val (.int p2), .val (.int 2), .val (.int cA), .val (.int cB), .val (.int cC), .val (.ref b6_1), .val (.ref b7_1), .val (.ref ss_1), .val (.int 0), .unset, .unset, .unset, .unset] [(.long mm)]) _
    refine XS.lstore X1.here hx rfl (hb hby at_155) rfl (l' := #[.val (.int p1), .val (.int p2), .val (.int 2), .val (.int cA), .val (.int cB), .val (.int cC), .val (.ref b6_1), .val (.ref b7_1), .val (.ref ss_1), .val (.int 0), .val (.long mm), .second, .unset, .unset]) rfl ?_
    refine XS.lload X1.here hx rfl (hb hby at_157) rfl ?_
    refine st4 _ ?_
    refine XS.istore X4.here hx rfl (hb hby at_162) rfl (l' := #[.val (.int p1), .val (.int p2), .val (.int 2), .val (.int cA), .val (.int cB), .val (.int cC), .val (.ref b6_1), .val (.ref b7_1), .val (.ref ss_1), .val (.int 0), .val (.long mm), .second, .val (.int dd), .unset]) rfl ?_
    refine XS.iload X4.here hx rfl (hb hby at_164) rfl ?_
    refine XS.ifYes X4.here hx rfl (pc0 := 166) (pc' := 173) rfl (hb hby at_166) rfl ((if0 _ _).trans (teq (by decide : (0 : Int32) = (0 : Int32))).1) (by decide) (by decide) ?_
    refine XS.iconst X4.here hx rfl (hb hby at_173) ?_
    refine XS.istore X4.here hx rfl (hb hby at_174) rfl (l' := #[.val (.int p1), .val (.int p2), .val (.int 2), .val (.int cA), .val (.int cB), .val (.int cC), .val (.ref b6_1), .val (.ref b7_1), .val (.ref ss_1), .val (.int 0), .val (.long mm), .second, .val (.int dd), .val (.int 0)]) rfl ?_
    show St p e below T4 (mkF m 176 #[.val (.int p1), .val (.int p2), .val (.int 2), .val (.int cA), .val (.int cB), .val (.int cC), .val (.ref b6_1), .val (.ref b7_1), .val (.ref ss_1), .val (.int 0), .val (.long mm), .second, .val (.int dd), .val (.int 0)] []) _
    refine XS.aload X4.here hx rfl (hb hby at_176) rfl rfl ?_
    refine st5.trans ?_
    refine XS.iloadN X5.here hx rfl (hb hby at_181) rfl ?_
    refine XS.iconst X5.here hx rfl (hb hby at_182) ?_
    refine XS.iadd X5.here hx rfl (hb hby at_183) rfl ?_
    show St p e below T5 (mkF m 184 #[.val (.int p1), .val (.int p2), .val (.int 2), .val (.int cA), .val (.int cB), .val (.int cC), .val (.ref b6_1), .val (.ref b7_1), .val (.ref ss_1), .val (.int 0), .val (.long mm), .second, .val (.int dd), .val (.int 0)] [(.int ((2 : Int32) + (1 : Int32))), (.int zz)]) _
    rw [(by decide : ((2 : Int32) + (1 : Int32)) = (3 : Int32))]
    show St p e below T5 (mkF m 184 #[.val (.int p1), .val (.int p2), .val (.int 2), .val (.int cA), .val (.int cB), .val (.int cC), .val (.ref b6_1), .val (.ref b7_1), .val (.ref ss_1), .val (.int 0), .val (.long mm), .second, .val (.int dd), .val (.int 0)] [(.int 3), (.int zz)]) _
    refine XS.iload X5.here hx rfl (hb hby at_184) rfl ?_
    refine XS.iadd X5.here hx rfl (hb hby at_186) rfl ?_
    show St p e below T5 (mkF m 187 #[.val (.int p1), .val (.int p2), .val (.int 2), .val (.int cA), .val (.int cB), .val (.int cC), .val (.ref b6_1), .val (.ref b7_1), .val (.ref ss_1), .val (.int 0), .val (.long mm), .second, .val (.int dd), .val (.int 0)] [(.int ((3 : Int32) + (0 : Int32))), (.int zz)]) _
    rw [(by decide : ((3 : Int32) + (0 : Int32)) = (3 : Int32))]
    show St p e below T5 (mkF m 187 #[.val (.int p1), .val (.int p2), .val (.int 2), .val (.int cA), .val (.int cB), .val (.int cC), .val (.ref b6_1), .val (.ref b7_1), .val (.ref ss_1), .val (.int 0), .val (.long mm), .second, .val (.int dd), .val (.int 0)] [(.int 3), (.int zz)]) _
    refine XS.iload X5.here hx rfl (hb hby at_187) rfl ?_
    refine XS.iadd X5.here hx rfl (hb hby at_189) rfl ?_
    refine XS.icmpYes X5.here hx rfl (pc0 := 190) (pc' := 195) rfl (hb hby at_190) rfl (teq hlen).1 (by decide) (by decide) ?_
    refine XS.iloadN X5.here hx rfl (hb hby at_195) rfl ?_
    refine XS.ifNo X5.here hx rfl (hb hby at_196) rfl ((if0 _ _).trans (tlt (by decide : (0 : Int32) < (2 : Int32))).2.2.2) ?_
    refine XS.aload X5.here hx rfl (hb hby at_199) rfl rfl ?_
    refine XS.iconst X5.here hx rfl (hb hby at_201) ?_
    refine st6.trans ?_
    show St p e below T6 (mkF m 205 #[.val (.int p1), .val (.int p2), .val (.int 2), .val (.int cA), .val (.int cB), .val (.int cC), .val (.ref b6_1), .val (.ref b7_1), .val (.ref ss_1), .val (.int 0), .val (.long mm), .second, .val (.int dd), .val (.int 0)] [(.int cA)]) _
    refine XS.iloadN X6.here hx rfl (hb hby at_205) rfl ?_
    refine XS.icmpYes X6.here hx rfl (pc0 := 206) (pc' := 211) rfl (hb hby at_206) rfl (teq (rfl : cA = cA)).1 (by decide) (by decide) ?_
    refine XS.iloadN X6.here hx rfl (hb hby at_211) rfl ?_
    refine XS.iconst X6.here hx rfl (hb hby at_212) ?_
    refine XS.icmpNo X6.here hx rfl (hb hby at_213) rfl (tlt (by decide : (1 : Int32) < (2 : Int32))).2.2.2 ?_
    refine XS.aload X6.here hx rfl (hb hby at_216) rfl rfl ?_
    refine XS.iconst X6.here hx rfl (hb hby at_218) ?_
    refine st7.trans ?_
    show St p e below T7 (mkF m 222 #[.val (.int p1), .val (.int p2), .val (.int 2), .val (.int cA), .val (.int cB), .val (.int cC), .val (.ref b6_1), .val (.ref b7_1), .val (.ref ss_1), .val (.int 0), .val (.long mm), .second, .val (.int dd), .val (.int 0)] [(.int cB)]) _
    refine XS.iload X7.here hx rfl (hb hby at_222) rfl ?_
    refine XS.icmpYes X7.here hx rfl (pc0 := 224) (pc' := 229) rfl (hb hby at_224) rfl (teq (rfl : cB = cB)).1 (by decide) (by decide) ?_
    refine XS.iloadN X7.here hx rfl (hb hby at_229) rfl ?_
    refine XS.iconst X7.here hx rfl (hb hby at_230) ?_
    refine XS.icmpYes X7.here hx rfl (pc0 := 231) (pc' := 247) rfl (hb hby at_231) rfl (flt (by decide : ¬ ((2 : Int32) < (2 : Int32)))).2.2.2 (by decide) (by decide) ?_
    refine XS.aload X7.here hx rfl (hb hby at_247) rfl rfl ?_
    refine XS.iloadN X7.here hx rfl (hb hby at_249) rfl ?_
    refine st8.trans ?_
    show St p e below T8 (mkF m 253 #[.val (.int p1), .val (.int p2), .val (.int 2), .val (.int cA), .val (.int cB), .val (.int cC), .val (.ref b6_1), .val (.ref b7_1), .val (.ref ss_1), .val (.int 0), .val (.long mm), .second, .val (.int dd), .val (.int 0)] [(.int 58)]) _
    refine XS.bipush X8.here hx rfl (hb hby at_253) ?_
    refine XS.icmpYes X8.here hx rfl (pc0 := 255) (pc' := 260) rfl (hb hby at_255) rfl (teq (by decide : (58 : Int32) = (58 : Int32))).1 (by decide) (by decide) ?_
    refine XS.iload X8.here hx rfl (hb hby at_260) rfl ?_
    refine XS.ifYes X8.here hx rfl (pc0 := 262) (pc' := 280) rfl (hb hby at_262) rfl ((if0 _ _).trans (teq (by decide : (0 : Int32) = (0 : Int32))).1) (by decide) (by decide) ?_
    refine st10 _ ?_
    show St p e below T10 (mkF m 419 #[.val (.int p1), .val (.int p2), .val (.int 2), .val (.int cA), .val (.int cB), .val (.int cC), .val (.ref b6_1), .val (.ref b7_1), .val (.ref ss_1), .val (.int 0), .val (.long mm), .second, .val (.int dd), .val (.int 0)] [(.int 1)]) _
    exact retN X10 hx (t := .boolean) Bd.returns (by simp) (hb hby at_419) hr
  · exact ⟨rfl, N10⟩
  · show CHr Z consts_1 s.vm s.heap T10.vm T10.heap
    rw [hh]
    exact CRe
set_option maxRecDepth 65536 in
set_option maxHeartbeats 40000000 in
theorem rm_law_2_1 (l : Launch) (Z : State) (a0 : Array Value) (hw : ∀ d ∈ tables_1, d.before a0 Z = true) (hEL : EW Z a0 consts_1) (ws : List Jvm.Cond) (p1 : Int32) (p2 : Int32) (mm : Int64) (dd : Int32) (w_COMPACT_STRINGS : Int32) (zz : Int32) (n : Nat) (ix : Nat) (cA : Int32) (cB : Int32) (cC : Int32) (w_SIOOBE_FORMATTER : Value) (h0 : Heap) (n0 : Nat) (Z0 : n0 ≤ h0.size) (S_COMPACT_STRINGS : Sta Z Z.heap "java/lang/String" "COMPACT_STRINGS" "Z" (.int w_COMPACT_STRINGS)) (hcs : ¬ (w_COMPACT_STRINGS = (0 : Int32))) (hbcA : ¬ ((255 : Int32) < cA)) (hbcB : ¬ ((255 : Int32) < cB)) (hzz : ((3 : Int32) + (Jvm.Free.SBG.strSizeOf p2)) = zz) (hB : own_B Z) (hN : own_N p2 n 3 ix) (hix : zz = Int32.ofNat ix) (hneg : p2 < (0 : Int32)) (hkcA : (((cA.toInt8.toInt32) &&& (255 : Int32)).toUInt32.toUInt16.toUInt32.toInt32) = cA) (hkcB : (((cB.toInt8.toInt32) &&& (255 : Int32)).toUInt32.toUInt16.toUInt32.toInt32) = cB) (hdg : own_dg mm n dd) (hlen : zz = ((4 : Int32) + dd)) (hk : (p1 &&& (3 : Int32)) = (2 : Int32)) (hcA : ((((p1.toUInt32 >>> ((2 : Int32) &&& 31).toUInt32).toInt32) &&& (255 : Int32)).toUInt32.toUInt16.toUInt32.toInt32) = cA) (hcB : ((((p1.toUInt32 >>> ((10 : Int32) &&& 31).toUInt32).toInt32) &&& (255 : Int32)).toUInt32.toUInt16.toUInt32.toInt32) = cB) (hcC : ((((p1.toUInt32 >>> ((18 : Int32) &&& 31).toUInt32).toInt32) &&& (255 : Int32)).toUInt32.toUInt16.toUInt32.toInt32) = cC) (O0 : Old Z n0 h0) (hncA : (cA.toUInt32.toUInt16.toUInt32.toInt32) = cA) (hncB : (cB.toUInt32.toUInt16.toUInt32.toInt32) = cB) (hmm : (-(p2.toInt64)) = mm) (hr_SIOOBE_FORMATTER : w_SIOOBE_FORMATTER.isRef = true) (S_SIOOBE_FORMATTER : Sta Z Z.heap "jdk/internal/util/Preconditions" "SIOOBE_FORMATTER" "Ljava/util/function/BiFunction;" w_SIOOBE_FORMATTER) :
    MetFree l x (head1 (Jvm.Cond.code x code maxLocals ret :: ws) room_1) (fun a U => a = #[(.int p1), (.int p2)] ∧ Z.Warmed39 U.vm ∧ U.heap = h0 ∧ CHv Z consts_1 U.vm h0) (fun _ _ _ _ _ => True) (fun _ U o U' => ∃ v L, o = .returned v ∧ Q_law n0 v L ∧ CHr Z consts_1 U.vm U.heap U'.vm U'.heap ∧ ReturnedEndW U o U' L room_1.cells room_1.slots) := by
  refine MetFree.of_bodySF (plainFor_of_name pn_0) hisR ?_
  intro p e s m args below meth c s₁ Bd hml0 hP hK
  obtain ⟨rfl, hZ, hh, H0c⟩ := hP
  have hx := Bd.exec
  have hby := Bd.bytes
  have hml : c.maxLocals = 14 := hml0
  have hown : s.vm.findClass "com/example/demarc/demarc/tool/AccountToStringPinLaw" = some m.cls := findClass_of_methodNamed Bd.named
  have hnm := (name_of_methodNamed Bd.named Bd.method).1
  have X0 : Stand p l e room_1 (s.setVm s.vm) m #[(.int p1), (.int p2)] below meth c s₁ [] 0 0 := Stand.of_body Bd
  have e0 : s₁.heap = h0 := by rw [← hh, Bd.state]; rfl
  have N0 := Fr.nil n0
  have pre0 : ∀ t, Steps p.tables e below (s₁.setTop (mkF m 0 #[.val (.int p1), .val (.int p2), .unset, .unset, .unset, .unset, .unset, .unset, .unset, .unset, .unset, .unset, .unset, .unset] [])) t → Steps p.tables e below (s₁.setTop (entryFrame m #[(.int p1), (.int p2)] maxLocals)) t := fun t k => castTop (ef_0_II m p1 p2) k
  have hS0 : s.Since s.vm 0 := (State.WarmedH.refl s).since 0
  have hk0 : 0 ≤ h0.size := Nat.zero_le _
  have C0c : CHr Z consts_1 s.vm h0 s.vm h0 := CHr.refl H0c
  obtain ⟨T1, L1, vm1, j1, b6_1, b7_1, ss_1, tt_1, kt_1, vs_1, X1, N1, Kc1, hS1, hk1, hZ1, ho1, C1, g1_0, g1_1, g1_2, g1_3, g1_4, g1_5, st1⟩ := sg_front_2 p1 p2 w_COMPACT_STRINGS zz n ix cA cB cC X0 hx hZ hw hby hml hown e0 N0 Z0 hEL hS0 hk0 H0c S_COMPACT_STRINGS hcs hbcA hbcB hzz hB hN hix hk hcA hcB hcC O0 hncA hncB
  have R2 := C1
  have CR2 := C0c.trans R2
  have sz3 : h0.size ≤ T1.heap.size := Kc1.1
  have Z3 : n0 ≤ T1.heap.size := Nat.le_trans Z0 sz3
  have O3 := O0.keep Kc1 all0
  have K3 : Keep h0 T1.heap [] := (Keep.refl h0 []).trans Kc1 (all0)
  have bn_ss_1 : h0.size ≤ ss_1 := g1_0
  obtain ⟨_, _, ⟨T4, L4, k4, n4⟩, -, X4, ⟨Lc4, hQ4, l4, y4, z4⟩, st4⟩ := Jvm.LawKit.callS X1 hx (y := mn38) ho1 (mvT hZ1 (hwi hw 173 rfl)) (mvT hZ1 (hwi hw 174 rfl)) (mvT hZ1 (hwi hw 175 rfl)) (mvT hZ1 (hwi hw 176 rfl)) (by decide) (backOf (W := 0) (rm_digs l Z a0 hw [] mm n dd T1.heap n0 Z3 hdg) hZ1 (hwi hw 176 rfl) (hwi hw 175 rfl) (by decide) (by decide)) (g := (mkF m 159 #[.val (.int p1), .val (.int p2), .val (.int 2), .val (.int cA), .val (.int cB), .val (.int cC), .val (.ref b6_1), .val (.ref b7_1), .val (.ref ss_1), .val (.int 1), .val (.long mm), .second, .unset, .unset] [(.long mm)])) rfl (by rw [hml]; rfl) (argsL := [(.long mm)]) (rest := []) (lenOf pd_J_I_228 rfl) rfl (by show 2 * 0 + _ ≤ _; exact Nat.le_of_eq rfl) (hb hby at_159) (fun _ _ => ⟨rfl, rfl, (by decide : 10 + 0 ≤ _), (by decide : 58 + 0 ≤ _)⟩)
  dsimp only [Pt.U, Pt.locs, Pt.cells, Pt.slots] at X4 l4 y4 z4 st4 hQ4
  subst l4 y4 z4
  obtain ⟨rfl, N4q, e4⟩ := hQ4
  have N4 := Fr.app N1 N4q
  obtain ⟨cq5, kq5, q5a, q5b, q5c⟩ := isOf hZ1 e4 g1_1
  obtain ⟨_, _, ⟨T5, L5, k5, n5⟩, -, X5, ⟨Lc5, hQ5, l5, y5, z5⟩, st5⟩ := X4.virtualBack hx (y := mn6) (z := mn6) ho1 (mvT hZ1 (hwi hw 178 rfl)) (mvT hZ1 (hwi hw 72 rfl)) (notFace_of_selects (args := #[]) (mvT hZ1 (hwi hw 74 rfl))) (mvT hZ1 (hwi hw 74 rfl)) (mvT hZ1 (hwi hw 73 rfl)) (by decide) (backOf (W := 0) (rm_slen l Z a0 hw [] ss_1 w_COMPACT_STRINGS tt_1 kt_1 vs_1 zz T1.heap n0 Z3 S_COMPACT_STRINGS hcs g1_1 g1_2 g1_3 g1_4 O3 (own_sh zz)) hZ1 (hwi hw 75 rfl) (hwi hw 3 rfl) (by decide) (by decide)) q5a q5c (g := (mkF m 178 #[.val (.int p1), .val (.int p2), .val (.int 2), .val (.int cA), .val (.int cB), .val (.int cC), .val (.ref b6_1), .val (.ref b7_1), .val (.ref ss_1), .val (.int 1), .val (.long mm), .second, .val (.int dd), .val (.int 1)] [(.ref ss_1)])) rfl (by rw [hml]; rfl) (Steps.refl _) (argsL := []) (rest := []) (lenOf pd_I_154 rfl) rfl (by show 2 * 0 + _ ≤ _; exact Nat.le_of_eq rfl) (hb hby at_178) (fun _ _ => ⟨rfl, e4, (by decide : 10 + 0 ≤ _), (by decide : 58 + 0 ≤ _)⟩)
  dsimp only [Pt.U, Pt.locs, Pt.cells, Pt.slots] at X5 l5 y5 z5 st5 hQ5
  subst l5 y5 z5
  obtain ⟨rfl, N5q, e5⟩ := hQ5
  have N5 := Fr.app N4 N5q
  obtain ⟨cq6, kq6, q6a, q6b, q6c⟩ := isOf hZ1 e5 g1_1
  obtain ⟨_, _, ⟨T6, L6, k6, n6⟩, -, X6, ⟨Lc6, hQ6, l6, y6, z6⟩, st6⟩ := X5.virtualBack hx (y := mn11) (z := mn11) ho1 (mvT hZ1 (hwi hw 179 rfl)) (mvT hZ1 (hwi hw 180 rfl)) (notFace_of_selects (args := #[]) (mvT hZ1 (hwi hw 182 rfl))) (mvT hZ1 (hwi hw 182 rfl)) (mvT hZ1 (hwi hw 181 rfl)) (by decide) (backOf (W := 0) (rm_schr l Z a0 hw [] ss_1 (0 : Int32) w_COMPACT_STRINGS tt_1 kt_1 vs_1 zz (cA.toInt8.toInt32) cA w_SIOOBE_FORMATTER T1.heap n0 Z3 S_COMPACT_STRINGS hcs g1_1 g1_2 g1_3 g1_4 (by decide : ¬ ((0 : Int32) < (0 : Int32))) (own_lt hN hix (j := 0) (by decide)) (g1_5.1 0 (by decide)) O3 hr_SIOOBE_FORMATTER S_SIOOBE_FORMATTER hkcA hncA) hZ1 (hwi hw 183 rfl) (hwi hw 3 rfl) (by decide) (by decide)) q6a q6c (g := (mkF m 202 #[.val (.int p1), .val (.int p2), .val (.int 2), .val (.int cA), .val (.int cB), .val (.int cC), .val (.ref b6_1), .val (.ref b7_1), .val (.ref ss_1), .val (.int 1), .val (.long mm), .second, .val (.int dd), .val (.int 1)] [(.int 0), (.ref ss_1)])) rfl (by rw [hml]; rfl) (Steps.refl _) (argsL := [(.int 0)]) (rest := []) (lenOf pd_I_C_221 rfl) rfl (by show 2 * 0 + _ ≤ _; exact Nat.le_of_eq rfl) (hb hby at_202) (fun _ _ => ⟨rfl, e5, (by decide : 10 + 0 ≤ _), (by decide : 58 + 0 ≤ _)⟩)
  dsimp only [Pt.U, Pt.locs, Pt.cells, Pt.slots] at X6 l6 y6 z6 st6 hQ6
  subst l6 y6 z6
  obtain ⟨rfl, N6q, e6⟩ := hQ6
  have N6 := Fr.app N5 N6q
  obtain ⟨cq7, kq7, q7a, q7b, q7c⟩ := isOf hZ1 e6 g1_1
  obtain ⟨_, _, ⟨T7, L7, k7, n7⟩, -, X7, ⟨Lc7, hQ7, l7, y7, z7⟩, st7⟩ := X6.virtualBack hx (y := mn11) (z := mn11) ho1 (mvT hZ1 (hwi hw 179 rfl)) (mvT hZ1 (hwi hw 180 rfl)) (notFace_of_selects (args := #[]) (mvT hZ1 (hwi hw 182 rfl))) (mvT hZ1 (hwi hw 182 rfl)) (mvT hZ1 (hwi hw 181 rfl)) (by decide) (backOf (W := 0) (rm_schr l Z a0 hw [] ss_1 (1 : Int32) w_COMPACT_STRINGS tt_1 kt_1 vs_1 zz (cB.toInt8.toInt32) cB w_SIOOBE_FORMATTER T1.heap n0 Z3 S_COMPACT_STRINGS hcs g1_1 g1_2 g1_3 g1_4 (by decide : ¬ ((1 : Int32) < (0 : Int32))) (own_lt hN hix (j := 1) (by decide)) (g1_5.1 1 (by decide)) O3 hr_SIOOBE_FORMATTER S_SIOOBE_FORMATTER hkcB hncB) hZ1 (hwi hw 183 rfl) (hwi hw 3 rfl) (by decide) (by decide)) q7a q7c (g := (mkF m 219 #[.val (.int p1), .val (.int p2), .val (.int 2), .val (.int cA), .val (.int cB), .val (.int cC), .val (.ref b6_1), .val (.ref b7_1), .val (.ref ss_1), .val (.int 1), .val (.long mm), .second, .val (.int dd), .val (.int 1)] [(.int 1), (.ref ss_1)])) rfl (by rw [hml]; rfl) (Steps.refl _) (argsL := [(.int 1)]) (rest := []) (lenOf pd_I_C_221 rfl) rfl (by show 2 * 0 + _ ≤ _; exact Nat.le_of_eq rfl) (hb hby at_219) (fun _ _ => ⟨rfl, e6, (by decide : 10 + 0 ≤ _), (by decide : 58 + 0 ≤ _)⟩)
  dsimp only [Pt.U, Pt.locs, Pt.cells, Pt.slots] at X7 l7 y7 z7 st7 hQ7
  subst l7 y7 z7
  obtain ⟨rfl, N7q, e7⟩ := hQ7
  have N7 := Fr.app N6 N7q
  obtain ⟨cq8, kq8, q8a, q8b, q8c⟩ := isOf hZ1 e7 g1_1
  obtain ⟨_, _, ⟨T8, L8, k8, n8⟩, -, X8, ⟨Lc8, hQ8, l8, y8, z8⟩, st8⟩ := X7.virtualBack hx (y := mn11) (z := mn11) ho1 (mvT hZ1 (hwi hw 179 rfl)) (mvT hZ1 (hwi hw 180 rfl)) (notFace_of_selects (args := #[]) (mvT hZ1 (hwi hw 182 rfl))) (mvT hZ1 (hwi hw 182 rfl)) (mvT hZ1 (hwi hw 181 rfl)) (by decide) (backOf (W := 0) (rm_schr l Z a0 hw [] ss_1 (2 : Int32) w_COMPACT_STRINGS tt_1 kt_1 vs_1 zz (58 : Int32) (58 : Int32) w_SIOOBE_FORMATTER T1.heap n0 Z3 S_COMPACT_STRINGS hcs g1_1 g1_2 g1_3 g1_4 (by decide : ¬ ((2 : Int32) < (0 : Int32))) (own_lt hN hix (j := 2) (by decide)) (g1_5.1 2 (by decide)) O3 hr_SIOOBE_FORMATTER S_SIOOBE_FORMATTER (by decide : (((58 : Int32) &&& (255 : Int32)).toUInt32.toUInt16.toUInt32.toInt32) = (58 : Int32)) (by decide : ((58 : Int32).toUInt32.toUInt16.toUInt32.toInt32) = (58 : Int32))) hZ1 (hwi hw 183 rfl) (hwi hw 3 rfl) (by decide) (by decide)) q8a q8c (g := (mkF m 250 #[.val (.int p1), .val (.int p2), .val (.int 2), .val (.int cA), .val (.int cB), .val (.int cC), .val (.ref b6_1), .val (.ref b7_1), .val (.ref ss_1), .val (.int 1), .val (.long mm), .second, .val (.int dd), .val (.int 1)] [(.int 2), (.ref ss_1)])) rfl (by rw [hml]; rfl) (Steps.refl _) (argsL := [(.int 2)]) (rest := []) (lenOf pd_I_C_221 rfl) rfl (by show 2 * 0 + _ ≤ _; exact Nat.le_of_eq rfl) (hb hby at_250) (fun _ _ => ⟨rfl, e7, (by decide : 10 + 0 ≤ _), (by decide : 58 + 0 ≤ _)⟩)
  dsimp only [Pt.U, Pt.locs, Pt.cells, Pt.slots] at X8 l8 y8 z8 st8 hQ8
  subst l8 y8 z8
  obtain ⟨rfl, N8q, e8⟩ := hQ8
  have N8 := Fr.app N7 N8q
  obtain ⟨cq9, kq9, q9a, q9b, q9c⟩ := isOf hZ1 e8 g1_1
  obtain ⟨_, _, ⟨T9, L9, k9, n9⟩, -, X9, ⟨Lc9, hQ9, l9, y9, z9⟩, st9⟩ := X8.virtualBack hx (y := mn11) (z := mn11) ho1 (mvT hZ1 (hwi hw 179 rfl)) (mvT hZ1 (hwi hw 180 rfl)) (notFace_of_selects (args := #[]) (mvT hZ1 (hwi hw 182 rfl))) (mvT hZ1 (hwi hw 182 rfl)) (mvT hZ1 (hwi hw 181 rfl)) (by decide) (backOf (W := 0) (rm_schr l Z a0 hw [] ss_1 (3 : Int32) w_COMPACT_STRINGS tt_1 kt_1 vs_1 zz (45 : Int32) (45 : Int32) w_SIOOBE_FORMATTER T1.heap n0 Z3 S_COMPACT_STRINGS hcs g1_1 g1_2 g1_3 g1_4 (by decide : ¬ ((3 : Int32) < (0 : Int32))) (own_lt hN hix (j := 3) (by decide)) (g1_5.2.1 hneg) O3 hr_SIOOBE_FORMATTER S_SIOOBE_FORMATTER (by decide : (((45 : Int32) &&& (255 : Int32)).toUInt32.toUInt16.toUInt32.toInt32) = (45 : Int32)) (by decide : ((45 : Int32).toUInt32.toUInt16.toUInt32.toInt32) = (45 : Int32))) hZ1 (hwi hw 183 rfl) (hwi hw 3 rfl) (by decide) (by decide)) q9a q9c (g := (mkF m 270 #[.val (.int p1), .val (.int p2), .val (.int 2), .val (.int cA), .val (.int cB), .val (.int cC), .val (.ref b6_1), .val (.ref b7_1), .val (.ref ss_1), .val (.int 1), .val (.long mm), .second, .val (.int dd), .val (.int 1)] [(.int 3), (.ref ss_1)])) rfl (by rw [hml]; rfl) (Steps.refl _) (argsL := [(.int 3)]) (rest := []) (lenOf pd_I_C_221 rfl) rfl (by show 2 * 0 + _ ≤ _; exact Nat.le_of_eq rfl) (hb hby at_270) (fun _ _ => ⟨rfl, e8, (by decide : 10 + 0 ≤ _), (by decide : 58 + 0 ≤ _)⟩)
  dsimp only [Pt.U, Pt.locs, Pt.cells, Pt.slots] at X9 l9 y9 z9 st9 hQ9
  subst l9 y9 z9
  obtain ⟨rfl, N9q, e9⟩ := hQ9
  have N9 := Fr.app N8 N9q
  have X10 := X9.more (cells' := 13) (slots' := 62) (by decide) (by decide)
  obtain ⟨T11, L11, vm11, j11, X11, N11, Kc11, hS11, hk11, hZ11, ho11, C11, st11⟩ := sg_tail p1 p2 (2 : Int32) cA cB cC b6_1 b7_1 ss_1 (1 : Int32) mm dd (1 : Int32) w_COMPACT_STRINGS tt_1 kt_1 vs_1 zz w_SIOOBE_FORMATTER X10 hx hZ1 hw hby hml ho1 e9 N9 Z3 hEL hS1 hk1 R2.1 S_COMPACT_STRINGS hcs g1_1 g1_2 g1_3 g1_4 (own_all g1_5 hN hix hdg) O3 hr_SIOOBE_FORMATTER S_SIOOBE_FORMATTER
  have R12 := C11
  have CR12 := CR2.trans R12
  have sz13 : T1.heap.size ≤ T11.heap.size := Kc11.1
  have Z13 : n0 ≤ T11.heap.size := Nat.le_trans Z3 sz13
  have O13 := O3.keep Kc11 all0
  have K13 : Keep h0 T11.heap [] := K3.trans Kc11 (all0)
  have CRe := CR12.trans (CHv.at X11 hZ11 hEL R12.1)
  obtain ⟨fs, hr, hrun, hended, hRE⟩ := X11.leaveW hS11 hk11 (v := some (.int 1)) (fun h => by rw [Bd.returns] at h; cases h)
  refine ⟨_, _, pre0 _ ?_, hrun, hended, _, _, rfl, ?_, ?_, ⟨hRE.1, hRE.2.1, hRE.2.2.1, hRE.2.2.2.mono (by decide) (by decide)⟩⟩
  · show St p e below s₁ (mkF m 0 #[.val (.int p1), .val (.int p2), .unset, .unset, .unset, .unset, .unset, .unset, .unset, .unset, .unset, .unset, .unset, .unset] []) _
    refine st1 _ ?_
    refine XS.iloadN X1.here hx rfl (hb hby at_131) rfl ?_
    refine XS.ifNo X1.here hx rfl (hb hby at_132) rfl ((if0 _ _).trans (tlt hneg).2.1) ?_
    refine XS.iconst X1.here hx rfl (hb hby at_135) ?_
    refine XS.goto X1.here hx rfl (pc0 := 136) (pc' := 140) rfl (hb hby at_136) (by decide) (by decide) ?_
    refine XS.istore X1.here hx rfl (hb hby at_140) rfl (l' := #[.val (.int p1), .val (.int p2), .val (.int 2), .val (.int cA), .val (.int cB), .val (.int cC), .val (.ref b6_1), .val (.ref b7_1), .val (.ref ss_1), .val (.int 1), .unset, .unset, .unset, .unset]) rfl ?_
    refine XS.iload X1.here hx rfl (hb hby at_142) rfl ?_
    refine XS.ifNo X1.here hx rfl (hb hby at_144) rfl ((if0 _ _).trans (feq (by decide : ¬ ((1 : Int32) = (0 : Int32)))).1) ?_
    show St p e below T1 (mkF m 147 #[.val (.int p1), .val (.int p2), .val (.int 2), .val (.int cA), .val (.int cB), .val (.int cC), .val (.ref b6_1), .val (.ref b7_1), .val (.ref ss_1), .val (.int 1), .unset, .unset, .unset, .unset] []) _
    refine XS.iloadN X1.here hx rfl (hb hby at_147) rfl ?_
    refine XS.i2l X1.here hx rfl (hb hby at_148) rfl ?_
    refine XS.lneg X1.here hx rfl (hb hby at_149) rfl ?_
    show St p e below T1 (mkF m 150 #[.val (.int p1), .val (.int p2), .val (.int 2), .val (.int cA), .val (.int cB), .val (.int cC), .val (.ref b6_1), .val (.ref b7_1), .val (.ref ss_1), .val (.int 1), .unset, .unset, .unset, .unset] [(.long (-(p2.toInt64)))]) _
    rw [hmm]
    show St p e below T1 (mkF m 150 #[.val (.int p1), .val (.int p2), .val (.int 2), .val (.int cA), .val (.int cB), .val (.int cC), .val (.ref b6_1), .val (.ref b7_1), .val (.ref ss_1), .val (.int 1), .unset, .unset, .unset, .unset] [(.long mm)]) _
    refine XS.goto X1.here hx rfl (pc0 := 150) (pc' := 155) rfl (hb hby at_150) (by decide) (by decide) ?_
    refine XS.lstore X1.here hx rfl (hb hby at_155) rfl (l' := #[.val (.int p1), .val (.int p2), .val (.int 2), .val (.int cA), .val (.int cB), .val (.int cC), .val (.ref b6_1), .val (.ref b7_1), .val (.ref ss_1), .val (.int 1), .val (.long mm), .second, .unset, .unset]) rfl ?_
    refine XS.lload X1.here hx rfl (hb hby at_157) rfl ?_
    refine st4 _ ?_
    refine XS.istore X4.here hx rfl (hb hby at_162) rfl (l' := #[.val (.int p1), .val (.int p2), .val (.int 2), .val (.int cA), .val (.int cB), .val (.int cC), .val (.ref b6_1), .val (.ref b7_1), .val (.ref ss_1), .val (.int 1), .val (.long mm), .second, .val (.int dd), .unset]) rfl ?_
    refine XS.iload X4.here hx rfl (hb hby at_164) rfl ?_
    refine XS.ifNo X4.here hx rfl (hb hby at_166) rfl ((if0 _ _).trans (feq (by decide : ¬ ((1 : Int32) = (0 : Int32)))).1) ?_
    refine XS.iconst X4.here hx rfl (hb hby at_169) ?_
    show St p e below T4 (mkF m 170 #[.val (.int p1), .val (.int p2), .val (.int 2), .val (.int cA), .val (.int cB), .val (.int cC), .val (.ref b6_1), .val (.ref b7_1), .val (.ref ss_1), .val (.int 1), .val (.long mm), .second, .val (.int dd), .unset] [(.int 1)]) _
    refine XS.goto X4.here hx rfl (pc0 := 170) (pc' := 174) rfl (hb hby at_170) (by decide) (by decide) ?_
    refine XS.istore X4.here hx rfl (hb hby at_174) rfl (l' := #[.val (.int p1), .val (.int p2), .val (.int 2), .val (.int cA), .val (.int cB), .val (.int cC), .val (.ref b6_1), .val (.ref b7_1), .val (.ref ss_1), .val (.int 1), .val (.long mm), .second, .val (.int dd), .val (.int 1)]) rfl ?_
    refine XS.aload X4.here hx rfl (hb hby at_176) rfl rfl ?_
    refine st5.trans ?_
    refine XS.iloadN X5.here hx rfl (hb hby at_181) rfl ?_
    refine XS.iconst X5.here hx rfl (hb hby at_182) ?_
    refine XS.iadd X5.here hx rfl (hb hby at_183) rfl ?_
    show St p e below T5 (mkF m 184 #[.val (.int p1), .val (.int p2), .val (.int 2), .val (.int cA), .val (.int cB), .val (.int cC), .val (.ref b6_1), .val (.ref b7_1), .val (.ref ss_1), .val (.int 1), .val (.long mm), .second, .val (.int dd), .val (.int 1)] [(.int ((2 : Int32) + (1 : Int32))), (.int zz)]) _
    rw [(by decide : ((2 : Int32) + (1 : Int32)) = (3 : Int32))]
    show St p e below T5 (mkF m 184 #[.val (.int p1), .val (.int p2), .val (.int 2), .val (.int cA), .val (.int cB), .val (.int cC), .val (.ref b6_1), .val (.ref b7_1), .val (.ref ss_1), .val (.int 1), .val (.long mm), .second, .val (.int dd), .val (.int 1)] [(.int 3), (.int zz)]) _
    refine XS.iload X5.here hx rfl (hb hby at_184) rfl ?_
    refine XS.iadd X5.here hx rfl (hb hby at_186) rfl ?_
    show St p e below T5 (mkF m 187 #[.val (.int p1), .val (.int p2), .val (.int 2), .val (.int cA), .val (.int cB), .val (.int cC), .val (.ref b6_1), .val (.ref b7_1), .val (.ref ss_1), .val (.int 1), .val (.long mm), .second, .val (.int dd), .val (.int 1)] [(.int ((3 : Int32) + (1 : Int32))), (.int zz)]) _
    rw [(by decide : ((3 : Int32) + (1 : Int32)) = (4 : Int32))]
    show St p e below T5 (mkF m 187 #[.val (.int p1), .val (.int p2), .val (.int 2), .val (.int cA), .val (.int cB), .val (.int cC), .val (.ref b6_1), .val (.ref b7_1), .val (.ref ss_1), .val (.int 1), .val (.long mm), .second, .val (.int dd), .val (.int 1)] [(.int 4), (.int zz)]) _
    refine XS.iload X5.here hx rfl (hb hby at_187) rfl ?_
    refine XS.iadd X5.here hx rfl (hb hby at_189) rfl ?_
    refine XS.icmpYes X5.here hx rfl (pc0 := 190) (pc' := 195) rfl (hb hby at_190) rfl (teq hlen).1 (by decide) (by decide) ?_
    refine XS.iloadN X5.here hx rfl (hb hby at_195) rfl ?_
    refine XS.ifNo X5.here hx rfl (hb hby at_196) rfl ((if0 _ _).trans (tlt (by decide : (0 : Int32) < (2 : Int32))).2.2.2) ?_
    refine XS.aload X5.here hx rfl (hb hby at_199) rfl rfl ?_
    refine XS.iconst X5.here hx rfl (hb hby at_201) ?_
    refine st6.trans ?_
    show St p e below T6 (mkF m 205 #[.val (.int p1), .val (.int p2), .val (.int 2), .val (.int cA), .val (.int cB), .val (.int cC), .val (.ref b6_1), .val (.ref b7_1), .val (.ref ss_1), .val (.int 1), .val (.long mm), .second, .val (.int dd), .val (.int 1)] [(.int cA)]) _
    refine XS.iloadN X6.here hx rfl (hb hby at_205) rfl ?_
    refine XS.icmpYes X6.here hx rfl (pc0 := 206) (pc' := 211) rfl (hb hby at_206) rfl (teq (rfl : cA = cA)).1 (by decide) (by decide) ?_
    refine XS.iloadN X6.here hx rfl (hb hby at_211) rfl ?_
    refine XS.iconst X6.here hx rfl (hb hby at_212) ?_
    refine XS.icmpNo X6.here hx rfl (hb hby at_213) rfl (tlt (by decide : (1 : Int32) < (2 : Int32))).2.2.2 ?_
    refine XS.aload X6.here hx rfl (hb hby at_216) rfl rfl ?_
    refine XS.iconst X6.here hx rfl (hb hby at_218) ?_
    refine st7.trans ?_
    show St p e below T7 (mkF m 222 #[.val (.int p1), .val (.int p2), .val (.int 2), .val (.int cA), .val (.int cB), .val (.int cC), .val (.ref b6_1), .val (.ref b7_1), .val (.ref ss_1), .val (.int 1), .val (.long mm), .second, .val (.int dd), .val (.int 1)] [(.int cB)]) _
    refine XS.iload X7.here hx rfl (hb hby at_222) rfl ?_
    refine XS.icmpYes X7.here hx rfl (pc0 := 224) (pc' := 229) rfl (hb hby at_224) rfl (teq (rfl : cB = cB)).1 (by decide) (by decide) ?_
    refine XS.iloadN X7.here hx rfl (hb hby at_229) rfl ?_
    refine XS.iconst X7.here hx rfl (hb hby at_230) ?_
    refine XS.icmpYes X7.here hx rfl (pc0 := 231) (pc' := 247) rfl (hb hby at_231) rfl (flt (by decide : ¬ ((2 : Int32) < (2 : Int32)))).2.2.2 (by decide) (by decide) ?_
    refine XS.aload X7.here hx rfl (hb hby at_247) rfl rfl ?_
    refine XS.iloadN X7.here hx rfl (hb hby at_249) rfl ?_
    refine st8.trans ?_
    show St p e below T8 (mkF m 253 #[.val (.int p1), .val (.int p2), .val (.int 2), .val (.int cA), .val (.int cB), .val (.int cC), .val (.ref b6_1), .val (.ref b7_1), .val (.ref ss_1), .val (.int 1), .val (.long mm), .second, .val (.int dd), .val (.int 1)] [(.int 58)]) _
    refine XS.bipush X8.here hx rfl (hb hby at_253) ?_
    refine XS.icmpYes X8.here hx rfl (pc0 := 255) (pc' := 260) rfl (hb hby at_255) rfl (teq (by decide : (58 : Int32) = (58 : Int32))).1 (by decide) (by decide) ?_
    refine XS.iload X8.here hx rfl (hb hby at_260) rfl ?_
    refine XS.ifNo X8.here hx rfl (hb hby at_262) rfl ((if0 _ _).trans (feq (by decide : ¬ ((1 : Int32) = (0 : Int32)))).1) ?_
    refine XS.aload X8.here hx rfl (hb hby at_265) rfl rfl ?_
    refine XS.iloadN X8.here hx rfl (hb hby at_267) rfl ?_
    refine XS.iconst X8.here hx rfl (hb hby at_268) ?_
    refine XS.iadd X8.here hx rfl (hb hby at_269) rfl ?_
    show St p e below T8 (mkF m 270 #[.val (.int p1), .val (.int p2), .val (.int 2), .val (.int cA), .val (.int cB), .val (.int cC), .val (.ref b6_1), .val (.ref b7_1), .val (.ref ss_1), .val (.int 1), .val (.long mm), .second, .val (.int dd), .val (.int 1)] [(.int ((2 : Int32) + (1 : Int32))), (.ref ss_1)]) _
    rw [(by decide : ((2 : Int32) + (1 : Int32)) = (3 : Int32))]
    show St p e below T8 (mkF m 270 #[.val (.int p1), .val (.int p2), .val (.int 2), .val (.int cA), .val (.int cB), .val (.int cC), .val (.ref b6_1), .val (.ref b7_1), .val (.ref ss_1), .val (.int 1), .val (.long mm), .second, .val (.int dd), .val (.int 1)] [(.int 3), (.ref ss_1)]) _
    refine st9.trans ?_
    refine XS.bipush X9.here hx rfl (hb hby at_273) ?_
    refine XS.icmpYes X9.here hx rfl (pc0 := 275) (pc' := 280) rfl (hb hby at_275) rfl (teq (by decide : (45 : Int32) = (45 : Int32))).1 (by decide) (by decide) ?_
    refine st11 _ ?_
    show St p e below T11 (mkF m 419 #[.val (.int p1), .val (.int p2), .val (.int 2), .val (.int cA), .val (.int cB), .val (.int cC), .val (.ref b6_1), .val (.ref b7_1), .val (.ref ss_1), .val (.int 1), .val (.long mm), .second, .val (.int dd), .val (.int 1)] [(.int 1)]) _
    exact retN X11 hx (t := .boolean) Bd.returns (by simp) (hb hby at_419) hr
  · exact ⟨rfl, N11⟩
  · show CHr Z consts_1 s.vm s.heap T11.vm T11.heap
    rw [hh]
    exact CRe
set_option maxRecDepth 65536 in
set_option maxHeartbeats 40000000 in
theorem rm_law_3_0 (l : Launch) (Z : State) (a0 : Array Value) (hw : ∀ d ∈ tables_1, d.before a0 Z = true) (hEL : EW Z a0 consts_1) (ws : List Jvm.Cond) (p1 : Int32) (p2 : Int32) (mm : Int64) (dd : Int32) (w_COMPACT_STRINGS : Int32) (zz : Int32) (n : Nat) (ix : Nat) (cA : Int32) (cB : Int32) (cC : Int32) (w_SIOOBE_FORMATTER : Value) (h0 : Heap) (n0 : Nat) (Z0 : n0 ≤ h0.size) (S_COMPACT_STRINGS : Sta Z Z.heap "java/lang/String" "COMPACT_STRINGS" "Z" (.int w_COMPACT_STRINGS)) (hcs : ¬ (w_COMPACT_STRINGS = (0 : Int32))) (hbcA : ¬ ((255 : Int32) < cA)) (hbcB : ¬ ((255 : Int32) < cB)) (hbcC : ¬ ((255 : Int32) < cC)) (hzz : ((4 : Int32) + (Jvm.Free.SBG.strSizeOf p2)) = zz) (hB : own_B Z) (hN : own_N p2 n 4 ix) (hix : zz = Int32.ofNat ix) (hneg : ¬ (p2 < (0 : Int32))) (hkcA : (((cA.toInt8.toInt32) &&& (255 : Int32)).toUInt32.toUInt16.toUInt32.toInt32) = cA) (hkcB : (((cB.toInt8.toInt32) &&& (255 : Int32)).toUInt32.toUInt16.toUInt32.toInt32) = cB) (hkcC : (((cC.toInt8.toInt32) &&& (255 : Int32)).toUInt32.toUInt16.toUInt32.toInt32) = cC) (hdg : own_dg mm n dd) (hlen : zz = ((4 : Int32) + dd)) (hk : (p1 &&& (3 : Int32)) = (3 : Int32)) (hcA : ((((p1.toUInt32 >>> ((2 : Int32) &&& 31).toUInt32).toInt32) &&& (255 : Int32)).toUInt32.toUInt16.toUInt32.toInt32) = cA) (hcB : ((((p1.toUInt32 >>> ((10 : Int32) &&& 31).toUInt32).toInt32) &&& (255 : Int32)).toUInt32.toUInt16.toUInt32.toInt32) = cB) (hcC : ((((p1.toUInt32 >>> ((18 : Int32) &&& 31).toUInt32).toInt32) &&& (255 : Int32)).toUInt32.toUInt16.toUInt32.toInt32) = cC) (O0 : Old Z n0 h0) (hncA : (cA.toUInt32.toUInt16.toUInt32.toInt32) = cA) (hncB : (cB.toUInt32.toUInt16.toUInt32.toInt32) = cB) (hncC : (cC.toUInt32.toUInt16.toUInt32.toInt32) = cC) (hmm : (p2.toInt64) = mm) (hr_SIOOBE_FORMATTER : w_SIOOBE_FORMATTER.isRef = true) (S_SIOOBE_FORMATTER : Sta Z Z.heap "jdk/internal/util/Preconditions" "SIOOBE_FORMATTER" "Ljava/util/function/BiFunction;" w_SIOOBE_FORMATTER) :
    MetFree l x (head1 (Jvm.Cond.code x code maxLocals ret :: ws) room_1) (fun a U => a = #[(.int p1), (.int p2)] ∧ Z.Warmed39 U.vm ∧ U.heap = h0 ∧ CHv Z consts_1 U.vm h0) (fun _ _ _ _ _ => True) (fun _ U o U' => ∃ v L, o = .returned v ∧ Q_law n0 v L ∧ CHr Z consts_1 U.vm U.heap U'.vm U'.heap ∧ ReturnedEndW U o U' L room_1.cells room_1.slots) := by
  refine MetFree.of_bodySF (plainFor_of_name pn_0) hisR ?_
  intro p e s m args below meth c s₁ Bd hml0 hP hK
  obtain ⟨rfl, hZ, hh, H0c⟩ := hP
  have hx := Bd.exec
  have hby := Bd.bytes
  have hml : c.maxLocals = 14 := hml0
  have hown : s.vm.findClass "com/example/demarc/demarc/tool/AccountToStringPinLaw" = some m.cls := findClass_of_methodNamed Bd.named
  have hnm := (name_of_methodNamed Bd.named Bd.method).1
  have X0 : Stand p l e room_1 (s.setVm s.vm) m #[(.int p1), (.int p2)] below meth c s₁ [] 0 0 := Stand.of_body Bd
  have e0 : s₁.heap = h0 := by rw [← hh, Bd.state]; rfl
  have N0 := Fr.nil n0
  have pre0 : ∀ t, Steps p.tables e below (s₁.setTop (mkF m 0 #[.val (.int p1), .val (.int p2), .unset, .unset, .unset, .unset, .unset, .unset, .unset, .unset, .unset, .unset, .unset, .unset] [])) t → Steps p.tables e below (s₁.setTop (entryFrame m #[(.int p1), (.int p2)] maxLocals)) t := fun t k => castTop (ef_0_II m p1 p2) k
  have hS0 : s.Since s.vm 0 := (State.WarmedH.refl s).since 0
  have hk0 : 0 ≤ h0.size := Nat.zero_le _
  have C0c : CHr Z consts_1 s.vm h0 s.vm h0 := CHr.refl H0c
  obtain ⟨T1, L1, vm1, j1, b6_1, b7_1, ss_1, tt_1, kt_1, vs_1, X1, N1, Kc1, hS1, hk1, hZ1, ho1, C1, g1_0, g1_1, g1_2, g1_3, g1_4, g1_5, st1⟩ := sg_front_3 p1 p2 w_COMPACT_STRINGS zz n ix cA cB cC X0 hx hZ hw hby hml hown e0 N0 Z0 hEL hS0 hk0 H0c S_COMPACT_STRINGS hcs hbcA hbcB hbcC hzz hB hN hix hk hcA hcB hcC O0 hncA hncB hncC
  have R2 := C1
  have CR2 := C0c.trans R2
  have sz3 : h0.size ≤ T1.heap.size := Kc1.1
  have Z3 : n0 ≤ T1.heap.size := Nat.le_trans Z0 sz3
  have O3 := O0.keep Kc1 all0
  have K3 : Keep h0 T1.heap [] := (Keep.refl h0 []).trans Kc1 (all0)
  have bn_ss_1 : h0.size ≤ ss_1 := g1_0
  obtain ⟨_, _, ⟨T4, L4, k4, n4⟩, -, X4, ⟨Lc4, hQ4, l4, y4, z4⟩, st4⟩ := Jvm.LawKit.callS X1 hx (y := mn38) ho1 (mvT hZ1 (hwi hw 173 rfl)) (mvT hZ1 (hwi hw 174 rfl)) (mvT hZ1 (hwi hw 175 rfl)) (mvT hZ1 (hwi hw 176 rfl)) (by decide) (backOf (W := 0) (rm_digs l Z a0 hw [] mm n dd T1.heap n0 Z3 hdg) hZ1 (hwi hw 176 rfl) (hwi hw 175 rfl) (by decide) (by decide)) (g := (mkF m 159 #[.val (.int p1), .val (.int p2), .val (.int 3), .val (.int cA), .val (.int cB), .val (.int cC), .val (.ref b6_1), .val (.ref b7_1), .val (.ref ss_1), .val (.int 0), .val (.long mm), .second, .unset, .unset] [(.long mm)])) rfl (by rw [hml]; rfl) (argsL := [(.long mm)]) (rest := []) (lenOf pd_J_I_228 rfl) rfl (by show 2 * 0 + _ ≤ _; exact Nat.le_of_eq rfl) (hb hby at_159) (fun _ _ => ⟨rfl, rfl, (by decide : 10 + 0 ≤ _), (by decide : 60 + 0 ≤ _)⟩)
  dsimp only [Pt.U, Pt.locs, Pt.cells, Pt.slots] at X4 l4 y4 z4 st4 hQ4
  subst l4 y4 z4
  obtain ⟨rfl, N4q, e4⟩ := hQ4
  have N4 := Fr.app N1 N4q
  obtain ⟨cq5, kq5, q5a, q5b, q5c⟩ := isOf hZ1 e4 g1_1
  obtain ⟨_, _, ⟨T5, L5, k5, n5⟩, -, X5, ⟨Lc5, hQ5, l5, y5, z5⟩, st5⟩ := X4.virtualBack hx (y := mn6) (z := mn6) ho1 (mvT hZ1 (hwi hw 178 rfl)) (mvT hZ1 (hwi hw 72 rfl)) (notFace_of_selects (args := #[]) (mvT hZ1 (hwi hw 74 rfl))) (mvT hZ1 (hwi hw 74 rfl)) (mvT hZ1 (hwi hw 73 rfl)) (by decide) (backOf (W := 0) (rm_slen l Z a0 hw [] ss_1 w_COMPACT_STRINGS tt_1 kt_1 vs_1 zz T1.heap n0 Z3 S_COMPACT_STRINGS hcs g1_1 g1_2 g1_3 g1_4 O3 (own_sh zz)) hZ1 (hwi hw 75 rfl) (hwi hw 3 rfl) (by decide) (by decide)) q5a q5c (g := (mkF m 178 #[.val (.int p1), .val (.int p2), .val (.int 3), .val (.int cA), .val (.int cB), .val (.int cC), .val (.ref b6_1), .val (.ref b7_1), .val (.ref ss_1), .val (.int 0), .val (.long mm), .second, .val (.int dd), .val (.int 0)] [(.ref ss_1)])) rfl (by rw [hml]; rfl) (Steps.refl _) (argsL := []) (rest := []) (lenOf pd_I_154 rfl) rfl (by show 2 * 0 + _ ≤ _; exact Nat.le_of_eq rfl) (hb hby at_178) (fun _ _ => ⟨rfl, e4, (by decide : 10 + 0 ≤ _), (by decide : 60 + 0 ≤ _)⟩)
  dsimp only [Pt.U, Pt.locs, Pt.cells, Pt.slots] at X5 l5 y5 z5 st5 hQ5
  subst l5 y5 z5
  obtain ⟨rfl, N5q, e5⟩ := hQ5
  have N5 := Fr.app N4 N5q
  obtain ⟨cq6, kq6, q6a, q6b, q6c⟩ := isOf hZ1 e5 g1_1
  obtain ⟨_, _, ⟨T6, L6, k6, n6⟩, -, X6, ⟨Lc6, hQ6, l6, y6, z6⟩, st6⟩ := X5.virtualBack hx (y := mn11) (z := mn11) ho1 (mvT hZ1 (hwi hw 179 rfl)) (mvT hZ1 (hwi hw 180 rfl)) (notFace_of_selects (args := #[]) (mvT hZ1 (hwi hw 182 rfl))) (mvT hZ1 (hwi hw 182 rfl)) (mvT hZ1 (hwi hw 181 rfl)) (by decide) (backOf (W := 0) (rm_schr l Z a0 hw [] ss_1 (0 : Int32) w_COMPACT_STRINGS tt_1 kt_1 vs_1 zz (cA.toInt8.toInt32) cA w_SIOOBE_FORMATTER T1.heap n0 Z3 S_COMPACT_STRINGS hcs g1_1 g1_2 g1_3 g1_4 (by decide : ¬ ((0 : Int32) < (0 : Int32))) (own_lt hN hix (j := 0) (by decide)) (g1_5.1 0 (by decide)) O3 hr_SIOOBE_FORMATTER S_SIOOBE_FORMATTER hkcA hncA) hZ1 (hwi hw 183 rfl) (hwi hw 3 rfl) (by decide) (by decide)) q6a q6c (g := (mkF m 202 #[.val (.int p1), .val (.int p2), .val (.int 3), .val (.int cA), .val (.int cB), .val (.int cC), .val (.ref b6_1), .val (.ref b7_1), .val (.ref ss_1), .val (.int 0), .val (.long mm), .second, .val (.int dd), .val (.int 0)] [(.int 0), (.ref ss_1)])) rfl (by rw [hml]; rfl) (Steps.refl _) (argsL := [(.int 0)]) (rest := []) (lenOf pd_I_C_221 rfl) rfl (by show 2 * 0 + _ ≤ _; exact Nat.le_of_eq rfl) (hb hby at_202) (fun _ _ => ⟨rfl, e5, (by decide : 10 + 0 ≤ _), (by decide : 60 + 0 ≤ _)⟩)
  dsimp only [Pt.U, Pt.locs, Pt.cells, Pt.slots] at X6 l6 y6 z6 st6 hQ6
  subst l6 y6 z6
  obtain ⟨rfl, N6q, e6⟩ := hQ6
  have N6 := Fr.app N5 N6q
  obtain ⟨cq7, kq7, q7a, q7b, q7c⟩ := isOf hZ1 e6 g1_1
  obtain ⟨_, _, ⟨T7, L7, k7, n7⟩, -, X7, ⟨Lc7, hQ7, l7, y7, z7⟩, st7⟩ := X6.virtualBack hx (y := mn11) (z := mn11) ho1 (mvT hZ1 (hwi hw 179 rfl)) (mvT hZ1 (hwi hw 180 rfl)) (notFace_of_selects (args := #[]) (mvT hZ1 (hwi hw 182 rfl))) (mvT hZ1 (hwi hw 182 rfl)) (mvT hZ1 (hwi hw 181 rfl)) (by decide) (backOf (W := 0) (rm_schr l Z a0 hw [] ss_1 (1 : Int32) w_COMPACT_STRINGS tt_1 kt_1 vs_1 zz (cB.toInt8.toInt32) cB w_SIOOBE_FORMATTER T1.heap n0 Z3 S_COMPACT_STRINGS hcs g1_1 g1_2 g1_3 g1_4 (by decide : ¬ ((1 : Int32) < (0 : Int32))) (own_lt hN hix (j := 1) (by decide)) (g1_5.1 1 (by decide)) O3 hr_SIOOBE_FORMATTER S_SIOOBE_FORMATTER hkcB hncB) hZ1 (hwi hw 183 rfl) (hwi hw 3 rfl) (by decide) (by decide)) q7a q7c (g := (mkF m 219 #[.val (.int p1), .val (.int p2), .val (.int 3), .val (.int cA), .val (.int cB), .val (.int cC), .val (.ref b6_1), .val (.ref b7_1), .val (.ref ss_1), .val (.int 0), .val (.long mm), .second, .val (.int dd), .val (.int 0)] [(.int 1), (.ref ss_1)])) rfl (by rw [hml]; rfl) (Steps.refl _) (argsL := [(.int 1)]) (rest := []) (lenOf pd_I_C_221 rfl) rfl (by show 2 * 0 + _ ≤ _; exact Nat.le_of_eq rfl) (hb hby at_219) (fun _ _ => ⟨rfl, e6, (by decide : 10 + 0 ≤ _), (by decide : 60 + 0 ≤ _)⟩)
  dsimp only [Pt.U, Pt.locs, Pt.cells, Pt.slots] at X7 l7 y7 z7 st7 hQ7
  subst l7 y7 z7
  obtain ⟨rfl, N7q, e7⟩ := hQ7
  have N7 := Fr.app N6 N7q
  obtain ⟨cq8, kq8, q8a, q8b, q8c⟩ := isOf hZ1 e7 g1_1
  obtain ⟨_, _, ⟨T8, L8, k8, n8⟩, -, X8, ⟨Lc8, hQ8, l8, y8, z8⟩, st8⟩ := X7.virtualBack hx (y := mn11) (z := mn11) ho1 (mvT hZ1 (hwi hw 179 rfl)) (mvT hZ1 (hwi hw 180 rfl)) (notFace_of_selects (args := #[]) (mvT hZ1 (hwi hw 182 rfl))) (mvT hZ1 (hwi hw 182 rfl)) (mvT hZ1 (hwi hw 181 rfl)) (by decide) (backOf (W := 0) (rm_schr l Z a0 hw [] ss_1 (2 : Int32) w_COMPACT_STRINGS tt_1 kt_1 vs_1 zz (cC.toInt8.toInt32) cC w_SIOOBE_FORMATTER T1.heap n0 Z3 S_COMPACT_STRINGS hcs g1_1 g1_2 g1_3 g1_4 (by decide : ¬ ((2 : Int32) < (0 : Int32))) (own_lt hN hix (j := 2) (by decide)) (g1_5.1 2 (by decide)) O3 hr_SIOOBE_FORMATTER S_SIOOBE_FORMATTER hkcC hncC) hZ1 (hwi hw 183 rfl) (hwi hw 3 rfl) (by decide) (by decide)) q8a q8c (g := (mkF m 237 #[.val (.int p1), .val (.int p2), .val (.int 3), .val (.int cA), .val (.int cB), .val (.int cC), .val (.ref b6_1), .val (.ref b7_1), .val (.ref ss_1), .val (.int 0), .val (.long mm), .second, .val (.int dd), .val (.int 0)] [(.int 2), (.ref ss_1)])) rfl (by rw [hml]; rfl) (Steps.refl _) (argsL := [(.int 2)]) (rest := []) (lenOf pd_I_C_221 rfl) rfl (by show 2 * 0 + _ ≤ _; exact Nat.le_of_eq rfl) (hb hby at_237) (fun _ _ => ⟨rfl, e7, (by decide : 10 + 0 ≤ _), (by decide : 60 + 0 ≤ _)⟩)
  dsimp only [Pt.U, Pt.locs, Pt.cells, Pt.slots] at X8 l8 y8 z8 st8 hQ8
  subst l8 y8 z8
  obtain ⟨rfl, N8q, e8⟩ := hQ8
  have N8 := Fr.app N7 N8q
  obtain ⟨cq9, kq9, q9a, q9b, q9c⟩ := isOf hZ1 e8 g1_1
  obtain ⟨_, _, ⟨T9, L9, k9, n9⟩, -, X9, ⟨Lc9, hQ9, l9, y9, z9⟩, st9⟩ := X8.virtualBack hx (y := mn11) (z := mn11) ho1 (mvT hZ1 (hwi hw 179 rfl)) (mvT hZ1 (hwi hw 180 rfl)) (notFace_of_selects (args := #[]) (mvT hZ1 (hwi hw 182 rfl))) (mvT hZ1 (hwi hw 182 rfl)) (mvT hZ1 (hwi hw 181 rfl)) (by decide) (backOf (W := 0) (rm_schr l Z a0 hw [] ss_1 (3 : Int32) w_COMPACT_STRINGS tt_1 kt_1 vs_1 zz (58 : Int32) (58 : Int32) w_SIOOBE_FORMATTER T1.heap n0 Z3 S_COMPACT_STRINGS hcs g1_1 g1_2 g1_3 g1_4 (by decide : ¬ ((3 : Int32) < (0 : Int32))) (own_lt hN hix (j := 3) (by decide)) (g1_5.1 3 (by decide)) O3 hr_SIOOBE_FORMATTER S_SIOOBE_FORMATTER (by decide : (((58 : Int32) &&& (255 : Int32)).toUInt32.toUInt16.toUInt32.toInt32) = (58 : Int32)) (by decide : ((58 : Int32).toUInt32.toUInt16.toUInt32.toInt32) = (58 : Int32))) hZ1 (hwi hw 183 rfl) (hwi hw 3 rfl) (by decide) (by decide)) q9a q9c (g := (mkF m 250 #[.val (.int p1), .val (.int p2), .val (.int 3), .val (.int cA), .val (.int cB), .val (.int cC), .val (.ref b6_1), .val (.ref b7_1), .val (.ref ss_1), .val (.int 0), .val (.long mm), .second, .val (.int dd), .val (.int 0)] [(.int 3), (.ref ss_1)])) rfl (by rw [hml]; rfl) (Steps.refl _) (argsL := [(.int 3)]) (rest := []) (lenOf pd_I_C_221 rfl) rfl (by show 2 * 0 + _ ≤ _; exact Nat.le_of_eq rfl) (hb hby at_250) (fun _ _ => ⟨rfl, e8, (by decide : 10 + 0 ≤ _), (by decide : 60 + 0 ≤ _)⟩)
  dsimp only [Pt.U, Pt.locs, Pt.cells, Pt.slots] at X9 l9 y9 z9 st9 hQ9
  subst l9 y9 z9
  obtain ⟨rfl, N9q, e9⟩ := hQ9
  have N9 := Fr.app N8 N9q
  have X10 := X9.more (cells' := 13) (slots' := 62) (by decide) (by decide)
  obtain ⟨T11, L11, vm11, j11, X11, N11, Kc11, hS11, hk11, hZ11, ho11, C11, st11⟩ := sg_tail p1 p2 (3 : Int32) cA cB cC b6_1 b7_1 ss_1 (0 : Int32) mm dd (0 : Int32) w_COMPACT_STRINGS tt_1 kt_1 vs_1 zz w_SIOOBE_FORMATTER X10 hx hZ1 hw hby hml ho1 e9 N9 Z3 hEL hS1 hk1 R2.1 S_COMPACT_STRINGS hcs g1_1 g1_2 g1_3 g1_4 (own_all g1_5 hN hix hdg) O3 hr_SIOOBE_FORMATTER S_SIOOBE_FORMATTER
  have R12 := C11
  have CR12 := CR2.trans R12
  have sz13 : T1.heap.size ≤ T11.heap.size := Kc11.1
  have Z13 : n0 ≤ T11.heap.size := Nat.le_trans Z3 sz13
  have O13 := O3.keep Kc11 all0
  have K13 : Keep h0 T11.heap [] := K3.trans Kc11 (all0)
  have CRe := CR12.trans (CHv.at X11 hZ11 hEL R12.1)
  obtain ⟨fs, hr, hrun, hended, hRE⟩ := X11.leaveW hS11 hk11 (v := some (.int 1)) (fun h => by rw [Bd.returns] at h; cases h)
  refine ⟨_, _, pre0 _ ?_, hrun, hended, _, _, rfl, ?_, ?_, ⟨hRE.1, hRE.2.1, hRE.2.2.1, hRE.2.2.2.mono (by decide) (by decide)⟩⟩
  · show St p e below s₁ (mkF m 0 #[.val (.int p1), .val (.int p2), .unset, .unset, .unset, .unset, .unset, .unset, .unset, .unset, .unset, .unset, .unset, .unset] []) _
    refine st1 _ ?_
    refine XS.iloadN X1.here hx rfl (hb hby at_131) rfl ?_
    refine XS.ifYes X1.here hx rfl (pc0 := 132) (pc' := 139) rfl (hb hby at_132) rfl ((if0 _ _).trans (flt hneg).2.1) (by decide) (by decide) ?_
    refine XS.iconst X1.here hx rfl (hb hby at_139) ?_
    refine XS.istore X1.here hx rfl (hb hby at_140) rfl (l' := #[.val (.int p1), .val (.int p2), .val (.int 3), .val (.int cA), .val (.int cB), .val (.int cC), .val (.ref b6_1), .val (.ref b7_1), .val (.ref ss_1), .val (.int 0), .unset, .unset, .unset, .unset]) rfl ?_
    refine XS.iload X1.here hx rfl (hb hby at_142) rfl ?_
    refine XS.ifYes X1.here hx rfl (pc0 := 144) (pc' := 153) rfl (hb hby at_144) rfl ((if0 _ _).trans (teq (by decide : (0 : Int32) = (0 : Int32))).1) (by decide) (by decide) ?_
    refine XS.iloadN X1.here hx rfl (hb hby at_153) rfl ?_
    show St p e below T1 (mkF m 154 #[.val (.int p1), .val (.int p2), .val (.int 3), .val (.int cA), .val (.int cB), .val (.int cC), .val (.ref b6_1), .val (.ref b7_1), .val (.ref ss_1), .val (.int 0), .unset, .unset, .unset, .unset] [(.int p2)]) _
    refine XS.i2l X1.here hx rfl (hb hby at_154) rfl ?_
    show St p e below T1 (mkF m 155 #[.val (.int p1), .val (.int p2), .val (.int 3), .val (.int cA), .val (.int cB), .val (.int cC), .val (.ref b6_1), .val (.ref b7_1), .val (.ref ss_1), .val (.int 0), .unset, .unset, .unset, .unset] [(.long (p2.toInt64))]) _
    rw [hmm]
    show St p e below T1 (mkF m 155 #[.val (.int p1), .val (.int p2), .val (.int 3), .val (.int cA), .val (.int cB), .val (.int cC), .val (.ref b6_1), .val (.ref b7_1), .val (.ref ss_1), .val (.int 0), .unset, .unset, .unset, .unset] [(.long mm)]) _
    refine XS.lstore X1.here hx rfl (hb hby at_155) rfl (l' := #[.val (.int p1), .val (.int p2), .val (.int 3), .val (.int cA), .val (.int cB), .val (.int cC), .val (.ref b6_1), .val (.ref b7_1), .val (.ref ss_1), .val (.int 0), .val (.long mm), .second, .unset, .unset]) rfl ?_
    refine XS.lload X1.here hx rfl (hb hby at_157) rfl ?_
    refine st4 _ ?_
    refine XS.istore X4.here hx rfl (hb hby at_162) rfl (l' := #[.val (.int p1), .val (.int p2), .val (.int 3), .val (.int cA), .val (.int cB), .val (.int cC), .val (.ref b6_1), .val (.ref b7_1), .val (.ref ss_1), .val (.int 0), .val (.long mm), .second, .val (.int dd), .unset]) rfl ?_
    refine XS.iload X4.here hx rfl (hb hby at_164) rfl ?_
    refine XS.ifYes X4.here hx rfl (pc0 := 166) (pc' := 173) rfl (hb hby at_166) rfl ((if0 _ _).trans (teq (by decide : (0 : Int32) = (0 : Int32))).1) (by decide) (by decide) ?_
    refine XS.iconst X4.here hx rfl (hb hby at_173) ?_
    refine XS.istore X4.here hx rfl (hb hby at_174) rfl (l' := #[.val (.int p1), .val (.int p2), .val (.int 3), .val (.int cA), .val (.int cB), .val (.int cC), .val (.ref b6_1), .val (.ref b7_1), .val (.ref ss_1), .val (.int 0), .val (.long mm), .second, .val (.int dd), .val (.int 0)]) rfl ?_
    show St p e below T4 (mkF m 176 #[.val (.int p1), .val (.int p2), .val (.int 3), .val (.int cA), .val (.int cB), .val (.int cC), .val (.ref b6_1), .val (.ref b7_1), .val (.ref ss_1), .val (.int 0), .val (.long mm), .second, .val (.int dd), .val (.int 0)] []) _
    refine XS.aload X4.here hx rfl (hb hby at_176) rfl rfl ?_
    refine st5.trans ?_
    refine XS.iloadN X5.here hx rfl (hb hby at_181) rfl ?_
    refine XS.iconst X5.here hx rfl (hb hby at_182) ?_
    refine XS.iadd X5.here hx rfl (hb hby at_183) rfl ?_
    show St p e below T5 (mkF m 184 #[.val (.int p1), .val (.int p2), .val (.int 3), .val (.int cA), .val (.int cB), .val (.int cC), .val (.ref b6_1), .val (.ref b7_1), .val (.ref ss_1), .val (.int 0), .val (.long mm), .second, .val (.int dd), .val (.int 0)] [(.int ((3 : Int32) + (1 : Int32))), (.int zz)]) _
    rw [(by decide : ((3 : Int32) + (1 : Int32)) = (4 : Int32))]
    show St p e below T5 (mkF m 184 #[.val (.int p1), .val (.int p2), .val (.int 3), .val (.int cA), .val (.int cB), .val (.int cC), .val (.ref b6_1), .val (.ref b7_1), .val (.ref ss_1), .val (.int 0), .val (.long mm), .second, .val (.int dd), .val (.int 0)] [(.int 4), (.int zz)]) _
    refine XS.iload X5.here hx rfl (hb hby at_184) rfl ?_
    refine XS.iadd X5.here hx rfl (hb hby at_186) rfl ?_
    show St p e below T5 (mkF m 187 #[.val (.int p1), .val (.int p2), .val (.int 3), .val (.int cA), .val (.int cB), .val (.int cC), .val (.ref b6_1), .val (.ref b7_1), .val (.ref ss_1), .val (.int 0), .val (.long mm), .second, .val (.int dd), .val (.int 0)] [(.int ((4 : Int32) + (0 : Int32))), (.int zz)]) _
    rw [(by decide : ((4 : Int32) + (0 : Int32)) = (4 : Int32))]
    show St p e below T5 (mkF m 187 #[.val (.int p1), .val (.int p2), .val (.int 3), .val (.int cA), .val (.int cB), .val (.int cC), .val (.ref b6_1), .val (.ref b7_1), .val (.ref ss_1), .val (.int 0), .val (.long mm), .second, .val (.int dd), .val (.int 0)] [(.int 4), (.int zz)]) _
    refine XS.iload X5.here hx rfl (hb hby at_187) rfl ?_
    refine XS.iadd X5.here hx rfl (hb hby at_189) rfl ?_
    refine XS.icmpYes X5.here hx rfl (pc0 := 190) (pc' := 195) rfl (hb hby at_190) rfl (teq hlen).1 (by decide) (by decide) ?_
    refine XS.iloadN X5.here hx rfl (hb hby at_195) rfl ?_
    refine XS.ifNo X5.here hx rfl (hb hby at_196) rfl ((if0 _ _).trans (tlt (by decide : (0 : Int32) < (3 : Int32))).2.2.2) ?_
    refine XS.aload X5.here hx rfl (hb hby at_199) rfl rfl ?_
    refine XS.iconst X5.here hx rfl (hb hby at_201) ?_
    refine st6.trans ?_
    show St p e below T6 (mkF m 205 #[.val (.int p1), .val (.int p2), .val (.int 3), .val (.int cA), .val (.int cB), .val (.int cC), .val (.ref b6_1), .val (.ref b7_1), .val (.ref ss_1), .val (.int 0), .val (.long mm), .second, .val (.int dd), .val (.int 0)] [(.int cA)]) _
    refine XS.iloadN X6.here hx rfl (hb hby at_205) rfl ?_
    refine XS.icmpYes X6.here hx rfl (pc0 := 206) (pc' := 211) rfl (hb hby at_206) rfl (teq (rfl : cA = cA)).1 (by decide) (by decide) ?_
    refine XS.iloadN X6.here hx rfl (hb hby at_211) rfl ?_
    refine XS.iconst X6.here hx rfl (hb hby at_212) ?_
    refine XS.icmpNo X6.here hx rfl (hb hby at_213) rfl (tlt (by decide : (1 : Int32) < (3 : Int32))).2.2.2 ?_
    refine XS.aload X6.here hx rfl (hb hby at_216) rfl rfl ?_
    refine XS.iconst X6.here hx rfl (hb hby at_218) ?_
    refine st7.trans ?_
    show St p e below T7 (mkF m 222 #[.val (.int p1), .val (.int p2), .val (.int 3), .val (.int cA), .val (.int cB), .val (.int cC), .val (.ref b6_1), .val (.ref b7_1), .val (.ref ss_1), .val (.int 0), .val (.long mm), .second, .val (.int dd), .val (.int 0)] [(.int cB)]) _
    refine XS.iload X7.here hx rfl (hb hby at_222) rfl ?_
    refine XS.icmpYes X7.here hx rfl (pc0 := 224) (pc' := 229) rfl (hb hby at_224) rfl (teq (rfl : cB = cB)).1 (by decide) (by decide) ?_
    refine XS.iloadN X7.here hx rfl (hb hby at_229) rfl ?_
    refine XS.iconst X7.here hx rfl (hb hby at_230) ?_
    refine XS.icmpNo X7.here hx rfl (hb hby at_231) rfl (tlt (by decide : (2 : Int32) < (3 : Int32))).2.2.2 ?_
    refine XS.aload X7.here hx rfl (hb hby at_234) rfl rfl ?_
    refine XS.iconst X7.here hx rfl (hb hby at_236) ?_
    refine st8.trans ?_
    show St p e below T8 (mkF m 240 #[.val (.int p1), .val (.int p2), .val (.int 3), .val (.int cA), .val (.int cB), .val (.int cC), .val (.ref b6_1), .val (.ref b7_1), .val (.ref ss_1), .val (.int 0), .val (.long mm), .second, .val (.int dd), .val (.int 0)] [(.int cC)]) _
    refine XS.iload X8.here hx rfl (hb hby at_240) rfl ?_
    refine XS.icmpYes X8.here hx rfl (pc0 := 242) (pc' := 247) rfl (hb hby at_242) rfl (teq (rfl : cC = cC)).1 (by decide) (by decide) ?_
    refine XS.aload X8.here hx rfl (hb hby at_247) rfl rfl ?_
    refine XS.iloadN X8.here hx rfl (hb hby at_249) rfl ?_
    refine st9.trans ?_
    refine XS.bipush X9.here hx rfl (hb hby at_253) ?_
    refine XS.icmpYes X9.here hx rfl (pc0 := 255) (pc' := 260) rfl (hb hby at_255) rfl (teq (by decide : (58 : Int32) = (58 : Int32))).1 (by decide) (by decide) ?_
    refine XS.iload X9.here hx rfl (hb hby at_260) rfl ?_
    show St p e below T9 (mkF m 262 #[.val (.int p1), .val (.int p2), .val (.int 3), .val (.int cA), .val (.int cB), .val (.int cC), .val (.ref b6_1), .val (.ref b7_1), .val (.ref ss_1), .val (.int 0), .val (.long mm), .second, .val (.int dd), .val (.int 0)] [(.int 0)]) _
    refine XS.ifYes X9.here hx rfl (pc0 := 262) (pc' := 280) rfl (hb hby at_262) rfl ((if0 _ _).trans (teq (by decide : (0 : Int32) = (0 : Int32))).1) (by decide) (by decide) ?_
    refine st11 _ ?_
    show St p e below T11 (mkF m 419 #[.val (.int p1), .val (.int p2), .val (.int 3), .val (.int cA), .val (.int cB), .val (.int cC), .val (.ref b6_1), .val (.ref b7_1), .val (.ref ss_1), .val (.int 0), .val (.long mm), .second, .val (.int dd), .val (.int 0)] [(.int 1)]) _
    exact retN X11 hx (t := .boolean) Bd.returns (by simp) (hb hby at_419) hr
  · exact ⟨rfl, N11⟩
  · show CHr Z consts_1 s.vm s.heap T11.vm T11.heap
    rw [hh]
    exact CRe
set_option maxRecDepth 65536 in
set_option maxHeartbeats 40000000 in
theorem rm_law_3_1 (l : Launch) (Z : State) (a0 : Array Value) (hw : ∀ d ∈ tables_1, d.before a0 Z = true) (hEL : EW Z a0 consts_1) (ws : List Jvm.Cond) (p1 : Int32) (p2 : Int32) (mm : Int64) (dd : Int32) (w_COMPACT_STRINGS : Int32) (zz : Int32) (n : Nat) (ix : Nat) (cA : Int32) (cB : Int32) (cC : Int32) (w_SIOOBE_FORMATTER : Value) (h0 : Heap) (n0 : Nat) (Z0 : n0 ≤ h0.size) (S_COMPACT_STRINGS : Sta Z Z.heap "java/lang/String" "COMPACT_STRINGS" "Z" (.int w_COMPACT_STRINGS)) (hcs : ¬ (w_COMPACT_STRINGS = (0 : Int32))) (hbcA : ¬ ((255 : Int32) < cA)) (hbcB : ¬ ((255 : Int32) < cB)) (hbcC : ¬ ((255 : Int32) < cC)) (hzz : ((4 : Int32) + (Jvm.Free.SBG.strSizeOf p2)) = zz) (hB : own_B Z) (hN : own_N p2 n 4 ix) (hix : zz = Int32.ofNat ix) (hneg : p2 < (0 : Int32)) (hkcA : (((cA.toInt8.toInt32) &&& (255 : Int32)).toUInt32.toUInt16.toUInt32.toInt32) = cA) (hkcB : (((cB.toInt8.toInt32) &&& (255 : Int32)).toUInt32.toUInt16.toUInt32.toInt32) = cB) (hkcC : (((cC.toInt8.toInt32) &&& (255 : Int32)).toUInt32.toUInt16.toUInt32.toInt32) = cC) (hdg : own_dg mm n dd) (hlen : zz = ((5 : Int32) + dd)) (hk : (p1 &&& (3 : Int32)) = (3 : Int32)) (hcA : ((((p1.toUInt32 >>> ((2 : Int32) &&& 31).toUInt32).toInt32) &&& (255 : Int32)).toUInt32.toUInt16.toUInt32.toInt32) = cA) (hcB : ((((p1.toUInt32 >>> ((10 : Int32) &&& 31).toUInt32).toInt32) &&& (255 : Int32)).toUInt32.toUInt16.toUInt32.toInt32) = cB) (hcC : ((((p1.toUInt32 >>> ((18 : Int32) &&& 31).toUInt32).toInt32) &&& (255 : Int32)).toUInt32.toUInt16.toUInt32.toInt32) = cC) (O0 : Old Z n0 h0) (hncA : (cA.toUInt32.toUInt16.toUInt32.toInt32) = cA) (hncB : (cB.toUInt32.toUInt16.toUInt32.toInt32) = cB) (hncC : (cC.toUInt32.toUInt16.toUInt32.toInt32) = cC) (hmm : (-(p2.toInt64)) = mm) (hr_SIOOBE_FORMATTER : w_SIOOBE_FORMATTER.isRef = true) (S_SIOOBE_FORMATTER : Sta Z Z.heap "jdk/internal/util/Preconditions" "SIOOBE_FORMATTER" "Ljava/util/function/BiFunction;" w_SIOOBE_FORMATTER) :
    MetFree l x (head1 (Jvm.Cond.code x code maxLocals ret :: ws) room_1) (fun a U => a = #[(.int p1), (.int p2)] ∧ Z.Warmed39 U.vm ∧ U.heap = h0 ∧ CHv Z consts_1 U.vm h0) (fun _ _ _ _ _ => True) (fun _ U o U' => ∃ v L, o = .returned v ∧ Q_law n0 v L ∧ CHr Z consts_1 U.vm U.heap U'.vm U'.heap ∧ ReturnedEndW U o U' L room_1.cells room_1.slots) := by
  refine MetFree.of_bodySF (plainFor_of_name pn_0) hisR ?_
  intro p e s m args below meth c s₁ Bd hml0 hP hK
  obtain ⟨rfl, hZ, hh, H0c⟩ := hP
  have hx := Bd.exec
  have hby := Bd.bytes
  have hml : c.maxLocals = 14 := hml0
  have hown : s.vm.findClass "com/example/demarc/demarc/tool/AccountToStringPinLaw" = some m.cls := findClass_of_methodNamed Bd.named
  have hnm := (name_of_methodNamed Bd.named Bd.method).1
  have X0 : Stand p l e room_1 (s.setVm s.vm) m #[(.int p1), (.int p2)] below meth c s₁ [] 0 0 := Stand.of_body Bd
  have e0 : s₁.heap = h0 := by rw [← hh, Bd.state]; rfl
  have N0 := Fr.nil n0
  have pre0 : ∀ t, Steps p.tables e below (s₁.setTop (mkF m 0 #[.val (.int p1), .val (.int p2), .unset, .unset, .unset, .unset, .unset, .unset, .unset, .unset, .unset, .unset, .unset, .unset] [])) t → Steps p.tables e below (s₁.setTop (entryFrame m #[(.int p1), (.int p2)] maxLocals)) t := fun t k => castTop (ef_0_II m p1 p2) k
  have hS0 : s.Since s.vm 0 := (State.WarmedH.refl s).since 0
  have hk0 : 0 ≤ h0.size := Nat.zero_le _
  have C0c : CHr Z consts_1 s.vm h0 s.vm h0 := CHr.refl H0c
  obtain ⟨T1, L1, vm1, j1, b6_1, b7_1, ss_1, tt_1, kt_1, vs_1, X1, N1, Kc1, hS1, hk1, hZ1, ho1, C1, g1_0, g1_1, g1_2, g1_3, g1_4, g1_5, st1⟩ := sg_front_3 p1 p2 w_COMPACT_STRINGS zz n ix cA cB cC X0 hx hZ hw hby hml hown e0 N0 Z0 hEL hS0 hk0 H0c S_COMPACT_STRINGS hcs hbcA hbcB hbcC hzz hB hN hix hk hcA hcB hcC O0 hncA hncB hncC
  have R2 := C1
  have CR2 := C0c.trans R2
  have sz3 : h0.size ≤ T1.heap.size := Kc1.1
  have Z3 : n0 ≤ T1.heap.size := Nat.le_trans Z0 sz3
  have O3 := O0.keep Kc1 all0
  have K3 : Keep h0 T1.heap [] := (Keep.refl h0 []).trans Kc1 (all0)
  have bn_ss_1 : h0.size ≤ ss_1 := g1_0
  obtain ⟨_, _, ⟨T4, L4, k4, n4⟩, -, X4, ⟨Lc4, hQ4, l4, y4, z4⟩, st4⟩ := Jvm.LawKit.callS X1 hx (y := mn38) ho1 (mvT hZ1 (hwi hw 173 rfl)) (mvT hZ1 (hwi hw 174 rfl)) (mvT hZ1 (hwi hw 175 rfl)) (mvT hZ1 (hwi hw 176 rfl)) (by decide) (backOf (W := 0) (rm_digs l Z a0 hw [] mm n dd T1.heap n0 Z3 hdg) hZ1 (hwi hw 176 rfl) (hwi hw 175 rfl) (by decide) (by decide)) (g := (mkF m 159 #[.val (.int p1), .val (.int p2), .val (.int 3), .val (.int cA), .val (.int cB), .val (.int cC), .val (.ref b6_1), .val (.ref b7_1), .val (.ref ss_1), .val (.int 1), .val (.long mm), .second, .unset, .unset] [(.long mm)])) rfl (by rw [hml]; rfl) (argsL := [(.long mm)]) (rest := []) (lenOf pd_J_I_228 rfl) rfl (by show 2 * 0 + _ ≤ _; exact Nat.le_of_eq rfl) (hb hby at_159) (fun _ _ => ⟨rfl, rfl, (by decide : 10 + 0 ≤ _), (by decide : 60 + 0 ≤ _)⟩)
  dsimp only [Pt.U, Pt.locs, Pt.cells, Pt.slots] at X4 l4 y4 z4 st4 hQ4
  subst l4 y4 z4
  obtain ⟨rfl, N4q, e4⟩ := hQ4
  have N4 := Fr.app N1 N4q
  obtain ⟨cq5, kq5, q5a, q5b, q5c⟩ := isOf hZ1 e4 g1_1
  obtain ⟨_, _, ⟨T5, L5, k5, n5⟩, -, X5, ⟨Lc5, hQ5, l5, y5, z5⟩, st5⟩ := X4.virtualBack hx (y := mn6) (z := mn6) ho1 (mvT hZ1 (hwi hw 178 rfl)) (mvT hZ1 (hwi hw 72 rfl)) (notFace_of_selects (args := #[]) (mvT hZ1 (hwi hw 74 rfl))) (mvT hZ1 (hwi hw 74 rfl)) (mvT hZ1 (hwi hw 73 rfl)) (by decide) (backOf (W := 0) (rm_slen l Z a0 hw [] ss_1 w_COMPACT_STRINGS tt_1 kt_1 vs_1 zz T1.heap n0 Z3 S_COMPACT_STRINGS hcs g1_1 g1_2 g1_3 g1_4 O3 (own_sh zz)) hZ1 (hwi hw 75 rfl) (hwi hw 3 rfl) (by decide) (by decide)) q5a q5c (g := (mkF m 178 #[.val (.int p1), .val (.int p2), .val (.int 3), .val (.int cA), .val (.int cB), .val (.int cC), .val (.ref b6_1), .val (.ref b7_1), .val (.ref ss_1), .val (.int 1), .val (.long mm), .second, .val (.int dd), .val (.int 1)] [(.ref ss_1)])) rfl (by rw [hml]; rfl) (Steps.refl _) (argsL := []) (rest := []) (lenOf pd_I_154 rfl) rfl (by show 2 * 0 + _ ≤ _; exact Nat.le_of_eq rfl) (hb hby at_178) (fun _ _ => ⟨rfl, e4, (by decide : 10 + 0 ≤ _), (by decide : 60 + 0 ≤ _)⟩)
  dsimp only [Pt.U, Pt.locs, Pt.cells, Pt.slots] at X5 l5 y5 z5 st5 hQ5
  subst l5 y5 z5
  obtain ⟨rfl, N5q, e5⟩ := hQ5
  have N5 := Fr.app N4 N5q
  obtain ⟨cq6, kq6, q6a, q6b, q6c⟩ := isOf hZ1 e5 g1_1
  obtain ⟨_, _, ⟨T6, L6, k6, n6⟩, -, X6, ⟨Lc6, hQ6, l6, y6, z6⟩, st6⟩ := X5.virtualBack hx (y := mn11) (z := mn11) ho1 (mvT hZ1 (hwi hw 179 rfl)) (mvT hZ1 (hwi hw 180 rfl)) (notFace_of_selects (args := #[]) (mvT hZ1 (hwi hw 182 rfl))) (mvT hZ1 (hwi hw 182 rfl)) (mvT hZ1 (hwi hw 181 rfl)) (by decide) (backOf (W := 0) (rm_schr l Z a0 hw [] ss_1 (0 : Int32) w_COMPACT_STRINGS tt_1 kt_1 vs_1 zz (cA.toInt8.toInt32) cA w_SIOOBE_FORMATTER T1.heap n0 Z3 S_COMPACT_STRINGS hcs g1_1 g1_2 g1_3 g1_4 (by decide : ¬ ((0 : Int32) < (0 : Int32))) (own_lt hN hix (j := 0) (by decide)) (g1_5.1 0 (by decide)) O3 hr_SIOOBE_FORMATTER S_SIOOBE_FORMATTER hkcA hncA) hZ1 (hwi hw 183 rfl) (hwi hw 3 rfl) (by decide) (by decide)) q6a q6c (g := (mkF m 202 #[.val (.int p1), .val (.int p2), .val (.int 3), .val (.int cA), .val (.int cB), .val (.int cC), .val (.ref b6_1), .val (.ref b7_1), .val (.ref ss_1), .val (.int 1), .val (.long mm), .second, .val (.int dd), .val (.int 1)] [(.int 0), (.ref ss_1)])) rfl (by rw [hml]; rfl) (Steps.refl _) (argsL := [(.int 0)]) (rest := []) (lenOf pd_I_C_221 rfl) rfl (by show 2 * 0 + _ ≤ _; exact Nat.le_of_eq rfl) (hb hby at_202) (fun _ _ => ⟨rfl, e5, (by decide : 10 + 0 ≤ _), (by decide : 60 + 0 ≤ _)⟩)
  dsimp only [Pt.U, Pt.locs, Pt.cells, Pt.slots] at X6 l6 y6 z6 st6 hQ6
  subst l6 y6 z6
  obtain ⟨rfl, N6q, e6⟩ := hQ6
  have N6 := Fr.app N5 N6q
  obtain ⟨cq7, kq7, q7a, q7b, q7c⟩ := isOf hZ1 e6 g1_1
  obtain ⟨_, _, ⟨T7, L7, k7, n7⟩, -, X7, ⟨Lc7, hQ7, l7, y7, z7⟩, st7⟩ := X6.virtualBack hx (y := mn11) (z := mn11) ho1 (mvT hZ1 (hwi hw 179 rfl)) (mvT hZ1 (hwi hw 180 rfl)) (notFace_of_selects (args := #[]) (mvT hZ1 (hwi hw 182 rfl))) (mvT hZ1 (hwi hw 182 rfl)) (mvT hZ1 (hwi hw 181 rfl)) (by decide) (backOf (W := 0) (rm_schr l Z a0 hw [] ss_1 (1 : Int32) w_COMPACT_STRINGS tt_1 kt_1 vs_1 zz (cB.toInt8.toInt32) cB w_SIOOBE_FORMATTER T1.heap n0 Z3 S_COMPACT_STRINGS hcs g1_1 g1_2 g1_3 g1_4 (by decide : ¬ ((1 : Int32) < (0 : Int32))) (own_lt hN hix (j := 1) (by decide)) (g1_5.1 1 (by decide)) O3 hr_SIOOBE_FORMATTER S_SIOOBE_FORMATTER hkcB hncB) hZ1 (hwi hw 183 rfl) (hwi hw 3 rfl) (by decide) (by decide)) q7a q7c (g := (mkF m 219 #[.val (.int p1), .val (.int p2), .val (.int 3), .val (.int cA), .val (.int cB), .val (.int cC), .val (.ref b6_1), .val (.ref b7_1), .val (.ref ss_1), .val (.int 1), .val (.long mm), .second, .val (.int dd), .val (.int 1)] [(.int 1), (.ref ss_1)])) rfl (by rw [hml]; rfl) (Steps.refl _) (argsL := [(.int 1)]) (rest := []) (lenOf pd_I_C_221 rfl) rfl (by show 2 * 0 + _ ≤ _; exact Nat.le_of_eq rfl) (hb hby at_219) (fun _ _ => ⟨rfl, e6, (by decide : 10 + 0 ≤ _), (by decide : 60 + 0 ≤ _)⟩)
  dsimp only [Pt.U, Pt.locs, Pt.cells, Pt.slots] at X7 l7 y7 z7 st7 hQ7
  subst l7 y7 z7
  obtain ⟨rfl, N7q, e7⟩ := hQ7
  have N7 := Fr.app N6 N7q
  obtain ⟨cq8, kq8, q8a, q8b, q8c⟩ := isOf hZ1 e7 g1_1
  obtain ⟨_, _, ⟨T8, L8, k8, n8⟩, -, X8, ⟨Lc8, hQ8, l8, y8, z8⟩, st8⟩ := X7.virtualBack hx (y := mn11) (z := mn11) ho1 (mvT hZ1 (hwi hw 179 rfl)) (mvT hZ1 (hwi hw 180 rfl)) (notFace_of_selects (args := #[]) (mvT hZ1 (hwi hw 182 rfl))) (mvT hZ1 (hwi hw 182 rfl)) (mvT hZ1 (hwi hw 181 rfl)) (by decide) (backOf (W := 0) (rm_schr l Z a0 hw [] ss_1 (2 : Int32) w_COMPACT_STRINGS tt_1 kt_1 vs_1 zz (cC.toInt8.toInt32) cC w_SIOOBE_FORMATTER T1.heap n0 Z3 S_COMPACT_STRINGS hcs g1_1 g1_2 g1_3 g1_4 (by decide : ¬ ((2 : Int32) < (0 : Int32))) (own_lt hN hix (j := 2) (by decide)) (g1_5.1 2 (by decide)) O3 hr_SIOOBE_FORMATTER S_SIOOBE_FORMATTER hkcC hncC) hZ1 (hwi hw 183 rfl) (hwi hw 3 rfl) (by decide) (by decide)) q8a q8c (g := (mkF m 237 #[.val (.int p1), .val (.int p2), .val (.int 3), .val (.int cA), .val (.int cB), .val (.int cC), .val (.ref b6_1), .val (.ref b7_1), .val (.ref ss_1), .val (.int 1), .val (.long mm), .second, .val (.int dd), .val (.int 1)] [(.int 2), (.ref ss_1)])) rfl (by rw [hml]; rfl) (Steps.refl _) (argsL := [(.int 2)]) (rest := []) (lenOf pd_I_C_221 rfl) rfl (by show 2 * 0 + _ ≤ _; exact Nat.le_of_eq rfl) (hb hby at_237) (fun _ _ => ⟨rfl, e7, (by decide : 10 + 0 ≤ _), (by decide : 60 + 0 ≤ _)⟩)
  dsimp only [Pt.U, Pt.locs, Pt.cells, Pt.slots] at X8 l8 y8 z8 st8 hQ8
  subst l8 y8 z8
  obtain ⟨rfl, N8q, e8⟩ := hQ8
  have N8 := Fr.app N7 N8q
  obtain ⟨cq9, kq9, q9a, q9b, q9c⟩ := isOf hZ1 e8 g1_1
  obtain ⟨_, _, ⟨T9, L9, k9, n9⟩, -, X9, ⟨Lc9, hQ9, l9, y9, z9⟩, st9⟩ := X8.virtualBack hx (y := mn11) (z := mn11) ho1 (mvT hZ1 (hwi hw 179 rfl)) (mvT hZ1 (hwi hw 180 rfl)) (notFace_of_selects (args := #[]) (mvT hZ1 (hwi hw 182 rfl))) (mvT hZ1 (hwi hw 182 rfl)) (mvT hZ1 (hwi hw 181 rfl)) (by decide) (backOf (W := 0) (rm_schr l Z a0 hw [] ss_1 (3 : Int32) w_COMPACT_STRINGS tt_1 kt_1 vs_1 zz (58 : Int32) (58 : Int32) w_SIOOBE_FORMATTER T1.heap n0 Z3 S_COMPACT_STRINGS hcs g1_1 g1_2 g1_3 g1_4 (by decide : ¬ ((3 : Int32) < (0 : Int32))) (own_lt hN hix (j := 3) (by decide)) (g1_5.1 3 (by decide)) O3 hr_SIOOBE_FORMATTER S_SIOOBE_FORMATTER (by decide : (((58 : Int32) &&& (255 : Int32)).toUInt32.toUInt16.toUInt32.toInt32) = (58 : Int32)) (by decide : ((58 : Int32).toUInt32.toUInt16.toUInt32.toInt32) = (58 : Int32))) hZ1 (hwi hw 183 rfl) (hwi hw 3 rfl) (by decide) (by decide)) q9a q9c (g := (mkF m 250 #[.val (.int p1), .val (.int p2), .val (.int 3), .val (.int cA), .val (.int cB), .val (.int cC), .val (.ref b6_1), .val (.ref b7_1), .val (.ref ss_1), .val (.int 1), .val (.long mm), .second, .val (.int dd), .val (.int 1)] [(.int 3), (.ref ss_1)])) rfl (by rw [hml]; rfl) (Steps.refl _) (argsL := [(.int 3)]) (rest := []) (lenOf pd_I_C_221 rfl) rfl (by show 2 * 0 + _ ≤ _; exact Nat.le_of_eq rfl) (hb hby at_250) (fun _ _ => ⟨rfl, e8, (by decide : 10 + 0 ≤ _), (by decide : 60 + 0 ≤ _)⟩)
  dsimp only [Pt.U, Pt.locs, Pt.cells, Pt.slots] at X9 l9 y9 z9 st9 hQ9
  subst l9 y9 z9
  obtain ⟨rfl, N9q, e9⟩ := hQ9
  have N9 := Fr.app N8 N9q
  obtain ⟨cq10, kq10, q10a, q10b, q10c⟩ := isOf hZ1 e9 g1_1
  obtain ⟨_, _, ⟨T10, L10, k10, n10⟩, -, X10, ⟨Lc10, hQ10, l10, y10, z10⟩, st10⟩ := X9.virtualBack hx (y := mn11) (z := mn11) ho1 (mvT hZ1 (hwi hw 179 rfl)) (mvT hZ1 (hwi hw 180 rfl)) (notFace_of_selects (args := #[]) (mvT hZ1 (hwi hw 182 rfl))) (mvT hZ1 (hwi hw 182 rfl)) (mvT hZ1 (hwi hw 181 rfl)) (by decide) (backOf (W := 0) (rm_schr l Z a0 hw [] ss_1 (4 : Int32) w_COMPACT_STRINGS tt_1 kt_1 vs_1 zz (45 : Int32) (45 : Int32) w_SIOOBE_FORMATTER T1.heap n0 Z3 S_COMPACT_STRINGS hcs g1_1 g1_2 g1_3 g1_4 (by decide : ¬ ((4 : Int32) < (0 : Int32))) (own_lt hN hix (j := 4) (by decide)) (g1_5.2.1 hneg) O3 hr_SIOOBE_FORMATTER S_SIOOBE_FORMATTER (by decide : (((45 : Int32) &&& (255 : Int32)).toUInt32.toUInt16.toUInt32.toInt32) = (45 : Int32)) (by decide : ((45 : Int32).toUInt32.toUInt16.toUInt32.toInt32) = (45 : Int32))) hZ1 (hwi hw 183 rfl) (hwi hw 3 rfl) (by decide) (by decide)) q10a q10c (g := (mkF m 270 #[.val (.int p1), .val (.int p2), .val (.int 3), .val (.int cA), .val (.int cB), .val (.int cC), .val (.ref b6_1), .val (.ref b7_1), .val (.ref ss_1), .val (.int 1), .val (.long mm), .second, .val (.int dd), .val (.int 1)] [(.int 4), (.ref ss_1)])) rfl (by rw [hml]; rfl) (Steps.refl _) (argsL := [(.int 4)]) (rest := []) (lenOf pd_I_C_221 rfl) rfl (by show 2 * 0 + _ ≤ _; exact Nat.le_of_eq rfl) (hb hby at_270) (fun _ _ => ⟨rfl, e9, (by decide : 10 + 0 ≤ _), (by decide : 60 + 0 ≤ _)⟩)
  dsimp only [Pt.U, Pt.locs, Pt.cells, Pt.slots] at X10 l10 y10 z10 st10 hQ10
  subst l10 y10 z10
  obtain ⟨rfl, N10q, e10⟩ := hQ10
  have N10 := Fr.app N9 N10q
  have X11 := X10.more (cells' := 13) (slots' := 62) (by decide) (by decide)
  obtain ⟨T12, L12, vm12, j12, X12, N12, Kc12, hS12, hk12, hZ12, ho12, C12, st12⟩ := sg_tail p1 p2 (3 : Int32) cA cB cC b6_1 b7_1 ss_1 (1 : Int32) mm dd (1 : Int32) w_COMPACT_STRINGS tt_1 kt_1 vs_1 zz w_SIOOBE_FORMATTER X11 hx hZ1 hw hby hml ho1 e10 N10 Z3 hEL hS1 hk1 R2.1 S_COMPACT_STRINGS hcs g1_1 g1_2 g1_3 g1_4 (own_all g1_5 hN hix hdg) O3 hr_SIOOBE_FORMATTER S_SIOOBE_FORMATTER
  have R13 := C12
  have CR13 := CR2.trans R13
  have sz14 : T1.heap.size ≤ T12.heap.size := Kc12.1
  have Z14 : n0 ≤ T12.heap.size := Nat.le_trans Z3 sz14
  have O14 := O3.keep Kc12 all0
  have K14 : Keep h0 T12.heap [] := K3.trans Kc12 (all0)
  have CRe := CR13.trans (CHv.at X12 hZ12 hEL R13.1)
  obtain ⟨fs, hr, hrun, hended, hRE⟩ := X12.leaveW hS12 hk12 (v := some (.int 1)) (fun h => by rw [Bd.returns] at h; cases h)
  refine ⟨_, _, pre0 _ ?_, hrun, hended, _, _, rfl, ?_, ?_, ⟨hRE.1, hRE.2.1, hRE.2.2.1, hRE.2.2.2.mono (by decide) (by decide)⟩⟩
  · show St p e below s₁ (mkF m 0 #[.val (.int p1), .val (.int p2), .unset, .unset, .unset, .unset, .unset, .unset, .unset, .unset, .unset, .unset, .unset, .unset] []) _
    refine st1 _ ?_
    refine XS.iloadN X1.here hx rfl (hb hby at_131) rfl ?_
    refine XS.ifNo X1.here hx rfl (hb hby at_132) rfl ((if0 _ _).trans (tlt hneg).2.1) ?_
    refine XS.iconst X1.here hx rfl (hb hby at_135) ?_
    refine XS.goto X1.here hx rfl (pc0 := 136) (pc' := 140) rfl (hb hby at_136) (by decide) (by decide) ?_
    refine XS.istore X1.here hx rfl (hb hby at_140) rfl (l' := #[.val (.int p1), .val (.int p2), .val (.int 3), .val (.int cA), .val (.int cB), .val (.int cC), .val (.ref b6_1), .val (.ref b7_1), .val (.ref ss_1), .val (.int 1), .unset, .unset, .unset, .unset]) rfl ?_
    refine XS.iload X1.here hx rfl (hb hby at_142) rfl ?_
    refine XS.ifNo X1.here hx rfl (hb hby at_144) rfl ((if0 _ _).trans (feq (by decide : ¬ ((1 : Int32) = (0 : Int32)))).1) ?_
    show St p e below T1 (mkF m 147 #[.val (.int p1), .val (.int p2), .val (.int 3), .val (.int cA), .val (.int cB), .val (.int cC), .val (.ref b6_1), .val (.ref b7_1), .val (.ref ss_1), .val (.int 1), .unset, .unset, .unset, .unset] []) _
    refine XS.iloadN X1.here hx rfl (hb hby at_147) rfl ?_
    refine XS.i2l X1.here hx rfl (hb hby at_148) rfl ?_
    refine XS.lneg X1.here hx rfl (hb hby at_149) rfl ?_
    show St p e below T1 (mkF m 150 #[.val (.int p1), .val (.int p2), .val (.int 3), .val (.int cA), .val (.int cB), .val (.int cC), .val (.ref b6_1), .val (.ref b7_1), .val (.ref ss_1), .val (.int 1), .unset, .unset, .unset, .unset] [(.long (-(p2.toInt64)))]) _
    rw [hmm]
    show St p e below T1 (mkF m 150 #[.val (.int p1), .val (.int p2), .val (.int 3), .val (.int cA), .val (.int cB), .val (.int cC), .val (.ref b6_1), .val (.ref b7_1), .val (.ref ss_1), .val (.int 1), .unset, .unset, .unset, .unset] [(.long mm)]) _
    refine XS.goto X1.here hx rfl (pc0 := 150) (pc' := 155) rfl (hb hby at_150) (by decide) (by decide) ?_
    refine XS.lstore X1.here hx rfl (hb hby at_155) rfl (l' := #[.val (.int p1), .val (.int p2), .val (.int 3), .val (.int cA), .val (.int cB), .val (.int cC), .val (.ref b6_1), .val (.ref b7_1), .val (.ref ss_1), .val (.int 1), .val (.long mm), .second, .unset, .unset]) rfl ?_
    refine XS.lload X1.here hx rfl (hb hby at_157) rfl ?_
    refine st4 _ ?_
    refine XS.istore X4.here hx rfl (hb hby at_162) rfl (l' := #[.val (.int p1), .val (.int p2), .val (.int 3), .val (.int cA), .val (.int cB), .val (.int cC), .val (.ref b6_1), .val (.ref b7_1), .val (.ref ss_1), .val (.int 1), .val (.long mm), .second, .val (.int dd), .unset]) rfl ?_
    refine XS.iload X4.here hx rfl (hb hby at_164) rfl ?_
    refine XS.ifNo X4.here hx rfl (hb hby at_166) rfl ((if0 _ _).trans (feq (by decide : ¬ ((1 : Int32) = (0 : Int32)))).1) ?_
    refine XS.iconst X4.here hx rfl (hb hby at_169) ?_
    show St p e below T4 (mkF m 170 #[.val (.int p1), .val (.int p2), .val (.int 3), .val (.int cA), .val (.int cB), .val (.int cC), .val (.ref b6_1), .val (.ref b7_1), .val (.ref ss_1), .val (.int 1), .val (.long mm), .second, .val (.int dd), .unset] [(.int 1)]) _
    refine XS.goto X4.here hx rfl (pc0 := 170) (pc' := 174) rfl (hb hby at_170) (by decide) (by decide) ?_
    refine XS.istore X4.here hx rfl (hb hby at_174) rfl (l' := #[.val (.int p1), .val (.int p2), .val (.int 3), .val (.int cA), .val (.int cB), .val (.int cC), .val (.ref b6_1), .val (.ref b7_1), .val (.ref ss_1), .val (.int 1), .val (.long mm), .second, .val (.int dd), .val (.int 1)]) rfl ?_
    refine XS.aload X4.here hx rfl (hb hby at_176) rfl rfl ?_
    refine st5.trans ?_
    refine XS.iloadN X5.here hx rfl (hb hby at_181) rfl ?_
    refine XS.iconst X5.here hx rfl (hb hby at_182) ?_
    refine XS.iadd X5.here hx rfl (hb hby at_183) rfl ?_
    show St p e below T5 (mkF m 184 #[.val (.int p1), .val (.int p2), .val (.int 3), .val (.int cA), .val (.int cB), .val (.int cC), .val (.ref b6_1), .val (.ref b7_1), .val (.ref ss_1), .val (.int 1), .val (.long mm), .second, .val (.int dd), .val (.int 1)] [(.int ((3 : Int32) + (1 : Int32))), (.int zz)]) _
    rw [(by decide : ((3 : Int32) + (1 : Int32)) = (4 : Int32))]
    show St p e below T5 (mkF m 184 #[.val (.int p1), .val (.int p2), .val (.int 3), .val (.int cA), .val (.int cB), .val (.int cC), .val (.ref b6_1), .val (.ref b7_1), .val (.ref ss_1), .val (.int 1), .val (.long mm), .second, .val (.int dd), .val (.int 1)] [(.int 4), (.int zz)]) _
    refine XS.iload X5.here hx rfl (hb hby at_184) rfl ?_
    refine XS.iadd X5.here hx rfl (hb hby at_186) rfl ?_
    show St p e below T5 (mkF m 187 #[.val (.int p1), .val (.int p2), .val (.int 3), .val (.int cA), .val (.int cB), .val (.int cC), .val (.ref b6_1), .val (.ref b7_1), .val (.ref ss_1), .val (.int 1), .val (.long mm), .second, .val (.int dd), .val (.int 1)] [(.int ((4 : Int32) + (1 : Int32))), (.int zz)]) _
    rw [(by decide : ((4 : Int32) + (1 : Int32)) = (5 : Int32))]
    show St p e below T5 (mkF m 187 #[.val (.int p1), .val (.int p2), .val (.int 3), .val (.int cA), .val (.int cB), .val (.int cC), .val (.ref b6_1), .val (.ref b7_1), .val (.ref ss_1), .val (.int 1), .val (.long mm), .second, .val (.int dd), .val (.int 1)] [(.int 5), (.int zz)]) _
    refine XS.iload X5.here hx rfl (hb hby at_187) rfl ?_
    refine XS.iadd X5.here hx rfl (hb hby at_189) rfl ?_
    refine XS.icmpYes X5.here hx rfl (pc0 := 190) (pc' := 195) rfl (hb hby at_190) rfl (teq hlen).1 (by decide) (by decide) ?_
    refine XS.iloadN X5.here hx rfl (hb hby at_195) rfl ?_
    refine XS.ifNo X5.here hx rfl (hb hby at_196) rfl ((if0 _ _).trans (tlt (by decide : (0 : Int32) < (3 : Int32))).2.2.2) ?_
    refine XS.aload X5.here hx rfl (hb hby at_199) rfl rfl ?_
    refine XS.iconst X5.here hx rfl (hb hby at_201) ?_
    refine st6.trans ?_
    show St p e below T6 (mkF m 205 #[.val (.int p1), .val (.int p2), .val (.int 3), .val (.int cA), .val (.int cB), .val (.int cC), .val (.ref b6_1), .val (.ref b7_1), .val (.ref ss_1), .val (.int 1), .val (.long mm), .second, .val (.int dd), .val (.int 1)] [(.int cA)]) _
    refine XS.iloadN X6.here hx rfl (hb hby at_205) rfl ?_
    refine XS.icmpYes X6.here hx rfl (pc0 := 206) (pc' := 211) rfl (hb hby at_206) rfl (teq (rfl : cA = cA)).1 (by decide) (by decide) ?_
    refine XS.iloadN X6.here hx rfl (hb hby at_211) rfl ?_
    refine XS.iconst X6.here hx rfl (hb hby at_212) ?_
    refine XS.icmpNo X6.here hx rfl (hb hby at_213) rfl (tlt (by decide : (1 : Int32) < (3 : Int32))).2.2.2 ?_
    refine XS.aload X6.here hx rfl (hb hby at_216) rfl rfl ?_
    refine XS.iconst X6.here hx rfl (hb hby at_218) ?_
    refine st7.trans ?_
    show St p e below T7 (mkF m 222 #[.val (.int p1), .val (.int p2), .val (.int 3), .val (.int cA), .val (.int cB), .val (.int cC), .val (.ref b6_1), .val (.ref b7_1), .val (.ref ss_1), .val (.int 1), .val (.long mm), .second, .val (.int dd), .val (.int 1)] [(.int cB)]) _
    refine XS.iload X7.here hx rfl (hb hby at_222) rfl ?_
    refine XS.icmpYes X7.here hx rfl (pc0 := 224) (pc' := 229) rfl (hb hby at_224) rfl (teq (rfl : cB = cB)).1 (by decide) (by decide) ?_
    refine XS.iloadN X7.here hx rfl (hb hby at_229) rfl ?_
    refine XS.iconst X7.here hx rfl (hb hby at_230) ?_
    refine XS.icmpNo X7.here hx rfl (hb hby at_231) rfl (tlt (by decide : (2 : Int32) < (3 : Int32))).2.2.2 ?_
    refine XS.aload X7.here hx rfl (hb hby at_234) rfl rfl ?_
    refine XS.iconst X7.here hx rfl (hb hby at_236) ?_
    refine st8.trans ?_
    show St p e below T8 (mkF m 240 #[.val (.int p1), .val (.int p2), .val (.int 3), .val (.int cA), .val (.int cB), .val (.int cC), .val (.ref b6_1), .val (.ref b7_1), .val (.ref ss_1), .val (.int 1), .val (.long mm), .second, .val (.int dd), .val (.int 1)] [(.int cC)]) _
    refine XS.iload X8.here hx rfl (hb hby at_240) rfl ?_
    refine XS.icmpYes X8.here hx rfl (pc0 := 242) (pc' := 247) rfl (hb hby at_242) rfl (teq (rfl : cC = cC)).1 (by decide) (by decide) ?_
    refine XS.aload X8.here hx rfl (hb hby at_247) rfl rfl ?_
    refine XS.iloadN X8.here hx rfl (hb hby at_249) rfl ?_
    refine st9.trans ?_
    refine XS.bipush X9.here hx rfl (hb hby at_253) ?_
    refine XS.icmpYes X9.here hx rfl (pc0 := 255) (pc' := 260) rfl (hb hby at_255) rfl (teq (by decide : (58 : Int32) = (58 : Int32))).1 (by decide) (by decide) ?_
    refine XS.iload X9.here hx rfl (hb hby at_260) rfl ?_
    show St p e below T9 (mkF m 262 #[.val (.int p1), .val (.int p2), .val (.int 3), .val (.int cA), .val (.int cB), .val (.int cC), .val (.ref b6_1), .val (.ref b7_1), .val (.ref ss_1), .val (.int 1), .val (.long mm), .second, .val (.int dd), .val (.int 1)] [(.int 1)]) _
    refine XS.ifNo X9.here hx rfl (hb hby at_262) rfl ((if0 _ _).trans (feq (by decide : ¬ ((1 : Int32) = (0 : Int32)))).1) ?_
    refine XS.aload X9.here hx rfl (hb hby at_265) rfl rfl ?_
    refine XS.iloadN X9.here hx rfl (hb hby at_267) rfl ?_
    refine XS.iconst X9.here hx rfl (hb hby at_268) ?_
    refine XS.iadd X9.here hx rfl (hb hby at_269) rfl ?_
    show St p e below T9 (mkF m 270 #[.val (.int p1), .val (.int p2), .val (.int 3), .val (.int cA), .val (.int cB), .val (.int cC), .val (.ref b6_1), .val (.ref b7_1), .val (.ref ss_1), .val (.int 1), .val (.long mm), .second, .val (.int dd), .val (.int 1)] [(.int ((3 : Int32) + (1 : Int32))), (.ref ss_1)]) _
    rw [(by decide : ((3 : Int32) + (1 : Int32)) = (4 : Int32))]
    show St p e below T9 (mkF m 270 #[.val (.int p1), .val (.int p2), .val (.int 3), .val (.int cA), .val (.int cB), .val (.int cC), .val (.ref b6_1), .val (.ref b7_1), .val (.ref ss_1), .val (.int 1), .val (.long mm), .second, .val (.int dd), .val (.int 1)] [(.int 4), (.ref ss_1)]) _
    refine st10.trans ?_
    refine XS.bipush X10.here hx rfl (hb hby at_273) ?_
    refine XS.icmpYes X10.here hx rfl (pc0 := 275) (pc' := 280) rfl (hb hby at_275) rfl (teq (by decide : (45 : Int32) = (45 : Int32))).1 (by decide) (by decide) ?_
    refine st12 _ ?_
    show St p e below T12 (mkF m 419 #[.val (.int p1), .val (.int p2), .val (.int 3), .val (.int cA), .val (.int cB), .val (.int cC), .val (.ref b6_1), .val (.ref b7_1), .val (.ref ss_1), .val (.int 1), .val (.long mm), .second, .val (.int dd), .val (.int 1)] [(.int 1)]) _
    exact retN X12 hx (t := .boolean) Bd.returns (by simp) (hb hby at_419) hr
  · exact ⟨rfl, N12⟩
  · show CHr Z consts_1 s.vm s.heap T12.vm T12.heap
    rw [hh]
    exact CRe
theorem own_sz {x : Int32} {n k : Nat} (hn : n ≤ 2 ^ 31) (h : (if x < 0 then x else -x) = Jvm.Free.SBG.negI n) : (Int32.ofNat k + (Jvm.Free.SBG.strSizeOf x)) = Int32.ofNat (k + (Jvm.Free.SBG.digits n + Jvm.Free.SBG.GetChars.sgn x)) := by
  rw [Jvm.Free.SBG.strSizeOf_eq hn h, ← Int32.ofNat_add]
theorem own_abs {x : Int32} {n : Nat} (hn : n ≤ 2 ^ 31) (h : (if x < 0 then x else -x) = Jvm.Free.SBG.negI n) : (x < 0 → (-(x.toInt64)).toInt = (n : Int) ∧ Jvm.Free.SBG.GetChars.sgn x = 1) ∧ (¬ x < 0 → (x.toInt64).toInt = (n : Int) ∧ Jvm.Free.SBG.GetChars.sgn x = 0) := by
  have b1 := Int32.le_toInt x
  have b2 := Int32.toInt_lt x
  have e64 : x.toInt64.toInt = x.toInt := Int32.toInt_toInt64 x
  refine ⟨fun hx => ⟨?_, by simp [Jvm.Free.SBG.GetChars.sgn, hx]⟩, fun hx => ⟨?_, by simp [Jvm.Free.SBG.GetChars.sgn, hx]⟩⟩
  · rw [if_pos hx] at h
    have e : x.toInt = -(n : Int) := by rw [h]; exact Jvm.Free.SBG.negI_toInt hn
    rw [Int64.toInt_neg, e64, e, Int.bmod_eq_of_le (by omega) (by omega)]; omega
  · rw [if_neg hx] at h
    have hx' : 0 ≤ x.toInt := by
      have := Int32.le_iff_toInt_le.mp (Int32.not_lt.mp hx)
      have z0 : (0 : Int32).toInt = 0 := by decide
      omega
    have e : (-x).toInt = -(n : Int) := by rw [h]; exact Jvm.Free.SBG.negI_toInt hn
    rw [Int32.toInt_neg, Int.bmod_eq_of_le (by omega) (by omega)] at e
    omega
theorem own_len (k s d : Nat) : Int32.ofNat (k + (d + s)) = Int32.ofNat (k + s) + Int32.ofNat d := by
  rw [← Int32.ofNat_add]; congr 1; omega
theorem own_fi {s : State} {args : Array Value} {t : Term} {C n d : String} {k : Int32} {a : Addr} (ev : t.eval args s none [] s = some (.ref a)) (h : (Jvm.Cond.eq (Term.field t C n d) (Term.int k)).value args s none s [] = some true) : Fld s s.heap a C n d (.int k) := by
  obtain ⟨x, y, h1, h2, h3, h4⟩ := cmp_v (Or.inl h)
  have e2 : y = .int k := (Option.some.inj (h2.symm.trans (Term.int_eval k)))
  subst e2
  obtain ⟨z, rfl⟩ := h4
  have e3 : z = k := gotT (Cond.eq_ints h1 h2) h
  subst e3
  exact Fld.start ((fld_at ev).symm.trans h1)
theorem own_fr {s : State} {args : Array Value} {t u : Term} {C n d : String} {a b : Addr} (ev : t.eval args s none [] s = some (.ref a)) (ev2 : u.eval args s none [] s = some (.ref b)) (h : (Jvm.Cond.eq (Term.field t C n d) u).value args s none s [] = some true) : Fld s s.heap a C n d (.ref b) := by
  obtain ⟨x, y, h1, h2, h3, h4⟩ := cmp_v (Or.inl h)
  obtain rfl : y = .ref b := Option.some.inj (h2.symm.trans ev2)
  have hx : x.isRef = true := h4.2
  have e3 : x = .ref b := gotT (eq_R h1 h2 hx rfl) h
  subst e3
  exact Fld.start ((fld_at ev).symm.trans h1)
set_option maxRecDepth 65536 in
set_option maxHeartbeats 40000000 in
theorem comes_1 {Post : Tables → Env → Array Value → State → Outcome → State → Prop} (hpost : ∀ tb e args s v u, (limb_1_1.after args s (.returned v) u = true ∧ limb_1_2.after args s (.returned v) u = true ∧ True) → ReturnedEndW s (.returned v) u (Jvm.fieldLocs frame_1_writes args s ++ Jvm.arrayLocs frame_1_arrays args s ++ Jvm.staticLocs frame_1_statics s) 32 2240 → Post tb e args s (.returned v) u) :
    ArmFor flags0 classFile x code maxLocals ret World_1 tables_1 room_1 Calls_1 rest_1 Pre_1 Post := by
  intro l hfl _ _ p e ha hc hk s m args below hf hA hF happ hP
  obtain ⟨hcalls, hrest, hpre⟩ := hP
  obtain ⟨-, -, -, hnamed, -, -, -, hat⟩ := (Spec.applies_iff hf).mp happ
  obtain ⟨hg, hn⟩ := and_e (Cond.before_iff.mp (show (Jvm.Cond.and given_1 narrow_1).before args s = true from hpre))
  obtain ⟨j1, j2⟩ := and_e hg
  obtain ⟨j3, j4⟩ := and_e j2
  obtain ⟨w0, w1, rfl⟩ : ∃ w0 w1 : Value, args = #[w0, w1] := by
    have hs : args.size = 2 := by simpa [Cond.value, given_1] using j1
    obtain ⟨L⟩ := args
    match L, hs with
    | [w0, w1], _ => exact ⟨w0, w1, rfl⟩
  have hw := fun d (hd : d ∈ tables_1) => atoms_spec (ws := Jvm.Cond.code x code maxLocals ret :: tables_1) hat d (List.mem_cons_of_mem _ hd)
  have hfit : Fit s := fun {y c} hc i hi => by
    obtain ⟨ha, rfl⟩ := Array.getElem?_eq_some_iff.mp hc
    have q := List.all_eq_true.mp ((Array.all_eq_true_iff_forall_mem.mp hF) _ (Array.getElem_mem ha)) i (List.mem_range.mpr hi)
    simpa [Array.getElem?_eq_getElem hi] using q
  obtain ⟨hsets, hown0⟩ := atoms_of _ (rest_1_c_eq ▸ (show rest_1_c.before _ s = true from hrest))
  have hr0 := Cond.before_iff.mp hown0
  obtain ⟨i0, ei0⟩ := is_v j3
  obtain rfl : w0 = (.int i0) := Option.some.inj ei0
  obtain ⟨i1, ei1⟩ := is_v j4
  obtain rfl : w1 = (.int i1) := Option.some.inj ei1
  have hEL : EW s _ consts_1 := (EW.cons (hwi hw 109 rfl) (by decide) (EW.cons (hwi hw 14 rfl) (by decide) EW.nil))
  have hheld : ∀ p ∈ consts_1, Jvm.Lit.constHeld s p.1 p.2 := hcalls.1
  have H0c : CHv s consts_1 s.vm s.heap := CHv.start hEL hheld (hsets _ (List.mem_of_getElem? (i := 2) rfl)) (hwi hw 15 rfl) (hwi hw 2 rfl)
  have n5 := not_v (Cond.before_iff.mp (hsets _ (List.mem_of_getElem? (i := 2) rfl)))
  obtain ⟨w_COMPACT_STRINGS, ecs⟩ := is_v (Cond.before_iff.mp (hsets _ (List.mem_of_getElem? (i := 1) rfl)))
  have S_COMPACT_STRINGS := Sta.start ecs (Or.inl (hsets _ (List.mem_of_getElem? (i := 0) rfl)))
  have hcs : ¬ (w_COMPACT_STRINGS = (0 : Int32)) := gotF (Cond.eq_ints ecs (Term.int_eval (0))) n5
  obtain ⟨w_SIOOBE_FORMATTER, esf, hr_SIOOBE_FORMATTER⟩ := isR_v (Cond.before_iff.mp (hsets _ (List.mem_of_getElem? (i := 8) rfl)))
  have S_SIOOBE_FORMATTER := Sta.start esf (Or.inl (hsets _ (List.mem_of_getElem? (i := 7) rfl)))
  have hB : own_B s := Jvm.SetKit.digits_of (fun {y cy} hc {i} hi => hfit hc hi) (hwi hw 15 rfl) (hsets _ (List.mem_of_getElem? (i := 9) rfl)) (hsets _ (List.mem_of_getElem? (i := 10) rfl)) (hsets _ (List.mem_of_getElem? (i := 12) rfl)) (hsets _ (List.mem_of_getElem? (i := 13) rfl)) (hsets _ (List.mem_of_getElem? (i := 14) rfl)) (hsets _ (List.mem_of_getElem? (i := 15) rfl)) (hsets _ (List.mem_of_getElem? (i := 17) rfl)) (hsets _ (List.mem_of_getElem? (i := 18) rfl)) (hsets _ (List.mem_of_getElem? (i := 19) rfl))
  obtain ⟨nn, hn1, hn2⟩ := Jvm.Free.SBG.negI_of i1
  have habs := own_abs hn1 hn2
  have hdp := Jvm.Free.SBG.digits_pos nn
  have key : MetFree l x (head1 (Jvm.Cond.code x code maxLocals ret :: tables_1) room_1) (fun a U => a = #[(.int i0), (.int i1)] ∧ s.Warmed39 U.vm ∧ U.heap = s.heap ∧ CHv s consts_1 U.vm s.heap) (fun _ _ _ _ _ => True) (fun _ U o U' => ∃ v L, o = .returned v ∧ Q_law s.heap.size v L ∧ CHr s consts_1 U.vm U.heap U'.vm U'.heap ∧ ReturnedEndW U o U' L room_1.cells room_1.slots) := by
    rcases own_and3 i0 with hk | hk | hk | hk
    · by_cases hneg : i1 < (0 : Int32)
      · exact rm_law_0_1 l s _ hw hEL tables_1 i0 i1 (-(i1.toInt64)) (Int32.ofNat (Jvm.Free.SBG.digits nn)) w_COMPACT_STRINGS (Int32.ofNat (1 + (Jvm.Free.SBG.digits nn + Jvm.Free.SBG.GetChars.sgn i1))) nn (1 + (Jvm.Free.SBG.digits nn + Jvm.Free.SBG.GetChars.sgn i1)) ((((i0.toUInt32 >>> ((2 : Int32) &&& 31).toUInt32).toInt32) &&& (255 : Int32)).toUInt32.toUInt16.toUInt32.toInt32) ((((i0.toUInt32 >>> ((10 : Int32) &&& 31).toUInt32).toInt32) &&& (255 : Int32)).toUInt32.toUInt16.toUInt32.toInt32) ((((i0.toUInt32 >>> ((18 : Int32) &&& 31).toUInt32).toInt32) &&& (255 : Int32)).toUInt32.toUInt16.toUInt32.toInt32) w_SIOOBE_FORMATTER s.heap s.heap.size (Nat.le_refl _) S_COMPACT_STRINGS hcs (own_sz (k := 1) hn1 hn2) hB ⟨hn1, hn2, rfl, by have := (habs.1 hneg).2; omega⟩ rfl hneg ⟨(habs.1 hneg).1, hn1, rfl⟩ (by rw [(habs.1 hneg).2]; exact own_len 1 1 _) hk rfl rfl rfl (Old.start s) rfl hr_SIOOBE_FORMATTER S_SIOOBE_FORMATTER
      · exact rm_law_0_0 l s _ hw hEL tables_1 i0 i1 (i1.toInt64) (Int32.ofNat (Jvm.Free.SBG.digits nn)) w_COMPACT_STRINGS (Int32.ofNat (1 + (Jvm.Free.SBG.digits nn + Jvm.Free.SBG.GetChars.sgn i1))) nn (1 + (Jvm.Free.SBG.digits nn + Jvm.Free.SBG.GetChars.sgn i1)) ((((i0.toUInt32 >>> ((2 : Int32) &&& 31).toUInt32).toInt32) &&& (255 : Int32)).toUInt32.toUInt16.toUInt32.toInt32) ((((i0.toUInt32 >>> ((10 : Int32) &&& 31).toUInt32).toInt32) &&& (255 : Int32)).toUInt32.toUInt16.toUInt32.toInt32) ((((i0.toUInt32 >>> ((18 : Int32) &&& 31).toUInt32).toInt32) &&& (255 : Int32)).toUInt32.toUInt16.toUInt32.toInt32) w_SIOOBE_FORMATTER s.heap s.heap.size (Nat.le_refl _) S_COMPACT_STRINGS hcs (own_sz (k := 1) hn1 hn2) hB ⟨hn1, hn2, rfl, by have := (habs.2 hneg).2; omega⟩ rfl hneg ⟨(habs.2 hneg).1, hn1, rfl⟩ (by rw [(habs.2 hneg).2]; exact own_len 1 0 _) hk rfl rfl rfl (Old.start s) rfl hr_SIOOBE_FORMATTER S_SIOOBE_FORMATTER
    · by_cases hneg : i1 < (0 : Int32)
      · exact rm_law_1_1 l s _ hw hEL tables_1 i0 i1 (-(i1.toInt64)) (Int32.ofNat (Jvm.Free.SBG.digits nn)) w_COMPACT_STRINGS (Int32.ofNat (2 + (Jvm.Free.SBG.digits nn + Jvm.Free.SBG.GetChars.sgn i1))) nn (2 + (Jvm.Free.SBG.digits nn + Jvm.Free.SBG.GetChars.sgn i1)) ((((i0.toUInt32 >>> ((2 : Int32) &&& 31).toUInt32).toInt32) &&& (255 : Int32)).toUInt32.toUInt16.toUInt32.toInt32) ((((i0.toUInt32 >>> ((10 : Int32) &&& 31).toUInt32).toInt32) &&& (255 : Int32)).toUInt32.toUInt16.toUInt32.toInt32) ((((i0.toUInt32 >>> ((18 : Int32) &&& 31).toUInt32).toInt32) &&& (255 : Int32)).toUInt32.toUInt16.toUInt32.toInt32) w_SIOOBE_FORMATTER s.heap s.heap.size (Nat.le_refl _) S_COMPACT_STRINGS hcs (own_char ((i0.toUInt32 >>> ((2 : Int32) &&& 31).toUInt32).toInt32)).2.2 (own_sz (k := 2) hn1 hn2) hB ⟨hn1, hn2, rfl, by have := (habs.1 hneg).2; omega⟩ rfl hneg (own_back ((i0.toUInt32 >>> ((2 : Int32) &&& 31).toUInt32).toInt32)) ⟨(habs.1 hneg).1, hn1, rfl⟩ (by rw [(habs.1 hneg).2]; exact own_len 2 1 _) hk rfl rfl rfl (Old.start s) (own_char ((i0.toUInt32 >>> ((2 : Int32) &&& 31).toUInt32).toInt32)).1 rfl hr_SIOOBE_FORMATTER S_SIOOBE_FORMATTER
      · exact rm_law_1_0 l s _ hw hEL tables_1 i0 i1 (i1.toInt64) (Int32.ofNat (Jvm.Free.SBG.digits nn)) w_COMPACT_STRINGS (Int32.ofNat (2 + (Jvm.Free.SBG.digits nn + Jvm.Free.SBG.GetChars.sgn i1))) nn (2 + (Jvm.Free.SBG.digits nn + Jvm.Free.SBG.GetChars.sgn i1)) ((((i0.toUInt32 >>> ((2 : Int32) &&& 31).toUInt32).toInt32) &&& (255 : Int32)).toUInt32.toUInt16.toUInt32.toInt32) ((((i0.toUInt32 >>> ((10 : Int32) &&& 31).toUInt32).toInt32) &&& (255 : Int32)).toUInt32.toUInt16.toUInt32.toInt32) ((((i0.toUInt32 >>> ((18 : Int32) &&& 31).toUInt32).toInt32) &&& (255 : Int32)).toUInt32.toUInt16.toUInt32.toInt32) w_SIOOBE_FORMATTER s.heap s.heap.size (Nat.le_refl _) S_COMPACT_STRINGS hcs (own_char ((i0.toUInt32 >>> ((2 : Int32) &&& 31).toUInt32).toInt32)).2.2 (own_sz (k := 2) hn1 hn2) hB ⟨hn1, hn2, rfl, by have := (habs.2 hneg).2; omega⟩ rfl hneg (own_back ((i0.toUInt32 >>> ((2 : Int32) &&& 31).toUInt32).toInt32)) ⟨(habs.2 hneg).1, hn1, rfl⟩ (by rw [(habs.2 hneg).2]; exact own_len 2 0 _) hk rfl rfl rfl (Old.start s) (own_char ((i0.toUInt32 >>> ((2 : Int32) &&& 31).toUInt32).toInt32)).1 rfl hr_SIOOBE_FORMATTER S_SIOOBE_FORMATTER
    · by_cases hneg : i1 < (0 : Int32)
      · exact rm_law_2_1 l s _ hw hEL tables_1 i0 i1 (-(i1.toInt64)) (Int32.ofNat (Jvm.Free.SBG.digits nn)) w_COMPACT_STRINGS (Int32.ofNat (3 + (Jvm.Free.SBG.digits nn + Jvm.Free.SBG.GetChars.sgn i1))) nn (3 + (Jvm.Free.SBG.digits nn + Jvm.Free.SBG.GetChars.sgn i1)) ((((i0.toUInt32 >>> ((2 : Int32) &&& 31).toUInt32).toInt32) &&& (255 : Int32)).toUInt32.toUInt16.toUInt32.toInt32) ((((i0.toUInt32 >>> ((10 : Int32) &&& 31).toUInt32).toInt32) &&& (255 : Int32)).toUInt32.toUInt16.toUInt32.toInt32) ((((i0.toUInt32 >>> ((18 : Int32) &&& 31).toUInt32).toInt32) &&& (255 : Int32)).toUInt32.toUInt16.toUInt32.toInt32) w_SIOOBE_FORMATTER s.heap s.heap.size (Nat.le_refl _) S_COMPACT_STRINGS hcs (own_char ((i0.toUInt32 >>> ((2 : Int32) &&& 31).toUInt32).toInt32)).2.2 (own_char ((i0.toUInt32 >>> ((10 : Int32) &&& 31).toUInt32).toInt32)).2.2 (own_sz (k := 3) hn1 hn2) hB ⟨hn1, hn2, rfl, by have := (habs.1 hneg).2; omega⟩ rfl hneg (own_back ((i0.toUInt32 >>> ((2 : Int32) &&& 31).toUInt32).toInt32)) (own_back ((i0.toUInt32 >>> ((10 : Int32) &&& 31).toUInt32).toInt32)) ⟨(habs.1 hneg).1, hn1, rfl⟩ (by rw [(habs.1 hneg).2]; exact own_len 3 1 _) hk rfl rfl rfl (Old.start s) (own_char ((i0.toUInt32 >>> ((2 : Int32) &&& 31).toUInt32).toInt32)).1 (own_char ((i0.toUInt32 >>> ((10 : Int32) &&& 31).toUInt32).toInt32)).1 rfl hr_SIOOBE_FORMATTER S_SIOOBE_FORMATTER
      · exact rm_law_2_0 l s _ hw hEL tables_1 i0 i1 (i1.toInt64) (Int32.ofNat (Jvm.Free.SBG.digits nn)) w_COMPACT_STRINGS (Int32.ofNat (3 + (Jvm.Free.SBG.digits nn + Jvm.Free.SBG.GetChars.sgn i1))) nn (3 + (Jvm.Free.SBG.digits nn + Jvm.Free.SBG.GetChars.sgn i1)) ((((i0.toUInt32 >>> ((2 : Int32) &&& 31).toUInt32).toInt32) &&& (255 : Int32)).toUInt32.toUInt16.toUInt32.toInt32) ((((i0.toUInt32 >>> ((10 : Int32) &&& 31).toUInt32).toInt32) &&& (255 : Int32)).toUInt32.toUInt16.toUInt32.toInt32) ((((i0.toUInt32 >>> ((18 : Int32) &&& 31).toUInt32).toInt32) &&& (255 : Int32)).toUInt32.toUInt16.toUInt32.toInt32) w_SIOOBE_FORMATTER s.heap s.heap.size (Nat.le_refl _) S_COMPACT_STRINGS hcs (own_char ((i0.toUInt32 >>> ((2 : Int32) &&& 31).toUInt32).toInt32)).2.2 (own_char ((i0.toUInt32 >>> ((10 : Int32) &&& 31).toUInt32).toInt32)).2.2 (own_sz (k := 3) hn1 hn2) hB ⟨hn1, hn2, rfl, by have := (habs.2 hneg).2; omega⟩ rfl hneg (own_back ((i0.toUInt32 >>> ((2 : Int32) &&& 31).toUInt32).toInt32)) (own_back ((i0.toUInt32 >>> ((10 : Int32) &&& 31).toUInt32).toInt32)) ⟨(habs.2 hneg).1, hn1, rfl⟩ (by rw [(habs.2 hneg).2]; exact own_len 3 0 _) hk rfl rfl rfl (Old.start s) (own_char ((i0.toUInt32 >>> ((2 : Int32) &&& 31).toUInt32).toInt32)).1 (own_char ((i0.toUInt32 >>> ((10 : Int32) &&& 31).toUInt32).toInt32)).1 rfl hr_SIOOBE_FORMATTER S_SIOOBE_FORMATTER
    · by_cases hneg : i1 < (0 : Int32)
      · exact rm_law_3_1 l s _ hw hEL tables_1 i0 i1 (-(i1.toInt64)) (Int32.ofNat (Jvm.Free.SBG.digits nn)) w_COMPACT_STRINGS (Int32.ofNat (4 + (Jvm.Free.SBG.digits nn + Jvm.Free.SBG.GetChars.sgn i1))) nn (4 + (Jvm.Free.SBG.digits nn + Jvm.Free.SBG.GetChars.sgn i1)) ((((i0.toUInt32 >>> ((2 : Int32) &&& 31).toUInt32).toInt32) &&& (255 : Int32)).toUInt32.toUInt16.toUInt32.toInt32) ((((i0.toUInt32 >>> ((10 : Int32) &&& 31).toUInt32).toInt32) &&& (255 : Int32)).toUInt32.toUInt16.toUInt32.toInt32) ((((i0.toUInt32 >>> ((18 : Int32) &&& 31).toUInt32).toInt32) &&& (255 : Int32)).toUInt32.toUInt16.toUInt32.toInt32) w_SIOOBE_FORMATTER s.heap s.heap.size (Nat.le_refl _) S_COMPACT_STRINGS hcs (own_char ((i0.toUInt32 >>> ((2 : Int32) &&& 31).toUInt32).toInt32)).2.2 (own_char ((i0.toUInt32 >>> ((10 : Int32) &&& 31).toUInt32).toInt32)).2.2 (own_char ((i0.toUInt32 >>> ((18 : Int32) &&& 31).toUInt32).toInt32)).2.2 (own_sz (k := 4) hn1 hn2) hB ⟨hn1, hn2, rfl, by have := (habs.1 hneg).2; omega⟩ rfl hneg (own_back ((i0.toUInt32 >>> ((2 : Int32) &&& 31).toUInt32).toInt32)) (own_back ((i0.toUInt32 >>> ((10 : Int32) &&& 31).toUInt32).toInt32)) (own_back ((i0.toUInt32 >>> ((18 : Int32) &&& 31).toUInt32).toInt32)) ⟨(habs.1 hneg).1, hn1, rfl⟩ (by rw [(habs.1 hneg).2]; exact own_len 4 1 _) hk rfl rfl rfl (Old.start s) (own_char ((i0.toUInt32 >>> ((2 : Int32) &&& 31).toUInt32).toInt32)).1 (own_char ((i0.toUInt32 >>> ((10 : Int32) &&& 31).toUInt32).toInt32)).1 (own_char ((i0.toUInt32 >>> ((18 : Int32) &&& 31).toUInt32).toInt32)).1 rfl hr_SIOOBE_FORMATTER S_SIOOBE_FORMATTER
      · exact rm_law_3_0 l s _ hw hEL tables_1 i0 i1 (i1.toInt64) (Int32.ofNat (Jvm.Free.SBG.digits nn)) w_COMPACT_STRINGS (Int32.ofNat (4 + (Jvm.Free.SBG.digits nn + Jvm.Free.SBG.GetChars.sgn i1))) nn (4 + (Jvm.Free.SBG.digits nn + Jvm.Free.SBG.GetChars.sgn i1)) ((((i0.toUInt32 >>> ((2 : Int32) &&& 31).toUInt32).toInt32) &&& (255 : Int32)).toUInt32.toUInt16.toUInt32.toInt32) ((((i0.toUInt32 >>> ((10 : Int32) &&& 31).toUInt32).toInt32) &&& (255 : Int32)).toUInt32.toUInt16.toUInt32.toInt32) ((((i0.toUInt32 >>> ((18 : Int32) &&& 31).toUInt32).toInt32) &&& (255 : Int32)).toUInt32.toUInt16.toUInt32.toInt32) w_SIOOBE_FORMATTER s.heap s.heap.size (Nat.le_refl _) S_COMPACT_STRINGS hcs (own_char ((i0.toUInt32 >>> ((2 : Int32) &&& 31).toUInt32).toInt32)).2.2 (own_char ((i0.toUInt32 >>> ((10 : Int32) &&& 31).toUInt32).toInt32)).2.2 (own_char ((i0.toUInt32 >>> ((18 : Int32) &&& 31).toUInt32).toInt32)).2.2 (own_sz (k := 4) hn1 hn2) hB ⟨hn1, hn2, rfl, by have := (habs.2 hneg).2; omega⟩ rfl hneg (own_back ((i0.toUInt32 >>> ((2 : Int32) &&& 31).toUInt32).toInt32)) (own_back ((i0.toUInt32 >>> ((10 : Int32) &&& 31).toUInt32).toInt32)) (own_back ((i0.toUInt32 >>> ((18 : Int32) &&& 31).toUInt32).toInt32)) ⟨(habs.2 hneg).1, hn1, rfl⟩ (by rw [(habs.2 hneg).2]; exact own_len 4 0 _) hk rfl rfl rfl (Old.start s) (own_char ((i0.toUInt32 >>> ((2 : Int32) &&& 31).toUInt32).toInt32)).1 (own_char ((i0.toUInt32 >>> ((10 : Int32) &&& 31).toUInt32).toInt32)).1 (own_char ((i0.toUInt32 >>> ((18 : Int32) &&& 31).toUInt32).toInt32)).1 rfl hr_SIOOBE_FORMATTER S_SIOOBE_FORMATTER
  obtain ⟨n, o, h1, h2, h3, _, L, rfl, ⟨rfl, N⟩, -, hq⟩ := key p e ha hc hk s m _ below hf ((Spec.applies_iff_loose hf).mp happ).1 ⟨rfl, State.Warmed39.refl s, rfl, H0c⟩ trivial
  refine ⟨n, _, h1, h2, h3, hpost _ _ _ _ _ _ ⟨Cond.after_iff.mpr rfl, Cond.after_iff.mpr (eq_i res_at (Term.int_eval (1)) rfl), trivial⟩ ⟨hq.1, hq.2.1, hq.2.2.1, (hq.2.2.2.sift fun y hy => Or.inr (N y hy)).mono (by decide) (by decide)⟩⟩
theorem main_1_1 : Claimed_1_1 := comes_1 fun _ _ _ _ _ _ h hF => ⟨h.1, hF⟩
theorem main_1_2 : Claimed_1_2 := comes_1 fun _ _ _ _ _ _ h hF => ⟨h.2.1, hF⟩
end Jvm.Pilot.@@N@@
namespace Jvm.Pilot.@@N@@
open Jvm Jvm.ClassFile Sem Op Lib Jvm.Free Jvm.Stand Jvm.Pilot.@@N@@.Jvm.D
/-! MADE BY PROGRAM (witnessworld.py) out of the Statement's table words and the real class files: 29 classes; the members and pool entries that the words name. The judged class is class 1, her method 1. -/
namespace start1
open Jvm.ClassFile
def u (s : String) : CpInfo := .utf8 (stringToUtf16 s)
/-- a pool by its gaps: so many unusable entries, then the entry; so many at the end -/
def gap : Nat → List CpInfo → List CpInfo
  | 0, r => r
  | n + 1, r => .unusable :: gap n r
def poolList (es : List (Nat × CpInfo)) (last : Nat) : List CpInfo := es.foldr (fun e r => gap e.1 (e.2 :: r)) (gap last [])
def pool (es : List (Nat × CpInfo)) (last : Nat) : Array CpInfo := ⟨poolList es last⟩
def fileOf (pool : Array CpInfo) (this : Nat) (attrs : Array Attribute := #[]) (ms : Array MethodInfo := #[]) (fl : Nat := 33) (sup : Nat := 0) (ifs : Array Nat := #[]) (fds : Array FieldInfo := #[]) : ClassFile where
  minorVersion := 0
  majorVersion := 65
  constantPool := pool
  accessFlags := fl
  thisClass := this
  superClass := sup
  interfaces := ifs
  fields := fds
  methods := ms
  attributes := attrs
def plain (name : String) (sup : Option ClassId) : Class where
  name := name
  kind := .ordinary
  loader := none
  accessFlags := 33
  super := sup
  interfaces := #[]
  cf := none
  fields := #[]
  methods := #[]
  instanceTypes := #[]
  staticTypes := #[]
  resolved := #[]
  callSites := []
  init := .initialized
  statics := none
  mirror := none

def pool0 : Array CpInfo := pool [(5, u "<init>"), (0, u "()V"), (1, .class_ 10), (1, u "java/lang/Object")] 113

def k0c0 : Code := { maxStack := 0, maxLocals := 1, code := object_method_1_code, exceptionTable := #[], attributes := #[] }
def k0m0 : Method := { name := "<init>", desc := "()V", sig := { parameters := [], returnType := none }, accessFlags := 1, code := some k0c0 }
/-- java/lang/Object -/
def k0 : Class := { plain "java/lang/Object" none with
  accessFlags := 33
  interfaces := #[]
  cf := some (fileOf pool0 8 #[] #[{ accessFlags := 1, nameIndex := 5, descriptorIndex := 6, attributes := #[] }] 33 0 #[] #[])
  fields := #[]
  methods := #[k0m0]
  instanceTypes := #[]
  staticTypes := #[]
  resolved := Array.replicate 124 none
  statics := none }

def pool1 : Array CpInfo := pool [(2, .class_ 4), (1, u "java/lang/Object"), (0, u "<init>"), (0, u "()V"), (0, .class_ 8), (0, u "java/lang/String"), (0, .methodref 7 10), (0, .nameAndType 5 11), (0, u "([C)V"), (0, .class_ 13), (0, u "com/example/demarc/demarc/tool/Account"), (0, .methodref 12 15), (0, .nameAndType 5 16), (0, u "(Ljava/lang/String;I)V"), (0, .methodref 12 18), (0, .nameAndType 19 20), (0, u "toString"), (0, u "()Ljava/lang/String;"), (0, .methodref 22 23), (0, .class_ 24), (0, .nameAndType 25 26), (0, u "com/example/demarc/demarc/tool/AccountToStringPinLaw"), (0, u "digits"), (0, u "(J)I"), (0, .methodref 7 28), (0, .nameAndType 29 30), (0, u "length"), (0, u "()I"), (0, .methodref 7 32), (0, .nameAndType 33 34), (0, u "charAt"), (0, u "(I)C"), (0, .methodref 22 36), (0, .nameAndType 37 38), (0, u "digitOk"), (0, u "(Ljava/lang/String;JII)Z"), (0, .long 10), (1, .long 100), (1, .long 1000), (1, .long 10000), (1, .long 100000), (1, .long 1000000), (1, .long 10000000), (1, .long 100000000), (1, .long 1000000000), (1, .methodref 22 58), (0, .nameAndType 59 60), (0, u "pow10"), (0, u "(I)J"), (2, u "law"), (0, u "(II)Z")] 5

def k1m0 : Method := { name := "<init>", desc := "()V", sig := { parameters := [], returnType := none }, accessFlags := 1, code := none }
def k1c1 : Code := { maxStack := 5, maxLocals := 14, code := code, exceptionTable := #[], attributes := #[] }
def k1m1 : Method := { name := "law", desc := "(II)Z", sig := { parameters := [.int, .int], returnType := some .boolean }, accessFlags := 9, code := some k1c1 }
def k1c2 : Code := { maxStack := 4, maxLocals := 2, code := method_3_code, exceptionTable := #[], attributes := #[] }
def k1m2 : Method := { name := "digits", desc := "(J)I", sig := { parameters := [.long], returnType := some .int }, accessFlags := 10, code := some k1c2 }
def k1c3 : Code := { maxStack := 2, maxLocals := 1, code := method_4_code, exceptionTable := #[], attributes := #[] }
def k1m3 : Method := { name := "pow10", desc := "(I)J", sig := { parameters := [.int], returnType := some .long }, accessFlags := 10, code := some k1c3 }
def k1c4 : Code := { maxStack := 5, maxLocals := 6, code := method_5_code, exceptionTable := #[], attributes := #[] }
def k1m4 : Method := { name := "digitOk", desc := "(Ljava/lang/String;JII)Z", sig := { parameters := [(.object "java/lang/String"), .long, .int, .int], returnType := some .boolean }, accessFlags := 10, code := some k1c4 }
/-- com/example/demarc/demarc/tool/AccountToStringPinLaw -/
def k1 : Class := { plain "com/example/demarc/demarc/tool/AccountToStringPinLaw" (some 0) with
  accessFlags := 49
  interfaces := #[]
  cf := some (fileOf pool1 22 #[] #[{ accessFlags := 1, nameIndex := 5, descriptorIndex := 6, attributes := #[] }, { accessFlags := 9, nameIndex := 63, descriptorIndex := 64, attributes := #[] }, { accessFlags := 10, nameIndex := 25, descriptorIndex := 26, attributes := #[] }, { accessFlags := 10, nameIndex := 59, descriptorIndex := 60, attributes := #[] }, { accessFlags := 10, nameIndex := 37, descriptorIndex := 38, attributes := #[] }] 49 2 #[] #[])
  fields := #[]
  methods := #[k1m0, k1m1, k1m2, k1m3, k1m4]
  instanceTypes := #[]
  staticTypes := #[]
  resolved := Array.replicate 70 none
  statics := none }

def pool2 : Array CpInfo := pool [(1, .class_ 2), (0, u "java/io/Serializable"), (0, .class_ 4), (0, u "java/lang/Object")] 2

/-- java/io/Serializable -/
def k2 : Class := { plain "java/io/Serializable" (some 0) with
  accessFlags := 1537
  interfaces := #[]
  cf := some (fileOf pool2 1 #[] #[] 1537 3 #[] #[])
  fields := #[]
  methods := #[]
  instanceTypes := #[]
  staticTypes := #[]
  resolved := Array.replicate 7 none
  statics := none }

def pool3 : Array CpInfo := pool [(1, .class_ 2), (0, u "java/lang/Comparable"), (0, .class_ 4), (0, u "java/lang/Object")] 7

/-- java/lang/Comparable -/
def k3 : Class := { plain "java/lang/Comparable" (some 0) with
  accessFlags := 1537
  interfaces := #[]
  cf := some (fileOf pool3 1 #[] #[] 1537 3 #[] #[])
  fields := #[]
  methods := #[]
  instanceTypes := #[]
  staticTypes := #[]
  resolved := Array.replicate 12 none
  statics := none }

def pool4 : Array CpInfo := pool [(2, .class_ 4), (1, u "java/lang/CharSequence"), (42, .class_ 48), (0, u "java/lang/CharSequence$1CodePointIterator"), (10, .class_ 60), (0, u "java/lang/CharSequence$1CharIterator"), (5, .class_ 67), (0, u "java/lang/Object")] 63

/-- java/lang/CharSequence -/
def k4 : Class := { plain "java/lang/CharSequence" (some 0) with
  accessFlags := 1537
  interfaces := #[]
  cf := some (fileOf pool4 2 #[.nestMembers #[47, 59]] #[] 1537 66 #[] #[])
  fields := #[]
  methods := #[]
  instanceTypes := #[]
  staticTypes := #[]
  resolved := Array.replicate 131 none
  statics := none }

def pool5 : Array CpInfo := pool [(1, .class_ 2), (0, u "java/lang/constant/Constable"), (0, .class_ 4), (0, u "java/lang/Object")] 6

/-- java/lang/constant/Constable -/
def k5 : Class := { plain "java/lang/constant/Constable" (some 0) with
  accessFlags := 1537
  interfaces := #[]
  cf := some (fileOf pool5 1 #[] #[] 1537 3 #[] #[])
  fields := #[]
  methods := #[]
  instanceTypes := #[]
  staticTypes := #[]
  resolved := Array.replicate 11 none
  statics := none }

def pool6 : Array CpInfo := pool [(1, .class_ 2), (0, u "java/lang/constant/ConstantDesc"), (0, .class_ 4), (0, u "java/lang/Object")] 32

/-- java/lang/constant/ConstantDesc -/
def k6 : Class := { plain "java/lang/constant/ConstantDesc" (some 0) with
  accessFlags := 1537
  interfaces := #[]
  cf := some (fileOf pool6 1 #[] #[] 1537 3 #[] #[])
  fields := #[]
  methods := #[]
  instanceTypes := #[]
  staticTypes := #[]
  resolved := Array.replicate 37 none
  statics := none }

def pool7 : Array CpInfo := pool [(1, .methodref 2 3), (0, .class_ 4), (0, .nameAndType 5 6), (0, u "java/lang/Object"), (0, u "<init>"), (0, u "()V"), (0, .string 8), (0, u ""), (0, .fieldref 10 11), (0, .class_ 12), (0, .nameAndType 13 14), (0, u "java/lang/String"), (0, u "value"), (0, u "[B"), (0, .fieldref 10 16), (0, .nameAndType 17 18), (0, u "coder"), (0, u "B"), (2, u "hash"), (0, u "I"), (2, u "hashIsZero"), (0, u "Z"), (0, .methodref 10 28), (0, .nameAndType 5 29), (0, u "([CIILjava/lang/Void;)V"), (8, .fieldref 10 39), (0, .nameAndType 40 26), (0, u "COMPACT_STRINGS"), (1, .class_ 44), (1, u "java/lang/StringUTF16"), (0, u "compress"), (1, .methodref 42 48), (0, .nameAndType 49 50), (0, u "coderFromArrayLen"), (0, u "([BI)B"), (3, .methodref 55 56), (0, .class_ 57), (0, .nameAndType 58 59), (0, u "java/util/Arrays"), (0, u "copyOfRange"), (0, u "([BII)[B"), (47, .class_ 109), (1, u "java/lang/StringLatin1"), (32, u "()Z"), (34, .methodref 42 178), (0, .nameAndType 45 179), (0, u "([CII)[B"), (13, .class_ 195), (1, u "java/lang/System"), (16, .methodref 193 213), (0, .nameAndType 214 215), (0, u "arraycopy"), (0, u "(Ljava/lang/Object;ILjava/lang/Object;II)V"), (118, u "()I"), (0, .methodref 10 336), (0, .nameAndType 17 337), (0, u "()B"), (2, u "()[B"), (22, u "([BI)C"), (27, u "(II)V"), (35, u "(I)C"), (61, .methodref 10 490), (0, .nameAndType 5 491), (0, u "(Ljava/lang/AbstractStringBuilder;Ljava/lang/Void;)V"), (0, .methodref 10 493), (0, .nameAndType 494 142), (0, u "isLatin1"), (0, .methodref 107 496), (0, .nameAndType 497 363), (0, u "charAt"), (3, u "checkIndex"), (4, .nameAndType 507 334), (0, u "length"), (24, u "getBytes"), (16, .methodref 550 506), (0, .class_ 551), (0, u "java/lang/AbstractStringBuilder"), (0, .methodref 550 553), (0, .nameAndType 554 340), (0, u "getValue"), (20, .class_ 576), (0, u "java/lang/CharSequence"), (22, u "CASE_INSENSITIVE_ORDER"), (0, u "Ljava/util/Comparator;"), (220, u "([BIB)V"), (188, u "([C)V"), (36, .methodref 550 493), (5, .fieldref 1054 1055), (0, .class_ 1056), (0, .nameAndType 1057 1058), (0, u "jdk/internal/util/Preconditions"), (0, u "SIOOBE_FORMATTER"), (0, u "Ljava/util/function/BiFunction;"), (0, .methodref 1054 1060), (0, .nameAndType 501 1061), (0, u "(IILjava/util/function/BiFunction;)I"), (39, u "serialPersistentFields"), (0, u "[Ljava/io/ObjectStreamField;"), (0, .class_ 1104), (0, u "java/lang/String$CaseInsensitiveComparator"), (1, .class_ 1107), (0, u "java/io/Serializable"), (0, .class_ 1109), (0, u "java/lang/Comparable"), (0, .class_ 1111), (0, u "java/lang/constant/Constable"), (0, .class_ 1113), (0, u "java/lang/constant/ConstantDesc"), (2, u "serialVersionUID"), (0, u "J"), (3, u "REPL"), (0, u "C"), (2, u "LATIN1"), (1, u "UTF16"), (105, u "(Ljava/lang/StringBuilder;)V")] 217

def k7m0 : Method := { name := "<init>", desc := "()V", sig := { parameters := [], returnType := none }, accessFlags := 1, code := none }
def k7c1 : Code := { maxStack := 5, maxLocals := 2, code := jdk_42_method_3_code, exceptionTable := #[], attributes := #[] }
def k7m1 : Method := { name := "<init>", desc := "([C)V", sig := { parameters := [(.array .char)], returnType := none }, accessFlags := 1, code := some k7c1 }
def k7c2 : Code := { maxStack := 3, maxLocals := 2, code := jdk_42_method_53_code, exceptionTable := #[], attributes := #[] }
def k7m2 : Method := { name := "<init>", desc := "(Ljava/lang/StringBuilder;)V", sig := { parameters := [(.object "java/lang/StringBuilder")], returnType := none }, accessFlags := 1, code := some k7c2 }
def k7c3 : Code := { maxStack := 2, maxLocals := 1, code := jdk_42_method_54_code, exceptionTable := #[], attributes := #[] }
def k7m3 : Method := { name := "length", desc := "()I", sig := { parameters := [], returnType := some .int }, accessFlags := 1, code := some k7c3 }
def k7c4 : Code := { maxStack := 2, maxLocals := 2, code := jdk_42_method_56_code, exceptionTable := #[], attributes := #[] }
def k7m4 : Method := { name := "charAt", desc := "(I)C", sig := { parameters := [.int], returnType := some .char }, accessFlags := 1, code := some k7c4 }
def k7c5 : Code := { maxStack := 5, maxLocals := 4, code := jdk_42_method_147_code, exceptionTable := #[], attributes := #[] }
def k7m5 : Method := { name := "getBytes", desc := "([BIB)V", sig := { parameters := [(.array .byte), .int, .byte], returnType := none }, accessFlags := 0, code := some k7c5 }
def k7c6 : Code := { maxStack := 4, maxLocals := 6, code := jdk_42_method_149_code, exceptionTable := #[], attributes := #[] }
def k7m6 : Method := { name := "<init>", desc := "([CIILjava/lang/Void;)V", sig := { parameters := [(.array .char), .int, .int, (.object "java/lang/Void")], returnType := none }, accessFlags := 2, code := some k7c6 }
def k7c7 : Code := { maxStack := 5, maxLocals := 5, code := jdk_42_method_150_code, exceptionTable := #[], attributes := #[] }
def k7m7 : Method := { name := "<init>", desc := "(Ljava/lang/AbstractStringBuilder;Ljava/lang/Void;)V", sig := { parameters := [(.object "java/lang/AbstractStringBuilder"), (.object "java/lang/Void")], returnType := none }, accessFlags := 0, code := some k7c7 }
def k7c8 : Code := { maxStack := 1, maxLocals := 1, code := jdk_42_method_152_code, exceptionTable := #[], attributes := #[] }
def k7m8 : Method := { name := "coder", desc := "()B", sig := { parameters := [], returnType := some .byte }, accessFlags := 0, code := some k7c8 }
def k7c9 : Code := { maxStack := 1, maxLocals := 1, code := jdk_42_method_154_code, exceptionTable := #[], attributes := #[] }
def k7m9 : Method := { name := "isLatin1", desc := "()Z", sig := { parameters := [], returnType := some .boolean }, accessFlags := 0, code := some k7c9 }
def k7c10 : Code := { maxStack := 3, maxLocals := 2, code := jdk_42_method_155_code, exceptionTable := #[], attributes := #[] }
def k7m10 : Method := { name := "checkIndex", desc := "(II)V", sig := { parameters := [.int, .int], returnType := none }, accessFlags := 8, code := some k7c10 }
/-- java/lang/String -/
def k7 : Class := { plain "java/lang/String" (some 0) with
  accessFlags := 49
  interfaces := #[2, 3, 4, 5, 6]
  cf := some (fileOf pool7 10 #[.nestMembers #[1103]] #[{ accessFlags := 1, nameIndex := 5, descriptorIndex := 6, attributes := #[] }, { accessFlags := 1, nameIndex := 5, descriptorIndex := 1010, attributes := #[] }, { accessFlags := 1, nameIndex := 5, descriptorIndex := 1233, attributes := #[] }, { accessFlags := 1, nameIndex := 507, descriptorIndex := 334, attributes := #[] }, { accessFlags := 1, nameIndex := 497, descriptorIndex := 427, attributes := #[] }, { accessFlags := 0, nameIndex := 532, descriptorIndex := 821, attributes := #[] }, { accessFlags := 2, nameIndex := 5, descriptorIndex := 29, attributes := #[] }, { accessFlags := 0, nameIndex := 5, descriptorIndex := 491, attributes := #[] }, { accessFlags := 0, nameIndex := 17, descriptorIndex := 337, attributes := #[] }, { accessFlags := 0, nameIndex := 494, descriptorIndex := 142, attributes := #[] }, { accessFlags := 8, nameIndex := 501, descriptorIndex := 391, attributes := #[] }] 49 2 #[1106, 1108, 575, 1110, 1112] #[{ accessFlags := 18, nameIndex := 13, descriptorIndex := 14, attributes := #[] }, { accessFlags := 18, nameIndex := 17, descriptorIndex := 18, attributes := #[] }, { accessFlags := 2, nameIndex := 21, descriptorIndex := 22, attributes := #[] }, { accessFlags := 2, nameIndex := 25, descriptorIndex := 26, attributes := #[] }, { accessFlags := 26, nameIndex := 1116, descriptorIndex := 1117, attributes := #[] }, { accessFlags := 24, nameIndex := 40, descriptorIndex := 26, attributes := #[] }, { accessFlags := 26, nameIndex := 1101, descriptorIndex := 1102, attributes := #[] }, { accessFlags := 26, nameIndex := 1121, descriptorIndex := 1122, attributes := #[] }, { accessFlags := 25, nameIndex := 599, descriptorIndex := 600, attributes := #[] }, { accessFlags := 24, nameIndex := 1125, descriptorIndex := 18, attributes := #[] }, { accessFlags := 24, nameIndex := 1127, descriptorIndex := 18, attributes := #[] }])
  fields := #[{ name := "value", type := (.array .byte), accessFlags := 18, slot := 0, constantValue := 0 }, { name := "coder", type := .byte, accessFlags := 18, slot := 1, constantValue := 0 }, { name := "hash", type := .int, accessFlags := 2, slot := 2, constantValue := 0 }, { name := "hashIsZero", type := .boolean, accessFlags := 2, slot := 3, constantValue := 0 }, { name := "serialVersionUID", type := .long, accessFlags := 26, slot := 0, constantValue := 0 }, { name := "COMPACT_STRINGS", type := .boolean, accessFlags := 24, slot := 1, constantValue := 0 }, { name := "serialPersistentFields", type := (.array (.object "java/io/ObjectStreamField")), accessFlags := 26, slot := 2, constantValue := 0 }, { name := "REPL", type := .char, accessFlags := 26, slot := 3, constantValue := 0 }, { name := "CASE_INSENSITIVE_ORDER", type := (.object "java/util/Comparator"), accessFlags := 25, slot := 4, constantValue := 0 }, { name := "LATIN1", type := .byte, accessFlags := 24, slot := 5, constantValue := 0 }, { name := "UTF16", type := .byte, accessFlags := 24, slot := 6, constantValue := 0 }]
  methods := #[k7m0, k7m1, k7m2, k7m3, k7m4, k7m5, k7m6, k7m7, k7m8, k7m9, k7m10]
  instanceTypes := #[(.array .byte), .byte, .int, .boolean]
  staticTypes := #[.long, .boolean, (.array (.object "java/io/ObjectStreamField")), .char, (.object "java/util/Comparator"), .byte, .byte]
  resolved := Array.replicate 1451 none
  statics := some 0 }

def pool8 : Array CpInfo := pool [(1, .methodref 2 3), (0, .class_ 4), (0, .nameAndType 5 6), (0, u "java/lang/Object"), (0, u "<init>"), (0, u "()V"), (0, .class_ 8), (0, u "java/lang/Record")] 13

def k8c0 : Code := { maxStack := 1, maxLocals := 1, code := jdk_30_method_1_code, exceptionTable := #[], attributes := #[] }
def k8m0 : Method := { name := "<init>", desc := "()V", sig := { parameters := [], returnType := none }, accessFlags := 4, code := some k8c0 }
/-- java/lang/Record -/
def k8 : Class := { plain "java/lang/Record" (some 0) with
  accessFlags := 1057
  interfaces := #[]
  cf := some (fileOf pool8 7 #[] #[{ accessFlags := 4, nameIndex := 5, descriptorIndex := 6, attributes := #[] }] 1057 2 #[] #[])
  fields := #[]
  methods := #[k8m0]
  instanceTypes := #[]
  staticTypes := #[]
  resolved := Array.replicate 22 none
  statics := none }

def pool9 : Array CpInfo := pool [(1, .methodref 2 3), (0, .class_ 4), (0, .nameAndType 5 6), (0, u "java/lang/Record"), (0, u "<init>"), (0, u "()V"), (0, .fieldref 8 9), (0, .class_ 10), (0, .nameAndType 11 12), (0, u "com/example/demarc/demarc/tool/Account"), (0, u "database"), (0, u "Ljava/lang/String;"), (0, .fieldref 8 14), (0, .nameAndType 15 16), (0, u "number"), (0, u "I"), (12, .class_ 30), (0, u "java/lang/StringBuilder"), (0, .methodref 29 3), (0, .methodref 29 33), (0, .nameAndType 34 35), (0, u "append"), (0, u "(Ljava/lang/String;)Ljava/lang/StringBuilder;"), (0, .string 37), (0, u ":"), (0, .methodref 29 39), (0, .nameAndType 34 40), (0, u "(I)Ljava/lang/StringBuilder;"), (0, .methodref 29 42), (0, .nameAndType 43 44), (0, u "toString"), (0, u "()Ljava/lang/String;"), (10, .class_ 56), (0, u "java/lang/Comparable"), (0, u "(Ljava/lang/String;I)V")] 30

def k9c0 : Code := { maxStack := 2, maxLocals := 3, code := prog_26_method_1_code, exceptionTable := #[], attributes := #[] }
def k9m0 : Method := { name := "<init>", desc := "(Ljava/lang/String;I)V", sig := { parameters := [(.object "java/lang/String"), .int], returnType := none }, accessFlags := 0, code := some k9c0 }
def k9c1 : Code := { maxStack := 2, maxLocals := 1, code := prog_26_method_3_code, exceptionTable := #[], attributes := #[] }
def k9m1 : Method := { name := "toString", desc := "()Ljava/lang/String;", sig := { parameters := [], returnType := some (.object "java/lang/String") }, accessFlags := 1, code := some k9c1 }
/-- com/example/demarc/demarc/tool/Account -/
def k9 : Class := { plain "com/example/demarc/demarc/tool/Account" (some 8) with
  accessFlags := 48
  interfaces := #[3]
  cf := some (fileOf pool9 8 #[] #[{ accessFlags := 0, nameIndex := 5, descriptorIndex := 57, attributes := #[] }, { accessFlags := 1, nameIndex := 43, descriptorIndex := 44, attributes := #[] }] 48 2 #[55] #[{ accessFlags := 18, nameIndex := 11, descriptorIndex := 12, attributes := #[] }, { accessFlags := 18, nameIndex := 15, descriptorIndex := 16, attributes := #[] }])
  fields := #[{ name := "database", type := (.object "java/lang/String"), accessFlags := 18, slot := 0, constantValue := 0 }, { name := "number", type := .int, accessFlags := 18, slot := 1, constantValue := 0 }]
  methods := #[k9m0, k9m1]
  instanceTypes := #[(.object "java/lang/String"), .int]
  staticTypes := #[]
  resolved := Array.replicate 88 none
  statics := none }

def pool10 : Array CpInfo := pool [(1, .class_ 2), (0, u "java/lang/Appendable"), (0, .class_ 4), (0, u "java/lang/Object")] 9

/-- java/lang/Appendable -/
def k10 : Class := { plain "java/lang/Appendable" (some 0) with
  accessFlags := 1537
  interfaces := #[]
  cf := some (fileOf pool10 1 #[] #[] 1537 3 #[] #[])
  fields := #[]
  methods := #[]
  instanceTypes := #[]
  staticTypes := #[]
  resolved := Array.replicate 14 none
  statics := none }

def pool11 : Array CpInfo := pool [(1, .class_ 2), (0, u "java/lang/String"), (0, .methodref 4 5), (0, .class_ 6), (0, .nameAndType 7 8), (0, u "java/lang/Object"), (0, u "<init>"), (0, u "()V"), (1, .class_ 12), (1, u "java/lang/AbstractStringBuilder"), (0, u "EMPTYVALUE"), (0, u "[B"), (0, .fieldref 10 16), (0, .nameAndType 17 14), (0, u "value"), (0, .fieldref 1 19), (0, .nameAndType 20 21), (0, u "COMPACT_STRINGS"), (0, u "Z"), (0, .fieldref 10 23), (0, .nameAndType 24 25), (0, u "coder"), (0, u "B"), (6, .methodref 1 33), (0, .nameAndType 34 35), (0, u "length"), (0, u "()I"), (0, .class_ 37), (0, u "java/lang/Integer"), (2, .methodref 1 41), (0, .nameAndType 24 42), (0, u "()B"), (2, u "append"), (0, u "(Ljava/lang/String;)Ljava/lang/AbstractStringBuilder;"), (1, .class_ 49), (0, u "java/lang/CharSequence"), (19, u "(Ljava/lang/String;)V"), (5, u "maybeLatin1"), (3, .fieldref 10 80), (0, .nameAndType 81 82), (0, u "count"), (0, u "I"), (0, .methodref 10 84), (0, .nameAndType 85 86), (0, u "isLatin1"), (0, u "()Z"), (13, .methodref 10 101), (0, .nameAndType 102 103), (0, u "ensureCapacityInternal"), (0, u "(I)V"), (3, u "(I)I"), (80, u "getChars"), (19, .methodref 10 209), (0, .nameAndType 210 211), (0, u "putStringAt"), (0, u "(ILjava/lang/String;)V"), (5, u "inflateIfNeededFor"), (2, .nameAndType 221 222), (0, u "getBytes"), (0, u "([BIB)V"), (22, .methodref 36 246), (0, .nameAndType 247 107), (0, u "stringSize"), (0, .methodref 36 249), (0, .nameAndType 188 250), (0, u "(II[B)I"), (146, .methodref 10 398), (0, .nameAndType 217 69), (0, .methodref 1 220), (3, u "()[B"), (40, .class_ 445), (0, u "java/lang/Appendable"), (65, u "(I)Ljava/lang/AbstractStringBuilder;"), (40, u "getValue")] 56

def k11m0 : Method := { name := "<init>", desc := "()V", sig := { parameters := [], returnType := none }, accessFlags := 0, code := none }
def k11c1 : Code := { maxStack := 2, maxLocals := 2, code := jdk_68_method_2_code, exceptionTable := #[], attributes := #[] }
def k11m1 : Method := { name := "<init>", desc := "(I)V", sig := { parameters := [.int], returnType := none }, accessFlags := 0, code := some k11c1 }
def k11c2 : Code := { maxStack := 1, maxLocals := 1, code := jdk_68_method_6_code, exceptionTable := #[], attributes := #[] }
def k11m2 : Method := { name := "length", desc := "()I", sig := { parameters := [], returnType := some .int }, accessFlags := 1, code := some k11c2 }
def k11c3 : Code := { maxStack := 4, maxLocals := 3, code := jdk_68_method_9_code, exceptionTable := #[], attributes := #[] }
def k11m3 : Method := { name := "ensureCapacityInternal", desc := "(I)V", sig := { parameters := [.int], returnType := none }, accessFlags := 2, code := some k11c3 }
def k11c4 : Code := { maxStack := 3, maxLocals := 3, code := jdk_68_method_22_code, exceptionTable := #[], attributes := #[] }
def k11m4 : Method := { name := "append", desc := "(Ljava/lang/String;)Ljava/lang/AbstractStringBuilder;", sig := { parameters := [(.object "java/lang/String")], returnType := some (.object "java/lang/AbstractStringBuilder") }, accessFlags := 1, code := some k11c4 }
def k11c5 : Code := { maxStack := 4, maxLocals := 4, code := jdk_68_method_32_code, exceptionTable := #[], attributes := #[] }
def k11m5 : Method := { name := "append", desc := "(I)Ljava/lang/AbstractStringBuilder;", sig := { parameters := [.int], returnType := some (.object "java/lang/AbstractStringBuilder") }, accessFlags := 1, code := some k11c5 }
def k11c6 : Code := { maxStack := 1, maxLocals := 1, code := jdk_68_method_64_code, exceptionTable := #[], attributes := #[] }
def k11m6 : Method := { name := "getValue", desc := "()[B", sig := { parameters := [], returnType := some (.array .byte) }, accessFlags := 16, code := some k11c6 }
def k11c7 : Code := { maxStack := 1, maxLocals := 1, code := jdk_68_method_68_code, exceptionTable := #[], attributes := #[] }
def k11m7 : Method := { name := "isLatin1", desc := "()Z", sig := { parameters := [], returnType := some .boolean }, accessFlags := 16, code := some k11c7 }
def k11c8 : Code := { maxStack := 2, maxLocals := 2, code := jdk_68_method_71_code, exceptionTable := #[], attributes := #[] }
def k11m8 : Method := { name := "inflateIfNeededFor", desc := "(Ljava/lang/String;)V", sig := { parameters := [(.object "java/lang/String")], returnType := none }, accessFlags := 2, code := some k11c8 }
def k11c9 : Code := { maxStack := 4, maxLocals := 3, code := jdk_68_method_73_code, exceptionTable := #[], attributes := #[] }
def k11m9 : Method := { name := "putStringAt", desc := "(ILjava/lang/String;)V", sig := { parameters := [.int, (.object "java/lang/String")], returnType := none }, accessFlags := 2, code := some k11c9 }
/-- java/lang/AbstractStringBuilder -/
def k11 : Class := { plain "java/lang/AbstractStringBuilder" (some 0) with
  accessFlags := 1056
  interfaces := #[10, 4]
  cf := some (fileOf pool11 10 #[] #[{ accessFlags := 0, nameIndex := 7, descriptorIndex := 8, attributes := #[] }, { accessFlags := 0, nameIndex := 7, descriptorIndex := 103, attributes := #[] }, { accessFlags := 1, nameIndex := 34, descriptorIndex := 35, attributes := #[] }, { accessFlags := 2, nameIndex := 102, descriptorIndex := 103, attributes := #[] }, { accessFlags := 1, nameIndex := 45, descriptorIndex := 46, attributes := #[] }, { accessFlags := 1, nameIndex := 45, descriptorIndex := 511, attributes := #[] }, { accessFlags := 16, nameIndex := 552, descriptorIndex := 403, attributes := #[] }, { accessFlags := 16, nameIndex := 85, descriptorIndex := 86, attributes := #[] }, { accessFlags := 2, nameIndex := 217, descriptorIndex := 69, attributes := #[] }, { accessFlags := 2, nameIndex := 210, descriptorIndex := 211, attributes := #[] }] 1056 4 #[444, 48] #[{ accessFlags := 0, nameIndex := 17, descriptorIndex := 14, attributes := #[] }, { accessFlags := 0, nameIndex := 24, descriptorIndex := 25, attributes := #[] }, { accessFlags := 0, nameIndex := 75, descriptorIndex := 21, attributes := #[] }, { accessFlags := 0, nameIndex := 81, descriptorIndex := 82, attributes := #[] }, { accessFlags := 26, nameIndex := 13, descriptorIndex := 14, attributes := #[] }])
  fields := #[{ name := "value", type := (.array .byte), accessFlags := 0, slot := 0, constantValue := 0 }, { name := "coder", type := .byte, accessFlags := 0, slot := 1, constantValue := 0 }, { name := "maybeLatin1", type := .boolean, accessFlags := 0, slot := 2, constantValue := 0 }, { name := "count", type := .int, accessFlags := 0, slot := 3, constantValue := 0 }, { name := "EMPTYVALUE", type := (.array .byte), accessFlags := 26, slot := 0, constantValue := 0 }]
  methods := #[k11m0, k11m1, k11m2, k11m3, k11m4, k11m5, k11m6, k11m7, k11m8, k11m9]
  instanceTypes := #[(.array .byte), .byte, .boolean, .int]
  staticTypes := #[(.array .byte)]
  resolved := Array.replicate 609 none
  statics := none }

def pool12 : Array CpInfo := pool [(1, .methodref 2 3), (0, .class_ 4), (0, .nameAndType 5 6), (0, u "java/lang/AbstractStringBuilder"), (0, u "<init>"), (0, u "(I)V"), (11, .class_ 20), (1, u "java/lang/String"), (3, .class_ 26), (1, u "java/lang/StringBuilder"), (0, u "append"), (0, u "(Ljava/lang/String;)Ljava/lang/StringBuilder;"), (0, .methodref 2 30), (0, .nameAndType 27 31), (0, u "(Ljava/lang/String;)Ljava/lang/AbstractStringBuilder;"), (21, .methodref 2 54), (0, .nameAndType 27 55), (0, u "(I)Ljava/lang/AbstractStringBuilder;"), (81, .methodref 18 138), (0, .nameAndType 5 139), (0, u "(Ljava/lang/StringBuilder;)V"), (5, u "()V"), (10, u "()I"), (111, u "(I)Ljava/lang/StringBuilder;"), (74, .methodref 2 344), (0, .nameAndType 345 156), (0, u "length"), (3, .class_ 350), (0, u "java/lang/Appendable"), (0, .class_ 352), (0, u "java/io/Serializable"), (0, .class_ 354), (0, u "java/lang/Comparable"), (0, .class_ 356), (0, u "java/lang/CharSequence"), (0, u "serialVersionUID"), (0, u "J"), (40, u "toString"), (0, u "()Ljava/lang/String;")] 21

def k12c0 : Code := { maxStack := 2, maxLocals := 1, code := jdk_67_method_1_code, exceptionTable := #[], attributes := #[] }
def k12m0 : Method := { name := "<init>", desc := "()V", sig := { parameters := [], returnType := none }, accessFlags := 1, code := some k12c0 }
def k12c1 : Code := { maxStack := 2, maxLocals := 2, code := jdk_67_method_7_code, exceptionTable := #[], attributes := #[] }
def k12m1 : Method := { name := "append", desc := "(Ljava/lang/String;)Ljava/lang/StringBuilder;", sig := { parameters := [(.object "java/lang/String")], returnType := some (.object "java/lang/StringBuilder") }, accessFlags := 1, code := some k12c1 }
def k12c2 : Code := { maxStack := 2, maxLocals := 2, code := jdk_67_method_15_code, exceptionTable := #[], attributes := #[] }
def k12m2 : Method := { name := "append", desc := "(I)Ljava/lang/StringBuilder;", sig := { parameters := [.int], returnType := some (.object "java/lang/StringBuilder") }, accessFlags := 1, code := some k12c2 }
def k12c3 : Code := { maxStack := 3, maxLocals := 1, code := jdk_67_method_42_code, exceptionTable := #[], attributes := #[] }
def k12m3 : Method := { name := "toString", desc := "()Ljava/lang/String;", sig := { parameters := [], returnType := some (.object "java/lang/String") }, accessFlags := 1, code := some k12c3 }
def k12c4 : Code := { maxStack := 1, maxLocals := 1, code := jdk_67_method_93_code, exceptionTable := #[], attributes := #[] }
def k12m4 : Method := { name := "length", desc := "()I", sig := { parameters := [], returnType := some .int }, accessFlags := 4161, code := some k12c4 }
/-- java/lang/StringBuilder -/
def k12 : Class := { plain "java/lang/StringBuilder" (some 11) with
  accessFlags := 49
  interfaces := #[10, 2, 3, 4]
  cf := some (fileOf pool12 24 #[] #[{ accessFlags := 1, nameIndex := 5, descriptorIndex := 145, attributes := #[] }, { accessFlags := 1, nameIndex := 27, descriptorIndex := 28, attributes := #[] }, { accessFlags := 1, nameIndex := 27, descriptorIndex := 268, attributes := #[] }, { accessFlags := 1, nameIndex := 399, descriptorIndex := 400, attributes := #[] }, { accessFlags := 4161, nameIndex := 345, descriptorIndex := 156, attributes := #[] }] 49 2 #[349, 351, 353, 355] #[{ accessFlags := 24, nameIndex := 357, descriptorIndex := 358, attributes := #[] }])
  fields := #[{ name := "serialVersionUID", type := .long, accessFlags := 24, slot := 0, constantValue := 0 }]
  methods := #[k12m0, k12m1, k12m2, k12m3, k12m4]
  instanceTypes := #[(.array .byte), .byte, .boolean, .int]
  staticTypes := #[.long]
  resolved := Array.replicate 422 none
  statics := none }

def pool13 : Array CpInfo := pool [(2, .class_ 4), (1, u "java/lang/Object"), (0, u "<init>"), (0, u "()V"), (1, .class_ 10), (1, u "java/lang/System"), (0, u "allowSecurityManager"), (0, u "I"), (16, u "cons"), (0, u "Ljava/io/Console;"), (77, .class_ 110), (1, u "java/lang/System$CallersHolder"), (43, u "initialErrStream"), (0, u "Ljava/io/PrintStream;"), (19, u "security"), (0, u "Ljava/lang/SecurityManager;"), (31, .class_ 209), (0, u "java/lang/System$1"), (7, u "props"), (0, u "Ljava/util/Properties;"), (2, u "lineSeparator"), (0, u "Ljava/lang/String;"), (96, .class_ 321), (1, u "java/lang/System$LoggerFinder"), (5, .class_ 328), (0, u "java/lang/System$Logger"), (67, u "err"), (2, u "out"), (91, u "notSupportedJnuEncoding"), (15, u "in"), (17, u "initialIn"), (0, u "Ljava/io/InputStream;"), (35, u "bootLayer"), (0, u "Ljava/lang/ModuleLayer;"), (99, .class_ 664), (0, u "java/lang/System$2"), (9, u "NEVER"), (2, u "MAYBE"), (49, u "arraycopy"), (0, u "(Ljava/lang/Object;ILjava/lang/Object;II)V"), (72, .class_ 802), (0, u "java/lang/System$Logger$Level")] 31

def k13m0 : Method := { name := "<init>", desc := "()V", sig := { parameters := [], returnType := none }, accessFlags := 2, code := none }
def k13m1 : Method := { name := "arraycopy", desc := "(Ljava/lang/Object;ILjava/lang/Object;II)V", sig := { parameters := [(.object "java/lang/Object"), .int, (.object "java/lang/Object"), .int, .int], returnType := none }, accessFlags := 265, code := none }
/-- java/lang/System -/
def k13 : Class := { plain "java/lang/System" (some 0) with
  accessFlags := 49
  interfaces := #[]
  cf := some (fileOf pool13 8 #[.nestMembers #[319, 327, 801, 108, 663, 208]] #[{ accessFlags := 2, nameIndex := 5, descriptorIndex := 6, attributes := #[] }, { accessFlags := 265, nameIndex := 727, descriptorIndex := 728, attributes := #[] }] 49 2 #[] #[{ accessFlags := 25, nameIndex := 507, descriptorIndex := 526, attributes := #[] }, { accessFlags := 25, nameIndex := 399, descriptorIndex := 155, attributes := #[] }, { accessFlags := 25, nameIndex := 396, descriptorIndex := 155, attributes := #[] }, { accessFlags := 10, nameIndex := 525, descriptorIndex := 526, attributes := #[] }, { accessFlags := 26, nameIndex := 674, descriptorIndex := 12, attributes := #[] }, { accessFlags := 26, nameIndex := 677, descriptorIndex := 12, attributes := #[] }, { accessFlags := 10, nameIndex := 11, descriptorIndex := 12, attributes := #[] }, { accessFlags := 74, nameIndex := 175, descriptorIndex := 176, attributes := #[] }, { accessFlags := 10, nameIndex := 491, descriptorIndex := 222, attributes := #[] }, { accessFlags := 74, nameIndex := 29, descriptorIndex := 30, attributes := #[] }, { accessFlags := 74, nameIndex := 154, descriptorIndex := 155, attributes := #[] }, { accessFlags := 10, nameIndex := 217, descriptorIndex := 218, attributes := #[] }, { accessFlags := 10, nameIndex := 221, descriptorIndex := 222, attributes := #[] }, { accessFlags := 8, nameIndex := 562, descriptorIndex := 563, attributes := #[] }])
  fields := #[{ name := "in", type := (.object "java/io/InputStream"), accessFlags := 25, slot := 0, constantValue := 0 }, { name := "out", type := (.object "java/io/PrintStream"), accessFlags := 25, slot := 1, constantValue := 0 }, { name := "err", type := (.object "java/io/PrintStream"), accessFlags := 25, slot := 2, constantValue := 0 }, { name := "initialIn", type := (.object "java/io/InputStream"), accessFlags := 10, slot := 3, constantValue := 0 }, { name := "NEVER", type := .int, accessFlags := 26, slot := 4, constantValue := 0 }, { name := "MAYBE", type := .int, accessFlags := 26, slot := 5, constantValue := 0 }, { name := "allowSecurityManager", type := .int, accessFlags := 10, slot := 6, constantValue := 0 }, { name := "security", type := (.object "java/lang/SecurityManager"), accessFlags := 74, slot := 7, constantValue := 0 }, { name := "notSupportedJnuEncoding", type := (.object "java/lang/String"), accessFlags := 10, slot := 8, constantValue := 0 }, { name := "cons", type := (.object "java/io/Console"), accessFlags := 74, slot := 9, constantValue := 0 }, { name := "initialErrStream", type := (.object "java/io/PrintStream"), accessFlags := 74, slot := 10, constantValue := 0 }, { name := "props", type := (.object "java/util/Properties"), accessFlags := 10, slot := 11, constantValue := 0 }, { name := "lineSeparator", type := (.object "java/lang/String"), accessFlags := 10, slot := 12, constantValue := 0 }, { name := "bootLayer", type := (.object "java/lang/ModuleLayer"), accessFlags := 8, slot := 13, constantValue := 0 }]
  methods := #[k13m0, k13m1]
  instanceTypes := #[]
  staticTypes := #[(.object "java/io/InputStream"), (.object "java/io/PrintStream"), (.object "java/io/PrintStream"), (.object "java/io/InputStream"), .int, .int, .int, (.object "java/lang/SecurityManager"), (.object "java/lang/String"), (.object "java/io/Console"), (.object "java/io/PrintStream"), (.object "java/util/Properties"), (.object "java/lang/String"), (.object "java/lang/ModuleLayer")]
  resolved := Array.replicate 834 none
  statics := none }

def pool14 : Array CpInfo := pool [(2, .class_ 4), (1, u "java/lang/Object"), (0, u "<init>"), (0, u "()V"), (1, .class_ 10), (1, u "java/lang/Number"), (2, .class_ 14), (0, u "java/io/Serializable"), (0, u "serialVersionUID"), (0, u "J")] 20

def k14m0 : Method := { name := "<init>", desc := "()V", sig := { parameters := [], returnType := none }, accessFlags := 1, code := none }
/-- java/lang/Number -/
def k14 : Class := { plain "java/lang/Number" (some 0) with
  accessFlags := 1057
  interfaces := #[2]
  cf := some (fileOf pool14 8 #[] #[{ accessFlags := 1, nameIndex := 5, descriptorIndex := 6, attributes := #[] }] 1057 2 #[13] #[{ accessFlags := 26, nameIndex := 15, descriptorIndex := 16, attributes := #[] }])
  fields := #[{ name := "serialVersionUID", type := .long, accessFlags := 26, slot := 0, constantValue := 0 }]
  methods := #[k14m0]
  instanceTypes := #[]
  staticTypes := #[.long]
  resolved := Array.replicate 37 none
  statics := none }

def pool15 : Array CpInfo := pool [(1, .class_ 2), (0, u "java/lang/Integer"), (16, u "digits"), (0, u "[C"), (33, u "(I)I"), (19, u "stringSize"), (2, u "getChars"), (0, u "(II[B)I"), (4, .fieldref 1 84), (0, .nameAndType 85 86), (0, u "DigitOnes"), (0, u "[B"), (0, .fieldref 1 88), (0, .nameAndType 89 86), (0, u "DigitTens"), (99, .class_ 190), (0, u "java/lang/Integer$IntegerCache"), (3, u "I"), (8, .class_ 204), (0, u "java/lang/Number"), (2, u "value"), (94, u "TYPE"), (0, u "Ljava/lang/Class;"), (0, .class_ 305), (0, u "java/lang/Comparable"), (0, .class_ 307), (0, u "java/lang/constant/Constable"), (0, .class_ 309), (0, u "java/lang/constant/ConstantDesc"), (0, u "MIN_VALUE"), (1, u "MAX_VALUE"), (3, u "SIZE"), (1, u "BYTES"), (1, u "serialVersionUID"), (0, u "J")] 131

def k15c0 : Code := { maxStack := 4, maxLocals := 7, code := jdk_33_method_12_code, exceptionTable := #[], attributes := #[] }
def k15m0 : Method := { name := "getChars", desc := "(II[B)I", sig := { parameters := [.int, .int, (.array .byte)], returnType := some .int }, accessFlags := 8, code := some k15c0 }
def k15c1 : Code := { maxStack := 2, maxLocals := 4, code := jdk_33_method_13_code, exceptionTable := #[], attributes := #[] }
def k15m1 : Method := { name := "stringSize", desc := "(I)I", sig := { parameters := [.int], returnType := some .int }, accessFlags := 8, code := some k15c1 }
/-- java/lang/Integer -/
def k15 : Class := { plain "java/lang/Integer" (some 14) with
  accessFlags := 49
  interfaces := #[3, 5, 6]
  cf := some (fileOf pool15 1 #[.nestMembers #[189]] #[{ accessFlags := 8, nameIndex := 77, descriptorIndex := 78, attributes := #[] }, { accessFlags := 8, nameIndex := 74, descriptorIndex := 54, attributes := #[] }] 49 203 #[304, 306, 308] #[{ accessFlags := 25, nameIndex := 310, descriptorIndex := 194, attributes := #[] }, { accessFlags := 25, nameIndex := 312, descriptorIndex := 194, attributes := #[] }, { accessFlags := 25, nameIndex := 302, descriptorIndex := 303, attributes := #[] }, { accessFlags := 24, nameIndex := 19, descriptorIndex := 20, attributes := #[] }, { accessFlags := 24, nameIndex := 89, descriptorIndex := 86, attributes := #[] }, { accessFlags := 24, nameIndex := 85, descriptorIndex := 86, attributes := #[] }, { accessFlags := 18, nameIndex := 207, descriptorIndex := 194, attributes := #[] }, { accessFlags := 25, nameIndex := 316, descriptorIndex := 194, attributes := #[] }, { accessFlags := 25, nameIndex := 318, descriptorIndex := 194, attributes := #[] }, { accessFlags := 26, nameIndex := 320, descriptorIndex := 321, attributes := #[] }])
  fields := #[{ name := "MIN_VALUE", type := .int, accessFlags := 25, slot := 0, constantValue := 0 }, { name := "MAX_VALUE", type := .int, accessFlags := 25, slot := 1, constantValue := 0 }, { name := "TYPE", type := (.object "java/lang/Class"), accessFlags := 25, slot := 2, constantValue := 0 }, { name := "digits", type := (.array .char), accessFlags := 24, slot := 3, constantValue := 0 }, { name := "DigitTens", type := (.array .byte), accessFlags := 24, slot := 4, constantValue := 0 }, { name := "DigitOnes", type := (.array .byte), accessFlags := 24, slot := 5, constantValue := 0 }, { name := "value", type := .int, accessFlags := 18, slot := 0, constantValue := 0 }, { name := "SIZE", type := .int, accessFlags := 25, slot := 6, constantValue := 0 }, { name := "BYTES", type := .int, accessFlags := 25, slot := 7, constantValue := 0 }, { name := "serialVersionUID", type := .long, accessFlags := 26, slot := 8, constantValue := 0 }]
  methods := #[k15m0, k15m1]
  instanceTypes := #[.int]
  staticTypes := #[.int, .int, (.object "java/lang/Class"), (.array .char), (.array .byte), (.array .byte), .int, .int, .long]
  resolved := Array.replicate 453 none
  statics := some 1 }

def pool16 : Array CpInfo := pool [(2, .class_ 4), (1, u "java/lang/Object"), (0, u "<init>"), (0, u "()V"), (7, .class_ 16), (1, u "java/util/Arrays"), (57, .class_ 76), (1, u "java/util/Arrays$NaturalOrder"), (36, .class_ 115), (1, u "java/util/Arrays$LegacyMergeSort"), (1, u "Z"), (21, u "copyOfRange"), (10, .methodref 151 152), (0, .class_ 153), (0, .nameAndType 154 155), (0, u "java/lang/System"), (0, u "arraycopy"), (0, u "(Ljava/lang/Object;ILjava/lang/Object;II)V"), (148, .methodref 305 306), (0, .class_ 307), (0, .nameAndType 308 309), (0, u "java/lang/Math"), (0, u "min"), (0, u "(II)I"), (29, .methodref 14 340), (0, .nameAndType 341 342), (0, u "copyOfRangeByte"), (0, u "([BII)[B"), (0, .methodref 14 344), (0, .nameAndType 345 346), (0, u "checkLength"), (0, u "(II)V"), (28, .class_ 376), (0, u "java/util/Arrays$ArrayList"), (68, u "$assertionsDisabled"), (269, u "MIN_ARRAY_SORT_GRAN"), (0, u "I"), (2, u "INSERTIONSORT_THRESHOLD"), (255, .class_ 976), (0, u "java/util/Arrays$ArrayItr")] 52

def k16m0 : Method := { name := "<init>", desc := "()V", sig := { parameters := [], returnType := none }, accessFlags := 2, code := none }
def k16c1 : Code := { maxStack := 4, maxLocals := 2, code := jdk_65_method_131_code, exceptionTable := #[], attributes := #[] }
def k16m1 : Method := { name := "checkLength", desc := "(II)V", sig := { parameters := [.int, .int], returnType := none }, accessFlags := 10, code := some k16c1 }
def k16c2 : Code := { maxStack := 3, maxLocals := 3, code := jdk_65_method_132_code, exceptionTable := #[], attributes := #[] }
def k16m2 : Method := { name := "copyOfRange", desc := "([BII)[B", sig := { parameters := [(.array .byte), .int, .int], returnType := some (.array .byte) }, accessFlags := 9, code := some k16c2 }
def k16c3 : Code := { maxStack := 6, maxLocals := 5, code := jdk_65_method_133_code, exceptionTable := #[], attributes := #[] }
def k16m3 : Method := { name := "copyOfRangeByte", desc := "([BII)[B", sig := { parameters := [(.array .byte), .int, .int], returnType := some (.array .byte) }, accessFlags := 10, code := some k16c3 }
/-- java/util/Arrays -/
def k16 : Class := { plain "java/util/Arrays" (some 0) with
  accessFlags := 49
  interfaces := #[]
  cf := some (fileOf pool16 14 #[.nestMembers #[975, 375, 113, 74]] #[{ accessFlags := 2, nameIndex := 5, descriptorIndex := 6, attributes := #[] }, { accessFlags := 10, nameIndex := 345, descriptorIndex := 346, attributes := #[] }, { accessFlags := 9, nameIndex := 139, descriptorIndex := 342, attributes := #[] }, { accessFlags := 10, nameIndex := 341, descriptorIndex := 342, attributes := #[] }] 49 2 #[] #[{ accessFlags := 26, nameIndex := 715, descriptorIndex := 716, attributes := #[] }, { accessFlags := 26, nameIndex := 719, descriptorIndex := 716, attributes := #[] }, { accessFlags := 4120, nameIndex := 445, descriptorIndex := 117, attributes := #[] }])
  fields := #[{ name := "MIN_ARRAY_SORT_GRAN", type := .int, accessFlags := 26, slot := 0, constantValue := 0 }, { name := "INSERTIONSORT_THRESHOLD", type := .int, accessFlags := 26, slot := 1, constantValue := 0 }, { name := "$assertionsDisabled", type := .boolean, accessFlags := 4120, slot := 2, constantValue := 0 }]
  methods := #[k16m0, k16m1, k16m2, k16m3]
  instanceTypes := #[]
  staticTypes := #[.int, .int, .boolean]
  resolved := Array.replicate 1029 none
  statics := none }

def pool17 : Array CpInfo := pool [(1, .class_ 2), (0, u "java/lang/Math"), (1, .class_ 6), (1, u "java/lang/Object"), (0, u "<init>"), (0, u "()V"), (89, .class_ 100), (1, u "java/lang/Math$RandomNumberGeneratorHolder"), (71, u "negativeZeroFloatBits"), (0, u "J"), (2, u "negativeZeroDoubleBits"), (24, u "min"), (43, u "$assertionsDisabled"), (0, u "Z"), (88, u "(II)I"), (2, u "twoToTheDoubleScaleDown"), (0, u "D"), (4, u "twoToTheDoubleScaleUp"), (9, u "E"), (3, u "PI"), (2, u "TAU"), (2, u "DEGREES_TO_RADIANS"), (0, u "RADIANS_TO_DEGREES")] 94

def k17m0 : Method := { name := "<init>", desc := "()V", sig := { parameters := [], returnType := none }, accessFlags := 2, code := none }
def k17c1 : Code := { maxStack := 2, maxLocals := 2, code := jdk_29_method_69_code, exceptionTable := #[], attributes := #[] }
def k17m1 : Method := { name := "min", desc := "(II)I", sig := { parameters := [.int, .int], returnType := some .int }, accessFlags := 9, code := some k17c1 }
/-- java/lang/Math -/
def k17 : Class := { plain "java/lang/Math" (some 0) with
  accessFlags := 49
  interfaces := #[]
  cf := some (fileOf pool17 1 #[.nestMembers #[98]] #[{ accessFlags := 2, nameIndex := 7, descriptorIndex := 8, attributes := #[] }, { accessFlags := 9, nameIndex := 201, descriptorIndex := 335, attributes := #[] }] 49 4 #[] #[{ accessFlags := 25, nameIndex := 354, descriptorIndex := 339, attributes := #[] }, { accessFlags := 25, nameIndex := 358, descriptorIndex := 339, attributes := #[] }, { accessFlags := 25, nameIndex := 361, descriptorIndex := 339, attributes := #[] }, { accessFlags := 26, nameIndex := 364, descriptorIndex := 339, attributes := #[] }, { accessFlags := 26, nameIndex := 365, descriptorIndex := 339, attributes := #[] }, { accessFlags := 26, nameIndex := 172, descriptorIndex := 173, attributes := #[] }, { accessFlags := 26, nameIndex := 176, descriptorIndex := 173, attributes := #[] }, { accessFlags := 8, nameIndex := 344, descriptorIndex := 339, attributes := #[] }, { accessFlags := 8, nameIndex := 338, descriptorIndex := 339, attributes := #[] }, { accessFlags := 4120, nameIndex := 245, descriptorIndex := 246, attributes := #[] }])
  fields := #[{ name := "E", type := .double, accessFlags := 25, slot := 0, constantValue := 0 }, { name := "PI", type := .double, accessFlags := 25, slot := 1, constantValue := 0 }, { name := "TAU", type := .double, accessFlags := 25, slot := 2, constantValue := 0 }, { name := "DEGREES_TO_RADIANS", type := .double, accessFlags := 26, slot := 3, constantValue := 0 }, { name := "RADIANS_TO_DEGREES", type := .double, accessFlags := 26, slot := 4, constantValue := 0 }, { name := "negativeZeroFloatBits", type := .long, accessFlags := 26, slot := 5, constantValue := 0 }, { name := "negativeZeroDoubleBits", type := .long, accessFlags := 26, slot := 6, constantValue := 0 }, { name := "twoToTheDoubleScaleUp", type := .double, accessFlags := 8, slot := 7, constantValue := 0 }, { name := "twoToTheDoubleScaleDown", type := .double, accessFlags := 8, slot := 8, constantValue := 0 }, { name := "$assertionsDisabled", type := .boolean, accessFlags := 4120, slot := 9, constantValue := 0 }]
  methods := #[k17m0, k17m1]
  instanceTypes := #[]
  staticTypes := #[.double, .double, .double, .double, .double, .long, .long, .double, .double, .boolean]
  resolved := Array.replicate 460 none
  statics := none }

def pool18 : Array CpInfo := pool [(1, .class_ 2), (0, u "java/lang/String"), (1, .class_ 6), (1, u "java/lang/Object"), (0, u "<init>"), (0, u "()V"), (0, .methodref 1 10), (0, .nameAndType 11 12), (0, u "checkIndex"), (0, u "(II)V"), (1, .class_ 16), (1, u "java/lang/StringLatin1"), (36, u "([BI)C"), (67, u "$assertionsDisabled"), (0, u "Z"), (98, .class_ 223), (1, u "java/lang/StringLatin1$LinesSpliterator"), (28, u "charAt"), (137, .class_ 391), (0, u "java/lang/StringLatin1$CharsSpliterator")] 3

def k18m0 : Method := { name := "<init>", desc := "()V", sig := { parameters := [], returnType := none }, accessFlags := 0, code := none }
def k18c1 : Code := { maxStack := 2, maxLocals := 2, code := jdk_43_method_2_code, exceptionTable := #[], attributes := #[] }
def k18m1 : Method := { name := "charAt", desc := "([BI)C", sig := { parameters := [(.array .byte), .int], returnType := some .char }, accessFlags := 9, code := some k18c1 }
/-- java/lang/StringLatin1 -/
def k18 : Class := { plain "java/lang/StringLatin1" (some 0) with
  accessFlags := 48
  interfaces := #[]
  cf := some (fileOf pool18 14 #[.nestMembers #[390, 221]] #[{ accessFlags := 0, nameIndex := 7, descriptorIndex := 8, attributes := #[] }, { accessFlags := 9, nameIndex := 252, descriptorIndex := 53, attributes := #[] }] 48 4 #[] #[{ accessFlags := 4120, nameIndex := 121, descriptorIndex := 122, attributes := #[] }])
  fields := #[{ name := "$assertionsDisabled", type := .boolean, accessFlags := 4120, slot := 0, constantValue := 0 }]
  methods := #[k18m0, k18m1]
  instanceTypes := #[]
  staticTypes := #[.boolean]
  resolved := Array.replicate 395 none
  statics := none }

def pool19 : Array CpInfo := pool [(2, .class_ 4), (1, u "java/lang/Object"), (0, u "<init>"), (0, u "()V"), (17, .class_ 26), (1, u "jdk/internal/util/Preconditions"), (6, u "checkIndex"), (21, .class_ 56), (0, u "jdk/internal/util/Preconditions$4"), (57, .class_ 115), (0, u "jdk/internal/util/Preconditions$1"), (7, u "SIOOBE_FORMATTER"), (0, u "Ljava/util/function/BiFunction;"), (0, .class_ 126), (0, u "jdk/internal/util/Preconditions$2"), (3, u "AIOOBE_FORMATTER"), (0, .class_ 132), (0, u "jdk/internal/util/Preconditions$3"), (3, u "IOOBE_FORMATTER"), (41, u "(IILjava/util/function/BiFunction;)I")] 15

def k19m0 : Method := { name := "<init>", desc := "()V", sig := { parameters := [], returnType := none }, accessFlags := 1, code := none }
def k19c1 : Code := { maxStack := 3, maxLocals := 3, code := jdk_41_method_11_code, exceptionTable := #[], attributes := #[] }
def k19m1 : Method := { name := "checkIndex", desc := "(IILjava/util/function/BiFunction;)I", sig := { parameters := [.int, .int, (.object "java/util/function/BiFunction")], returnType := some .int }, accessFlags := 9, code := some k19c1 }
/-- jdk/internal/util/Preconditions -/
def k19 : Class := { plain "jdk/internal/util/Preconditions" (some 0) with
  accessFlags := 33
  interfaces := #[]
  cf := some (fileOf pool19 24 #[.nestMembers #[55, 131, 125, 114]] #[{ accessFlags := 1, nameIndex := 5, descriptorIndex := 6, attributes := #[] }, { accessFlags := 9, nameIndex := 33, descriptorIndex := 178, attributes := #[] }] 33 2 #[] #[{ accessFlags := 25, nameIndex := 123, descriptorIndex := 124, attributes := #[] }, { accessFlags := 25, nameIndex := 130, descriptorIndex := 124, attributes := #[] }, { accessFlags := 25, nameIndex := 136, descriptorIndex := 124, attributes := #[] }])
  fields := #[{ name := "SIOOBE_FORMATTER", type := (.object "java/util/function/BiFunction"), accessFlags := 25, slot := 0, constantValue := 0 }, { name := "AIOOBE_FORMATTER", type := (.object "java/util/function/BiFunction"), accessFlags := 25, slot := 1, constantValue := 0 }, { name := "IOOBE_FORMATTER", type := (.object "java/util/function/BiFunction"), accessFlags := 25, slot := 2, constantValue := 0 }]
  methods := #[k19m0, k19m1]
  instanceTypes := #[]
  staticTypes := #[(.object "java/util/function/BiFunction"), (.object "java/util/function/BiFunction"), (.object "java/util/function/BiFunction")]
  resolved := Array.replicate 194 none
  statics := some 2 }

def pool20 : Array CpInfo := pool [(6, .class_ 8), (1, u "java/lang/Object"), (0, u "<init>"), (0, u "()V"), (1, .class_ 14), (1, u "java/lang/StringUTF16"), (31, u "$assertionsDisabled"), (0, u "Z"), (13, u "HI_BYTE_SHIFT"), (0, u "I"), (2, u "LO_BYTE_SHIFT"), (49, .methodref 12 116), (0, .nameAndType 117 118), (0, u "compress"), (0, u "([CI[BII)I"), (3, u "([CII)[B"), (138, u "coderFromArrayLen"), (0, u "([BI)B"), (106, .class_ 371), (1, u "java/lang/StringUTF16$LinesSpliterator"), (58, u "MAX_LENGTH"), (196, .class_ 628), (0, u "java/lang/StringUTF16$CodePointsSpliterator"), (0, .class_ 630), (0, u "java/lang/StringUTF16$CharsSpliterator")] 4

def k20m0 : Method := { name := "<init>", desc := "()V", sig := { parameters := [], returnType := none }, accessFlags := 0, code := none }
def k20c1 : Code := { maxStack := 2, maxLocals := 2, code := jdk_52_method_15_code, exceptionTable := #[], attributes := #[] }
def k20m1 : Method := { name := "coderFromArrayLen", desc := "([BI)B", sig := { parameters := [(.array .byte), .int], returnType := some .byte }, accessFlags := 8, code := some k20c1 }
def k20c2 : Code := { maxStack := 5, maxLocals := 6, code := jdk_52_method_16_code, exceptionTable := #[], attributes := #[] }
def k20m2 : Method := { name := "compress", desc := "([CII)[B", sig := { parameters := [(.array .char), .int, .int], returnType := some (.array .byte) }, accessFlags := 9, code := some k20c2 }
def k20c3 : Code := { maxStack := 3, maxLocals := 7, code := jdk_52_method_21_code, exceptionTable := #[], attributes := #[] }
def k20m3 : Method := { name := "compress", desc := "([CI[BII)I", sig := { parameters := [(.array .char), .int, (.array .byte), .int, .int], returnType := some .int }, accessFlags := 9, code := some k20c3 }
/-- java/lang/StringUTF16 -/
def k20 : Class := { plain "java/lang/StringUTF16" (some 0) with
  accessFlags := 48
  interfaces := #[]
  cf := some (fileOf pool20 12 #[.nestMembers #[627, 629, 369]] #[{ accessFlags := 0, nameIndex := 9, descriptorIndex := 10, attributes := #[] }, { accessFlags := 8, nameIndex := 261, descriptorIndex := 262, attributes := #[] }, { accessFlags := 9, nameIndex := 117, descriptorIndex := 122, attributes := #[] }, { accessFlags := 9, nameIndex := 117, descriptorIndex := 118, attributes := #[] }] 48 6 #[] #[{ accessFlags := 26, nameIndex := 61, descriptorIndex := 62, attributes := #[] }, { accessFlags := 26, nameIndex := 65, descriptorIndex := 62, attributes := #[] }, { accessFlags := 24, nameIndex := 430, descriptorIndex := 62, attributes := #[] }, { accessFlags := 4120, nameIndex := 46, descriptorIndex := 47, attributes := #[] }])
  fields := #[{ name := "HI_BYTE_SHIFT", type := .int, accessFlags := 26, slot := 0, constantValue := 0 }, { name := "LO_BYTE_SHIFT", type := .int, accessFlags := 26, slot := 1, constantValue := 0 }, { name := "MAX_LENGTH", type := .int, accessFlags := 24, slot := 2, constantValue := 0 }, { name := "$assertionsDisabled", type := .boolean, accessFlags := 4120, slot := 3, constantValue := 0 }]
  methods := #[k20m0, k20m1, k20m2, k20m3]
  instanceTypes := #[]
  staticTypes := #[.int, .int, .int, .boolean]
  resolved := Array.replicate 635 none
  statics := none }

def pool21 : Array CpInfo := pool [(9, u "<init>"), (6, .class_ 18), (1, u "java/lang/Object"), (0, u "()V"), (1, .class_ 23), (1, u "jdk/internal/util/ArraysSupport"), (0, u "LOG2_ARRAY_LONG_INDEX_SCALE"), (0, u "I"), (2, u "U"), (0, u "Ljdk/internal/misc/Unsafe;"), (8, u "BIG_ENDIAN"), (0, u "Z"), (8, u "LOG2_BYTE_BIT_SIZE"), (4, u "LOG2_ARRAY_INT_INDEX_SCALE"), (54, u "JLA"), (0, u "Ljdk/internal/access/JavaLangAccess;"), (11, u "LOG2_ARRAY_BOOLEAN_INDEX_SCALE"), (9, u "LOG2_ARRAY_BYTE_INDEX_SCALE"), (5, u "LOG2_ARRAY_CHAR_INDEX_SCALE"), (5, u "LOG2_ARRAY_SHORT_INDEX_SCALE"), (18, u "LOG2_ARRAY_FLOAT_INDEX_SCALE"), (24, u "LOG2_ARRAY_DOUBLE_INDEX_SCALE"), (89, u "T_BOOLEAN"), (2, u "T_CHAR"), (1, u "T_FLOAT"), (1, u "T_DOUBLE"), (1, u "T_BYTE"), (1, u "T_SHORT"), (1, u "T_INT"), (1, u "T_LONG"), (1, u "SOFT_MAX_ARRAY_LENGTH")] 83

def k21m0 : Method := { name := "<init>", desc := "()V", sig := { parameters := [], returnType := none }, accessFlags := 2, code := none }
/-- jdk/internal/util/ArraysSupport -/
def k21 : Class := { plain "jdk/internal/util/ArraysSupport" (some 0) with
  accessFlags := 33
  interfaces := #[]
  cf := some (fileOf pool21 21 #[] #[{ accessFlags := 2, nameIndex := 9, descriptorIndex := 19, attributes := #[] }] 33 16 #[] #[{ accessFlags := 24, nameIndex := 28, descriptorIndex := 29, attributes := #[] }, { accessFlags := 26, nameIndex := 38, descriptorIndex := 39, attributes := #[] }, { accessFlags := 25, nameIndex := 121, descriptorIndex := 25, attributes := #[] }, { accessFlags := 25, nameIndex := 131, descriptorIndex := 25, attributes := #[] }, { accessFlags := 25, nameIndex := 137, descriptorIndex := 25, attributes := #[] }, { accessFlags := 25, nameIndex := 143, descriptorIndex := 25, attributes := #[] }, { accessFlags := 25, nameIndex := 53, descriptorIndex := 25, attributes := #[] }, { accessFlags := 25, nameIndex := 24, descriptorIndex := 25, attributes := #[] }, { accessFlags := 25, nameIndex := 162, descriptorIndex := 25, attributes := #[] }, { accessFlags := 25, nameIndex := 187, descriptorIndex := 25, attributes := #[] }, { accessFlags := 26, nameIndex := 48, descriptorIndex := 25, attributes := #[] }, { accessFlags := 25, nameIndex := 277, descriptorIndex := 25, attributes := #[] }, { accessFlags := 25, nameIndex := 280, descriptorIndex := 25, attributes := #[] }, { accessFlags := 25, nameIndex := 282, descriptorIndex := 25, attributes := #[] }, { accessFlags := 25, nameIndex := 284, descriptorIndex := 25, attributes := #[] }, { accessFlags := 25, nameIndex := 286, descriptorIndex := 25, attributes := #[] }, { accessFlags := 25, nameIndex := 288, descriptorIndex := 25, attributes := #[] }, { accessFlags := 25, nameIndex := 290, descriptorIndex := 25, attributes := #[] }, { accessFlags := 25, nameIndex := 292, descriptorIndex := 25, attributes := #[] }, { accessFlags := 26, nameIndex := 108, descriptorIndex := 109, attributes := #[] }, { accessFlags := 25, nameIndex := 294, descriptorIndex := 25, attributes := #[] }])
  fields := #[{ name := "U", type := (.object "jdk/internal/misc/Unsafe"), accessFlags := 24, slot := 0, constantValue := 0 }, { name := "BIG_ENDIAN", type := .boolean, accessFlags := 26, slot := 1, constantValue := 0 }, { name := "LOG2_ARRAY_BOOLEAN_INDEX_SCALE", type := .int, accessFlags := 25, slot := 2, constantValue := 0 }, { name := "LOG2_ARRAY_BYTE_INDEX_SCALE", type := .int, accessFlags := 25, slot := 3, constantValue := 0 }, { name := "LOG2_ARRAY_CHAR_INDEX_SCALE", type := .int, accessFlags := 25, slot := 4, constantValue := 0 }, { name := "LOG2_ARRAY_SHORT_INDEX_SCALE", type := .int, accessFlags := 25, slot := 5, constantValue := 0 }, { name := "LOG2_ARRAY_INT_INDEX_SCALE", type := .int, accessFlags := 25, slot := 6, constantValue := 0 }, { name := "LOG2_ARRAY_LONG_INDEX_SCALE", type := .int, accessFlags := 25, slot := 7, constantValue := 0 }, { name := "LOG2_ARRAY_FLOAT_INDEX_SCALE", type := .int, accessFlags := 25, slot := 8, constantValue := 0 }, { name := "LOG2_ARRAY_DOUBLE_INDEX_SCALE", type := .int, accessFlags := 25, slot := 9, constantValue := 0 }, { name := "LOG2_BYTE_BIT_SIZE", type := .int, accessFlags := 26, slot := 10, constantValue := 0 }, { name := "T_BOOLEAN", type := .int, accessFlags := 25, slot := 11, constantValue := 0 }, { name := "T_CHAR", type := .int, accessFlags := 25, slot := 12, constantValue := 0 }, { name := "T_FLOAT", type := .int, accessFlags := 25, slot := 13, constantValue := 0 }, { name := "T_DOUBLE", type := .int, accessFlags := 25, slot := 14, constantValue := 0 }, { name := "T_BYTE", type := .int, accessFlags := 25, slot := 15, constantValue := 0 }, { name := "T_SHORT", type := .int, accessFlags := 25, slot := 16, constantValue := 0 }, { name := "T_INT", type := .int, accessFlags := 25, slot := 17, constantValue := 0 }, { name := "T_LONG", type := .int, accessFlags := 25, slot := 18, constantValue := 0 }, { name := "JLA", type := (.object "jdk/internal/access/JavaLangAccess"), accessFlags := 26, slot := 19, constantValue := 0 }, { name := "SOFT_MAX_ARRAY_LENGTH", type := .int, accessFlags := 25, slot := 20, constantValue := 0 }]
  methods := #[k21m0]
  instanceTypes := #[]
  staticTypes := #[(.object "jdk/internal/misc/Unsafe"), .boolean, .int, .int, .int, .int, .int, .int, .int, .int, .int, .int, .int, .int, .int, .int, .int, .int, .int, (.object "jdk/internal/access/JavaLangAccess"), .int]
  resolved := Array.replicate 378 none
  statics := none }

def pool22 : Array CpInfo := pool [(1, u "java/lang/Cloneable"), (0, .class_ 1), (0, u "java/lang/Object"), (0, .class_ 3)] 3

/-- java/lang/Cloneable -/
def k22 : Class := { plain "java/lang/Cloneable" (some 0) with
  accessFlags := 1537
  interfaces := #[]
  cf := some (fileOf pool22 2 #[] #[] 1537 4 #[] #[])
  fields := #[]
  methods := #[]
  instanceTypes := #[]
  staticTypes := #[]
  resolved := Array.replicate 8 none
  statics := none }

/-- the primitive byte -/
def k23 : Class := { plain "byte" none with kind := .primitive 'B', accessFlags := 0x411 }
/-- [B -/
def k24 : Class := { plain "[B" (some 0) with kind := .array 23 .byte, interfaces := #[22, 2], accessFlags := 1041 }

/-- the primitive char -/
def k25 : Class := { plain "char" none with kind := .primitive 'C', accessFlags := 0x411 }
/-- [C -/
def k26 : Class := { plain "[C" (some 0) with kind := .array 25 .char, interfaces := #[22, 2], accessFlags := 1041 }

/-- the primitive int -/
def k27 : Class := { plain "int" none with kind := .primitive 'I', accessFlags := 0x411 }
/-- [I -/
def k28 : Class := { plain "[I" (some 0) with kind := .array 27 .int, interfaces := #[22, 2], accessFlags := 1041 }

def heap : Heap := #[{ cls := 7, slots := #[.long 0, .int 1, .null, .int 0, .null, .int 0, .int 0], vm := .statics 7 },
  { cls := 15, slots := #[.int 0, .int 0, .null, .null, .ref 4, .ref 3, .int 0, .int 0, .long 0], vm := .statics 15 },
  { cls := 19, slots := #[.null, .null, .null], vm := .statics 19 },
  { cls := 24, slots := #[.int 48, .int 49, .int 50, .int 51, .int 52, .int 53, .int 54, .int 55, .int 56, .int 57, .int 48, .int 49, .int 50, .int 51, .int 52, .int 53, .int 54, .int 55, .int 56, .int 57, .int 48, .int 49, .int 50, .int 51, .int 52, .int 53, .int 54, .int 55, .int 56, .int 57, .int 48, .int 49, .int 50, .int 51, .int 52, .int 53, .int 54, .int 55, .int 56, .int 57, .int 48, .int 49, .int 50, .int 51, .int 52, .int 53, .int 54, .int 55, .int 56, .int 57, .int 48, .int 49, .int 50, .int 51, .int 52, .int 53, .int 54, .int 55, .int 56, .int 57, .int 48, .int 49, .int 50, .int 51, .int 52, .int 53, .int 54, .int 55, .int 56, .int 57, .int 48, .int 49, .int 50, .int 51, .int 52, .int 53, .int 54, .int 55, .int 56, .int 57, .int 48, .int 49, .int 50, .int 51, .int 52, .int 53, .int 54, .int 55, .int 56, .int 57, .int 48, .int 49, .int 50, .int 51, .int 52, .int 53, .int 54, .int 55, .int 56, .int 57], vm := .none },
  { cls := 24, slots := #[.int 48, .int 48, .int 48, .int 48, .int 48, .int 48, .int 48, .int 48, .int 48, .int 48, .int 49, .int 49, .int 49, .int 49, .int 49, .int 49, .int 49, .int 49, .int 49, .int 49, .int 50, .int 50, .int 50, .int 50, .int 50, .int 50, .int 50, .int 50, .int 50, .int 50, .int 51, .int 51, .int 51, .int 51, .int 51, .int 51, .int 51, .int 51, .int 51, .int 51, .int 52, .int 52, .int 52, .int 52, .int 52, .int 52, .int 52, .int 52, .int 52, .int 52, .int 53, .int 53, .int 53, .int 53, .int 53, .int 53, .int 53, .int 53, .int 53, .int 53, .int 54, .int 54, .int 54, .int 54, .int 54, .int 54, .int 54, .int 54, .int 54, .int 54, .int 55, .int 55, .int 55, .int 55, .int 55, .int 55, .int 55, .int 55, .int 55, .int 55, .int 56, .int 56, .int 56, .int 56, .int 56, .int 56, .int 56, .int 56, .int 56, .int 56, .int 57, .int 57, .int 57, .int 57, .int 57, .int 57, .int 57, .int 57, .int 57, .int 57], vm := .none }]
def classes : Array Class := #[k0, k1, k2, k3, k4, k5, k6, k7, k8, k9, k10, k11, k12, k13, k14, k15, k16, k17, k18, k19, k20, k21, k22, k23, k24, k25, k26, k27, k28]
def interned : List (Array UInt16 × Addr) := []
def slotsUsed : Nat := 219
def theMethod : MethodId := ⟨1, 1⟩
def args0 : Array Value := #[.int 5, .int 5]
def aboutOver (below : List Frame) : State where
  vm := { classes := classes, interned := interned.toArray }
  heap := heap
  slotsUsed := slotsUsed
  threads := #[{ frames := .invoking theMethod args0 :: below }]
def below0 : List Frame := [.native { method := ⟨0, 0⟩, args := #[] }]
def about1 : State := aboutOver below0
def p0 : Program := .bare "" "" ""
def e0 : Env := launch0.env 0 0 0
theorem w_frames : about1.frames = Frame.invoking theMethod args0 :: below0 := rfl
set_option maxRecDepth 65536 in
theorem w_args : argsFit about1.vm theMethod args0 = true := by decide +kernel
set_option maxRecDepth 65536 in
theorem w_heap : heapFits about1 = true := by decide +kernel
set_option maxRecDepth 65536 in
theorem w_runnable : about1.curStatus? = some .runnable := by decide +kernel
set_option maxRecDepth 65536 in
theorem w_alone : about1.alone = true := by decide +kernel
set_option maxRecDepth 65536 in
theorem w_named : about1.methodNamed? x = some theMethod := by decide +kernel
set_option maxRecDepth 65536 in
theorem w_hears : about1.hears theMethod below0 = true := by decide +kernel
set_option maxRecDepth 65536 in
theorem w_ripe : about1.ripe theMethod args0 below0 = true := by decide +kernel
theorem w_running : about1.status = .running := rfl
set_option maxRecDepth 65536 in
theorem w_room : about1.hasRoom e0.platform room_1 = true :=
  launch0.hasRoom_least _ room_1 (by decide +kernel) (by decide +kernel) (by decide +kernel) (by decide +kernel) (by decide +kernel) (by decide +kernel)
theorem allAtoms_all (ts : List Jvm.Cond) (a : Array Jvm.Value) (st : Jvm.State) : (allAtoms ts).before a st = ts.all (fun c => c.before a st) := by
  induction ts with
  | nil => rfl
  | cons c t ih =>
    show (Jvm.Cond.and c (allAtoms t)).before a st = _
    rw [Jvm.Cond.before_and, ih, List.all_cons]
def words1 : List Jvm.Cond := Jvm.Cond.code x code maxLocals ret :: tables_1
/-- a 'code' word, met by the world's own term for the bytes: nothing is compared byte by byte -/
theorem code_word {y : MethodName} {bytes : ByteArray} {mx : Nat} {rt : Option FieldType} {a : Array Value} {s : State} {m : MethodId} {meth : Method} {c : Code} (h1 : s.methodNamed? y = some m) (h2 : s.vm.method? m = some meth) (h3 : meth.code = some c) (h4 : c.code = bytes)
    (h5 : (c.maxLocals == mx && c.exceptionTable.isEmpty && decide (c.maxStack ≤ mostOperands) && decide (meth.sig.returnType = rt) && !meth.locks && decide (parseMethodDescriptor y.desc = some meth.sig)) = true) : (Jvm.Cond.code y bytes mx rt).before a s = true := by
  simp only [Bool.and_eq_true, beq_iff_eq, Bool.not_eq_true', decide_eq_true_eq] at h5
  obtain ⟨⟨⟨⟨⟨g1, g2⟩, g3⟩, g4⟩, g5⟩, g6⟩ := h5
  simp [Cond.before, Cond.holds, Cond.value, h1, h2, h3, h4, g1, g2, g3, g4, g5, g6]
def isCode : Jvm.Cond → Bool
  | .code _ _ _ _ => true
  | _ => false
theorem all_split {L : List Jvm.Cond} {P : Jvm.Cond → Bool} (h1 : L.all (fun c => isCode c || P c) = true) (h2 : ∀ c ∈ L.filter isCode, P c = true) : L.all P = true := by
  refine List.all_eq_true.mpr fun c hc => ?_
  have h := List.all_eq_true.mp h1 c hc
  rcases Bool.eq_false_or_eq_true (isCode c) with hi | hi
  · exact h2 c (List.mem_filter.mpr ⟨hc, hi⟩)
  · simpa [hi] using h
set_option maxRecDepth 65536 in
theorem w_c0 : (Jvm.Cond.code x code maxLocals ret).before args0 about1 = true := code_word (m := ⟨1, 1⟩) (meth := k1m1) (c := k1c1) (by decide +kernel) rfl rfl rfl (by decide +kernel)
set_option maxRecDepth 65536 in
theorem w_c1 : (Jvm.Cond.code ({ cls := "java/lang/String", name := "<init>", desc := "([C)V" } : Jvm.MethodName) jdk_42_method_3_code (2 : Nat) (Option.none : Option Jvm.ClassFile.FieldType)).before args0 about1 = true := code_word (m := ⟨7, 1⟩) (meth := k7m1) (c := k7c1) (by decide +kernel) rfl rfl rfl (by decide +kernel)
set_option maxRecDepth 65536 in
theorem w_c2 : (Jvm.Cond.code ({ cls := "java/lang/String", name := "<init>", desc := "([CIILjava/lang/Void;)V" } : Jvm.MethodName) jdk_42_method_149_code (6 : Nat) (Option.none : Option Jvm.ClassFile.FieldType)).before args0 about1 = true := code_word (m := ⟨7, 6⟩) (meth := k7m6) (c := k7c6) (by decide +kernel) rfl rfl rfl (by decide +kernel)
set_option maxRecDepth 65536 in
theorem w_c3 : (Jvm.Cond.code ({ cls := "java/lang/Object", name := "<init>", desc := "()V" } : Jvm.MethodName) object_method_1_code (1 : Nat) (Option.none : Option Jvm.ClassFile.FieldType)).before args0 about1 = true := code_word (m := ⟨0, 0⟩) (meth := k0m0) (c := k0c0) (by decide +kernel) rfl rfl rfl (by decide +kernel)
set_option maxRecDepth 65536 in
theorem w_c4 : (Jvm.Cond.code ({ cls := "com/example/demarc/demarc/tool/Account", name := "<init>", desc := "(Ljava/lang/String;I)V" } : Jvm.MethodName) prog_26_method_1_code (3 : Nat) (Option.none : Option Jvm.ClassFile.FieldType)).before args0 about1 = true := code_word (m := ⟨9, 0⟩) (meth := k9m0) (c := k9c0) (by decide +kernel) rfl rfl rfl (by decide +kernel)
set_option maxRecDepth 65536 in
theorem w_c5 : (Jvm.Cond.code ({ cls := "java/lang/Record", name := "<init>", desc := "()V" } : Jvm.MethodName) jdk_30_method_1_code (1 : Nat) (Option.none : Option Jvm.ClassFile.FieldType)).before args0 about1 = true := code_word (m := ⟨8, 0⟩) (meth := k8m0) (c := k8c0) (by decide +kernel) rfl rfl rfl (by decide +kernel)
set_option maxRecDepth 65536 in
theorem w_c6 : (Jvm.Cond.code ({ cls := "com/example/demarc/demarc/tool/Account", name := "toString", desc := "()Ljava/lang/String;" } : Jvm.MethodName) prog_26_method_3_code (1 : Nat) (Option.some (Jvm.ClassFile.FieldType.object "java/lang/String"))).before args0 about1 = true := code_word (m := ⟨9, 1⟩) (meth := k9m1) (c := k9c1) (by decide +kernel) rfl rfl rfl (by decide +kernel)
set_option maxRecDepth 65536 in
theorem w_c7 : (Jvm.Cond.code ({ cls := "java/lang/StringBuilder", name := "<init>", desc := "()V" } : Jvm.MethodName) jdk_67_method_1_code (1 : Nat) (Option.none : Option Jvm.ClassFile.FieldType)).before args0 about1 = true := code_word (m := ⟨12, 0⟩) (meth := k12m0) (c := k12c0) (by decide +kernel) rfl rfl rfl (by decide +kernel)
set_option maxRecDepth 65536 in
theorem w_c8 : (Jvm.Cond.code ({ cls := "java/lang/AbstractStringBuilder", name := "<init>", desc := "(I)V" } : Jvm.MethodName) jdk_68_method_2_code (2 : Nat) (Option.none : Option Jvm.ClassFile.FieldType)).before args0 about1 = true := code_word (m := ⟨11, 1⟩) (meth := k11m1) (c := k11c1) (by decide +kernel) rfl rfl rfl (by decide +kernel)
set_option maxRecDepth 65536 in
theorem w_c9 : (Jvm.Cond.code ({ cls := "java/lang/StringBuilder", name := "append", desc := "(Ljava/lang/String;)Ljava/lang/StringBuilder;" } : Jvm.MethodName) jdk_67_method_7_code (2 : Nat) (Option.some (Jvm.ClassFile.FieldType.object "java/lang/StringBuilder"))).before args0 about1 = true := code_word (m := ⟨12, 1⟩) (meth := k12m1) (c := k12c1) (by decide +kernel) rfl rfl rfl (by decide +kernel)
set_option maxRecDepth 65536 in
theorem w_c10 : (Jvm.Cond.code ({ cls := "java/lang/AbstractStringBuilder", name := "append", desc := "(Ljava/lang/String;)Ljava/lang/AbstractStringBuilder;" } : Jvm.MethodName) jdk_68_method_22_code (3 : Nat) (Option.some (Jvm.ClassFile.FieldType.object "java/lang/AbstractStringBuilder"))).before args0 about1 = true := code_word (m := ⟨11, 4⟩) (meth := k11m4) (c := k11c4) (by decide +kernel) rfl rfl rfl (by decide +kernel)
set_option maxRecDepth 65536 in
theorem w_c11 : (Jvm.Cond.code ({ cls := "java/lang/String", name := "length", desc := "()I" } : Jvm.MethodName) jdk_42_method_54_code (1 : Nat) (Option.some Jvm.ClassFile.FieldType.int)).before args0 about1 = true := code_word (m := ⟨7, 3⟩) (meth := k7m3) (c := k7c3) (by decide +kernel) rfl rfl rfl (by decide +kernel)
set_option maxRecDepth 65536 in
theorem w_c12 : (Jvm.Cond.code ({ cls := "java/lang/String", name := "coder", desc := "()B" } : Jvm.MethodName) jdk_42_method_152_code (1 : Nat) (Option.some Jvm.ClassFile.FieldType.byte)).before args0 about1 = true := code_word (m := ⟨7, 8⟩) (meth := k7m8) (c := k7c8) (by decide +kernel) rfl rfl rfl (by decide +kernel)
set_option maxRecDepth 65536 in
theorem w_c13 : (Jvm.Cond.code ({ cls := "java/lang/AbstractStringBuilder", name := "ensureCapacityInternal", desc := "(I)V" } : Jvm.MethodName) jdk_68_method_9_code (3 : Nat) (Option.none : Option Jvm.ClassFile.FieldType)).before args0 about1 = true := code_word (m := ⟨11, 3⟩) (meth := k11m3) (c := k11c3) (by decide +kernel) rfl rfl rfl (by decide +kernel)
set_option maxRecDepth 65536 in
theorem w_c14 : (Jvm.Cond.code ({ cls := "java/lang/AbstractStringBuilder", name := "putStringAt", desc := "(ILjava/lang/String;)V" } : Jvm.MethodName) jdk_68_method_73_code (3 : Nat) (Option.none : Option Jvm.ClassFile.FieldType)).before args0 about1 = true := code_word (m := ⟨11, 9⟩) (meth := k11m9) (c := k11c9) (by decide +kernel) rfl rfl rfl (by decide +kernel)
set_option maxRecDepth 65536 in
theorem w_c15 : (Jvm.Cond.code ({ cls := "java/lang/AbstractStringBuilder", name := "inflateIfNeededFor", desc := "(Ljava/lang/String;)V" } : Jvm.MethodName) jdk_68_method_71_code (2 : Nat) (Option.none : Option Jvm.ClassFile.FieldType)).before args0 about1 = true := code_word (m := ⟨11, 8⟩) (meth := k11m8) (c := k11c8) (by decide +kernel) rfl rfl rfl (by decide +kernel)
set_option maxRecDepth 65536 in
theorem w_c16 : (Jvm.Cond.code ({ cls := "java/lang/String", name := "getBytes", desc := "([BIB)V" } : Jvm.MethodName) jdk_42_method_147_code (4 : Nat) (Option.none : Option Jvm.ClassFile.FieldType)).before args0 about1 = true := code_word (m := ⟨7, 5⟩) (meth := k7m5) (c := k7c5) (by decide +kernel) rfl rfl rfl (by decide +kernel)
set_option maxRecDepth 65536 in
theorem w_c17 : (Jvm.Cond.code ({ cls := "java/lang/StringBuilder", name := "append", desc := "(I)Ljava/lang/StringBuilder;" } : Jvm.MethodName) jdk_67_method_15_code (2 : Nat) (Option.some (Jvm.ClassFile.FieldType.object "java/lang/StringBuilder"))).before args0 about1 = true := code_word (m := ⟨12, 2⟩) (meth := k12m2) (c := k12c2) (by decide +kernel) rfl rfl rfl (by decide +kernel)
set_option maxRecDepth 65536 in
theorem w_c18 : (Jvm.Cond.code ({ cls := "java/lang/AbstractStringBuilder", name := "append", desc := "(I)Ljava/lang/AbstractStringBuilder;" } : Jvm.MethodName) jdk_68_method_32_code (4 : Nat) (Option.some (Jvm.ClassFile.FieldType.object "java/lang/AbstractStringBuilder"))).before args0 about1 = true := code_word (m := ⟨11, 5⟩) (meth := k11m5) (c := k11c5) (by decide +kernel) rfl rfl rfl (by decide +kernel)
set_option maxRecDepth 65536 in
theorem w_c19 : (Jvm.Cond.code ({ cls := "java/lang/Integer", name := "stringSize", desc := "(I)I" } : Jvm.MethodName) jdk_33_method_13_code (4 : Nat) (Option.some Jvm.ClassFile.FieldType.int)).before args0 about1 = true := code_word (m := ⟨15, 1⟩) (meth := k15m1) (c := k15c1) (by decide +kernel) rfl rfl rfl (by decide +kernel)
set_option maxRecDepth 65536 in
theorem w_c20 : (Jvm.Cond.code ({ cls := "java/lang/AbstractStringBuilder", name := "isLatin1", desc := "()Z" } : Jvm.MethodName) jdk_68_method_68_code (1 : Nat) (Option.some Jvm.ClassFile.FieldType.boolean)).before args0 about1 = true := code_word (m := ⟨11, 7⟩) (meth := k11m7) (c := k11c7) (by decide +kernel) rfl rfl rfl (by decide +kernel)
set_option maxRecDepth 65536 in
theorem w_c21 : (Jvm.Cond.code ({ cls := "java/lang/Integer", name := "getChars", desc := "(II[B)I" } : Jvm.MethodName) jdk_33_method_12_code (7 : Nat) (Option.some Jvm.ClassFile.FieldType.int)).before args0 about1 = true := code_word (m := ⟨15, 0⟩) (meth := k15m0) (c := k15c0) (by decide +kernel) rfl rfl rfl (by decide +kernel)
set_option maxRecDepth 65536 in
theorem w_c22 : (Jvm.Cond.code ({ cls := "java/lang/StringBuilder", name := "toString", desc := "()Ljava/lang/String;" } : Jvm.MethodName) jdk_67_method_42_code (1 : Nat) (Option.some (Jvm.ClassFile.FieldType.object "java/lang/String"))).before args0 about1 = true := code_word (m := ⟨12, 3⟩) (meth := k12m3) (c := k12c3) (by decide +kernel) rfl rfl rfl (by decide +kernel)
set_option maxRecDepth 65536 in
theorem w_c23 : (Jvm.Cond.code ({ cls := "java/lang/String", name := "<init>", desc := "(Ljava/lang/StringBuilder;)V" } : Jvm.MethodName) jdk_42_method_53_code (2 : Nat) (Option.none : Option Jvm.ClassFile.FieldType)).before args0 about1 = true := code_word (m := ⟨7, 2⟩) (meth := k7m2) (c := k7c2) (by decide +kernel) rfl rfl rfl (by decide +kernel)
set_option maxRecDepth 65536 in
theorem w_c24 : (Jvm.Cond.code ({ cls := "java/lang/String", name := "<init>", desc := "(Ljava/lang/AbstractStringBuilder;Ljava/lang/Void;)V" } : Jvm.MethodName) jdk_42_method_150_code (5 : Nat) (Option.none : Option Jvm.ClassFile.FieldType)).before args0 about1 = true := code_word (m := ⟨7, 7⟩) (meth := k7m7) (c := k7c7) (by decide +kernel) rfl rfl rfl (by decide +kernel)
set_option maxRecDepth 65536 in
theorem w_c25 : (Jvm.Cond.code ({ cls := "java/lang/AbstractStringBuilder", name := "getValue", desc := "()[B" } : Jvm.MethodName) jdk_68_method_64_code (1 : Nat) (Option.some (Jvm.ClassFile.FieldType.array Jvm.ClassFile.FieldType.byte))).before args0 about1 = true := code_word (m := ⟨11, 6⟩) (meth := k11m6) (c := k11c6) (by decide +kernel) rfl rfl rfl (by decide +kernel)
set_option maxRecDepth 65536 in
theorem w_c26 : (Jvm.Cond.code ({ cls := "java/lang/StringBuilder", name := "length", desc := "()I" } : Jvm.MethodName) jdk_67_method_93_code (1 : Nat) (Option.some Jvm.ClassFile.FieldType.int)).before args0 about1 = true := code_word (m := ⟨12, 4⟩) (meth := k12m4) (c := k12c4) (by decide +kernel) rfl rfl rfl (by decide +kernel)
set_option maxRecDepth 65536 in
theorem w_c27 : (Jvm.Cond.code ({ cls := "java/lang/AbstractStringBuilder", name := "length", desc := "()I" } : Jvm.MethodName) jdk_68_method_6_code (1 : Nat) (Option.some Jvm.ClassFile.FieldType.int)).before args0 about1 = true := code_word (m := ⟨11, 2⟩) (meth := k11m2) (c := k11c2) (by decide +kernel) rfl rfl rfl (by decide +kernel)
set_option maxRecDepth 65536 in
theorem w_c28 : (Jvm.Cond.code ({ cls := "java/util/Arrays", name := "copyOfRange", desc := "([BII)[B" } : Jvm.MethodName) jdk_65_method_132_code (3 : Nat) (Option.some (Jvm.ClassFile.FieldType.array Jvm.ClassFile.FieldType.byte))).before args0 about1 = true := code_word (m := ⟨16, 2⟩) (meth := k16m2) (c := k16c2) (by decide +kernel) rfl rfl rfl (by decide +kernel)
set_option maxRecDepth 65536 in
theorem w_c29 : (Jvm.Cond.code ({ cls := "java/util/Arrays", name := "copyOfRangeByte", desc := "([BII)[B" } : Jvm.MethodName) jdk_65_method_133_code (5 : Nat) (Option.some (Jvm.ClassFile.FieldType.array Jvm.ClassFile.FieldType.byte))).before args0 about1 = true := code_word (m := ⟨16, 3⟩) (meth := k16m3) (c := k16c3) (by decide +kernel) rfl rfl rfl (by decide +kernel)
set_option maxRecDepth 65536 in
theorem w_c30 : (Jvm.Cond.code ({ cls := "java/util/Arrays", name := "checkLength", desc := "(II)V" } : Jvm.MethodName) jdk_65_method_131_code (2 : Nat) (Option.none : Option Jvm.ClassFile.FieldType)).before args0 about1 = true := code_word (m := ⟨16, 1⟩) (meth := k16m1) (c := k16c1) (by decide +kernel) rfl rfl rfl (by decide +kernel)
set_option maxRecDepth 65536 in
theorem w_c31 : (Jvm.Cond.code ({ cls := "java/lang/Math", name := "min", desc := "(II)I" } : Jvm.MethodName) jdk_29_method_69_code (2 : Nat) (Option.some Jvm.ClassFile.FieldType.int)).before args0 about1 = true := code_word (m := ⟨17, 1⟩) (meth := k17m1) (c := k17c1) (by decide +kernel) rfl rfl rfl (by decide +kernel)
set_option maxRecDepth 65536 in
theorem w_c32 : (Jvm.Cond.code ({ cls := "com/example/demarc/demarc/tool/AccountToStringPinLaw", name := "digits", desc := "(J)I" } : Jvm.MethodName) method_3_code (2 : Nat) (Option.some Jvm.ClassFile.FieldType.int)).before args0 about1 = true := code_word (m := ⟨1, 2⟩) (meth := k1m2) (c := k1c2) (by decide +kernel) rfl rfl rfl (by decide +kernel)
set_option maxRecDepth 65536 in
theorem w_c33 : (Jvm.Cond.code ({ cls := "java/lang/String", name := "charAt", desc := "(I)C" } : Jvm.MethodName) jdk_42_method_56_code (2 : Nat) (Option.some Jvm.ClassFile.FieldType.char)).before args0 about1 = true := code_word (m := ⟨7, 4⟩) (meth := k7m4) (c := k7c4) (by decide +kernel) rfl rfl rfl (by decide +kernel)
set_option maxRecDepth 65536 in
theorem w_c34 : (Jvm.Cond.code ({ cls := "java/lang/String", name := "isLatin1", desc := "()Z" } : Jvm.MethodName) jdk_42_method_154_code (1 : Nat) (Option.some Jvm.ClassFile.FieldType.boolean)).before args0 about1 = true := code_word (m := ⟨7, 9⟩) (meth := k7m9) (c := k7c9) (by decide +kernel) rfl rfl rfl (by decide +kernel)
set_option maxRecDepth 65536 in
theorem w_c35 : (Jvm.Cond.code ({ cls := "java/lang/StringLatin1", name := "charAt", desc := "([BI)C" } : Jvm.MethodName) jdk_43_method_2_code (2 : Nat) (Option.some Jvm.ClassFile.FieldType.char)).before args0 about1 = true := code_word (m := ⟨18, 1⟩) (meth := k18m1) (c := k18c1) (by decide +kernel) rfl rfl rfl (by decide +kernel)
set_option maxRecDepth 65536 in
theorem w_c36 : (Jvm.Cond.code ({ cls := "java/lang/String", name := "checkIndex", desc := "(II)V" } : Jvm.MethodName) jdk_42_method_155_code (2 : Nat) (Option.none : Option Jvm.ClassFile.FieldType)).before args0 about1 = true := code_word (m := ⟨7, 10⟩) (meth := k7m10) (c := k7c10) (by decide +kernel) rfl rfl rfl (by decide +kernel)
set_option maxRecDepth 65536 in
theorem w_c37 : (Jvm.Cond.code ({ cls := "jdk/internal/util/Preconditions", name := "checkIndex", desc := "(IILjava/util/function/BiFunction;)I" } : Jvm.MethodName) jdk_41_method_11_code (3 : Nat) (Option.some Jvm.ClassFile.FieldType.int)).before args0 about1 = true := code_word (m := ⟨19, 1⟩) (meth := k19m1) (c := k19c1) (by decide +kernel) rfl rfl rfl (by decide +kernel)
set_option maxRecDepth 65536 in
theorem w_c38 : (Jvm.Cond.code ({ cls := "com/example/demarc/demarc/tool/AccountToStringPinLaw", name := "digitOk", desc := "(Ljava/lang/String;JII)Z" } : Jvm.MethodName) method_5_code (6 : Nat) (Option.some Jvm.ClassFile.FieldType.boolean)).before args0 about1 = true := code_word (m := ⟨1, 4⟩) (meth := k1m4) (c := k1c4) (by decide +kernel) rfl rfl rfl (by decide +kernel)
set_option maxRecDepth 65536 in
theorem w_c39 : (Jvm.Cond.code ({ cls := "com/example/demarc/demarc/tool/AccountToStringPinLaw", name := "pow10", desc := "(I)J" } : Jvm.MethodName) method_4_code (1 : Nat) (Option.some Jvm.ClassFile.FieldType.long)).before args0 about1 = true := code_word (m := ⟨1, 3⟩) (meth := k1m3) (c := k1c3) (by decide +kernel) rfl rfl rfl (by decide +kernel)
set_option maxRecDepth 65536 in
theorem w_c40 : (Jvm.Cond.code ({ cls := "java/lang/StringUTF16", name := "compress", desc := "([CII)[B" } : Jvm.MethodName) jdk_52_method_16_code (6 : Nat) (Option.some (Jvm.ClassFile.FieldType.array Jvm.ClassFile.FieldType.byte))).before args0 about1 = true := code_word (m := ⟨20, 2⟩) (meth := k20m2) (c := k20c2) (by decide +kernel) rfl rfl rfl (by decide +kernel)
set_option maxRecDepth 65536 in
theorem w_c41 : (Jvm.Cond.code ({ cls := "java/lang/StringUTF16", name := "compress", desc := "([CI[BII)I" } : Jvm.MethodName) jdk_52_method_21_code (7 : Nat) (Option.some Jvm.ClassFile.FieldType.int)).before args0 about1 = true := code_word (m := ⟨20, 3⟩) (meth := k20m3) (c := k20c3) (by decide +kernel) rfl rfl rfl (by decide +kernel)
set_option maxRecDepth 65536 in
theorem w_c42 : (Jvm.Cond.code ({ cls := "java/lang/StringUTF16", name := "coderFromArrayLen", desc := "([BI)B" } : Jvm.MethodName) jdk_52_method_15_code (2 : Nat) (Option.some Jvm.ClassFile.FieldType.byte)).before args0 about1 = true := code_word (m := ⟨20, 1⟩) (meth := k20m1) (c := k20c1) (by decide +kernel) rfl rfl rfl (by decide +kernel)
def codes1 : List Jvm.Cond := [Jvm.Cond.code x code maxLocals ret, Jvm.Cond.code ({ cls := "java/lang/String", name := "<init>", desc := "([C)V" } : Jvm.MethodName) jdk_42_method_3_code (2 : Nat) (Option.none : Option Jvm.ClassFile.FieldType), Jvm.Cond.code ({ cls := "java/lang/String", name := "<init>", desc := "([CIILjava/lang/Void;)V" } : Jvm.MethodName) jdk_42_method_149_code (6 : Nat) (Option.none : Option Jvm.ClassFile.FieldType), Jvm.Cond.code ({ cls := "java/lang/Object", name := "<init>", desc := "()V" } : Jvm.MethodName) object_method_1_code (1 : Nat) (Option.none : Option Jvm.ClassFile.FieldType), Jvm.Cond.code ({ cls := "com/example/demarc/demarc/tool/Account", name := "<init>", desc := "(Ljava/lang/String;I)V" } : Jvm.MethodName) prog_26_method_1_code (3 : Nat) (Option.none : Option Jvm.ClassFile.FieldType), Jvm.Cond.code ({ cls := "java/lang/Record", name := "<init>", desc := "()V" } : Jvm.MethodName) jdk_30_method_1_code (1 : Nat) (Option.none : Option Jvm.ClassFile.FieldType), Jvm.Cond.code ({ cls := "com/example/demarc/demarc/tool/Account", name := "toString", desc := "()Ljava/lang/String;" } : Jvm.MethodName) prog_26_method_3_code (1 : Nat) (Option.some (Jvm.ClassFile.FieldType.object "java/lang/String")), Jvm.Cond.code ({ cls := "java/lang/StringBuilder", name := "<init>", desc := "()V" } : Jvm.MethodName) jdk_67_method_1_code (1 : Nat) (Option.none : Option Jvm.ClassFile.FieldType), Jvm.Cond.code ({ cls := "java/lang/AbstractStringBuilder", name := "<init>", desc := "(I)V" } : Jvm.MethodName) jdk_68_method_2_code (2 : Nat) (Option.none : Option Jvm.ClassFile.FieldType), Jvm.Cond.code ({ cls := "java/lang/StringBuilder", name := "append", desc := "(Ljava/lang/String;)Ljava/lang/StringBuilder;" } : Jvm.MethodName) jdk_67_method_7_code (2 : Nat) (Option.some (Jvm.ClassFile.FieldType.object "java/lang/StringBuilder")), Jvm.Cond.code ({ cls := "java/lang/AbstractStringBuilder", name := "append", desc := "(Ljava/lang/String;)Ljava/lang/AbstractStringBuilder;" } : Jvm.MethodName) jdk_68_method_22_code (3 : Nat) (Option.some (Jvm.ClassFile.FieldType.object "java/lang/AbstractStringBuilder")), Jvm.Cond.code ({ cls := "java/lang/String", name := "length", desc := "()I" } : Jvm.MethodName) jdk_42_method_54_code (1 : Nat) (Option.some Jvm.ClassFile.FieldType.int), Jvm.Cond.code ({ cls := "java/lang/String", name := "coder", desc := "()B" } : Jvm.MethodName) jdk_42_method_152_code (1 : Nat) (Option.some Jvm.ClassFile.FieldType.byte), Jvm.Cond.code ({ cls := "java/lang/AbstractStringBuilder", name := "ensureCapacityInternal", desc := "(I)V" } : Jvm.MethodName) jdk_68_method_9_code (3 : Nat) (Option.none : Option Jvm.ClassFile.FieldType), Jvm.Cond.code ({ cls := "java/lang/AbstractStringBuilder", name := "putStringAt", desc := "(ILjava/lang/String;)V" } : Jvm.MethodName) jdk_68_method_73_code (3 : Nat) (Option.none : Option Jvm.ClassFile.FieldType), Jvm.Cond.code ({ cls := "java/lang/AbstractStringBuilder", name := "inflateIfNeededFor", desc := "(Ljava/lang/String;)V" } : Jvm.MethodName) jdk_68_method_71_code (2 : Nat) (Option.none : Option Jvm.ClassFile.FieldType), Jvm.Cond.code ({ cls := "java/lang/String", name := "getBytes", desc := "([BIB)V" } : Jvm.MethodName) jdk_42_method_147_code (4 : Nat) (Option.none : Option Jvm.ClassFile.FieldType), Jvm.Cond.code ({ cls := "java/lang/StringBuilder", name := "append", desc := "(I)Ljava/lang/StringBuilder;" } : Jvm.MethodName) jdk_67_method_15_code (2 : Nat) (Option.some (Jvm.ClassFile.FieldType.object "java/lang/StringBuilder")), Jvm.Cond.code ({ cls := "java/lang/AbstractStringBuilder", name := "append", desc := "(I)Ljava/lang/AbstractStringBuilder;" } : Jvm.MethodName) jdk_68_method_32_code (4 : Nat) (Option.some (Jvm.ClassFile.FieldType.object "java/lang/AbstractStringBuilder")), Jvm.Cond.code ({ cls := "java/lang/Integer", name := "stringSize", desc := "(I)I" } : Jvm.MethodName) jdk_33_method_13_code (4 : Nat) (Option.some Jvm.ClassFile.FieldType.int), Jvm.Cond.code ({ cls := "java/lang/AbstractStringBuilder", name := "isLatin1", desc := "()Z" } : Jvm.MethodName) jdk_68_method_68_code (1 : Nat) (Option.some Jvm.ClassFile.FieldType.boolean), Jvm.Cond.code ({ cls := "java/lang/Integer", name := "getChars", desc := "(II[B)I" } : Jvm.MethodName) jdk_33_method_12_code (7 : Nat) (Option.some Jvm.ClassFile.FieldType.int), Jvm.Cond.code ({ cls := "java/lang/StringBuilder", name := "toString", desc := "()Ljava/lang/String;" } : Jvm.MethodName) jdk_67_method_42_code (1 : Nat) (Option.some (Jvm.ClassFile.FieldType.object "java/lang/String")), Jvm.Cond.code ({ cls := "java/lang/String", name := "<init>", desc := "(Ljava/lang/StringBuilder;)V" } : Jvm.MethodName) jdk_42_method_53_code (2 : Nat) (Option.none : Option Jvm.ClassFile.FieldType), Jvm.Cond.code ({ cls := "java/lang/String", name := "<init>", desc := "(Ljava/lang/AbstractStringBuilder;Ljava/lang/Void;)V" } : Jvm.MethodName) jdk_42_method_150_code (5 : Nat) (Option.none : Option Jvm.ClassFile.FieldType), Jvm.Cond.code ({ cls := "java/lang/AbstractStringBuilder", name := "getValue", desc := "()[B" } : Jvm.MethodName) jdk_68_method_64_code (1 : Nat) (Option.some (Jvm.ClassFile.FieldType.array Jvm.ClassFile.FieldType.byte)), Jvm.Cond.code ({ cls := "java/lang/StringBuilder", name := "length", desc := "()I" } : Jvm.MethodName) jdk_67_method_93_code (1 : Nat) (Option.some Jvm.ClassFile.FieldType.int), Jvm.Cond.code ({ cls := "java/lang/AbstractStringBuilder", name := "length", desc := "()I" } : Jvm.MethodName) jdk_68_method_6_code (1 : Nat) (Option.some Jvm.ClassFile.FieldType.int), Jvm.Cond.code ({ cls := "java/util/Arrays", name := "copyOfRange", desc := "([BII)[B" } : Jvm.MethodName) jdk_65_method_132_code (3 : Nat) (Option.some (Jvm.ClassFile.FieldType.array Jvm.ClassFile.FieldType.byte)), Jvm.Cond.code ({ cls := "java/util/Arrays", name := "copyOfRangeByte", desc := "([BII)[B" } : Jvm.MethodName) jdk_65_method_133_code (5 : Nat) (Option.some (Jvm.ClassFile.FieldType.array Jvm.ClassFile.FieldType.byte)), Jvm.Cond.code ({ cls := "java/util/Arrays", name := "checkLength", desc := "(II)V" } : Jvm.MethodName) jdk_65_method_131_code (2 : Nat) (Option.none : Option Jvm.ClassFile.FieldType), Jvm.Cond.code ({ cls := "java/lang/Math", name := "min", desc := "(II)I" } : Jvm.MethodName) jdk_29_method_69_code (2 : Nat) (Option.some Jvm.ClassFile.FieldType.int), Jvm.Cond.code ({ cls := "com/example/demarc/demarc/tool/AccountToStringPinLaw", name := "digits", desc := "(J)I" } : Jvm.MethodName) method_3_code (2 : Nat) (Option.some Jvm.ClassFile.FieldType.int), Jvm.Cond.code ({ cls := "java/lang/String", name := "charAt", desc := "(I)C" } : Jvm.MethodName) jdk_42_method_56_code (2 : Nat) (Option.some Jvm.ClassFile.FieldType.char), Jvm.Cond.code ({ cls := "java/lang/String", name := "isLatin1", desc := "()Z" } : Jvm.MethodName) jdk_42_method_154_code (1 : Nat) (Option.some Jvm.ClassFile.FieldType.boolean), Jvm.Cond.code ({ cls := "java/lang/StringLatin1", name := "charAt", desc := "([BI)C" } : Jvm.MethodName) jdk_43_method_2_code (2 : Nat) (Option.some Jvm.ClassFile.FieldType.char), Jvm.Cond.code ({ cls := "java/lang/String", name := "checkIndex", desc := "(II)V" } : Jvm.MethodName) jdk_42_method_155_code (2 : Nat) (Option.none : Option Jvm.ClassFile.FieldType), Jvm.Cond.code ({ cls := "jdk/internal/util/Preconditions", name := "checkIndex", desc := "(IILjava/util/function/BiFunction;)I" } : Jvm.MethodName) jdk_41_method_11_code (3 : Nat) (Option.some Jvm.ClassFile.FieldType.int), Jvm.Cond.code ({ cls := "com/example/demarc/demarc/tool/AccountToStringPinLaw", name := "digitOk", desc := "(Ljava/lang/String;JII)Z" } : Jvm.MethodName) method_5_code (6 : Nat) (Option.some Jvm.ClassFile.FieldType.boolean), Jvm.Cond.code ({ cls := "com/example/demarc/demarc/tool/AccountToStringPinLaw", name := "pow10", desc := "(I)J" } : Jvm.MethodName) method_4_code (1 : Nat) (Option.some Jvm.ClassFile.FieldType.long), Jvm.Cond.code ({ cls := "java/lang/StringUTF16", name := "compress", desc := "([CII)[B" } : Jvm.MethodName) jdk_52_method_16_code (6 : Nat) (Option.some (Jvm.ClassFile.FieldType.array Jvm.ClassFile.FieldType.byte)), Jvm.Cond.code ({ cls := "java/lang/StringUTF16", name := "compress", desc := "([CI[BII)I" } : Jvm.MethodName) jdk_52_method_21_code (7 : Nat) (Option.some Jvm.ClassFile.FieldType.int), Jvm.Cond.code ({ cls := "java/lang/StringUTF16", name := "coderFromArrayLen", desc := "([BI)B" } : Jvm.MethodName) jdk_52_method_15_code (2 : Nat) (Option.some Jvm.ClassFile.FieldType.byte)]
set_option maxRecDepth 65536 in
theorem codes_eq : words1.filter isCode = codes1 := rfl
theorem w_codes : ∀ c ∈ words1.filter isCode, c.before args0 about1 = true := by
  rw [codes_eq]
  intro c hc
  simp only [codes1, List.mem_cons, List.not_mem_nil, or_false] at hc
  rcases hc with rfl | rfl | rfl | rfl | rfl | rfl | rfl | rfl | rfl | rfl | rfl | rfl | rfl | rfl | rfl | rfl | rfl | rfl | rfl | rfl | rfl | rfl | rfl | rfl | rfl | rfl | rfl | rfl | rfl | rfl | rfl | rfl | rfl | rfl | rfl | rfl | rfl | rfl | rfl | rfl | rfl | rfl | rfl
  · exact w_c0
  · exact w_c1
  · exact w_c2
  · exact w_c3
  · exact w_c4
  · exact w_c5
  · exact w_c6
  · exact w_c7
  · exact w_c8
  · exact w_c9
  · exact w_c10
  · exact w_c11
  · exact w_c12
  · exact w_c13
  · exact w_c14
  · exact w_c15
  · exact w_c16
  · exact w_c17
  · exact w_c18
  · exact w_c19
  · exact w_c20
  · exact w_c21
  · exact w_c22
  · exact w_c23
  · exact w_c24
  · exact w_c25
  · exact w_c26
  · exact w_c27
  · exact w_c28
  · exact w_c29
  · exact w_c30
  · exact w_c31
  · exact w_c32
  · exact w_c33
  · exact w_c34
  · exact w_c35
  · exact w_c36
  · exact w_c37
  · exact w_c38
  · exact w_c39
  · exact w_c40
  · exact w_c41
  · exact w_c42
set_option maxRecDepth 65536 in
theorem w_t1 : (words1.take 24).all (fun c => isCode c || c.before args0 about1) = true := by decide +kernel
set_option maxRecDepth 65536 in
theorem w_t2 : ((words1.drop 24).take 24).all (fun c => isCode c || c.before args0 about1) = true := by decide +kernel
set_option maxRecDepth 65536 in
theorem w_t3 : (((words1.drop 24).drop 24).take 24).all (fun c => isCode c || c.before args0 about1) = true := by decide +kernel
set_option maxRecDepth 65536 in
theorem w_t4 : ((((words1.drop 24).drop 24).drop 24).take 24).all (fun c => isCode c || c.before args0 about1) = true := by decide +kernel
set_option maxRecDepth 65536 in
theorem w_t5 : (((((words1.drop 24).drop 24).drop 24).drop 24).take 24).all (fun c => isCode c || c.before args0 about1) = true := by decide +kernel
set_option maxRecDepth 65536 in
theorem w_t6 : ((((((words1.drop 24).drop 24).drop 24).drop 24).drop 24).take 24).all (fun c => isCode c || c.before args0 about1) = true := by decide +kernel
set_option maxRecDepth 65536 in
theorem w_t7 : (((((((words1.drop 24).drop 24).drop 24).drop 24).drop 24).drop 24).take 24).all (fun c => isCode c || c.before args0 about1) = true := by decide +kernel
set_option maxRecDepth 65536 in
theorem w_t8 : ((((((((words1.drop 24).drop 24).drop 24).drop 24).drop 24).drop 24).drop 24).take 24).all (fun c => isCode c || c.before args0 about1) = true := by decide +kernel
set_option maxRecDepth 65536 in
theorem w_t9 : (((((((((words1.drop 24).drop 24).drop 24).drop 24).drop 24).drop 24).drop 24).drop 24).take 24).all (fun c => isCode c || c.before args0 about1) = true := by decide +kernel
set_option maxRecDepth 65536 in
theorem w_t10 : (((((((((words1.drop 24).drop 24).drop 24).drop 24).drop 24).drop 24).drop 24).drop 24).drop 24).all (fun c => isCode c || c.before args0 about1) = true := by decide +kernel
theorem w_tables : (allAtoms (Jvm.Cond.code x code maxLocals ret :: tables_1)).before args0 about1 = true := by
  rw [allAtoms_all]
  show words1.all (fun c => c.before args0 about1) = true
  refine all_split ?_ w_codes
  rw [← List.take_append_drop 24 words1, List.all_append, w_t1, ← List.take_append_drop 24 (words1.drop 24), List.all_append, w_t2, ← List.take_append_drop 24 ((words1.drop 24).drop 24), List.all_append, w_t3, ← List.take_append_drop 24 (((words1.drop 24).drop 24).drop 24), List.all_append, w_t4, ← List.take_append_drop 24 ((((words1.drop 24).drop 24).drop 24).drop 24), List.all_append, w_t5, ← List.take_append_drop 24 (((((words1.drop 24).drop 24).drop 24).drop 24).drop 24), List.all_append, w_t6, ← List.take_append_drop 24 ((((((words1.drop 24).drop 24).drop 24).drop 24).drop 24).drop 24), List.all_append, w_t7, ← List.take_append_drop 24 (((((((words1.drop 24).drop 24).drop 24).drop 24).drop 24).drop 24).drop 24), List.all_append, w_t8, ← List.take_append_drop 24 ((((((((words1.drop 24).drop 24).drop 24).drop 24).drop 24).drop 24).drop 24).drop 24), List.all_append, w_t9, w_t10]
  rfl
set_option maxRecDepth 65536 in
theorem w_rest : rest_1_c.before args0 about1 = true := by decide +kernel
set_option maxRecDepth 65536 in
theorem w_case : (Jvm.Cond.and given_1 narrow_1).before args0 about1 = true := by decide +kernel
set_option maxRecDepth 65536 in
theorem w_consts : constsHeld consts_1 about1 := Jvm.Lit.constsHeldB_iff.mp (by decide +kernel)
theorem w_applies : (headSpec (Jvm.Cond.code x code maxLocals ret :: tables_1) room_1).applies x e0.platform about1 = true :=
  (Spec.applies_iff w_frames).mpr ⟨w_running, w_runnable, w_alone, w_named, w_hears, w_ripe, w_room, w_tables⟩
theorem atStart : AtStart classFile x code maxLocals ret World_1 tables_1 room_1 Calls_1 rest_1 Pre_1 launch0 p0 e0 about1 theMethod args0 below0 :=
  ⟨lists_1, trivial, launch0.admits_env _ _ _, launch0.least_env, fairChoices_fair.cas, fairChoices_fair.clock, w_frames, w_args, w_heap, w_applies, ⟨w_consts, trivial⟩, w_rest, w_case⟩
end start1
theorem witness_1 : WitnessClaimed_1 := ⟨start1.p0, start1.e0, start1.about1, start1.theMethod, start1.args0, start1.below0, start1.atStart⟩
end Jvm.Pilot.@@N@@
