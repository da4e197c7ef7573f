import JvmDerived
import JvmDerived.Pilot.@@N@@Statement
import JvmDerived.Pilot.@@N@@Code
set_option linter.unusedVariables false
set_option linter.unusedSimpArgs false
namespace Jvm.RoadKit
open Sem ClassFile Op Lib Jvm.Stand Jvm.Free Jvm.LawKit
section New
variable {p : Program} {l : Launch} {e : Env} {R : Room} {s : State} {m : MethodId} {args : Array Value} {below : List Frame} {meth : Method} {c : Code} {T : State} {locs : List Loc} {cells slots : Nat}
theorem retI (X : Stand p l e R s m args below meth c T locs cells slots) (hx : p.tables.exec = Jvm.exec) {pc : Nat} {Ls : Array Slot} {z : Int32} {rest : List Value} (hret : meth.sig.returnType = some .int) (hd : decode c.code pc = .ok (.ireturn, 1)) {fs : List Frame}
    (hl : ∀ (f : JFrame) (acts : List Action), f.method = m → f.locked = none → f.entered = [] → (doReturn e (T.setTop f) acts (some (.int z))).1 = T.setFrames fs) : Steps p.tables e below (T.setTop (mkF m pc Ls (.int z :: rest))) (T.setFrames fs) := by
  have hm' : T.vm.method? m = some meth := X.method'
  have hn : narrow .int (.int z) = .int z := rfl
  show Steps p.tables e below (T.setTop { method := m, pc := pc, locals := Ls, stack := _ :: rest, locked := none }) _
  jvm_step X.here [X.here.top, hx, hd, hm', hret, hn]
  first | (intro acts; rw [hl _ acts rfl rfl rfl]) | rw [hl _ _ rfl rfl rfl]
  exact Steps.refl _
end New
end Jvm.RoadKit
namespace Jvm.Pilot.@@N@@
open Jvm Jvm.ClassFile Sem Op Lib Jvm.Free Jvm.Stand Jvm.LawKit Jvm.RoadKit Bundle Jvm.Pilot.@@N@@.Jvm.D
abbrev St (p : Program) (e : Env) (below : List Frame) (T : State) (g : JFrame) (t : State) : Prop := Steps p.tables e below (T.setTop g) t
theorem hwi {Z : State} {a0 : Array Value} (hw : ∀ d ∈ tables_1, d.before a0 Z = true) (i : Nat) {d : Jvm.Cond} (h : tables_1[i]? = some d) : d.before a0 Z = true := hw d (List.mem_of_getElem? h)
theorem ltN {a b : Nat} (h : a < b) : a < b := h
theorem neN {a b : Nat} (h : ¬ (a = b)) : ¬ (a = b) := h
theorem own_bb (x : Int32) : (x.toInt8.toInt32).toInt8.toInt32 = x.toInt8.toInt32 := by simp
theorem d5_0 : decode jdk_52_method_21_code 0 = .ok (.iconst 0, 1) := by decide +kernel
theorem d5_1 : decode jdk_52_method_21_code 1 = .ok (.istore 5, 2) := by decide +kernel
theorem d5_3 : decode jdk_52_method_21_code 3 = .ok (.iload 5, 2) := by decide +kernel
theorem d5_5 : decode jdk_52_method_21_code 5 = .ok (.iload 4, 2) := by decide +kernel
theorem d5_7 : decode jdk_52_method_21_code 7 = .ok (.if_icmp .ge 37, 3) := by decide +kernel
theorem d5_10 : decode jdk_52_method_21_code 10 = .ok (.aload_n 0, 1) := by decide +kernel
theorem d5_11 : decode jdk_52_method_21_code 11 = .ok (.iload_n 1, 1) := by decide +kernel
theorem d5_12 : decode jdk_52_method_21_code 12 = .ok (.caload, 1) := by decide +kernel
theorem d5_13 : decode jdk_52_method_21_code 13 = .ok (.istore 6, 2) := by decide +kernel
theorem d5_15 : decode jdk_52_method_21_code 15 = .ok (.iload 6, 2) := by decide +kernel
theorem d5_17 : decode jdk_52_method_21_code 17 = .ok (.sipush 255, 3) := by decide +kernel
theorem d5_20 : decode jdk_52_method_21_code 20 = .ok (.if_icmp .le 6, 3) := by decide +kernel
theorem d5_26 : decode jdk_52_method_21_code 26 = .ok (.aload_n 2, 1) := by decide +kernel
theorem d5_27 : decode jdk_52_method_21_code 27 = .ok (.iload_n 3, 1) := by decide +kernel
theorem d5_28 : decode jdk_52_method_21_code 28 = .ok (.iload 6, 2) := by decide +kernel
theorem d5_30 : decode jdk_52_method_21_code 30 = .ok (.i2b, 1) := by decide +kernel
theorem d5_31 : decode jdk_52_method_21_code 31 = .ok (.bastore, 1) := by decide +kernel
theorem d5_32 : decode jdk_52_method_21_code 32 = .ok (.iinc 1 1, 3) := by decide +kernel
theorem d5_35 : decode jdk_52_method_21_code 35 = .ok (.iinc 3 1, 3) := by decide +kernel
theorem d5_38 : decode jdk_52_method_21_code 38 = .ok (.iinc 5 1, 3) := by decide +kernel
theorem d5_41 : decode jdk_52_method_21_code 41 = .ok (.goto (-38), 3) := by decide +kernel
theorem d5_44 : decode jdk_52_method_21_code 44 = .ok (.iload 4, 2) := by decide +kernel
theorem d5_46 : decode jdk_52_method_21_code 46 = .ok (.ireturn, 1) := by decide +kernel
theorem pn_5 : plainName "java/lang/StringUTF16" = true := by first | (simp [plainName, overriddenIn]; done) | decide +kernel
theorem ef_5_RIRII (m : MethodId) (x0 : Addr) (x1 : Int32) (x2 : Addr) (x3 : Int32) (x4 : Int32) : entryFrame m #[(.ref x0), (.int x1), (.ref x2), (.int x3), (.int x4)] 7 = mkF m 0 #[.val (.ref x0), .val (.int x1), .val (.ref x2), .val (.int x3), .val (.int x4), .unset, .unset] [] := by first | (simp [entryFrame, mkF, argsToLocals, Value.category]; done) | rfl
def Q_cmp5_2 (Z : State) (a1 : Addr) (a3 : Addr) (k_a1 : ClassId) (c0 : Int32) (c1 : Int32) (k_a3 : ClassId) (h0 : Heap) (n0 : Nat) (v : Option Value) (h : Heap) (L : List Loc) : Prop := v = some (.int 2) ∧ Fr n0 L ∧ Keep h0 h [a3] ∧ Arv Z h a3 k_a3 .byte (2 : Int32) [(.int (c0.toInt8.toInt32)), (.int (c1.toInt8.toInt32))] (.int 0)
set_option maxRecDepth 65536 in
set_option maxHeartbeats 40000000 in
theorem rm_cmp5_2 (l : Launch) (Z : State) (a0 : Array Value) (hw : ∀ d ∈ tables_1, d.before a0 Z = true) (ws : List Jvm.Cond) (a1 : Addr) (a3 : Addr) (k_a1 : ClassId) (c0 : Int32) (c1 : Int32) (k_a3 : ClassId) (h0 : Heap) (n0 : Nat) (Z0 : n0 ≤ h0.size) (V_a1 : Arv Z h0 a1 k_a1 .char (2 : Int32) [(.int c0), (.int c1)] (.int 0)) (V_a3 : Arv Z h0 a3 k_a3 .byte (2 : Int32) [(.int 0), (.int 0)] (.int 0)) (hne : ¬ (a1 = a3)) (hb_c0 : ¬ ((255 : Int32) < c0)) (hb_c1 : ¬ ((255 : Int32) < c1)) (g_a3 : n0 ≤ a3) (O0 : Old Z n0 h0) :
    MetFree l (⟨"java/lang/StringUTF16", "compress", "([CI[BII)I"⟩ : MethodName) (head1 (Jvm.Cond.code (⟨"java/lang/StringUTF16", "compress", "([CI[BII)I"⟩ : MethodName) jdk_52_method_21_code 7 (some .int) :: ws) ({ frames := 0, cells := 0, slots := 0, locals := 0 } : Room)) (fun a U => a = #[(.ref a1), (.int 0), (.ref a3), (.int 0), (.int 2)] ∧ Z.Warmed39 U.vm ∧ U.heap = h0) (fun _ _ _ _ _ => True) (fun _ U o U' => ∃ v L, o = .returned v ∧ Q_cmp5_2 Z a1 a3 k_a1 c0 c1 k_a3 h0 n0 v U'.heap L ∧ FrameEnd U o U' L ({ frames := 0, cells := 0, slots := 0, locals := 0 } : Room).cells ({ frames := 0, cells := 0, slots := 0, locals := 0 } : Room).slots) := by
  refine MetFree.of_bodySF (plainFor_of_name pn_5) hisR ?_
  intro p e s m args below meth c s₁ Bd hml0 hP hK
  obtain ⟨rfl, hZ, hh⟩ := hP
  have hx := Bd.exec
  have hby := Bd.bytes
  have hml : c.maxLocals = 7 := hml0
  have hown : s.vm.findClass "java/lang/StringUTF16" = some m.cls := findClass_of_methodNamed Bd.named
  have hnm := (name_of_methodNamed Bd.named Bd.method).1
  have X0 : Stand p l e ({ frames := 0, cells := 0, slots := 0, locals := 0 } : Room) s m #[(.ref a1), (.int 0), (.ref a3), (.int 0), (.int 2)] below meth c s₁ [] 0 0 := Stand.of_body Bd
  have e0 : s₁.heap = h0 := by rw [← hh, Bd.state]; rfl
  have N0 := Fr.nil n0
  have pre0 : ∀ t, Steps p.tables e below (s₁.setTop (mkF m 0 #[.val (.ref a1), .val (.int 0), .val (.ref a3), .val (.int 0), .val (.int 2), .unset, .unset] [])) t → Steps p.tables e below (s₁.setTop (entryFrame m #[(.ref a1), (.int 0), (.ref a3), (.int 0), (.int 2)] 7)) t := fun t k => castTop (ef_5_RIRII m a1 (0 : Int32) a3 (0 : Int32) (2 : Int32)) k
  obtain ⟨cl1, Ar1, q1, S1, M1, H1, G1⟩ := id V_a1
  have hin1 : ¬ ((0 : Int32) < 0 ∨ cl1.slots.size ≤ ((0 : Int32)).toNatClampNeg) := inb_of S1 ⟨by decide, by decide⟩
  have hat1 : cl1.slots[((0 : Int32)).toNatClampNeg]? = some (.int c0) := H1.at hin1 rfl
  obtain ⟨cl2, Ar2, q2, S2, M2, H2, G2⟩ := id V_a3
  have hin2 : ¬ ((0 : Int32) < 0 ∨ cl2.slots.size ≤ ((0 : Int32)).toNatClampNeg) := inb_of S2 ⟨by decide, by decide⟩
  obtain ⟨T3, h3, X3, e3, W3, st3⟩ := stB X0 hx hZ e0 Ar2 (j := (0 : Int32)) hin2 (g := (mkF m 31 #[.val (.ref a1), .val (.int 0), .val (.ref a3), .val (.int 0), .val (.int 2), .val (.int 0), .val (.int c0)] [(.int (c0.toInt8.toInt32)), (.int 0), (.ref a3)])) rfl rfl (hb hby d5_31)
  have N3 := Fr.snoc X3 N0 g_a3
  have V3 : Arv Z h3 a3 k_a3 .byte (2 : Int32) [(.int ((c0.toInt8.toInt32).toInt8.toInt32)), (.int 0)] (.int 0) := Arv.set Ar2 q2 S2 M2 H2 G2 (fits_nar_byte _) W3 0 rfl (Nat.le_of_ble_eq_true rfl)
  rw [own_bb] at V3
  have sz4 : h0.size ≤ h3.size := Nat.le_of_eq W3.size.symm
  have Z4 : n0 ≤ h3.size := Nat.le_trans Z0 sz4
  have O4 := O0.wr W3 g_a3
  have K4 : Keep h0 h3 [a3] := (Keep.refl h0 [a3]).wr W3 (Or.inl (List.mem_of_getElem? (i := 0) rfl))
  have fc5 := (V_a1.other W3 (fun q => hne q))
  obtain ⟨cl6, Ar6, q6, S6, M6, H6, G6⟩ := id fc5
  have hin6 : ¬ ((1 : Int32) < 0 ∨ cl6.slots.size ≤ ((1 : Int32)).toNatClampNeg) := inb_of S6 ⟨by decide, by decide⟩
  have hat6 : cl6.slots[((1 : Int32)).toNatClampNeg]? = some (.int c1) := H6.at hin6 rfl
  obtain ⟨cl7, Ar7, q7, S7, M7, H7, G7⟩ := id V3
  have hin7 : ¬ ((1 : Int32) < 0 ∨ cl7.slots.size ≤ ((1 : Int32)).toNatClampNeg) := inb_of S7 ⟨by decide, by decide⟩
  obtain ⟨T8, h8, X8, e8, W8, st8⟩ := stB X3 hx hZ e3 Ar7 (j := (1 : Int32)) hin7 (g := (mkF m 31 #[.val (.ref a1), .val (.int 1), .val (.ref a3), .val (.int 1), .val (.int 2), .val (.int 1), .val (.int c1)] [(.int (c1.toInt8.toInt32)), (.int 1), (.ref a3)])) rfl rfl (hb hby d5_31)
  have N8 := Fr.snoc X8 N3 g_a3
  have V8 : Arv Z h8 a3 k_a3 .byte (2 : Int32) [(.int (c0.toInt8.toInt32)), (.int ((c1.toInt8.toInt32).toInt8.toInt32))] (.int 0) := Arv.set Ar7 q7 S7 M7 H7 G7 (fits_nar_byte _) W8 1 rfl (Nat.le_of_ble_eq_true rfl)
  rw [own_bb] at V8
  have sz9 : h3.size ≤ h8.size := Nat.le_of_eq W8.size.symm
  have Z9 : n0 ≤ h8.size := Nat.le_trans Z4 sz9
  have O9 := O4.wr W8 g_a3
  have K9 : Keep h0 h8 [a3] := K4.wr W8 (Or.inl (List.mem_of_getElem? (i := 0) rfl))
  obtain ⟨fs, hr, hrun, hended, hW, hsame⟩ := X8.leave (v := some (.int 2)) (fun h => by rw [Bd.returns] at h; cases h)
  refine ⟨_, _, pre0 _ ?_, hrun, hended, _, _, rfl, ?_, ⟨_, rfl⟩, hW, hsame.mono (by decide) (by decide)⟩
  · show St p e below s₁ (mkF m 0 #[.val (.ref a1), .val (.int 0), .val (.ref a3), .val (.int 0), .val (.int 2), .unset, .unset] []) _
    refine XS.iconst X0.here hx rfl (hb hby d5_0) ?_
    show St p e below s₁ (mkF m 1 #[.val (.ref a1), .val (.int 0), .val (.ref a3), .val (.int 0), .val (.int 2), .unset, .unset] [(.int 0)]) _
    refine XS.istore X0.here hx rfl (hb hby d5_1) rfl (l' := #[.val (.ref a1), .val (.int 0), .val (.ref a3), .val (.int 0), .val (.int 2), .val (.int 0), .unset]) rfl ?_
    show St p e below s₁ (mkF m 3 #[.val (.ref a1), .val (.int 0), .val (.ref a3), .val (.int 0), .val (.int 2), .val (.int 0), .unset] []) _
    refine XS.iload X0.here hx rfl (hb hby d5_3) rfl ?_
    show St p e below s₁ (mkF m 5 #[.val (.ref a1), .val (.int 0), .val (.ref a3), .val (.int 0), .val (.int 2), .val (.int 0), .unset] [(.int 0)]) _
    refine XS.iload X0.here hx rfl (hb hby d5_5) rfl ?_
    show St p e below s₁ (mkF m 7 #[.val (.ref a1), .val (.int 0), .val (.ref a3), .val (.int 0), .val (.int 2), .val (.int 0), .unset] [(.int 2), (.int 0)]) _
    refine XS.icmpNo X0.here hx rfl (hb hby d5_7) rfl (tlt (by decide : (0 : Int32) < (2 : Int32))).2.1 ?_
    show St p e below s₁ (mkF m 10 #[.val (.ref a1), .val (.int 0), .val (.ref a3), .val (.int 0), .val (.int 2), .val (.int 0), .unset] []) _
    refine XS.aloadN X0.here hx rfl (hb hby d5_10) rfl rfl ?_
    show St p e below s₁ (mkF m 11 #[.val (.ref a1), .val (.int 0), .val (.ref a3), .val (.int 0), .val (.int 2), .val (.int 0), .unset] [(.ref a1)]) _
    refine XS.iloadN X0.here hx rfl (hb hby d5_11) rfl ?_
    show St p e below s₁ (mkF m 12 #[.val (.ref a1), .val (.int 0), .val (.ref a3), .val (.int 0), .val (.int 2), .val (.int 0), .unset] [(.int 0), (.ref a1)]) _
    refine X0.caload hx (j := (0 : Int32)) (v := (.int c0)) (by rw [e0]; exact Ar1.1) (State.isArrayOf_alike hZ.alike Ar1.2.1) Ar1.2.2 hin1 hat1 (g := (mkF m 12 #[.val (.ref a1), .val (.int 0), .val (.ref a3), .val (.int 0), .val (.int 2), .val (.int 0), .unset] [(.int 0), (.ref a1)])) rfl rfl (hb hby d5_12) _ ?_
    show St p e below s₁ (mkF m 13 #[.val (.ref a1), .val (.int 0), .val (.ref a3), .val (.int 0), .val (.int 2), .val (.int 0), .unset] [(.int c0)]) _
    refine XS.istore X0.here hx rfl (hb hby d5_13) rfl (l' := #[.val (.ref a1), .val (.int 0), .val (.ref a3), .val (.int 0), .val (.int 2), .val (.int 0), .val (.int c0)]) rfl ?_
    show St p e below s₁ (mkF m 15 #[.val (.ref a1), .val (.int 0), .val (.ref a3), .val (.int 0), .val (.int 2), .val (.int 0), .val (.int c0)] []) _
    refine XS.iload X0.here hx rfl (hb hby d5_15) rfl ?_
    show St p e below s₁ (mkF m 17 #[.val (.ref a1), .val (.int 0), .val (.ref a3), .val (.int 0), .val (.int 2), .val (.int 0), .val (.int c0)] [(.int c0)]) _
    refine XS.sipush X0.here hx rfl (hb hby d5_17) ?_
    show St p e below s₁ (mkF m 20 #[.val (.ref a1), .val (.int 0), .val (.ref a3), .val (.int 0), .val (.int 2), .val (.int 0), .val (.int c0)] [(.int 255), (.int c0)]) _
    refine XS.icmpYes X0.here hx rfl (pc0 := 20) (pc' := 26) rfl (hb hby d5_20) rfl (flt hb_c0).2.2.2 (by decide) (by decide) ?_
    show St p e below s₁ (mkF m 26 #[.val (.ref a1), .val (.int 0), .val (.ref a3), .val (.int 0), .val (.int 2), .val (.int 0), .val (.int c0)] []) _
    refine XS.aloadN X0.here hx rfl (hb hby d5_26) rfl rfl ?_
    show St p e below s₁ (mkF m 27 #[.val (.ref a1), .val (.int 0), .val (.ref a3), .val (.int 0), .val (.int 2), .val (.int 0), .val (.int c0)] [(.ref a3)]) _
    refine XS.iloadN X0.here hx rfl (hb hby d5_27) rfl ?_
    show St p e below s₁ (mkF m 28 #[.val (.ref a1), .val (.int 0), .val (.ref a3), .val (.int 0), .val (.int 2), .val (.int 0), .val (.int c0)] [(.int 0), (.ref a3)]) _
    refine XS.iload X0.here hx rfl (hb hby d5_28) rfl ?_
    show St p e below s₁ (mkF m 30 #[.val (.ref a1), .val (.int 0), .val (.ref a3), .val (.int 0), .val (.int 2), .val (.int 0), .val (.int c0)] [(.int c0), (.int 0), (.ref a3)]) _
    refine XS.i2b X0.here hx rfl (hb hby d5_30) rfl ?_
    show St p e below s₁ (mkF m 31 #[.val (.ref a1), .val (.int 0), .val (.ref a3), .val (.int 0), .val (.int 2), .val (.int 0), .val (.int c0)] [(.int (c0.toInt8.toInt32)), (.int 0), (.ref a3)]) _
    refine st3 _ ?_
    show St p e below T3 (mkF m 32 #[.val (.ref a1), .val (.int 0), .val (.ref a3), .val (.int 0), .val (.int 2), .val (.int 0), .val (.int c0)] []) _
    refine XS.iinc X3.here hx rfl (hb hby d5_32) rfl (l' := #[.val (.ref a1), .val (.int ((0 : Int32) + (1 : Int32))), .val (.ref a3), .val (.int 0), .val (.int 2), .val (.int 0), .val (.int c0)]) rfl ?_
    show St p e below T3 (mkF m 35 #[.val (.ref a1), .val (.int ((0 : Int32) + (1 : Int32))), .val (.ref a3), .val (.int 0), .val (.int 2), .val (.int 0), .val (.int c0)] []) _
    rw [(by decide : ((0 : Int32) + (1 : Int32)) = (1 : Int32))]
    show St p e below T3 (mkF m 35 #[.val (.ref a1), .val (.int 1), .val (.ref a3), .val (.int 0), .val (.int 2), .val (.int 0), .val (.int c0)] []) _
    refine XS.iinc X3.here hx rfl (hb hby d5_35) rfl (l' := #[.val (.ref a1), .val (.int 1), .val (.ref a3), .val (.int ((0 : Int32) + (1 : Int32))), .val (.int 2), .val (.int 0), .val (.int c0)]) rfl ?_
    show St p e below T3 (mkF m 38 #[.val (.ref a1), .val (.int 1), .val (.ref a3), .val (.int ((0 : Int32) + (1 : Int32))), .val (.int 2), .val (.int 0), .val (.int c0)] []) _
    rw [(by decide : ((0 : Int32) + (1 : Int32)) = (1 : Int32))]
    show St p e below T3 (mkF m 38 #[.val (.ref a1), .val (.int 1), .val (.ref a3), .val (.int 1), .val (.int 2), .val (.int 0), .val (.int c0)] []) _
    refine XS.iinc X3.here hx rfl (hb hby d5_38) rfl (l' := #[.val (.ref a1), .val (.int 1), .val (.ref a3), .val (.int 1), .val (.int 2), .val (.int ((0 : Int32) + (1 : Int32))), .val (.int c0)]) rfl ?_
    show St p e below T3 (mkF m 41 #[.val (.ref a1), .val (.int 1), .val (.ref a3), .val (.int 1), .val (.int 2), .val (.int ((0 : Int32) + (1 : Int32))), .val (.int c0)] []) _
    rw [(by decide : ((0 : Int32) + (1 : Int32)) = (1 : Int32))]
    show St p e below T3 (mkF m 41 #[.val (.ref a1), .val (.int 1), .val (.ref a3), .val (.int 1), .val (.int 2), .val (.int 1), .val (.int c0)] []) _
    refine XS.goto X3.here hx rfl (pc0 := 41) (pc' := 3) rfl (hb hby d5_41) (by decide) (by decide) ?_
    show St p e below T3 (mkF m 3 #[.val (.ref a1), .val (.int 1), .val (.ref a3), .val (.int 1), .val (.int 2), .val (.int 1), .val (.int c0)] []) _
    refine XS.iload X3.here hx rfl (hb hby d5_3) rfl ?_
    show St p e below T3 (mkF m 5 #[.val (.ref a1), .val (.int 1), .val (.ref a3), .val (.int 1), .val (.int 2), .val (.int 1), .val (.int c0)] [(.int 1)]) _
    refine XS.iload X3.here hx rfl (hb hby d5_5) rfl ?_
    show St p e below T3 (mkF m 7 #[.val (.ref a1), .val (.int 1), .val (.ref a3), .val (.int 1), .val (.int 2), .val (.int 1), .val (.int c0)] [(.int 2), (.int 1)]) _
    refine XS.icmpNo X3.here hx rfl (hb hby d5_7) rfl (tlt (by decide : (1 : Int32) < (2 : Int32))).2.1 ?_
    show St p e below T3 (mkF m 10 #[.val (.ref a1), .val (.int 1), .val (.ref a3), .val (.int 1), .val (.int 2), .val (.int 1), .val (.int c0)] []) _
    refine XS.aloadN X3.here hx rfl (hb hby d5_10) rfl rfl ?_
    show St p e below T3 (mkF m 11 #[.val (.ref a1), .val (.int 1), .val (.ref a3), .val (.int 1), .val (.int 2), .val (.int 1), .val (.int c0)] [(.ref a1)]) _
    refine XS.iloadN X3.here hx rfl (hb hby d5_11) rfl ?_
    show St p e below T3 (mkF m 12 #[.val (.ref a1), .val (.int 1), .val (.ref a3), .val (.int 1), .val (.int 2), .val (.int 1), .val (.int c0)] [(.int 1), (.ref a1)]) _
    refine X3.caload hx (j := (1 : Int32)) (v := (.int c1)) (by rw [e3]; exact Ar6.1) (State.isArrayOf_alike hZ.alike Ar6.2.1) Ar6.2.2 hin6 hat6 (g := (mkF m 12 #[.val (.ref a1), .val (.int 1), .val (.ref a3), .val (.int 1), .val (.int 2), .val (.int 1), .val (.int c0)] [(.int 1), (.ref a1)])) rfl rfl (hb hby d5_12) _ ?_
    show St p e below T3 (mkF m 13 #[.val (.ref a1), .val (.int 1), .val (.ref a3), .val (.int 1), .val (.int 2), .val (.int 1), .val (.int c0)] [(.int c1)]) _
    refine XS.istore X3.here hx rfl (hb hby d5_13) rfl (l' := #[.val (.ref a1), .val (.int 1), .val (.ref a3), .val (.int 1), .val (.int 2), .val (.int 1), .val (.int c1)]) rfl ?_
    show St p e below T3 (mkF m 15 #[.val (.ref a1), .val (.int 1), .val (.ref a3), .val (.int 1), .val (.int 2), .val (.int 1), .val (.int c1)] []) _
    refine XS.iload X3.here hx rfl (hb hby d5_15) rfl ?_
    show St p e below T3 (mkF m 17 #[.val (.ref a1), .val (.int 1), .val (.ref a3), .val (.int 1), .val (.int 2), .val (.int 1), .val (.int c1)] [(.int c1)]) _
    refine XS.sipush X3.here hx rfl (hb hby d5_17) ?_
    show St p e below T3 (mkF m 20 #[.val (.ref a1), .val (.int 1), .val (.ref a3), .val (.int 1), .val (.int 2), .val (.int 1), .val (.int c1)] [(.int 255), (.int c1)]) _
    refine XS.icmpYes X3.here hx rfl (pc0 := 20) (pc' := 26) rfl (hb hby d5_20) rfl (flt hb_c1).2.2.2 (by decide) (by decide) ?_
    show St p e below T3 (mkF m 26 #[.val (.ref a1), .val (.int 1), .val (.ref a3), .val (.int 1), .val (.int 2), .val (.int 1), .val (.int c1)] []) _
    refine XS.aloadN X3.here hx rfl (hb hby d5_26) rfl rfl ?_
    show St p e below T3 (mkF m 27 #[.val (.ref a1), .val (.int 1), .val (.ref a3), .val (.int 1), .val (.int 2), .val (.int 1), .val (.int c1)] [(.ref a3)]) _
    refine XS.iloadN X3.here hx rfl (hb hby d5_27) rfl ?_
    show St p e below T3 (mkF m 28 #[.val (.ref a1), .val (.int 1), .val (.ref a3), .val (.int 1), .val (.int 2), .val (.int 1), .val (.int c1)] [(.int 1), (.ref a3)]) _
    refine XS.iload X3.here hx rfl (hb hby d5_28) rfl ?_
    show St p e below T3 (mkF m 30 #[.val (.ref a1), .val (.int 1), .val (.ref a3), .val (.int 1), .val (.int 2), .val (.int 1), .val (.int c1)] [(.int c1), (.int 1), (.ref a3)]) _
    refine XS.i2b X3.here hx rfl (hb hby d5_30) rfl ?_
    show St p e below T3 (mkF m 31 #[.val (.ref a1), .val (.int 1), .val (.ref a3), .val (.int 1), .val (.int 2), .val (.int 1), .val (.int c1)] [(.int (c1.toInt8.toInt32)), (.int 1), (.ref a3)]) _
    refine st8 _ ?_
    show St p e below T8 (mkF m 32 #[.val (.ref a1), .val (.int 1), .val (.ref a3), .val (.int 1), .val (.int 2), .val (.int 1), .val (.int c1)] []) _
    refine XS.iinc X8.here hx rfl (hb hby d5_32) rfl (l' := #[.val (.ref a1), .val (.int ((1 : Int32) + (1 : Int32))), .val (.ref a3), .val (.int 1), .val (.int 2), .val (.int 1), .val (.int c1)]) rfl ?_
    show St p e below T8 (mkF m 35 #[.val (.ref a1), .val (.int ((1 : Int32) + (1 : Int32))), .val (.ref a3), .val (.int 1), .val (.int 2), .val (.int 1), .val (.int c1)] []) _
    rw [(by decide : ((1 : Int32) + (1 : Int32)) = (2 : Int32))]
    show St p e below T8 (mkF m 35 #[.val (.ref a1), .val (.int 2), .val (.ref a3), .val (.int 1), .val (.int 2), .val (.int 1), .val (.int c1)] []) _
    refine XS.iinc X8.here hx rfl (hb hby d5_35) rfl (l' := #[.val (.ref a1), .val (.int 2), .val (.ref a3), .val (.int ((1 : Int32) + (1 : Int32))), .val (.int 2), .val (.int 1), .val (.int c1)]) rfl ?_
    show St p e below T8 (mkF m 38 #[.val (.ref a1), .val (.int 2), .val (.ref a3), .val (.int ((1 : Int32) + (1 : Int32))), .val (.int 2), .val (.int 1), .val (.int c1)] []) _
    rw [(by decide : ((1 : Int32) + (1 : Int32)) = (2 : Int32))]
    show St p e below T8 (mkF m 38 #[.val (.ref a1), .val (.int 2), .val (.ref a3), .val (.int 2), .val (.int 2), .val (.int 1), .val (.int c1)] []) _
    refine XS.iinc X8.here hx rfl (hb hby d5_38) rfl (l' := #[.val (.ref a1), .val (.int 2), .val (.ref a3), .val (.int 2), .val (.int 2), .val (.int ((1 : Int32) + (1 : Int32))), .val (.int c1)]) rfl ?_
    show St p e below T8 (mkF m 41 #[.val (.ref a1), .val (.int 2), .val (.ref a3), .val (.int 2), .val (.int 2), .val (.int ((1 : Int32) + (1 : Int32))), .val (.int c1)] []) _
    rw [(by decide : ((1 : Int32) + (1 : Int32)) = (2 : Int32))]
    show St p e below T8 (mkF m 41 #[.val (.ref a1), .val (.int 2), .val (.ref a3), .val (.int 2), .val (.int 2), .val (.int 2), .val (.int c1)] []) _
    refine XS.goto X8.here hx rfl (pc0 := 41) (pc' := 3) rfl (hb hby d5_41) (by decide) (by decide) ?_
    show St p e below T8 (mkF m 3 #[.val (.ref a1), .val (.int 2), .val (.ref a3), .val (.int 2), .val (.int 2), .val (.int 2), .val (.int c1)] []) _
    refine XS.iload X8.here hx rfl (hb hby d5_3) rfl ?_
    show St p e below T8 (mkF m 5 #[.val (.ref a1), .val (.int 2), .val (.ref a3), .val (.int 2), .val (.int 2), .val (.int 2), .val (.int c1)] [(.int 2)]) _
    refine XS.iload X8.here hx rfl (hb hby d5_5) rfl ?_
    show St p e below T8 (mkF m 7 #[.val (.ref a1), .val (.int 2), .val (.ref a3), .val (.int 2), .val (.int 2), .val (.int 2), .val (.int c1)] [(.int 2), (.int 2)]) _
    refine XS.icmpYes X8.here hx rfl (pc0 := 7) (pc' := 44) rfl (hb hby d5_7) rfl (flt (by decide : ¬ ((2 : Int32) < (2 : Int32)))).2.1 (by decide) (by decide) ?_
    show St p e below T8 (mkF m 44 #[.val (.ref a1), .val (.int 2), .val (.ref a3), .val (.int 2), .val (.int 2), .val (.int 2), .val (.int c1)] []) _
    refine XS.iload X8.here hx rfl (hb hby d5_44) rfl ?_
    show St p e below T8 (mkF m 46 #[.val (.ref a1), .val (.int 2), .val (.ref a3), .val (.int 2), .val (.int 2), .val (.int 2), .val (.int c1)] [(.int 2)]) _
    exact retI X8 hx Bd.returns (hb hby d5_46) hr
  · show Q_cmp5_2 Z a1 a3 k_a1 c0 c1 k_a3 h0 n0 _ T8.heap _
    rw [e8]
    exact ⟨rfl, N8, K9, V8⟩
theorem pd_CI_BII_I_688 : parseMethodDescriptor "([CI[BII)I" = some ⟨[(.array .char), .int, (.array .byte), .int, .int], some .int⟩ := by decide +kernel
theorem d4_0 : decode jdk_52_method_16_code 0 = .ok (.iload_n 2, 1) := by decide +kernel
theorem d4_1 : decode jdk_52_method_16_code 1 = .ok (.newarray .byte, 2) := by decide +kernel
theorem d4_3 : decode jdk_52_method_16_code 3 = .ok (.astore_n 3, 1) := by decide +kernel
theorem d4_4 : decode jdk_52_method_16_code 4 = .ok (.aload_n 0, 1) := by decide +kernel
theorem d4_5 : decode jdk_52_method_16_code 5 = .ok (.iload_n 1, 1) := by decide +kernel
theorem d4_6 : decode jdk_52_method_16_code 6 = .ok (.aload_n 3, 1) := by decide +kernel
theorem d4_7 : decode jdk_52_method_16_code 7 = .ok (.iconst 0, 1) := by decide +kernel
theorem d4_8 : decode jdk_52_method_16_code 8 = .ok (.iload_n 2, 1) := by decide +kernel
theorem d4_9 : decode jdk_52_method_16_code 9 = .ok (.invokestatic 115, 3) := by decide +kernel
theorem d4_12 : decode jdk_52_method_16_code 12 = .ok (.istore 4, 2) := by decide +kernel
theorem d4_14 : decode jdk_52_method_16_code 14 = .ok (.iload 4, 2) := by decide +kernel
theorem d4_16 : decode jdk_52_method_16_code 16 = .ok (.iload_n 2, 1) := by decide +kernel
theorem d4_17 : decode jdk_52_method_16_code 17 = .ok (.if_icmp .eq 40, 3) := by decide +kernel
theorem d4_57 : decode jdk_52_method_16_code 57 = .ok (.aload_n 3, 1) := by decide +kernel
theorem d4_58 : decode jdk_52_method_16_code 58 = .ok (.areturn, 1) := by decide +kernel
theorem pn_4 : plainName "java/lang/StringUTF16" = true := by first | (simp [plainName, overriddenIn]; done) | decide +kernel
theorem ef_4_RII (m : MethodId) (x0 : Addr) (x1 : Int32) (x2 : Int32) : entryFrame m #[(.ref x0), (.int x1), (.int x2)] 6 = mkF m 0 #[.val (.ref x0), .val (.int x1), .val (.int x2), .unset, .unset, .unset] [] := by first | (simp [entryFrame, mkF, argsToLocals, Value.category]; done) | rfl
def Q_cmp3_2 (Z : State) (a1 : Addr) (k_a1 : ClassId) (c0 : Int32) (c1 : Int32) (h0 : Heap) (n0 : Nat) (v : Option Value) (h : Heap) (L : List Loc) : Prop := ∃ (t : Addr) (kt : ClassId), v = some (.ref t) ∧ Fr n0 L ∧ Keep h0 h [] ∧ h0.size ≤ t ∧ Arv Z h t kt .byte (2 : Int32) [(.int (c0.toInt8.toInt32)), (.int (c1.toInt8.toInt32))] (.int 0)
set_option maxRecDepth 65536 in
set_option maxHeartbeats 40000000 in
theorem rm_cmp3_2 (l : Launch) (Z : State) (a0 : Array Value) (hw : ∀ d ∈ tables_1, d.before a0 Z = true) (ws : List Jvm.Cond) (a1 : Addr) (k_a1 : ClassId) (c0 : Int32) (c1 : Int32) (h0 : Heap) (n0 : Nat) (Z0 : n0 ≤ h0.size) (V_a1 : Arv Z h0 a1 k_a1 .char (2 : Int32) [(.int c0), (.int c1)] (.int 0)) (hb_c0 : ¬ ((255 : Int32) < c0)) (hb_c1 : ¬ ((255 : Int32) < c1)) (O0 : Old Z n0 h0) :
    MetFree l (⟨"java/lang/StringUTF16", "compress", "([CII)[B"⟩ : MethodName) (head1 (Jvm.Cond.code (⟨"java/lang/StringUTF16", "compress", "([CII)[B"⟩ : MethodName) jdk_52_method_16_code 6 (some (.array .byte)) :: ws) ({ frames := 1, cells := 1, slots := 2, locals := 18 } : Room)) (fun a U => a = #[(.ref a1), (.int 0), (.int 2)] ∧ Z.Warmed39 U.vm ∧ U.heap = h0) (fun _ _ _ _ _ => True) (fun _ U o U' => ∃ v L, o = .returned v ∧ Q_cmp3_2 Z a1 k_a1 c0 c1 h0 n0 v U'.heap L ∧ FrameEnd U o U' L ({ frames := 1, cells := 1, slots := 2, locals := 18 } : Room).cells ({ frames := 1, cells := 1, slots := 2, locals := 18 } : Room).slots) := by
  refine MetFree.of_bodySF (plainFor_of_name pn_4) hisR ?_
  intro p e s m args below meth c s₁ Bd hml0 hP hK
  obtain ⟨rfl, hZ, hh⟩ := hP
  have hx := Bd.exec
  have hby := Bd.bytes
  have hml : c.maxLocals = 6 := hml0
  have hown : s.vm.findClass "java/lang/StringUTF16" = some m.cls := findClass_of_methodNamed Bd.named
  have hnm := (name_of_methodNamed Bd.named Bd.method).1
  have X0 : Stand p l e ({ frames := 1, cells := 1, slots := 2, locals := 18 } : Room) s m #[(.ref a1), (.int 0), (.int 2)] below meth c s₁ [] 0 0 := Stand.of_body Bd
  have e0 : s₁.heap = h0 := by rw [← hh, Bd.state]; rfl
  have N0 := Fr.nil n0
  have pre0 : ∀ t, Steps p.tables e below (s₁.setTop (mkF m 0 #[.val (.ref a1), .val (.int 0), .val (.int 2), .unset, .unset, .unset] [])) t → Steps p.tables e below (s₁.setTop (entryFrame m #[(.ref a1), (.int 0), (.int 2)] 6)) t := fun t k => castTop (ef_4_RII m a1 (0 : Int32) (2 : Int32)) k
  obtain ⟨T1, h1, k1, X1, e1, E1, A1, st1⟩ := newP X0 hx hZ (hwi hw 19 rfl) e0 (g := (mkF m 1 #[.val (.ref a1), .val (.int 0), .val (.int 2), .unset, .unset, .unset] [(.int 2)])) rfl (hb hby d4_1) rfl (by decide) (cap := 2) (by decide) (by decide) (by decide) (by decide)
  obtain ⟨b1, g1⟩ : ∃ z, z = h0.size := ⟨_, rfl⟩
  rw [← g1] at A1 st1
  have bn_b1 : h0.size ≤ b1 := Nat.le_of_eq g1.symm
  have sz2 : h0.size ≤ h1.size := E1.1
  have Z2 : n0 ≤ h1.size := Nat.le_trans Z0 sz2
  have O2 := O0.ext E1
  have K2 : Keep h0 h1 [] := (Keep.refl h0 []).ext E1
  have V1 : Arv Z h1 b1 k1 .byte (2 : Int32) [(.int 0), (.int 0)] (.int 0) := (Arv.new A1 (by decide)).pad (pad_rep [] (.int 0) 2)
  have fc4 := (V_a1.ext E1)
  obtain ⟨_, _, ⟨T3, L3, k3, n3⟩, -, X3, ⟨Lc3, hQ3, l3, y3, z3⟩, st3⟩ := Jvm.LawKit.callS X1 hx (y := (⟨"java/lang/StringUTF16", "compress", "([CI[BII)I"⟩ : MethodName)) hown (mvT hZ (hwi hw 20 rfl)) (mvT hZ (hwi hw 21 rfl)) (mvT hZ (hwi hw 17 rfl)) (mvT hZ (hwi hw 22 rfl)) (by decide) (backOf (W := 0) (rm_cmp5_2 l Z a0 hw [] a1 b1 k_a1 c0 c1 k1 h1 n0 Z2 fc4 V1 (neN (by have := ltN V_a1.lt; have := ltN V1.lt; omega)) hb_c0 hb_c1 (Nat.le_trans Z0 bn_b1) O2) hZ (hwi hw 22 rfl) (hwi hw 17 rfl) (by decide) (by decide)) (g := (mkF m 9 #[.val (.ref a1), .val (.int 0), .val (.int 2), .val (.ref b1), .unset, .unset] [(.int 2), (.int 0), (.ref b1), (.int 0), (.ref a1)])) rfl (by rw [hml]; rfl) (argsL := [(.ref a1), (.int 0), (.ref b1), (.int 0), (.int 2)]) (rest := []) (lenOf pd_CI_BII_I_688 rfl) rfl (by show 2 * 0 + _ ≤ _; exact Nat.le_of_eq rfl) (hb hby d4_9) (fun _ _ => ⟨rfl, e1, (by decide : 1 + 0 ≤ _), (by decide : 2 + 0 ≤ _)⟩)
  dsimp only [Pt.U, Pt.locs, Pt.cells, Pt.slots] at X3 l3 y3 z3 st3 hQ3
  subst l3 y3 z3
  obtain ⟨rfl, N3q, Kc3, g3_0⟩ := hQ3
  have N3 := Fr.app N0 N3q
  have sz5 : h1.size ≤ T3.heap.size := Kc3.1
  have Z5 : n0 ≤ T3.heap.size := Nat.le_trans Z2 sz5
  have O5 := O2.keep Kc3 (allS (Nat.le_trans Z0 bn_b1) all0)
  have K5 : Keep h0 T3.heap [] := K2.trans Kc3 (allS (Or.inr bn_b1) (all0))
  obtain ⟨fs, hr, hrun, hended, hW, hsame⟩ := X3.leave (v := some (.ref b1)) (fun h => by rw [Bd.returns] at h; cases h)
  refine ⟨_, _, pre0 _ ?_, hrun, hended, _, _, rfl, ?_, ⟨_, rfl⟩, hW, hsame.mono (by decide) (by decide)⟩
  · show St p e below s₁ (mkF m 0 #[.val (.ref a1), .val (.int 0), .val (.int 2), .unset, .unset, .unset] []) _
    refine XS.iloadN X0.here hx rfl (hb hby d4_0) rfl ?_
    show St p e below s₁ (mkF m 1 #[.val (.ref a1), .val (.int 0), .val (.int 2), .unset, .unset, .unset] [(.int 2)]) _
    refine st1 _ ?_
    show St p e below T1 (mkF m 3 #[.val (.ref a1), .val (.int 0), .val (.int 2), .unset, .unset, .unset] [(.ref b1)]) _
    refine XS.astoreN X1.here hx rfl (hb hby d4_3) rfl rfl (l' := #[.val (.ref a1), .val (.int 0), .val (.int 2), .val (.ref b1), .unset, .unset]) rfl ?_
    show St p e below T1 (mkF m 4 #[.val (.ref a1), .val (.int 0), .val (.int 2), .val (.ref b1), .unset, .unset] []) _
    refine XS.aloadN X1.here hx rfl (hb hby d4_4) rfl rfl ?_
    show St p e below T1 (mkF m 5 #[.val (.ref a1), .val (.int 0), .val (.int 2), .val (.ref b1), .unset, .unset] [(.ref a1)]) _
    refine XS.iloadN X1.here hx rfl (hb hby d4_5) rfl ?_
    show St p e below T1 (mkF m 6 #[.val (.ref a1), .val (.int 0), .val (.int 2), .val (.ref b1), .unset, .unset] [(.int 0), (.ref a1)]) _
    refine XS.aloadN X1.here hx rfl (hb hby d4_6) rfl rfl ?_
    show St p e below T1 (mkF m 7 #[.val (.ref a1), .val (.int 0), .val (.int 2), .val (.ref b1), .unset, .unset] [(.ref b1), (.int 0), (.ref a1)]) _
    refine XS.iconst X1.here hx rfl (hb hby d4_7) ?_
    show St p e below T1 (mkF m 8 #[.val (.ref a1), .val (.int 0), .val (.int 2), .val (.ref b1), .unset, .unset] [(.int 0), (.ref b1), (.int 0), (.ref a1)]) _
    refine XS.iloadN X1.here hx rfl (hb hby d4_8) rfl ?_
    show St p e below T1 (mkF m 9 #[.val (.ref a1), .val (.int 0), .val (.int 2), .val (.ref b1), .unset, .unset] [(.int 2), (.int 0), (.ref b1), (.int 0), (.ref a1)]) _
    refine st3 _ ?_
    show St p e below T3 (mkF m 12 #[.val (.ref a1), .val (.int 0), .val (.int 2), .val (.ref b1), .unset, .unset] [(.int 2)]) _
    refine XS.istore X3.here hx rfl (hb hby d4_12) rfl (l' := #[.val (.ref a1), .val (.int 0), .val (.int 2), .val (.ref b1), .val (.int 2), .unset]) rfl ?_
    show St p e below T3 (mkF m 14 #[.val (.ref a1), .val (.int 0), .val (.int 2), .val (.ref b1), .val (.int 2), .unset] []) _
    refine XS.iload X3.here hx rfl (hb hby d4_14) rfl ?_
    show St p e below T3 (mkF m 16 #[.val (.ref a1), .val (.int 0), .val (.int 2), .val (.ref b1), .val (.int 2), .unset] [(.int 2)]) _
    refine XS.iloadN X3.here hx rfl (hb hby d4_16) rfl ?_
    show St p e below T3 (mkF m 17 #[.val (.ref a1), .val (.int 0), .val (.int 2), .val (.ref b1), .val (.int 2), .unset] [(.int 2), (.int 2)]) _
    refine XS.icmpYes X3.here hx rfl (pc0 := 17) (pc' := 57) rfl (hb hby d4_17) rfl (teq (by decide : (2 : Int32) = (2 : Int32))).1 (by decide) (by decide) ?_
    show St p e below T3 (mkF m 57 #[.val (.ref a1), .val (.int 0), .val (.int 2), .val (.ref b1), .val (.int 2), .unset] []) _
    refine XS.aloadN X3.here hx rfl (hb hby d4_57) rfl rfl ?_
    show St p e below T3 (mkF m 58 #[.val (.ref a1), .val (.int 0), .val (.int 2), .val (.ref b1), .val (.int 2), .unset] [(.ref b1)]) _
    jvm_step X3.here [X3.here.top, hx, (hb hby d4_58), X3.method', Bd.returns, Value.isRef, FieldType.isReference]
    first | (intro acts; rw [hr _ acts rfl rfl rfl]) | rw [hr _ _ rfl rfl rfl]
    exact Steps.refl _
  · show Q_cmp3_2 Z a1 k_a1 c0 c1 h0 n0 _ T3.heap _
    exact ⟨b1, k1, rfl, N3, K5, bn_b1, g3_0⟩
theorem d6_0 : decode jdk_52_method_15_code 0 = .ok (.iload_n 1, 1) := by decide +kernel
theorem d6_1 : decode jdk_52_method_15_code 1 = .ok (.aload_n 0, 1) := by decide +kernel
theorem d6_2 : decode jdk_52_method_15_code 2 = .ok (.arraylength, 1) := by decide +kernel
theorem d6_3 : decode jdk_52_method_15_code 3 = .ok (.isub, 1) := by decide +kernel
theorem d6_4 : decode jdk_52_method_15_code 4 = .ok (.bipush 31, 2) := by decide +kernel
theorem d6_6 : decode jdk_52_method_15_code 6 = .ok (.iushr, 1) := by decide +kernel
theorem d6_7 : decode jdk_52_method_15_code 7 = .ok (.i2b, 1) := by decide +kernel
theorem d6_8 : decode jdk_52_method_15_code 8 = .ok (.ireturn, 1) := by decide +kernel
theorem pn_6 : plainName "java/lang/StringUTF16" = true := by first | (simp [plainName, overriddenIn]; done) | decide +kernel
theorem ef_6_RI (m : MethodId) (x0 : Addr) (x1 : Int32) : entryFrame m #[(.ref x0), (.int x1)] 2 = mkF m 0 #[.val (.ref x0), .val (.int x1)] [] := by first | (simp [entryFrame, mkF, argsToLocals, Value.category]; done) | rfl
def Q_cod_2 (Z : State) (a1 : Addr) (k_a1 : ClassId) (by0 : Int32) (by1 : Int32) (h0 : Heap) (n0 : Nat) (v : Option Value) (h : Heap) (L : List Loc) : Prop := v = some (.int 0) ∧ Fr n0 L ∧ h = h0
set_option maxRecDepth 65536 in
set_option maxHeartbeats 40000000 in
theorem rm_cod_2 (l : Launch) (Z : State) (a0 : Array Value) (hw : ∀ d ∈ tables_1, d.before a0 Z = true) (ws : List Jvm.Cond) (a1 : Addr) (k_a1 : ClassId) (by0 : Int32) (by1 : Int32) (h0 : Heap) (n0 : Nat) (Z0 : n0 ≤ h0.size) (V_a1 : Arv Z h0 a1 k_a1 .byte (2 : Int32) [(.int by0), (.int by1)] (.int 0)) :
    MetFree l (⟨"java/lang/StringUTF16", "coderFromArrayLen", "([BI)B"⟩ : MethodName) (head1 (Jvm.Cond.code (⟨"java/lang/StringUTF16", "coderFromArrayLen", "([BI)B"⟩ : MethodName) jdk_52_method_15_code 2 (some .byte) :: ws) ({ frames := 0, cells := 0, slots := 0, locals := 0 } : Room)) (fun a U => a = #[(.ref a1), (.int 2)] ∧ Z.Warmed39 U.vm ∧ U.heap = h0) (fun _ _ _ _ _ => True) (fun _ U o U' => ∃ v L, o = .returned v ∧ Q_cod_2 Z a1 k_a1 by0 by1 h0 n0 v U'.heap L ∧ FrameEnd U o U' L ({ frames := 0, cells := 0, slots := 0, locals := 0 } : Room).cells ({ frames := 0, cells := 0, slots := 0, locals := 0 } : Room).slots) := by
  refine MetFree.of_bodySF (plainFor_of_name pn_6) hisR ?_
  intro p e s m args below meth c s₁ Bd hml0 hP hK
  obtain ⟨rfl, hZ, hh⟩ := hP
  have hx := Bd.exec
  have hby := Bd.bytes
  have hml : c.maxLocals = 2 := hml0
  have hown : s.vm.findClass "java/lang/StringUTF16" = some m.cls := findClass_of_methodNamed Bd.named
  have hnm := (name_of_methodNamed Bd.named Bd.method).1
  have X0 : Stand p l e ({ frames := 0, cells := 0, slots := 0, locals := 0 } : Room) s m #[(.ref a1), (.int 2)] below meth c s₁ [] 0 0 := Stand.of_body Bd
  have e0 : s₁.heap = h0 := by rw [← hh, Bd.state]; rfl
  have N0 := Fr.nil n0
  have pre0 : ∀ t, Steps p.tables e below (s₁.setTop (mkF m 0 #[.val (.ref a1), .val (.int 2)] [])) t → Steps p.tables e below (s₁.setTop (entryFrame m #[(.ref a1), (.int 2)] 2)) t := fun t k => castTop (ef_6_RI m a1 (2 : Int32)) k
  obtain ⟨cl1, Ar1, -, S1, M1, -, -⟩ := id V_a1
  obtain ⟨fs, hr, hrun, hended, hW, hsame⟩ := X0.leave (v := some (.int 0)) (fun h => by rw [Bd.returns] at h; cases h)
  refine ⟨_, _, pre0 _ ?_, hrun, hended, _, _, rfl, ?_, ⟨_, rfl⟩, hW, hsame.mono (by decide) (by decide)⟩
  · show St p e below s₁ (mkF m 0 #[.val (.ref a1), .val (.int 2)] []) _
    refine XS.iloadN X0.here hx rfl (hb hby d6_0) rfl ?_
    show St p e below s₁ (mkF m 1 #[.val (.ref a1), .val (.int 2)] [(.int 2)]) _
    refine XS.aloadN X0.here hx rfl (hb hby d6_1) rfl rfl ?_
    show St p e below s₁ (mkF m 2 #[.val (.ref a1), .val (.int 2)] [(.ref a1), (.int 2)]) _
    refine X0.arraylength hx (by rw [e0]; exact Ar1.1) (State.isArrayOf_alike hZ.alike Ar1.2.1) (g := (mkF m 2 #[.val (.ref a1), .val (.int 2)] [(.ref a1), (.int 2)])) rfl rfl (hb hby d6_2) _ ?_
    rw [len_of S1 M1]
    show St p e below s₁ (mkF m 3 #[.val (.ref a1), .val (.int 2)] [(.int 2), (.int 2)]) _
    refine XS.isub X0.here hx rfl (hb hby d6_3) rfl ?_
    show St p e below s₁ (mkF m 4 #[.val (.ref a1), .val (.int 2)] [(.int ((2 : Int32) - (2 : Int32)))]) _
    rw [(by decide : ((2 : Int32) - (2 : Int32)) = (0 : Int32))]
    show St p e below s₁ (mkF m 4 #[.val (.ref a1), .val (.int 2)] [(.int 0)]) _
    refine XS.bipush X0.here hx rfl (hb hby d6_4) ?_
    show St p e below s₁ (mkF m 6 #[.val (.ref a1), .val (.int 2)] [(.int 31), (.int 0)]) _
    refine XS.iushr X0.here hx rfl (hb hby d6_6) rfl ?_
    show St p e below s₁ (mkF m 7 #[.val (.ref a1), .val (.int 2)] [(.int (((0 : Int32).toUInt32 >>> ((31 : Int32) &&& 31).toUInt32).toInt32))]) _
    rw [(by decide : (((0 : Int32).toUInt32 >>> ((31 : Int32) &&& 31).toUInt32).toInt32) = (0 : Int32))]
    show St p e below s₁ (mkF m 7 #[.val (.ref a1), .val (.int 2)] [(.int 0)]) _
    refine XS.i2b X0.here hx rfl (hb hby d6_7) rfl ?_
    show St p e below s₁ (mkF m 8 #[.val (.ref a1), .val (.int 2)] [(.int ((0 : Int32).toInt8.toInt32))]) _
    rw [(by decide : ((0 : Int32).toInt8.toInt32) = (0 : Int32))]
    show St p e below s₁ (mkF m 8 #[.val (.ref a1), .val (.int 2)] [(.int 0)]) _
    exact retN X0 hx (t := .byte) Bd.returns (by simp) (hb hby d6_8) hr
  · show Q_cod_2 Z a1 k_a1 by0 by1 h0 n0 _ s₁.heap _
    rw [e0]
    exact ⟨rfl, N0, rfl⟩
theorem pd_CII__B_542 : parseMethodDescriptor "([CII)[B" = some ⟨[(.array .char), .int, .int], some (.array .byte)⟩ := by decide +kernel
theorem pd_BI_B_377 : parseMethodDescriptor "([BI)B" = some ⟨[(.array .byte), .int], some .byte⟩ := by decide +kernel
theorem d2_0 : decode jdk_42_method_149_code 0 = .ok (.aload_n 0, 1) := by decide +kernel
theorem d2_1 : decode jdk_42_method_149_code 1 = .ok (.invokespecial 1, 3) := by decide +kernel
theorem d2_4 : decode jdk_42_method_149_code 4 = .ok (.iload_n 3, 1) := by decide +kernel
theorem d2_5 : decode jdk_42_method_149_code 5 = .ok (.ifCond .ne 22, 3) := by decide +kernel
theorem d2_27 : decode jdk_42_method_149_code 27 = .ok (.getstatic 38, 3) := by decide +kernel
theorem d2_30 : decode jdk_42_method_149_code 30 = .ok (.ifCond .eq 28, 3) := by decide +kernel
theorem d2_33 : decode jdk_42_method_149_code 33 = .ok (.aload_n 1, 1) := by decide +kernel
theorem d2_34 : decode jdk_42_method_149_code 34 = .ok (.iload_n 2, 1) := by decide +kernel
theorem d2_35 : decode jdk_42_method_149_code 35 = .ok (.iload_n 3, 1) := by decide +kernel
theorem d2_36 : decode jdk_42_method_149_code 36 = .ok (.invokestatic 177, 3) := by decide +kernel
theorem d2_39 : decode jdk_42_method_149_code 39 = .ok (.astore 5, 2) := by decide +kernel
theorem d2_41 : decode jdk_42_method_149_code 41 = .ok (.aload_n 0, 1) := by decide +kernel
theorem d2_42 : decode jdk_42_method_149_code 42 = .ok (.aload 5, 2) := by decide +kernel
theorem d2_44 : decode jdk_42_method_149_code 44 = .ok (.iload_n 3, 1) := by decide +kernel
theorem d2_45 : decode jdk_42_method_149_code 45 = .ok (.invokestatic 47, 3) := by decide +kernel
theorem d2_48 : decode jdk_42_method_149_code 48 = .ok (.putfield 15, 3) := by decide +kernel
theorem d2_51 : decode jdk_42_method_149_code 51 = .ok (.aload_n 0, 1) := by decide +kernel
theorem d2_52 : decode jdk_42_method_149_code 52 = .ok (.aload 5, 2) := by decide +kernel
theorem d2_54 : decode jdk_42_method_149_code 54 = .ok (.putfield 9, 3) := by decide +kernel
theorem d2_57 : decode jdk_42_method_149_code 57 = .ok (.return_, 1) := by decide +kernel
theorem pn_2 : plainName "java/lang/String" = true := by first | (simp [plainName, overriddenIn]; done) | decide +kernel
theorem ef_2_RRIIn (m : MethodId) (x0 : Addr) (x1 : Addr) (x2 : Int32) (x3 : Int32) : entryFrame m #[(.ref x0), (.ref x1), (.int x2), (.int x3), .null] 6 = mkF m 0 #[.val (.ref x0), .val (.ref x1), .val (.int x2), .val (.int x3), .val .null, .unset] [] := by first | (simp [entryFrame, mkF, argsToLocals, Value.category]; done) | rfl
def Q_new4_2 (Z : State) (a1 : Addr) (a2 : Addr) (w_COMPACT_STRINGS : Int32) (k_a2 : ClassId) (c0 : Int32) (c1 : Int32) (u_a1_coder : Value) (u_a1_value : Value) (h0 : Heap) (n0 : Nat) (v : Option Value) (h : Heap) (L : List Loc) : Prop := ∃ (t : Addr) (kt : ClassId), v = none ∧ Fr n0 L ∧ Keep h0 h [a1] ∧ Exa Z h a1 "java/lang/String" ∧ Fld Z h a1 "java/lang/String" "coder" "B" (.int 0) ∧ Fld Z h a1 "java/lang/String" "value" "[B" (.ref t) ∧ h0.size ≤ t ∧ Arv Z h t kt .byte (2 : Int32) [(.int (c0.toInt8.toInt32)), (.int (c1.toInt8.toInt32))] (.int 0)
set_option maxRecDepth 65536 in
set_option maxHeartbeats 40000000 in
theorem rm_new4_2 (l : Launch) (Z : State) (a0 : Array Value) (hw : ∀ d ∈ tables_1, d.before a0 Z = true) (ws : List Jvm.Cond) (a1 : Addr) (a2 : Addr) (w_COMPACT_STRINGS : Int32) (k_a2 : ClassId) (c0 : Int32) (c1 : Int32) (u_a1_coder : Value) (u_a1_value : Value) (h0 : Heap) (n0 : Nat) (Z0 : n0 ≤ h0.size) (S_COMPACT_STRINGS : Sta Z Z.heap "java/lang/String" "COMPACT_STRINGS" "Z" (.int w_COMPACT_STRINGS)) (hcs : ¬ (w_COMPACT_STRINGS = (0 : Int32))) (V_a2 : Arv Z h0 a2 k_a2 .char (2 : Int32) [(.int c0), (.int c1)] (.int 0)) (hb_c0 : ¬ ((255 : Int32) < c0)) (hb_c1 : ¬ ((255 : Int32) < c1)) (O0 : Old Z n0 h0) (E_a1 : Exa Z h0 a1 "java/lang/String") (F_a1_coder : Fld Z h0 a1 "java/lang/String" "coder" "B" u_a1_coder) (g_a1 : n0 ≤ a1) (F_a1_value : Fld Z h0 a1 "java/lang/String" "value" "[B" u_a1_value) :
    MetFree l (⟨"java/lang/String", "<init>", "([CIILjava/lang/Void;)V"⟩ : MethodName) (head1 (Jvm.Cond.code (⟨"java/lang/String", "<init>", "([CIILjava/lang/Void;)V"⟩ : MethodName) jdk_42_method_149_code 6 none :: ws) ({ frames := 2, cells := 1, slots := 2, locals := 35 } : Room)) (fun a U => a = #[(.ref a1), (.ref a2), (.int 0), (.int 2), .null] ∧ Z.Warmed39 U.vm ∧ U.heap = h0) (fun _ _ _ _ _ => True) (fun _ U o U' => ∃ v L, o = .returned v ∧ Q_new4_2 Z a1 a2 w_COMPACT_STRINGS k_a2 c0 c1 u_a1_coder u_a1_value h0 n0 v U'.heap L ∧ FrameEnd U o U' L ({ frames := 2, cells := 1, slots := 2, locals := 35 } : Room).cells ({ frames := 2, cells := 1, slots := 2, locals := 35 } : Room).slots) := by
  refine MetFree.of_bodySF (plainFor_of_name pn_2) hisR ?_
  intro p e s m args below meth c s₁ Bd hml0 hP hK
  obtain ⟨rfl, hZ, hh⟩ := hP
  have hx := Bd.exec
  have hby := Bd.bytes
  have hml : c.maxLocals = 6 := hml0
  have hown : s.vm.findClass "java/lang/String" = some m.cls := findClass_of_methodNamed Bd.named
  have hnm := (name_of_methodNamed Bd.named Bd.method).1
  have X0 : Stand p l e ({ frames := 2, cells := 1, slots := 2, locals := 35 } : Room) s m #[(.ref a1), (.ref a2), (.int 0), (.int 2), .null] below meth c s₁ [] 0 0 := Stand.of_body Bd
  have e0 : s₁.heap = h0 := by rw [← hh, Bd.state]; rfl
  have N0 := Fr.nil n0
  have pre0 : ∀ t, Steps p.tables e below (s₁.setTop (mkF m 0 #[.val (.ref a1), .val (.ref a2), .val (.int 0), .val (.int 2), .val .null, .unset] [])) t → Steps p.tables e below (s₁.setTop (entryFrame m #[(.ref a1), (.ref a2), (.int 0), (.int 2), .null] 6)) t := fun t k => castTop (ef_2_RRIIn m a1 a2 (0 : Int32) (2 : Int32)) k
  obtain ⟨T1, X1, e1, st1⟩ := initO X0 hx hZ hown (hwi hw 11 rfl) (hwi hw 12 rfl) (hwi hw 13 rfl) e0 (g := (mkF m 1 #[.val (.ref a1), .val (.ref a2), .val (.int 0), .val (.int 2), .val .null, .unset] [(.ref a1)])) rfl (by rw [hml]; rfl) rfl (hb hby d2_1) (by decide) (W := 0) (by show 2 * 0 + _ ≤ _; exact Nat.le_of_eq rfl) (by decide)
  obtain ⟨T2, X2, e2, st2⟩ := getS2 X1 hx hZ hown (host := "") (Or.inl (hwi hw 14 rfl)) Via.refl e1 (S_COMPACT_STRINGS.ext O0.2) (g := (mkF m 27 #[.val (.ref a1), .val (.ref a2), .val (.int 0), .val (.int 2), .val .null, .unset] [])) rfl (hb hby d2_27)
  obtain ⟨_, _, ⟨T3, L3, k3, n3⟩, -, X3, ⟨Lc3, hQ3, l3, y3, z3⟩, st3⟩ := Jvm.LawKit.callS X2 hx (y := (⟨"java/lang/StringUTF16", "compress", "([CII)[B"⟩ : MethodName)) hown (mvT hZ (hwi hw 15 rfl)) (mvT hZ (hwi hw 16 rfl)) (mvT hZ (hwi hw 17 rfl)) (mvT hZ (hwi hw 18 rfl)) (by decide) (backOf (W := 0) (rm_cmp3_2 l Z a0 hw [] a2 k_a2 c0 c1 h0 n0 Z0 V_a2 hb_c0 hb_c1 O0) hZ (hwi hw 18 rfl) (hwi hw 17 rfl) (by decide) (by decide)) (g := (mkF m 36 #[.val (.ref a1), .val (.ref a2), .val (.int 0), .val (.int 2), .val .null, .unset] [(.int 2), (.int 0), (.ref a2)])) rfl (by rw [hml]; rfl) (argsL := [(.ref a2), (.int 0), (.int 2)]) (rest := []) (lenOf pd_CII__B_542 rfl) rfl (by show 2 * 0 + _ ≤ _; exact Nat.le_of_eq rfl) (hb hby d2_36) (fun _ _ => ⟨rfl, e2, (by decide : 0 + 1 ≤ _), (by decide : 0 + 2 ≤ _)⟩)
  dsimp only [Pt.U, Pt.locs, Pt.cells, Pt.slots] at X3 l3 y3 z3 st3 hQ3
  subst l3 y3 z3
  obtain ⟨t_3, kt_3, rfl, N3q, Kc3, g3_0, g3_1⟩ := hQ3
  have N3 := Fr.app N0 N3q
  have sz4 : h0.size ≤ T3.heap.size := Kc3.1
  have Z4 : n0 ≤ T3.heap.size := Nat.le_trans Z0 sz4
  have O4 := O0.keep Kc3 all0
  have K4 : Keep h0 T3.heap [a1] := (Keep.refl h0 [a1]).trans Kc3 (all0)
  have bn_t_3 : h0.size ≤ t_3 := g3_0
  obtain ⟨_, _, ⟨T5, L5, k5, n5⟩, -, X5, ⟨Lc5, hQ5, l5, y5, z5⟩, st5⟩ := Jvm.LawKit.callS X3 hx (y := (⟨"java/lang/StringUTF16", "coderFromArrayLen", "([BI)B"⟩ : MethodName)) hown (mvT hZ (hwi hw 23 rfl)) (mvT hZ (hwi hw 24 rfl)) (mvT hZ (hwi hw 17 rfl)) (mvT hZ (hwi hw 25 rfl)) (by decide) (backOf (W := 1) (rm_cod_2 l Z a0 hw [] t_3 kt_3 (c0.toInt8.toInt32) (c1.toInt8.toInt32) T3.heap n0 Z4 g3_1) hZ (hwi hw 25 rfl) (hwi hw 17 rfl) (by decide) (by decide)) (g := (mkF m 45 #[.val (.ref a1), .val (.ref a2), .val (.int 0), .val (.int 2), .val .null, .val (.ref t_3)] [(.int 2), (.ref t_3), (.ref a1)])) rfl (by rw [hml]; rfl) (argsL := [(.ref t_3), (.int 2)]) (rest := [(.ref a1)]) (lenOf pd_BI_B_377 rfl) rfl (by show 2 * 0 + _ ≤ _; exact Nat.le_of_eq rfl) (hb hby d2_45) (fun _ _ => ⟨rfl, rfl, (by decide : 1 + 0 ≤ _), (by decide : 2 + 0 ≤ _)⟩)
  dsimp only [Pt.U, Pt.locs, Pt.cells, Pt.slots] at X5 l5 y5 z5 st5 hQ5
  subst l5 y5 z5
  obtain ⟨rfl, N5q, e5⟩ := hQ5
  have N5 := Fr.app N3 N5q
  have fc6 := (E_a1.keep Kc3)
  have fc7 := (F_a1_coder.keep Kc3 nin0)
  obtain ⟨T8, h8, X8, e8, W8, st8⟩ := putFN X5 hx hZ hown (hwi hw 26 rfl) Via.refl e5 fc7 fc6 (Or.inr ⟨(hwi hw 27 rfl), rfl, hnm⟩) (hwi hw 2 rfl) (ty := .byte) (v' := (.int 0)) (by decide) rfl (by decide) (g := (mkF m 48 #[.val (.ref a1), .val (.ref a2), .val (.int 0), .val (.int 2), .val .null, .val (.ref t_3)] [(.int 0), (.ref a1)])) rfl rfl (hb hby d2_48)
  have N8 := Fr.snoc X8 N5 g_a1
  have Fw8 := fc7.same W8
  have sz9 : T3.heap.size ≤ h8.size := Nat.le_of_eq W8.size.symm
  have Z9 : n0 ≤ h8.size := Nat.le_trans Z4 sz9
  have O9 := O4.wr W8 g_a1
  have K9 : Keep h0 h8 [a1] := K4.wr W8 (Or.inl (List.mem_of_getElem? (i := 0) rfl))
  have fc10 := (fc6.wr W8)
  have fc11 := ((F_a1_value.keep Kc3 nin0).other W8 (Or.inr (slot_ne (Or.inr (hwi hw 29 rfl)) (Or.inr (hwi hw 27 rfl)) (by decide) (t := (.array .byte)) (t' := .byte) (by decide) (by decide))))
  obtain ⟨T12, h12, X12, e12, W12, st12⟩ := putF X8 hx hZ hown (host := "") (Or.inl (hwi hw 28 rfl)) Via.refl e8 fc11 fc10 (Or.inr ⟨(hwi hw 29 rfl), rfl, hnm⟩) (hwi hw 2 rfl) (ty := (.array .byte)) (by decide) rfl rfl (g := (mkF m 54 #[.val (.ref a1), .val (.ref a2), .val (.int 0), .val (.int 2), .val .null, .val (.ref t_3)] [(.ref t_3), (.ref a1)])) rfl rfl (hb hby d2_54)
  have N12 := Fr.snoc X12 N8 g_a1
  have Fw12 := fc11.same W12
  have sz13 : h8.size ≤ h12.size := Nat.le_of_eq W12.size.symm
  have Z13 : n0 ≤ h12.size := Nat.le_trans Z9 sz13
  have O13 := O9.wr W12 g_a1
  have K13 : Keep h0 h12 [a1] := K9.wr W12 (Or.inl (List.mem_of_getElem? (i := 0) rfl))
  have fc14 := (fc10.wr W12)
  have fc15 := (Fw8.other W12 (Or.inr (slot_ne (Or.inr (hwi hw 27 rfl)) (Or.inr (hwi hw 29 rfl)) (by decide) (t := .byte) (t' := (.array .byte)) (by decide) (by decide))))
  have fc16 := ((g3_1.other W8 (neN (by have := ltN E_a1.lt; have := ltN g3_1.lt; omega))).other W12 (neN (by have := ltN E_a1.lt; have := ltN g3_1.lt; omega)))
  obtain ⟨fs, hr, hrun, hended, hW, hsame⟩ := X12.leave (v := none) (fun _ => rfl)
  refine ⟨_, _, pre0 _ ?_, hrun, hended, _, _, rfl, ?_, ⟨_, rfl⟩, hW, hsame.mono (by decide) (by decide)⟩
  · show St p e below s₁ (mkF m 0 #[.val (.ref a1), .val (.ref a2), .val (.int 0), .val (.int 2), .val .null, .unset] []) _
    refine XS.aloadN X0.here hx rfl (hb hby d2_0) rfl rfl ?_
    show St p e below s₁ (mkF m 1 #[.val (.ref a1), .val (.ref a2), .val (.int 0), .val (.int 2), .val .null, .unset] [(.ref a1)]) _
    refine st1 _ ?_
    show St p e below T1 (mkF m 4 #[.val (.ref a1), .val (.ref a2), .val (.int 0), .val (.int 2), .val .null, .unset] []) _
    refine XS.iloadN X1.here hx rfl (hb hby d2_4) rfl ?_
    show St p e below T1 (mkF m 5 #[.val (.ref a1), .val (.ref a2), .val (.int 0), .val (.int 2), .val .null, .unset] [(.int 2)]) _
    refine XS.ifYes X1.here hx rfl (pc0 := 5) (pc' := 27) rfl (hb hby d2_5) rfl ((if0 _ _).trans (feq (by decide : ¬ ((2 : Int32) = (0 : Int32)))).2) (by decide) (by decide) ?_
    show St p e below T1 (mkF m 27 #[.val (.ref a1), .val (.ref a2), .val (.int 0), .val (.int 2), .val .null, .unset] []) _
    refine st2 _ ?_
    show St p e below T2 (mkF m 30 #[.val (.ref a1), .val (.ref a2), .val (.int 0), .val (.int 2), .val .null, .unset] [(.int w_COMPACT_STRINGS)]) _
    refine XS.ifNo X2.here hx rfl (hb hby d2_30) rfl ((if0 _ _).trans (feq hcs).1) ?_
    show St p e below T2 (mkF m 33 #[.val (.ref a1), .val (.ref a2), .val (.int 0), .val (.int 2), .val .null, .unset] []) _
    refine XS.aloadN X2.here hx rfl (hb hby d2_33) rfl rfl ?_
    show St p e below T2 (mkF m 34 #[.val (.ref a1), .val (.ref a2), .val (.int 0), .val (.int 2), .val .null, .unset] [(.ref a2)]) _
    refine XS.iloadN X2.here hx rfl (hb hby d2_34) rfl ?_
    show St p e below T2 (mkF m 35 #[.val (.ref a1), .val (.ref a2), .val (.int 0), .val (.int 2), .val .null, .unset] [(.int 0), (.ref a2)]) _
    refine XS.iloadN X2.here hx rfl (hb hby d2_35) rfl ?_
    show St p e below T2 (mkF m 36 #[.val (.ref a1), .val (.ref a2), .val (.int 0), .val (.int 2), .val .null, .unset] [(.int 2), (.int 0), (.ref a2)]) _
    refine st3 _ ?_
    show St p e below T3 (mkF m 39 #[.val (.ref a1), .val (.ref a2), .val (.int 0), .val (.int 2), .val .null, .unset] [(.ref t_3)]) _
    refine XS.astore X3.here hx rfl (hb hby d2_39) rfl rfl (l' := #[.val (.ref a1), .val (.ref a2), .val (.int 0), .val (.int 2), .val .null, .val (.ref t_3)]) rfl ?_
    show St p e below T3 (mkF m 41 #[.val (.ref a1), .val (.ref a2), .val (.int 0), .val (.int 2), .val .null, .val (.ref t_3)] []) _
    refine XS.aloadN X3.here hx rfl (hb hby d2_41) rfl rfl ?_
    show St p e below T3 (mkF m 42 #[.val (.ref a1), .val (.ref a2), .val (.int 0), .val (.int 2), .val .null, .val (.ref t_3)] [(.ref a1)]) _
    refine XS.aload X3.here hx rfl (hb hby d2_42) rfl rfl ?_
    show St p e below T3 (mkF m 44 #[.val (.ref a1), .val (.ref a2), .val (.int 0), .val (.int 2), .val .null, .val (.ref t_3)] [(.ref t_3), (.ref a1)]) _
    refine XS.iloadN X3.here hx rfl (hb hby d2_44) rfl ?_
    show St p e below T3 (mkF m 45 #[.val (.ref a1), .val (.ref a2), .val (.int 0), .val (.int 2), .val .null, .val (.ref t_3)] [(.int 2), (.ref t_3), (.ref a1)]) _
    refine st5 _ ?_
    show St p e below T5 (mkF m 48 #[.val (.ref a1), .val (.ref a2), .val (.int 0), .val (.int 2), .val .null, .val (.ref t_3)] [(.int 0), (.ref a1)]) _
    refine st8 _ ?_
    show St p e below T8 (mkF m 51 #[.val (.ref a1), .val (.ref a2), .val (.int 0), .val (.int 2), .val .null, .val (.ref t_3)] []) _
    refine XS.aloadN X8.here hx rfl (hb hby d2_51) rfl rfl ?_
    show St p e below T8 (mkF m 52 #[.val (.ref a1), .val (.ref a2), .val (.int 0), .val (.int 2), .val .null, .val (.ref t_3)] [(.ref a1)]) _
    refine XS.aload X8.here hx rfl (hb hby d2_52) rfl rfl ?_
    show St p e below T8 (mkF m 54 #[.val (.ref a1), .val (.ref a2), .val (.int 0), .val (.int 2), .val .null, .val (.ref t_3)] [(.ref t_3), (.ref a1)]) _
    refine st12 _ ?_
    show St p e below T12 (mkF m 57 #[.val (.ref a1), .val (.ref a2), .val (.int 0), .val (.int 2), .val .null, .val (.ref t_3)] []) _
    exact X12.returnOut hx Bd.returns (hb hby d2_57) hr
  · show Q_new4_2 Z a1 a2 w_COMPACT_STRINGS k_a2 c0 c1 u_a1_coder u_a1_value h0 n0 _ T12.heap _
    rw [e12]
    exact ⟨t_3, kt_3, rfl, N12, K13, fc14, fc15, Fw12, bn_t_3, fc16⟩
theorem pd_CIILjava_lang_Void__V_938 : parseMethodDescriptor "([CIILjava/lang/Void;)V" = some ⟨[(.array .char), .int, .int, (.object "java/lang/Void")], none⟩ := by decide +kernel
theorem d1_0 : decode jdk_42_method_3_code 0 = .ok (.aload_n 0, 1) := by decide +kernel
theorem d1_1 : decode jdk_42_method_3_code 1 = .ok (.aload_n 1, 1) := by decide +kernel
theorem d1_2 : decode jdk_42_method_3_code 2 = .ok (.iconst 0, 1) := by decide +kernel
theorem d1_3 : decode jdk_42_method_3_code 3 = .ok (.aload_n 1, 1) := by decide +kernel
theorem d1_4 : decode jdk_42_method_3_code 4 = .ok (.arraylength, 1) := by decide +kernel
theorem d1_5 : decode jdk_42_method_3_code 5 = .ok (.aconst_null, 1) := by decide +kernel
theorem d1_6 : decode jdk_42_method_3_code 6 = .ok (.invokespecial 27, 3) := by decide +kernel
theorem d1_9 : decode jdk_42_method_3_code 9 = .ok (.return_, 1) := by decide +kernel
theorem pn_1 : plainName "java/lang/String" = true := by first | (simp [plainName, overriddenIn]; done) | decide +kernel
theorem ef_1_RR (m : MethodId) (x0 : Addr) (x1 : Addr) : entryFrame m #[(.ref x0), (.ref x1)] 2 = mkF m 0 #[.val (.ref x0), .val (.ref x1)] [] := by first | (simp [entryFrame, mkF, argsToLocals, Value.category]; done) | rfl
def Q_new1_2 (Z : State) (a1 : Addr) (a2 : Addr) (w_COMPACT_STRINGS : Int32) (k_a2 : ClassId) (c0 : Int32) (c1 : Int32) (u_a1_coder : Value) (u_a1_value : Value) (h0 : Heap) (n0 : Nat) (v : Option Value) (h : Heap) (L : List Loc) : Prop := ∃ (t : Addr) (kt : ClassId), v = none ∧ Fr n0 L ∧ Keep h0 h [a1] ∧ Exa Z h a1 "java/lang/String" ∧ Fld Z h a1 "java/lang/String" "coder" "B" (.int 0) ∧ Fld Z h a1 "java/lang/String" "value" "[B" (.ref t) ∧ h0.size ≤ t ∧ Arv Z h t kt .byte (2 : Int32) [(.int (c0.toInt8.toInt32)), (.int (c1.toInt8.toInt32))] (.int 0)
set_option maxRecDepth 65536 in
set_option maxHeartbeats 40000000 in
theorem rm_new1_2 (l : Launch) (Z : State) (a0 : Array Value) (hw : ∀ d ∈ tables_1, d.before a0 Z = true) (ws : List Jvm.Cond) (a1 : Addr) (a2 : Addr) (w_COMPACT_STRINGS : Int32) (k_a2 : ClassId) (c0 : Int32) (c1 : Int32) (u_a1_coder : Value) (u_a1_value : Value) (h0 : Heap) (n0 : Nat) (Z0 : n0 ≤ h0.size) (S_COMPACT_STRINGS : Sta Z Z.heap "java/lang/String" "COMPACT_STRINGS" "Z" (.int w_COMPACT_STRINGS)) (hcs : ¬ (w_COMPACT_STRINGS = (0 : Int32))) (V_a2 : Arv Z h0 a2 k_a2 .char (2 : Int32) [(.int c0), (.int c1)] (.int 0)) (hb_c0 : ¬ ((255 : Int32) < c0)) (hb_c1 : ¬ ((255 : Int32) < c1)) (O0 : Old Z n0 h0) (E_a1 : Exa Z h0 a1 "java/lang/String") (F_a1_coder : Fld Z h0 a1 "java/lang/String" "coder" "B" u_a1_coder) (g_a1 : n0 ≤ a1) (F_a1_value : Fld Z h0 a1 "java/lang/String" "value" "[B" u_a1_value) :
    MetFree l (⟨"java/lang/String", "<init>", "([C)V"⟩ : MethodName) (head1 (Jvm.Cond.code (⟨"java/lang/String", "<init>", "([C)V"⟩ : MethodName) jdk_42_method_3_code 2 none :: ws) ({ frames := 3, cells := 1, slots := 2, locals := 52 } : Room)) (fun a U => a = #[(.ref a1), (.ref a2)] ∧ Z.Warmed39 U.vm ∧ U.heap = h0) (fun _ _ _ _ _ => True) (fun _ U o U' => ∃ v L, o = .returned v ∧ Q_new1_2 Z a1 a2 w_COMPACT_STRINGS k_a2 c0 c1 u_a1_coder u_a1_value h0 n0 v U'.heap L ∧ FrameEnd U o U' L ({ frames := 3, cells := 1, slots := 2, locals := 52 } : Room).cells ({ frames := 3, cells := 1, slots := 2, locals := 52 } : Room).slots) := by
  refine MetFree.of_bodySF (plainFor_of_name pn_1) hisR ?_
  intro p e s m args below meth c s₁ Bd hml0 hP hK
  obtain ⟨rfl, hZ, hh⟩ := hP
  have hx := Bd.exec
  have hby := Bd.bytes
  have hml : c.maxLocals = 2 := hml0
  have hown : s.vm.findClass "java/lang/String" = some m.cls := findClass_of_methodNamed Bd.named
  have hnm := (name_of_methodNamed Bd.named Bd.method).1
  have X0 : Stand p l e ({ frames := 3, cells := 1, slots := 2, locals := 52 } : Room) s m #[(.ref a1), (.ref a2)] below meth c s₁ [] 0 0 := Stand.of_body Bd
  have e0 : s₁.heap = h0 := by rw [← hh, Bd.state]; rfl
  have N0 := Fr.nil n0
  have pre0 : ∀ t, Steps p.tables e below (s₁.setTop (mkF m 0 #[.val (.ref a1), .val (.ref a2)] [])) t → Steps p.tables e below (s₁.setTop (entryFrame m #[(.ref a1), (.ref a2)] 2)) t := fun t k => castTop (ef_1_RR m a1 a2) k
  obtain ⟨cl1, Ar1, -, S1, M1, -, -⟩ := id V_a2
  obtain ⟨_, _, ⟨T2, L2, k2, n2⟩, -, X2, ⟨Lc2, hQ2, l2, y2, z2⟩, st2⟩ := X0.specialBack hx (y := (⟨"java/lang/String", "<init>", "([CIILjava/lang/Void;)V"⟩ : MethodName)) rfl hown (mvT hZ (hwi hw 7 rfl)) (mvT hZ (hwi hw 8 rfl)) (mvT hZ (hwi hw 10 rfl)) (by decide) (backOf (W := 0) (rm_new4_2 l Z a0 hw [] a1 a2 w_COMPACT_STRINGS k_a2 c0 c1 u_a1_coder u_a1_value h0 n0 Z0 S_COMPACT_STRINGS hcs V_a2 hb_c0 hb_c1 O0 E_a1 F_a1_coder g_a1 F_a1_value) hZ (hwi hw 10 rfl) (hwi hw 3 rfl) (by decide) (by decide)) (g := (mkF m 6 #[.val (.ref a1), .val (.ref a2)] [.null, (.int 2), (.int 0), (.ref a2), (.ref a1)])) rfl (by rw [hml]; rfl) (Steps.refl _) (a := a1) (argsL := [(.ref a2), (.int 0), (.int 2), .null]) (rest := []) (lenOf pd_CIILjava_lang_Void__V_938 rfl) rfl (by show 2 * 0 + _ ≤ _; exact Nat.le_of_eq rfl) (hb hby d1_6) (fun _ _ => ⟨rfl, e0, (by decide : 0 + 1 ≤ _), (by decide : 0 + 2 ≤ _)⟩)
  dsimp only [Pt.U, Pt.locs, Pt.cells, Pt.slots] at X2 l2 y2 z2 st2 hQ2
  subst l2 y2 z2
  obtain ⟨t_2, kt_2, rfl, N2q, Kc2, g2_0, g2_1, g2_2, g2_3, g2_4⟩ := hQ2
  have N2 := Fr.app N0 N2q
  have sz3 : h0.size ≤ T2.heap.size := Kc2.1
  have Z3 : n0 ≤ T2.heap.size := Nat.le_trans Z0 sz3
  have O3 := O0.keep Kc2 (allS g_a1 all0)
  have K3 : Keep h0 T2.heap [a1] := (Keep.refl h0 [a1]).trans Kc2 (allS (Or.inl (List.mem_of_getElem? (i := 0) rfl)) (all0))
  have bn_t_2 : h0.size ≤ t_2 := g2_3
  obtain ⟨fs, hr, hrun, hended, hW, hsame⟩ := X2.leave (v := none) (fun _ => rfl)
  refine ⟨_, _, pre0 _ ?_, hrun, hended, _, _, rfl, ?_, ⟨_, rfl⟩, hW, hsame.mono (by decide) (by decide)⟩
  · show St p e below s₁ (mkF m 0 #[.val (.ref a1), .val (.ref a2)] []) _
    refine XS.aloadN X0.here hx rfl (hb hby d1_0) rfl rfl ?_
    show St p e below s₁ (mkF m 1 #[.val (.ref a1), .val (.ref a2)] [(.ref a1)]) _
    refine XS.aloadN X0.here hx rfl (hb hby d1_1) rfl rfl ?_
    show St p e below s₁ (mkF m 2 #[.val (.ref a1), .val (.ref a2)] [(.ref a2), (.ref a1)]) _
    refine XS.iconst X0.here hx rfl (hb hby d1_2) ?_
    show St p e below s₁ (mkF m 3 #[.val (.ref a1), .val (.ref a2)] [(.int 0), (.ref a2), (.ref a1)]) _
    refine XS.aloadN X0.here hx rfl (hb hby d1_3) rfl rfl ?_
    show St p e below s₁ (mkF m 4 #[.val (.ref a1), .val (.ref a2)] [(.ref a2), (.int 0), (.ref a2), (.ref a1)]) _
    refine X0.arraylength hx (by rw [e0]; exact Ar1.1) (State.isArrayOf_alike hZ.alike Ar1.2.1) (g := (mkF m 4 #[.val (.ref a1), .val (.ref a2)] [(.ref a2), (.int 0), (.ref a2), (.ref a1)])) rfl rfl (hb hby d1_4) _ ?_
    rw [len_of S1 M1]
    show St p e below s₁ (mkF m 5 #[.val (.ref a1), .val (.ref a2)] [(.int 2), (.int 0), (.ref a2), (.ref a1)]) _
    refine XS.aconstNull X0.here hx rfl (hb hby d1_5) ?_
    show St p e below s₁ (mkF m 6 #[.val (.ref a1), .val (.ref a2)] [.null, (.int 2), (.int 0), (.ref a2), (.ref a1)]) _
    refine st2.trans ?_
    show St p e below T2 (mkF m 9 #[.val (.ref a1), .val (.ref a2)] []) _
    exact X2.returnOut hx Bd.returns (hb hby d1_9) hr
  · show Q_new1_2 Z a1 a2 w_COMPACT_STRINGS k_a2 c0 c1 u_a1_coder u_a1_value h0 n0 _ T2.heap _
    exact ⟨t_2, kt_2, rfl, N2, K3, g2_0, g2_1, g2_2, bn_t_2, g2_4⟩
def Q_cmp5_1 (Z : State) (a1 : Addr) (a3 : Addr) (k_a1 : ClassId) (c0 : Int32) (k_a3 : ClassId) (h0 : Heap) (n0 : Nat) (v : Option Value) (h : Heap) (L : List Loc) : Prop := v = some (.int 1) ∧ Fr n0 L ∧ Keep h0 h [a3] ∧ Arv Z h a3 k_a3 .byte (1 : Int32) [(.int (c0.toInt8.toInt32))] (.int 0)
set_option maxRecDepth 65536 in
set_option maxHeartbeats 40000000 in
theorem rm_cmp5_1 (l : Launch) (Z : State) (a0 : Array Value) (hw : ∀ d ∈ tables_1, d.before a0 Z = true) (ws : List Jvm.Cond) (a1 : Addr) (a3 : Addr) (k_a1 : ClassId) (c0 : Int32) (k_a3 : ClassId) (h0 : Heap) (n0 : Nat) (Z0 : n0 ≤ h0.size) (V_a1 : Arv Z h0 a1 k_a1 .char (1 : Int32) [(.int c0)] (.int 0)) (V_a3 : Arv Z h0 a3 k_a3 .byte (1 : Int32) [(.int 0)] (.int 0)) (hne : ¬ (a1 = a3)) (hb_c0 : ¬ ((255 : Int32) < c0)) (g_a3 : n0 ≤ a3) (O0 : Old Z n0 h0) :
    MetFree l (⟨"java/lang/StringUTF16", "compress", "([CI[BII)I"⟩ : MethodName) (head1 (Jvm.Cond.code (⟨"java/lang/StringUTF16", "compress", "([CI[BII)I"⟩ : MethodName) jdk_52_method_21_code 7 (some .int) :: ws) ({ frames := 0, cells := 0, slots := 0, locals := 0 } : Room)) (fun a U => a = #[(.ref a1), (.int 0), (.ref a3), (.int 0), (.int 1)] ∧ Z.Warmed39 U.vm ∧ U.heap = h0) (fun _ _ _ _ _ => True) (fun _ U o U' => ∃ v L, o = .returned v ∧ Q_cmp5_1 Z a1 a3 k_a1 c0 k_a3 h0 n0 v U'.heap L ∧ FrameEnd U o U' L ({ frames := 0, cells := 0, slots := 0, locals := 0 } : Room).cells ({ frames := 0, cells := 0, slots := 0, locals := 0 } : Room).slots) := by
  refine MetFree.of_bodySF (plainFor_of_name pn_5) hisR ?_
  intro p e s m args below meth c s₁ Bd hml0 hP hK
  obtain ⟨rfl, hZ, hh⟩ := hP
  have hx := Bd.exec
  have hby := Bd.bytes
  have hml : c.maxLocals = 7 := hml0
  have hown : s.vm.findClass "java/lang/StringUTF16" = some m.cls := findClass_of_methodNamed Bd.named
  have hnm := (name_of_methodNamed Bd.named Bd.method).1
  have X0 : Stand p l e ({ frames := 0, cells := 0, slots := 0, locals := 0 } : Room) s m #[(.ref a1), (.int 0), (.ref a3), (.int 0), (.int 1)] below meth c s₁ [] 0 0 := Stand.of_body Bd
  have e0 : s₁.heap = h0 := by rw [← hh, Bd.state]; rfl
  have N0 := Fr.nil n0
  have pre0 : ∀ t, Steps p.tables e below (s₁.setTop (mkF m 0 #[.val (.ref a1), .val (.int 0), .val (.ref a3), .val (.int 0), .val (.int 1), .unset, .unset] [])) t → Steps p.tables e below (s₁.setTop (entryFrame m #[(.ref a1), (.int 0), (.ref a3), (.int 0), (.int 1)] 7)) t := fun t k => castTop (ef_5_RIRII m a1 (0 : Int32) a3 (0 : Int32) (1 : Int32)) k
  obtain ⟨cl1, Ar1, q1, S1, M1, H1, G1⟩ := id V_a1
  have hin1 : ¬ ((0 : Int32) < 0 ∨ cl1.slots.size ≤ ((0 : Int32)).toNatClampNeg) := inb_of S1 ⟨by decide, by decide⟩
  have hat1 : cl1.slots[((0 : Int32)).toNatClampNeg]? = some (.int c0) := H1.at hin1 rfl
  obtain ⟨cl2, Ar2, q2, S2, M2, H2, G2⟩ := id V_a3
  have hin2 : ¬ ((0 : Int32) < 0 ∨ cl2.slots.size ≤ ((0 : Int32)).toNatClampNeg) := inb_of S2 ⟨by decide, by decide⟩
  obtain ⟨T3, h3, X3, e3, W3, st3⟩ := stB X0 hx hZ e0 Ar2 (j := (0 : Int32)) hin2 (g := (mkF m 31 #[.val (.ref a1), .val (.int 0), .val (.ref a3), .val (.int 0), .val (.int 1), .val (.int 0), .val (.int c0)] [(.int (c0.toInt8.toInt32)), (.int 0), (.ref a3)])) rfl rfl (hb hby d5_31)
  have N3 := Fr.snoc X3 N0 g_a3
  have V3 : Arv Z h3 a3 k_a3 .byte (1 : Int32) [(.int ((c0.toInt8.toInt32).toInt8.toInt32))] (.int 0) := Arv.set Ar2 q2 S2 M2 H2 G2 (fits_nar_byte _) W3 0 rfl (Nat.le_of_ble_eq_true rfl)
  rw [own_bb] at V3
  have sz4 : h0.size ≤ h3.size := Nat.le_of_eq W3.size.symm
  have Z4 : n0 ≤ h3.size := Nat.le_trans Z0 sz4
  have O4 := O0.wr W3 g_a3
  have K4 : Keep h0 h3 [a3] := (Keep.refl h0 [a3]).wr W3 (Or.inl (List.mem_of_getElem? (i := 0) rfl))
  obtain ⟨fs, hr, hrun, hended, hW, hsame⟩ := X3.leave (v := some (.int 1)) (fun h => by rw [Bd.returns] at h; cases h)
  refine ⟨_, _, pre0 _ ?_, hrun, hended, _, _, rfl, ?_, ⟨_, rfl⟩, hW, hsame.mono (by decide) (by decide)⟩
  · show St p e below s₁ (mkF m 0 #[.val (.ref a1), .val (.int 0), .val (.ref a3), .val (.int 0), .val (.int 1), .unset, .unset] []) _
    refine XS.iconst X0.here hx rfl (hb hby d5_0) ?_
    show St p e below s₁ (mkF m 1 #[.val (.ref a1), .val (.int 0), .val (.ref a3), .val (.int 0), .val (.int 1), .unset, .unset] [(.int 0)]) _
    refine XS.istore X0.here hx rfl (hb hby d5_1) rfl (l' := #[.val (.ref a1), .val (.int 0), .val (.ref a3), .val (.int 0), .val (.int 1), .val (.int 0), .unset]) rfl ?_
    show St p e below s₁ (mkF m 3 #[.val (.ref a1), .val (.int 0), .val (.ref a3), .val (.int 0), .val (.int 1), .val (.int 0), .unset] []) _
    refine XS.iload X0.here hx rfl (hb hby d5_3) rfl ?_
    show St p e below s₁ (mkF m 5 #[.val (.ref a1), .val (.int 0), .val (.ref a3), .val (.int 0), .val (.int 1), .val (.int 0), .unset] [(.int 0)]) _
    refine XS.iload X0.here hx rfl (hb hby d5_5) rfl ?_
    show St p e below s₁ (mkF m 7 #[.val (.ref a1), .val (.int 0), .val (.ref a3), .val (.int 0), .val (.int 1), .val (.int 0), .unset] [(.int 1), (.int 0)]) _
    refine XS.icmpNo X0.here hx rfl (hb hby d5_7) rfl (tlt (by decide : (0 : Int32) < (1 : Int32))).2.1 ?_
    show St p e below s₁ (mkF m 10 #[.val (.ref a1), .val (.int 0), .val (.ref a3), .val (.int 0), .val (.int 1), .val (.int 0), .unset] []) _
    refine XS.aloadN X0.here hx rfl (hb hby d5_10) rfl rfl ?_
    show St p e below s₁ (mkF m 11 #[.val (.ref a1), .val (.int 0), .val (.ref a3), .val (.int 0), .val (.int 1), .val (.int 0), .unset] [(.ref a1)]) _
    refine XS.iloadN X0.here hx rfl (hb hby d5_11) rfl ?_
    show St p e below s₁ (mkF m 12 #[.val (.ref a1), .val (.int 0), .val (.ref a3), .val (.int 0), .val (.int 1), .val (.int 0), .unset] [(.int 0), (.ref a1)]) _
    refine X0.caload hx (j := (0 : Int32)) (v := (.int c0)) (by rw [e0]; exact Ar1.1) (State.isArrayOf_alike hZ.alike Ar1.2.1) Ar1.2.2 hin1 hat1 (g := (mkF m 12 #[.val (.ref a1), .val (.int 0), .val (.ref a3), .val (.int 0), .val (.int 1), .val (.int 0), .unset] [(.int 0), (.ref a1)])) rfl rfl (hb hby d5_12) _ ?_
    show St p e below s₁ (mkF m 13 #[.val (.ref a1), .val (.int 0), .val (.ref a3), .val (.int 0), .val (.int 1), .val (.int 0), .unset] [(.int c0)]) _
    refine XS.istore X0.here hx rfl (hb hby d5_13) rfl (l' := #[.val (.ref a1), .val (.int 0), .val (.ref a3), .val (.int 0), .val (.int 1), .val (.int 0), .val (.int c0)]) rfl ?_
    show St p e below s₁ (mkF m 15 #[.val (.ref a1), .val (.int 0), .val (.ref a3), .val (.int 0), .val (.int 1), .val (.int 0), .val (.int c0)] []) _
    refine XS.iload X0.here hx rfl (hb hby d5_15) rfl ?_
    show St p e below s₁ (mkF m 17 #[.val (.ref a1), .val (.int 0), .val (.ref a3), .val (.int 0), .val (.int 1), .val (.int 0), .val (.int c0)] [(.int c0)]) _
    refine XS.sipush X0.here hx rfl (hb hby d5_17) ?_
    show St p e below s₁ (mkF m 20 #[.val (.ref a1), .val (.int 0), .val (.ref a3), .val (.int 0), .val (.int 1), .val (.int 0), .val (.int c0)] [(.int 255), (.int c0)]) _
    refine XS.icmpYes X0.here hx rfl (pc0 := 20) (pc' := 26) rfl (hb hby d5_20) rfl (flt hb_c0).2.2.2 (by decide) (by decide) ?_
    show St p e below s₁ (mkF m 26 #[.val (.ref a1), .val (.int 0), .val (.ref a3), .val (.int 0), .val (.int 1), .val (.int 0), .val (.int c0)] []) _
    refine XS.aloadN X0.here hx rfl (hb hby d5_26) rfl rfl ?_
    show St p e below s₁ (mkF m 27 #[.val (.ref a1), .val (.int 0), .val (.ref a3), .val (.int 0), .val (.int 1), .val (.int 0), .val (.int c0)] [(.ref a3)]) _
    refine XS.iloadN X0.here hx rfl (hb hby d5_27) rfl ?_
    show St p e below s₁ (mkF m 28 #[.val (.ref a1), .val (.int 0), .val (.ref a3), .val (.int 0), .val (.int 1), .val (.int 0), .val (.int c0)] [(.int 0), (.ref a3)]) _
    refine XS.iload X0.here hx rfl (hb hby d5_28) rfl ?_
    show St p e below s₁ (mkF m 30 #[.val (.ref a1), .val (.int 0), .val (.ref a3), .val (.int 0), .val (.int 1), .val (.int 0), .val (.int c0)] [(.int c0), (.int 0), (.ref a3)]) _
    refine XS.i2b X0.here hx rfl (hb hby d5_30) rfl ?_
    show St p e below s₁ (mkF m 31 #[.val (.ref a1), .val (.int 0), .val (.ref a3), .val (.int 0), .val (.int 1), .val (.int 0), .val (.int c0)] [(.int (c0.toInt8.toInt32)), (.int 0), (.ref a3)]) _
    refine st3 _ ?_
    show St p e below T3 (mkF m 32 #[.val (.ref a1), .val (.int 0), .val (.ref a3), .val (.int 0), .val (.int 1), .val (.int 0), .val (.int c0)] []) _
    refine XS.iinc X3.here hx rfl (hb hby d5_32) rfl (l' := #[.val (.ref a1), .val (.int ((0 : Int32) + (1 : Int32))), .val (.ref a3), .val (.int 0), .val (.int 1), .val (.int 0), .val (.int c0)]) rfl ?_
    show St p e below T3 (mkF m 35 #[.val (.ref a1), .val (.int ((0 : Int32) + (1 : Int32))), .val (.ref a3), .val (.int 0), .val (.int 1), .val (.int 0), .val (.int c0)] []) _
    rw [(by decide : ((0 : Int32) + (1 : Int32)) = (1 : Int32))]
    show St p e below T3 (mkF m 35 #[.val (.ref a1), .val (.int 1), .val (.ref a3), .val (.int 0), .val (.int 1), .val (.int 0), .val (.int c0)] []) _
    refine XS.iinc X3.here hx rfl (hb hby d5_35) rfl (l' := #[.val (.ref a1), .val (.int 1), .val (.ref a3), .val (.int ((0 : Int32) + (1 : Int32))), .val (.int 1), .val (.int 0), .val (.int c0)]) rfl ?_
    show St p e below T3 (mkF m 38 #[.val (.ref a1), .val (.int 1), .val (.ref a3), .val (.int ((0 : Int32) + (1 : Int32))), .val (.int 1), .val (.int 0), .val (.int c0)] []) _
    rw [(by decide : ((0 : Int32) + (1 : Int32)) = (1 : Int32))]
    show St p e below T3 (mkF m 38 #[.val (.ref a1), .val (.int 1), .val (.ref a3), .val (.int 1), .val (.int 1), .val (.int 0), .val (.int c0)] []) _
    refine XS.iinc X3.here hx rfl (hb hby d5_38) rfl (l' := #[.val (.ref a1), .val (.int 1), .val (.ref a3), .val (.int 1), .val (.int 1), .val (.int ((0 : Int32) + (1 : Int32))), .val (.int c0)]) rfl ?_
    show St p e below T3 (mkF m 41 #[.val (.ref a1), .val (.int 1), .val (.ref a3), .val (.int 1), .val (.int 1), .val (.int ((0 : Int32) + (1 : Int32))), .val (.int c0)] []) _
    rw [(by decide : ((0 : Int32) + (1 : Int32)) = (1 : Int32))]
    show St p e below T3 (mkF m 41 #[.val (.ref a1), .val (.int 1), .val (.ref a3), .val (.int 1), .val (.int 1), .val (.int 1), .val (.int c0)] []) _
    refine XS.goto X3.here hx rfl (pc0 := 41) (pc' := 3) rfl (hb hby d5_41) (by decide) (by decide) ?_
    show St p e below T3 (mkF m 3 #[.val (.ref a1), .val (.int 1), .val (.ref a3), .val (.int 1), .val (.int 1), .val (.int 1), .val (.int c0)] []) _
    refine XS.iload X3.here hx rfl (hb hby d5_3) rfl ?_
    show St p e below T3 (mkF m 5 #[.val (.ref a1), .val (.int 1), .val (.ref a3), .val (.int 1), .val (.int 1), .val (.int 1), .val (.int c0)] [(.int 1)]) _
    refine XS.iload X3.here hx rfl (hb hby d5_5) rfl ?_
    show St p e below T3 (mkF m 7 #[.val (.ref a1), .val (.int 1), .val (.ref a3), .val (.int 1), .val (.int 1), .val (.int 1), .val (.int c0)] [(.int 1), (.int 1)]) _
    refine XS.icmpYes X3.here hx rfl (pc0 := 7) (pc' := 44) rfl (hb hby d5_7) rfl (flt (by decide : ¬ ((1 : Int32) < (1 : Int32)))).2.1 (by decide) (by decide) ?_
    show St p e below T3 (mkF m 44 #[.val (.ref a1), .val (.int 1), .val (.ref a3), .val (.int 1), .val (.int 1), .val (.int 1), .val (.int c0)] []) _
    refine XS.iload X3.here hx rfl (hb hby d5_44) rfl ?_
    show St p e below T3 (mkF m 46 #[.val (.ref a1), .val (.int 1), .val (.ref a3), .val (.int 1), .val (.int 1), .val (.int 1), .val (.int c0)] [(.int 1)]) _
    exact retI X3 hx Bd.returns (hb hby d5_46) hr
  · show Q_cmp5_1 Z a1 a3 k_a1 c0 k_a3 h0 n0 _ T3.heap _
    rw [e3]
    exact ⟨rfl, N3, K4, V3⟩
def Q_cmp3_1 (Z : State) (a1 : Addr) (k_a1 : ClassId) (c0 : Int32) (h0 : Heap) (n0 : Nat) (v : Option Value) (h : Heap) (L : List Loc) : Prop := ∃ (t : Addr) (kt : ClassId), v = some (.ref t) ∧ Fr n0 L ∧ Keep h0 h [] ∧ h0.size ≤ t ∧ Arv Z h t kt .byte (1 : Int32) [(.int (c0.toInt8.toInt32))] (.int 0)
set_option maxRecDepth 65536 in
set_option maxHeartbeats 40000000 in
theorem rm_cmp3_1 (l : Launch) (Z : State) (a0 : Array Value) (hw : ∀ d ∈ tables_1, d.before a0 Z = true) (ws : List Jvm.Cond) (a1 : Addr) (k_a1 : ClassId) (c0 : Int32) (h0 : Heap) (n0 : Nat) (Z0 : n0 ≤ h0.size) (V_a1 : Arv Z h0 a1 k_a1 .char (1 : Int32) [(.int c0)] (.int 0)) (hb_c0 : ¬ ((255 : Int32) < c0)) (O0 : Old Z n0 h0) :
    MetFree l (⟨"java/lang/StringUTF16", "compress", "([CII)[B"⟩ : MethodName) (head1 (Jvm.Cond.code (⟨"java/lang/StringUTF16", "compress", "([CII)[B"⟩ : MethodName) jdk_52_method_16_code 6 (some (.array .byte)) :: ws) ({ frames := 1, cells := 1, slots := 1, locals := 18 } : Room)) (fun a U => a = #[(.ref a1), (.int 0), (.int 1)] ∧ Z.Warmed39 U.vm ∧ U.heap = h0) (fun _ _ _ _ _ => True) (fun _ U o U' => ∃ v L, o = .returned v ∧ Q_cmp3_1 Z a1 k_a1 c0 h0 n0 v U'.heap L ∧ FrameEnd U o U' L ({ frames := 1, cells := 1, slots := 1, locals := 18 } : Room).cells ({ frames := 1, cells := 1, slots := 1, locals := 18 } : Room).slots) := by
  refine MetFree.of_bodySF (plainFor_of_name pn_4) hisR ?_
  intro p e s m args below meth c s₁ Bd hml0 hP hK
  obtain ⟨rfl, hZ, hh⟩ := hP
  have hx := Bd.exec
  have hby := Bd.bytes
  have hml : c.maxLocals = 6 := hml0
  have hown : s.vm.findClass "java/lang/StringUTF16" = some m.cls := findClass_of_methodNamed Bd.named
  have hnm := (name_of_methodNamed Bd.named Bd.method).1
  have X0 : Stand p l e ({ frames := 1, cells := 1, slots := 1, locals := 18 } : Room) s m #[(.ref a1), (.int 0), (.int 1)] below meth c s₁ [] 0 0 := Stand.of_body Bd
  have e0 : s₁.heap = h0 := by rw [← hh, Bd.state]; rfl
  have N0 := Fr.nil n0
  have pre0 : ∀ t, Steps p.tables e below (s₁.setTop (mkF m 0 #[.val (.ref a1), .val (.int 0), .val (.int 1), .unset, .unset, .unset] [])) t → Steps p.tables e below (s₁.setTop (entryFrame m #[(.ref a1), (.int 0), (.int 1)] 6)) t := fun t k => castTop (ef_4_RII m a1 (0 : Int32) (1 : Int32)) k
  obtain ⟨T1, h1, k1, X1, e1, E1, A1, st1⟩ := newP X0 hx hZ (hwi hw 19 rfl) e0 (g := (mkF m 1 #[.val (.ref a1), .val (.int 0), .val (.int 1), .unset, .unset, .unset] [(.int 1)])) rfl (hb hby d4_1) rfl (by decide) (cap := 1) (by decide) (by decide) (by decide) (by decide)
  obtain ⟨b1, g1⟩ : ∃ z, z = h0.size := ⟨_, rfl⟩
  rw [← g1] at A1 st1
  have bn_b1 : h0.size ≤ b1 := Nat.le_of_eq g1.symm
  have sz2 : h0.size ≤ h1.size := E1.1
  have Z2 : n0 ≤ h1.size := Nat.le_trans Z0 sz2
  have O2 := O0.ext E1
  have K2 : Keep h0 h1 [] := (Keep.refl h0 []).ext E1
  have V1 : Arv Z h1 b1 k1 .byte (1 : Int32) [(.int 0)] (.int 0) := (Arv.new A1 (by decide)).pad (pad_rep [] (.int 0) 1)
  have fc4 := (V_a1.ext E1)
  obtain ⟨_, _, ⟨T3, L3, k3, n3⟩, -, X3, ⟨Lc3, hQ3, l3, y3, z3⟩, st3⟩ := Jvm.LawKit.callS X1 hx (y := (⟨"java/lang/StringUTF16", "compress", "([CI[BII)I"⟩ : MethodName)) hown (mvT hZ (hwi hw 20 rfl)) (mvT hZ (hwi hw 21 rfl)) (mvT hZ (hwi hw 17 rfl)) (mvT hZ (hwi hw 22 rfl)) (by decide) (backOf (W := 0) (rm_cmp5_1 l Z a0 hw [] a1 b1 k_a1 c0 k1 h1 n0 Z2 fc4 V1 (neN (by have := ltN V_a1.lt; have := ltN V1.lt; omega)) hb_c0 (Nat.le_trans Z0 bn_b1) O2) hZ (hwi hw 22 rfl) (hwi hw 17 rfl) (by decide) (by decide)) (g := (mkF m 9 #[.val (.ref a1), .val (.int 0), .val (.int 1), .val (.ref b1), .unset, .unset] [(.int 1), (.int 0), (.ref b1), (.int 0), (.ref a1)])) rfl (by rw [hml]; rfl) (argsL := [(.ref a1), (.int 0), (.ref b1), (.int 0), (.int 1)]) (rest := []) (lenOf pd_CI_BII_I_688 rfl) rfl (by show 2 * 0 + _ ≤ _; exact Nat.le_of_eq rfl) (hb hby d4_9) (fun _ _ => ⟨rfl, e1, (by decide : 1 + 0 ≤ _), (by decide : 1 + 0 ≤ _)⟩)
  dsimp only [Pt.U, Pt.locs, Pt.cells, Pt.slots] at X3 l3 y3 z3 st3 hQ3
  subst l3 y3 z3
  obtain ⟨rfl, N3q, Kc3, g3_0⟩ := hQ3
  have N3 := Fr.app N0 N3q
  have sz5 : h1.size ≤ T3.heap.size := Kc3.1
  have Z5 : n0 ≤ T3.heap.size := Nat.le_trans Z2 sz5
  have O5 := O2.keep Kc3 (allS (Nat.le_trans Z0 bn_b1) all0)
  have K5 : Keep h0 T3.heap [] := K2.trans Kc3 (allS (Or.inr bn_b1) (all0))
  obtain ⟨fs, hr, hrun, hended, hW, hsame⟩ := X3.leave (v := some (.ref b1)) (fun h => by rw [Bd.returns] at h; cases h)
  refine ⟨_, _, pre0 _ ?_, hrun, hended, _, _, rfl, ?_, ⟨_, rfl⟩, hW, hsame.mono (by decide) (by decide)⟩
  · show St p e below s₁ (mkF m 0 #[.val (.ref a1), .val (.int 0), .val (.int 1), .unset, .unset, .unset] []) _
    refine XS.iloadN X0.here hx rfl (hb hby d4_0) rfl ?_
    show St p e below s₁ (mkF m 1 #[.val (.ref a1), .val (.int 0), .val (.int 1), .unset, .unset, .unset] [(.int 1)]) _
    refine st1 _ ?_
    show St p e below T1 (mkF m 3 #[.val (.ref a1), .val (.int 0), .val (.int 1), .unset, .unset, .unset] [(.ref b1)]) _
    refine XS.astoreN X1.here hx rfl (hb hby d4_3) rfl rfl (l' := #[.val (.ref a1), .val (.int 0), .val (.int 1), .val (.ref b1), .unset, .unset]) rfl ?_
    show St p e below T1 (mkF m 4 #[.val (.ref a1), .val (.int 0), .val (.int 1), .val (.ref b1), .unset, .unset] []) _
    refine XS.aloadN X1.here hx rfl (hb hby d4_4) rfl rfl ?_
    show St p e below T1 (mkF m 5 #[.val (.ref a1), .val (.int 0), .val (.int 1), .val (.ref b1), .unset, .unset] [(.ref a1)]) _
    refine XS.iloadN X1.here hx rfl (hb hby d4_5) rfl ?_
    show St p e below T1 (mkF m 6 #[.val (.ref a1), .val (.int 0), .val (.int 1), .val (.ref b1), .unset, .unset] [(.int 0), (.ref a1)]) _
    refine XS.aloadN X1.here hx rfl (hb hby d4_6) rfl rfl ?_
    show St p e below T1 (mkF m 7 #[.val (.ref a1), .val (.int 0), .val (.int 1), .val (.ref b1), .unset, .unset] [(.ref b1), (.int 0), (.ref a1)]) _
    refine XS.iconst X1.here hx rfl (hb hby d4_7) ?_
    show St p e below T1 (mkF m 8 #[.val (.ref a1), .val (.int 0), .val (.int 1), .val (.ref b1), .unset, .unset] [(.int 0), (.ref b1), (.int 0), (.ref a1)]) _
    refine XS.iloadN X1.here hx rfl (hb hby d4_8) rfl ?_
    show St p e below T1 (mkF m 9 #[.val (.ref a1), .val (.int 0), .val (.int 1), .val (.ref b1), .unset, .unset] [(.int 1), (.int 0), (.ref b1), (.int 0), (.ref a1)]) _
    refine st3 _ ?_
    show St p e below T3 (mkF m 12 #[.val (.ref a1), .val (.int 0), .val (.int 1), .val (.ref b1), .unset, .unset] [(.int 1)]) _
    refine XS.istore X3.here hx rfl (hb hby d4_12) rfl (l' := #[.val (.ref a1), .val (.int 0), .val (.int 1), .val (.ref b1), .val (.int 1), .unset]) rfl ?_
    show St p e below T3 (mkF m 14 #[.val (.ref a1), .val (.int 0), .val (.int 1), .val (.ref b1), .val (.int 1), .unset] []) _
    refine XS.iload X3.here hx rfl (hb hby d4_14) rfl ?_
    show St p e below T3 (mkF m 16 #[.val (.ref a1), .val (.int 0), .val (.int 1), .val (.ref b1), .val (.int 1), .unset] [(.int 1)]) _
    refine XS.iloadN X3.here hx rfl (hb hby d4_16) rfl ?_
    show St p e below T3 (mkF m 17 #[.val (.ref a1), .val (.int 0), .val (.int 1), .val (.ref b1), .val (.int 1), .unset] [(.int 1), (.int 1)]) _
    refine XS.icmpYes X3.here hx rfl (pc0 := 17) (pc' := 57) rfl (hb hby d4_17) rfl (teq (by decide : (1 : Int32) = (1 : Int32))).1 (by decide) (by decide) ?_
    show St p e below T3 (mkF m 57 #[.val (.ref a1), .val (.int 0), .val (.int 1), .val (.ref b1), .val (.int 1), .unset] []) _
    refine XS.aloadN X3.here hx rfl (hb hby d4_57) rfl rfl ?_
    show St p e below T3 (mkF m 58 #[.val (.ref a1), .val (.int 0), .val (.int 1), .val (.ref b1), .val (.int 1), .unset] [(.ref b1)]) _
    jvm_step X3.here [X3.here.top, hx, (hb hby d4_58), X3.method', Bd.returns, Value.isRef, FieldType.isReference]
    first | (intro acts; rw [hr _ acts rfl rfl rfl]) | rw [hr _ _ rfl rfl rfl]
    exact Steps.refl _
  · show Q_cmp3_1 Z a1 k_a1 c0 h0 n0 _ T3.heap _
    exact ⟨b1, k1, rfl, N3, K5, bn_b1, g3_0⟩
def Q_cod_1 (Z : State) (a1 : Addr) (k_a1 : ClassId) (by0 : Int32) (h0 : Heap) (n0 : Nat) (v : Option Value) (h : Heap) (L : List Loc) : Prop := v = some (.int 0) ∧ Fr n0 L ∧ h = h0
set_option maxRecDepth 65536 in
set_option maxHeartbeats 40000000 in
theorem rm_cod_1 (l : Launch) (Z : State) (a0 : Array Value) (hw : ∀ d ∈ tables_1, d.before a0 Z = true) (ws : List Jvm.Cond) (a1 : Addr) (k_a1 : ClassId) (by0 : Int32) (h0 : Heap) (n0 : Nat) (Z0 : n0 ≤ h0.size) (V_a1 : Arv Z h0 a1 k_a1 .byte (1 : Int32) [(.int by0)] (.int 0)) :
    MetFree l (⟨"java/lang/StringUTF16", "coderFromArrayLen", "([BI)B"⟩ : MethodName) (head1 (Jvm.Cond.code (⟨"java/lang/StringUTF16", "coderFromArrayLen", "([BI)B"⟩ : MethodName) jdk_52_method_15_code 2 (some .byte) :: ws) ({ frames := 0, cells := 0, slots := 0, locals := 0 } : Room)) (fun a U => a = #[(.ref a1), (.int 1)] ∧ Z.Warmed39 U.vm ∧ U.heap = h0) (fun _ _ _ _ _ => True) (fun _ U o U' => ∃ v L, o = .returned v ∧ Q_cod_1 Z a1 k_a1 by0 h0 n0 v U'.heap L ∧ FrameEnd U o U' L ({ frames := 0, cells := 0, slots := 0, locals := 0 } : Room).cells ({ frames := 0, cells := 0, slots := 0, locals := 0 } : Room).slots) := by
  refine MetFree.of_bodySF (plainFor_of_name pn_6) hisR ?_
  intro p e s m args below meth c s₁ Bd hml0 hP hK
  obtain ⟨rfl, hZ, hh⟩ := hP
  have hx := Bd.exec
  have hby := Bd.bytes
  have hml : c.maxLocals = 2 := hml0
  have hown : s.vm.findClass "java/lang/StringUTF16" = some m.cls := findClass_of_methodNamed Bd.named
  have hnm := (name_of_methodNamed Bd.named Bd.method).1
  have X0 : Stand p l e ({ frames := 0, cells := 0, slots := 0, locals := 0 } : Room) s m #[(.ref a1), (.int 1)] below meth c s₁ [] 0 0 := Stand.of_body Bd
  have e0 : s₁.heap = h0 := by rw [← hh, Bd.state]; rfl
  have N0 := Fr.nil n0
  have pre0 : ∀ t, Steps p.tables e below (s₁.setTop (mkF m 0 #[.val (.ref a1), .val (.int 1)] [])) t → Steps p.tables e below (s₁.setTop (entryFrame m #[(.ref a1), (.int 1)] 2)) t := fun t k => castTop (ef_6_RI m a1 (1 : Int32)) k
  obtain ⟨cl1, Ar1, -, S1, M1, -, -⟩ := id V_a1
  obtain ⟨fs, hr, hrun, hended, hW, hsame⟩ := X0.leave (v := some (.int 0)) (fun h => by rw [Bd.returns] at h; cases h)
  refine ⟨_, _, pre0 _ ?_, hrun, hended, _, _, rfl, ?_, ⟨_, rfl⟩, hW, hsame.mono (by decide) (by decide)⟩
  · show St p e below s₁ (mkF m 0 #[.val (.ref a1), .val (.int 1)] []) _
    refine XS.iloadN X0.here hx rfl (hb hby d6_0) rfl ?_
    show St p e below s₁ (mkF m 1 #[.val (.ref a1), .val (.int 1)] [(.int 1)]) _
    refine XS.aloadN X0.here hx rfl (hb hby d6_1) rfl rfl ?_
    show St p e below s₁ (mkF m 2 #[.val (.ref a1), .val (.int 1)] [(.ref a1), (.int 1)]) _
    refine X0.arraylength hx (by rw [e0]; exact Ar1.1) (State.isArrayOf_alike hZ.alike Ar1.2.1) (g := (mkF m 2 #[.val (.ref a1), .val (.int 1)] [(.ref a1), (.int 1)])) rfl rfl (hb hby d6_2) _ ?_
    rw [len_of S1 M1]
    show St p e below s₁ (mkF m 3 #[.val (.ref a1), .val (.int 1)] [(.int 1), (.int 1)]) _
    refine XS.isub X0.here hx rfl (hb hby d6_3) rfl ?_
    show St p e below s₁ (mkF m 4 #[.val (.ref a1), .val (.int 1)] [(.int ((1 : Int32) - (1 : Int32)))]) _
    rw [(by decide : ((1 : Int32) - (1 : Int32)) = (0 : Int32))]
    show St p e below s₁ (mkF m 4 #[.val (.ref a1), .val (.int 1)] [(.int 0)]) _
    refine XS.bipush X0.here hx rfl (hb hby d6_4) ?_
    show St p e below s₁ (mkF m 6 #[.val (.ref a1), .val (.int 1)] [(.int 31), (.int 0)]) _
    refine XS.iushr X0.here hx rfl (hb hby d6_6) rfl ?_
    show St p e below s₁ (mkF m 7 #[.val (.ref a1), .val (.int 1)] [(.int (((0 : Int32).toUInt32 >>> ((31 : Int32) &&& 31).toUInt32).toInt32))]) _
    rw [(by decide : (((0 : Int32).toUInt32 >>> ((31 : Int32) &&& 31).toUInt32).toInt32) = (0 : Int32))]
    show St p e below s₁ (mkF m 7 #[.val (.ref a1), .val (.int 1)] [(.int 0)]) _
    refine XS.i2b X0.here hx rfl (hb hby d6_7) rfl ?_
    show St p e below s₁ (mkF m 8 #[.val (.ref a1), .val (.int 1)] [(.int ((0 : Int32).toInt8.toInt32))]) _
    rw [(by decide : ((0 : Int32).toInt8.toInt32) = (0 : Int32))]
    show St p e below s₁ (mkF m 8 #[.val (.ref a1), .val (.int 1)] [(.int 0)]) _
    exact retN X0 hx (t := .byte) Bd.returns (by simp) (hb hby d6_8) hr
  · show Q_cod_1 Z a1 k_a1 by0 h0 n0 _ s₁.heap _
    rw [e0]
    exact ⟨rfl, N0, rfl⟩
def Q_new4_1 (Z : State) (a1 : Addr) (a2 : Addr) (w_COMPACT_STRINGS : Int32) (k_a2 : ClassId) (c0 : Int32) (u_a1_coder : Value) (u_a1_value : Value) (h0 : Heap) (n0 : Nat) (v : Option Value) (h : Heap) (L : List Loc) : Prop := ∃ (t : Addr) (kt : ClassId), v = none ∧ Fr n0 L ∧ Keep h0 h [a1] ∧ Exa Z h a1 "java/lang/String" ∧ Fld Z h a1 "java/lang/String" "coder" "B" (.int 0) ∧ Fld Z h a1 "java/lang/String" "value" "[B" (.ref t) ∧ h0.size ≤ t ∧ Arv Z h t kt .byte (1 : Int32) [(.int (c0.toInt8.toInt32))] (.int 0)
set_option maxRecDepth 65536 in
set_option maxHeartbeats 40000000 in
theorem rm_new4_1 (l : Launch) (Z : State) (a0 : Array Value) (hw : ∀ d ∈ tables_1, d.before a0 Z = true) (ws : List Jvm.Cond) (a1 : Addr) (a2 : Addr) (w_COMPACT_STRINGS : Int32) (k_a2 : ClassId) (c0 : Int32) (u_a1_coder : Value) (u_a1_value : Value) (h0 : Heap) (n0 : Nat) (Z0 : n0 ≤ h0.size) (S_COMPACT_STRINGS : Sta Z Z.heap "java/lang/String" "COMPACT_STRINGS" "Z" (.int w_COMPACT_STRINGS)) (hcs : ¬ (w_COMPACT_STRINGS = (0 : Int32))) (V_a2 : Arv Z h0 a2 k_a2 .char (1 : Int32) [(.int c0)] (.int 0)) (hb_c0 : ¬ ((255 : Int32) < c0)) (O0 : Old Z n0 h0) (E_a1 : Exa Z h0 a1 "java/lang/String") (F_a1_coder : Fld Z h0 a1 "java/lang/String" "coder" "B" u_a1_coder) (g_a1 : n0 ≤ a1) (F_a1_value : Fld Z h0 a1 "java/lang/String" "value" "[B" u_a1_value) :
    MetFree l (⟨"java/lang/String", "<init>", "([CIILjava/lang/Void;)V"⟩ : MethodName) (head1 (Jvm.Cond.code (⟨"java/lang/String", "<init>", "([CIILjava/lang/Void;)V"⟩ : MethodName) jdk_42_method_149_code 6 none :: ws) ({ frames := 2, cells := 1, slots := 1, locals := 35 } : Room)) (fun a U => a = #[(.ref a1), (.ref a2), (.int 0), (.int 1), .null] ∧ Z.Warmed39 U.vm ∧ U.heap = h0) (fun _ _ _ _ _ => True) (fun _ U o U' => ∃ v L, o = .returned v ∧ Q_new4_1 Z a1 a2 w_COMPACT_STRINGS k_a2 c0 u_a1_coder u_a1_value h0 n0 v U'.heap L ∧ FrameEnd U o U' L ({ frames := 2, cells := 1, slots := 1, locals := 35 } : Room).cells ({ frames := 2, cells := 1, slots := 1, locals := 35 } : Room).slots) := by
  refine MetFree.of_bodySF (plainFor_of_name pn_2) hisR ?_
  intro p e s m args below meth c s₁ Bd hml0 hP hK
  obtain ⟨rfl, hZ, hh⟩ := hP
  have hx := Bd.exec
  have hby := Bd.bytes
  have hml : c.maxLocals = 6 := hml0
  have hown : s.vm.findClass "java/lang/String" = some m.cls := findClass_of_methodNamed Bd.named
  have hnm := (name_of_methodNamed Bd.named Bd.method).1
  have X0 : Stand p l e ({ frames := 2, cells := 1, slots := 1, locals := 35 } : Room) s m #[(.ref a1), (.ref a2), (.int 0), (.int 1), .null] below meth c s₁ [] 0 0 := Stand.of_body Bd
  have e0 : s₁.heap = h0 := by rw [← hh, Bd.state]; rfl
  have N0 := Fr.nil n0
  have pre0 : ∀ t, Steps p.tables e below (s₁.setTop (mkF m 0 #[.val (.ref a1), .val (.ref a2), .val (.int 0), .val (.int 1), .val .null, .unset] [])) t → Steps p.tables e below (s₁.setTop (entryFrame m #[(.ref a1), (.ref a2), (.int 0), (.int 1), .null] 6)) t := fun t k => castTop (ef_2_RRIIn m a1 a2 (0 : Int32) (1 : Int32)) k
  obtain ⟨T1, X1, e1, st1⟩ := initO X0 hx hZ hown (hwi hw 11 rfl) (hwi hw 12 rfl) (hwi hw 13 rfl) e0 (g := (mkF m 1 #[.val (.ref a1), .val (.ref a2), .val (.int 0), .val (.int 1), .val .null, .unset] [(.ref a1)])) rfl (by rw [hml]; rfl) rfl (hb hby d2_1) (by decide) (W := 0) (by show 2 * 0 + _ ≤ _; exact Nat.le_of_eq rfl) (by decide)
  obtain ⟨T2, X2, e2, st2⟩ := getS2 X1 hx hZ hown (host := "") (Or.inl (hwi hw 14 rfl)) Via.refl e1 (S_COMPACT_STRINGS.ext O0.2) (g := (mkF m 27 #[.val (.ref a1), .val (.ref a2), .val (.int 0), .val (.int 1), .val .null, .unset] [])) rfl (hb hby d2_27)
  obtain ⟨_, _, ⟨T3, L3, k3, n3⟩, -, X3, ⟨Lc3, hQ3, l3, y3, z3⟩, st3⟩ := Jvm.LawKit.callS X2 hx (y := (⟨"java/lang/StringUTF16", "compress", "([CII)[B"⟩ : MethodName)) hown (mvT hZ (hwi hw 15 rfl)) (mvT hZ (hwi hw 16 rfl)) (mvT hZ (hwi hw 17 rfl)) (mvT hZ (hwi hw 18 rfl)) (by decide) (backOf (W := 0) (rm_cmp3_1 l Z a0 hw [] a2 k_a2 c0 h0 n0 Z0 V_a2 hb_c0 O0) hZ (hwi hw 18 rfl) (hwi hw 17 rfl) (by decide) (by decide)) (g := (mkF m 36 #[.val (.ref a1), .val (.ref a2), .val (.int 0), .val (.int 1), .val .null, .unset] [(.int 1), (.int 0), (.ref a2)])) rfl (by rw [hml]; rfl) (argsL := [(.ref a2), (.int 0), (.int 1)]) (rest := []) (lenOf pd_CII__B_542 rfl) rfl (by show 2 * 0 + _ ≤ _; exact Nat.le_of_eq rfl) (hb hby d2_36) (fun _ _ => ⟨rfl, e2, (by decide : 0 + 1 ≤ _), (by decide : 0 + 1 ≤ _)⟩)
  dsimp only [Pt.U, Pt.locs, Pt.cells, Pt.slots] at X3 l3 y3 z3 st3 hQ3
  subst l3 y3 z3
  obtain ⟨t_3, kt_3, rfl, N3q, Kc3, g3_0, g3_1⟩ := hQ3
  have N3 := Fr.app N0 N3q
  have sz4 : h0.size ≤ T3.heap.size := Kc3.1
  have Z4 : n0 ≤ T3.heap.size := Nat.le_trans Z0 sz4
  have O4 := O0.keep Kc3 all0
  have K4 : Keep h0 T3.heap [a1] := (Keep.refl h0 [a1]).trans Kc3 (all0)
  have bn_t_3 : h0.size ≤ t_3 := g3_0
  obtain ⟨_, _, ⟨T5, L5, k5, n5⟩, -, X5, ⟨Lc5, hQ5, l5, y5, z5⟩, st5⟩ := Jvm.LawKit.callS X3 hx (y := (⟨"java/lang/StringUTF16", "coderFromArrayLen", "([BI)B"⟩ : MethodName)) hown (mvT hZ (hwi hw 23 rfl)) (mvT hZ (hwi hw 24 rfl)) (mvT hZ (hwi hw 17 rfl)) (mvT hZ (hwi hw 25 rfl)) (by decide) (backOf (W := 1) (rm_cod_1 l Z a0 hw [] t_3 kt_3 (c0.toInt8.toInt32) T3.heap n0 Z4 g3_1) hZ (hwi hw 25 rfl) (hwi hw 17 rfl) (by decide) (by decide)) (g := (mkF m 45 #[.val (.ref a1), .val (.ref a2), .val (.int 0), .val (.int 1), .val .null, .val (.ref t_3)] [(.int 1), (.ref t_3), (.ref a1)])) rfl (by rw [hml]; rfl) (argsL := [(.ref t_3), (.int 1)]) (rest := [(.ref a1)]) (lenOf pd_BI_B_377 rfl) rfl (by show 2 * 0 + _ ≤ _; exact Nat.le_of_eq rfl) (hb hby d2_45) (fun _ _ => ⟨rfl, rfl, (by decide : 1 + 0 ≤ _), (by decide : 1 + 0 ≤ _)⟩)
  dsimp only [Pt.U, Pt.locs, Pt.cells, Pt.slots] at X5 l5 y5 z5 st5 hQ5
  subst l5 y5 z5
  obtain ⟨rfl, N5q, e5⟩ := hQ5
  have N5 := Fr.app N3 N5q
  have fc6 := (E_a1.keep Kc3)
  have fc7 := (F_a1_coder.keep Kc3 nin0)
  obtain ⟨T8, h8, X8, e8, W8, st8⟩ := putFN X5 hx hZ hown (hwi hw 26 rfl) Via.refl e5 fc7 fc6 (Or.inr ⟨(hwi hw 27 rfl), rfl, hnm⟩) (hwi hw 2 rfl) (ty := .byte) (v' := (.int 0)) (by decide) rfl (by decide) (g := (mkF m 48 #[.val (.ref a1), .val (.ref a2), .val (.int 0), .val (.int 1), .val .null, .val (.ref t_3)] [(.int 0), (.ref a1)])) rfl rfl (hb hby d2_48)
  have N8 := Fr.snoc X8 N5 g_a1
  have Fw8 := fc7.same W8
  have sz9 : T3.heap.size ≤ h8.size := Nat.le_of_eq W8.size.symm
  have Z9 : n0 ≤ h8.size := Nat.le_trans Z4 sz9
  have O9 := O4.wr W8 g_a1
  have K9 : Keep h0 h8 [a1] := K4.wr W8 (Or.inl (List.mem_of_getElem? (i := 0) rfl))
  have fc10 := (fc6.wr W8)
  have fc11 := ((F_a1_value.keep Kc3 nin0).other W8 (Or.inr (slot_ne (Or.inr (hwi hw 29 rfl)) (Or.inr (hwi hw 27 rfl)) (by decide) (t := (.array .byte)) (t' := .byte) (by decide) (by decide))))
  obtain ⟨T12, h12, X12, e12, W12, st12⟩ := putF X8 hx hZ hown (host := "") (Or.inl (hwi hw 28 rfl)) Via.refl e8 fc11 fc10 (Or.inr ⟨(hwi hw 29 rfl), rfl, hnm⟩) (hwi hw 2 rfl) (ty := (.array .byte)) (by decide) rfl rfl (g := (mkF m 54 #[.val (.ref a1), .val (.ref a2), .val (.int 0), .val (.int 1), .val .null, .val (.ref t_3)] [(.ref t_3), (.ref a1)])) rfl rfl (hb hby d2_54)
  have N12 := Fr.snoc X12 N8 g_a1
  have Fw12 := fc11.same W12
  have sz13 : h8.size ≤ h12.size := Nat.le_of_eq W12.size.symm
  have Z13 : n0 ≤ h12.size := Nat.le_trans Z9 sz13
  have O13 := O9.wr W12 g_a1
  have K13 : Keep h0 h12 [a1] := K9.wr W12 (Or.inl (List.mem_of_getElem? (i := 0) rfl))
  have fc14 := (fc10.wr W12)
  have fc15 := (Fw8.other W12 (Or.inr (slot_ne (Or.inr (hwi hw 27 rfl)) (Or.inr (hwi hw 29 rfl)) (by decide) (t := .byte) (t' := (.array .byte)) (by decide) (by decide))))
  have fc16 := ((g3_1.other W8 (neN (by have := ltN E_a1.lt; have := ltN g3_1.lt; omega))).other W12 (neN (by have := ltN E_a1.lt; have := ltN g3_1.lt; omega)))
  obtain ⟨fs, hr, hrun, hended, hW, hsame⟩ := X12.leave (v := none) (fun _ => rfl)
  refine ⟨_, _, pre0 _ ?_, hrun, hended, _, _, rfl, ?_, ⟨_, rfl⟩, hW, hsame.mono (by decide) (by decide)⟩
  · show St p e below s₁ (mkF m 0 #[.val (.ref a1), .val (.ref a2), .val (.int 0), .val (.int 1), .val .null, .unset] []) _
    refine XS.aloadN X0.here hx rfl (hb hby d2_0) rfl rfl ?_
    show St p e below s₁ (mkF m 1 #[.val (.ref a1), .val (.ref a2), .val (.int 0), .val (.int 1), .val .null, .unset] [(.ref a1)]) _
    refine st1 _ ?_
    show St p e below T1 (mkF m 4 #[.val (.ref a1), .val (.ref a2), .val (.int 0), .val (.int 1), .val .null, .unset] []) _
    refine XS.iloadN X1.here hx rfl (hb hby d2_4) rfl ?_
    show St p e below T1 (mkF m 5 #[.val (.ref a1), .val (.ref a2), .val (.int 0), .val (.int 1), .val .null, .unset] [(.int 1)]) _
    refine XS.ifYes X1.here hx rfl (pc0 := 5) (pc' := 27) rfl (hb hby d2_5) rfl ((if0 _ _).trans (feq (by decide : ¬ ((1 : Int32) = (0 : Int32)))).2) (by decide) (by decide) ?_
    show St p e below T1 (mkF m 27 #[.val (.ref a1), .val (.ref a2), .val (.int 0), .val (.int 1), .val .null, .unset] []) _
    refine st2 _ ?_
    show St p e below T2 (mkF m 30 #[.val (.ref a1), .val (.ref a2), .val (.int 0), .val (.int 1), .val .null, .unset] [(.int w_COMPACT_STRINGS)]) _
    refine XS.ifNo X2.here hx rfl (hb hby d2_30) rfl ((if0 _ _).trans (feq hcs).1) ?_
    show St p e below T2 (mkF m 33 #[.val (.ref a1), .val (.ref a2), .val (.int 0), .val (.int 1), .val .null, .unset] []) _
    refine XS.aloadN X2.here hx rfl (hb hby d2_33) rfl rfl ?_
    show St p e below T2 (mkF m 34 #[.val (.ref a1), .val (.ref a2), .val (.int 0), .val (.int 1), .val .null, .unset] [(.ref a2)]) _
    refine XS.iloadN X2.here hx rfl (hb hby d2_34) rfl ?_
    show St p e below T2 (mkF m 35 #[.val (.ref a1), .val (.ref a2), .val (.int 0), .val (.int 1), .val .null, .unset] [(.int 0), (.ref a2)]) _
    refine XS.iloadN X2.here hx rfl (hb hby d2_35) rfl ?_
    show St p e below T2 (mkF m 36 #[.val (.ref a1), .val (.ref a2), .val (.int 0), .val (.int 1), .val .null, .unset] [(.int 1), (.int 0), (.ref a2)]) _
    refine st3 _ ?_
    show St p e below T3 (mkF m 39 #[.val (.ref a1), .val (.ref a2), .val (.int 0), .val (.int 1), .val .null, .unset] [(.ref t_3)]) _
    refine XS.astore X3.here hx rfl (hb hby d2_39) rfl rfl (l' := #[.val (.ref a1), .val (.ref a2), .val (.int 0), .val (.int 1), .val .null, .val (.ref t_3)]) rfl ?_
    show St p e below T3 (mkF m 41 #[.val (.ref a1), .val (.ref a2), .val (.int 0), .val (.int 1), .val .null, .val (.ref t_3)] []) _
    refine XS.aloadN X3.here hx rfl (hb hby d2_41) rfl rfl ?_
    show St p e below T3 (mkF m 42 #[.val (.ref a1), .val (.ref a2), .val (.int 0), .val (.int 1), .val .null, .val (.ref t_3)] [(.ref a1)]) _
    refine XS.aload X3.here hx rfl (hb hby d2_42) rfl rfl ?_
    show St p e below T3 (mkF m 44 #[.val (.ref a1), .val (.ref a2), .val (.int 0), .val (.int 1), .val .null, .val (.ref t_3)] [(.ref t_3), (.ref a1)]) _
    refine XS.iloadN X3.here hx rfl (hb hby d2_44) rfl ?_
    show St p e below T3 (mkF m 45 #[.val (.ref a1), .val (.ref a2), .val (.int 0), .val (.int 1), .val .null, .val (.ref t_3)] [(.int 1), (.ref t_3), (.ref a1)]) _
    refine st5 _ ?_
    show St p e below T5 (mkF m 48 #[.val (.ref a1), .val (.ref a2), .val (.int 0), .val (.int 1), .val .null, .val (.ref t_3)] [(.int 0), (.ref a1)]) _
    refine st8 _ ?_
    show St p e below T8 (mkF m 51 #[.val (.ref a1), .val (.ref a2), .val (.int 0), .val (.int 1), .val .null, .val (.ref t_3)] []) _
    refine XS.aloadN X8.here hx rfl (hb hby d2_51) rfl rfl ?_
    show St p e below T8 (mkF m 52 #[.val (.ref a1), .val (.ref a2), .val (.int 0), .val (.int 1), .val .null, .val (.ref t_3)] [(.ref a1)]) _
    refine XS.aload X8.here hx rfl (hb hby d2_52) rfl rfl ?_
    show St p e below T8 (mkF m 54 #[.val (.ref a1), .val (.ref a2), .val (.int 0), .val (.int 1), .val .null, .val (.ref t_3)] [(.ref t_3), (.ref a1)]) _
    refine st12 _ ?_
    show St p e below T12 (mkF m 57 #[.val (.ref a1), .val (.ref a2), .val (.int 0), .val (.int 1), .val .null, .val (.ref t_3)] []) _
    exact X12.returnOut hx Bd.returns (hb hby d2_57) hr
  · show Q_new4_1 Z a1 a2 w_COMPACT_STRINGS k_a2 c0 u_a1_coder u_a1_value h0 n0 _ T12.heap _
    rw [e12]
    exact ⟨t_3, kt_3, rfl, N12, K13, fc14, fc15, Fw12, bn_t_3, fc16⟩
def Q_new1_1 (Z : State) (a1 : Addr) (a2 : Addr) (w_COMPACT_STRINGS : Int32) (k_a2 : ClassId) (c0 : Int32) (u_a1_coder : Value) (u_a1_value : Value) (h0 : Heap) (n0 : Nat) (v : Option Value) (h : Heap) (L : List Loc) : Prop := ∃ (t : Addr) (kt : ClassId), v = none ∧ Fr n0 L ∧ Keep h0 h [a1] ∧ Exa Z h a1 "java/lang/String" ∧ Fld Z h a1 "java/lang/String" "coder" "B" (.int 0) ∧ Fld Z h a1 "java/lang/String" "value" "[B" (.ref t) ∧ h0.size ≤ t ∧ Arv Z h t kt .byte (1 : Int32) [(.int (c0.toInt8.toInt32))] (.int 0)
set_option maxRecDepth 65536 in
set_option maxHeartbeats 40000000 in
theorem rm_new1_1 (l : Launch) (Z : State) (a0 : Array Value) (hw : ∀ d ∈ tables_1, d.before a0 Z = true) (ws : List Jvm.Cond) (a1 : Addr) (a2 : Addr) (w_COMPACT_STRINGS : Int32) (k_a2 : ClassId) (c0 : Int32) (u_a1_coder : Value) (u_a1_value : Value) (h0 : Heap) (n0 : Nat) (Z0 : n0 ≤ h0.size) (S_COMPACT_STRINGS : Sta Z Z.heap "java/lang/String" "COMPACT_STRINGS" "Z" (.int w_COMPACT_STRINGS)) (hcs : ¬ (w_COMPACT_STRINGS = (0 : Int32))) (V_a2 : Arv Z h0 a2 k_a2 .char (1 : Int32) [(.int c0)] (.int 0)) (hb_c0 : ¬ ((255 : Int32) < c0)) (O0 : Old Z n0 h0) (E_a1 : Exa Z h0 a1 "java/lang/String") (F_a1_coder : Fld Z h0 a1 "java/lang/String" "coder" "B" u_a1_coder) (g_a1 : n0 ≤ a1) (F_a1_value : Fld Z h0 a1 "java/lang/String" "value" "[B" u_a1_value) :
    MetFree l (⟨"java/lang/String", "<init>", "([C)V"⟩ : MethodName) (head1 (Jvm.Cond.code (⟨"java/lang/String", "<init>", "([C)V"⟩ : MethodName) jdk_42_method_3_code 2 none :: ws) ({ frames := 3, cells := 1, slots := 1, locals := 52 } : Room)) (fun a U => a = #[(.ref a1), (.ref a2)] ∧ Z.Warmed39 U.vm ∧ U.heap = h0) (fun _ _ _ _ _ => True) (fun _ U o U' => ∃ v L, o = .returned v ∧ Q_new1_1 Z a1 a2 w_COMPACT_STRINGS k_a2 c0 u_a1_coder u_a1_value h0 n0 v U'.heap L ∧ FrameEnd U o U' L ({ frames := 3, cells := 1, slots := 1, locals := 52 } : Room).cells ({ frames := 3, cells := 1, slots := 1, locals := 52 } : Room).slots) := by
  refine MetFree.of_bodySF (plainFor_of_name pn_1) hisR ?_
  intro p e s m args below meth c s₁ Bd hml0 hP hK
  obtain ⟨rfl, hZ, hh⟩ := hP
  have hx := Bd.exec
  have hby := Bd.bytes
  have hml : c.maxLocals = 2 := hml0
  have hown : s.vm.findClass "java/lang/String" = some m.cls := findClass_of_methodNamed Bd.named
  have hnm := (name_of_methodNamed Bd.named Bd.method).1
  have X0 : Stand p l e ({ frames := 3, cells := 1, slots := 1, locals := 52 } : Room) s m #[(.ref a1), (.ref a2)] below meth c s₁ [] 0 0 := Stand.of_body Bd
  have e0 : s₁.heap = h0 := by rw [← hh, Bd.state]; rfl
  have N0 := Fr.nil n0
  have pre0 : ∀ t, Steps p.tables e below (s₁.setTop (mkF m 0 #[.val (.ref a1), .val (.ref a2)] [])) t → Steps p.tables e below (s₁.setTop (entryFrame m #[(.ref a1), (.ref a2)] 2)) t := fun t k => castTop (ef_1_RR m a1 a2) k
  obtain ⟨cl1, Ar1, -, S1, M1, -, -⟩ := id V_a2
  obtain ⟨_, _, ⟨T2, L2, k2, n2⟩, -, X2, ⟨Lc2, hQ2, l2, y2, z2⟩, st2⟩ := X0.specialBack hx (y := (⟨"java/lang/String", "<init>", "([CIILjava/lang/Void;)V"⟩ : MethodName)) rfl hown (mvT hZ (hwi hw 7 rfl)) (mvT hZ (hwi hw 8 rfl)) (mvT hZ (hwi hw 10 rfl)) (by decide) (backOf (W := 0) (rm_new4_1 l Z a0 hw [] a1 a2 w_COMPACT_STRINGS k_a2 c0 u_a1_coder u_a1_value h0 n0 Z0 S_COMPACT_STRINGS hcs V_a2 hb_c0 O0 E_a1 F_a1_coder g_a1 F_a1_value) hZ (hwi hw 10 rfl) (hwi hw 3 rfl) (by decide) (by decide)) (g := (mkF m 6 #[.val (.ref a1), .val (.ref a2)] [.null, (.int 1), (.int 0), (.ref a2), (.ref a1)])) rfl (by rw [hml]; rfl) (Steps.refl _) (a := a1) (argsL := [(.ref a2), (.int 0), (.int 1), .null]) (rest := []) (lenOf pd_CIILjava_lang_Void__V_938 rfl) rfl (by show 2 * 0 + _ ≤ _; exact Nat.le_of_eq rfl) (hb hby d1_6) (fun _ _ => ⟨rfl, e0, (by decide : 0 + 1 ≤ _), (by decide : 0 + 1 ≤ _)⟩)
  dsimp only [Pt.U, Pt.locs, Pt.cells, Pt.slots] at X2 l2 y2 z2 st2 hQ2
  subst l2 y2 z2
  obtain ⟨t_2, kt_2, rfl, N2q, Kc2, g2_0, g2_1, g2_2, g2_3, g2_4⟩ := hQ2
  have N2 := Fr.app N0 N2q
  have sz3 : h0.size ≤ T2.heap.size := Kc2.1
  have Z3 : n0 ≤ T2.heap.size := Nat.le_trans Z0 sz3
  have O3 := O0.keep Kc2 (allS g_a1 all0)
  have K3 : Keep h0 T2.heap [a1] := (Keep.refl h0 [a1]).trans Kc2 (allS (Or.inl (List.mem_of_getElem? (i := 0) rfl)) (all0))
  have bn_t_2 : h0.size ≤ t_2 := g2_3
  obtain ⟨fs, hr, hrun, hended, hW, hsame⟩ := X2.leave (v := none) (fun _ => rfl)
  refine ⟨_, _, pre0 _ ?_, hrun, hended, _, _, rfl, ?_, ⟨_, rfl⟩, hW, hsame.mono (by decide) (by decide)⟩
  · show St p e below s₁ (mkF m 0 #[.val (.ref a1), .val (.ref a2)] []) _
    refine XS.aloadN X0.here hx rfl (hb hby d1_0) rfl rfl ?_
    show St p e below s₁ (mkF m 1 #[.val (.ref a1), .val (.ref a2)] [(.ref a1)]) _
    refine XS.aloadN X0.here hx rfl (hb hby d1_1) rfl rfl ?_
    show St p e below s₁ (mkF m 2 #[.val (.ref a1), .val (.ref a2)] [(.ref a2), (.ref a1)]) _
    refine XS.iconst X0.here hx rfl (hb hby d1_2) ?_
    show St p e below s₁ (mkF m 3 #[.val (.ref a1), .val (.ref a2)] [(.int 0), (.ref a2), (.ref a1)]) _
    refine XS.aloadN X0.here hx rfl (hb hby d1_3) rfl rfl ?_
    show St p e below s₁ (mkF m 4 #[.val (.ref a1), .val (.ref a2)] [(.ref a2), (.int 0), (.ref a2), (.ref a1)]) _
    refine X0.arraylength hx (by rw [e0]; exact Ar1.1) (State.isArrayOf_alike hZ.alike Ar1.2.1) (g := (mkF m 4 #[.val (.ref a1), .val (.ref a2)] [(.ref a2), (.int 0), (.ref a2), (.ref a1)])) rfl rfl (hb hby d1_4) _ ?_
    rw [len_of S1 M1]
    show St p e below s₁ (mkF m 5 #[.val (.ref a1), .val (.ref a2)] [(.int 1), (.int 0), (.ref a2), (.ref a1)]) _
    refine XS.aconstNull X0.here hx rfl (hb hby d1_5) ?_
    show St p e below s₁ (mkF m 6 #[.val (.ref a1), .val (.ref a2)] [.null, (.int 1), (.int 0), (.ref a2), (.ref a1)]) _
    refine st2.trans ?_
    show St p e below T2 (mkF m 9 #[.val (.ref a1), .val (.ref a2)] []) _
    exact X2.returnOut hx Bd.returns (hb hby d1_9) hr
  · show Q_new1_1 Z a1 a2 w_COMPACT_STRINGS k_a2 c0 u_a1_coder u_a1_value h0 n0 _ T2.heap _
    exact ⟨t_2, kt_2, rfl, N2, K3, g2_0, g2_1, g2_2, bn_t_2, g2_4⟩
theorem d7_0 : decode prog_168_method_1_code 0 = .ok (.aload_n 0, 1) := by decide +kernel
theorem d7_1 : decode prog_168_method_1_code 1 = .ok (.invokespecial 1, 3) := by decide +kernel
theorem d7_4 : decode prog_168_method_1_code 4 = .ok (.aload_n 0, 1) := by decide +kernel
theorem d7_5 : decode prog_168_method_1_code 5 = .ok (.aload_n 1, 1) := by decide +kernel
theorem d7_6 : decode prog_168_method_1_code 6 = .ok (.putfield 7, 3) := by decide +kernel
theorem d7_9 : decode prog_168_method_1_code 9 = .ok (.aload_n 0, 1) := by decide +kernel
theorem d7_10 : decode prog_168_method_1_code 10 = .ok (.aload_n 2, 1) := by decide +kernel
theorem d7_11 : decode prog_168_method_1_code 11 = .ok (.putfield 13, 3) := by decide +kernel
theorem d7_14 : decode prog_168_method_1_code 14 = .ok (.return_, 1) := by decide +kernel
theorem pn_7 : plainName "com/example/commitgate/commitgate/store/KeySpelling" = true := by first | (simp [plainName, overriddenIn]; done) | decide +kernel
theorem ef_7_RRR (m : MethodId) (x0 : Addr) (x1 : Addr) (x2 : Addr) : entryFrame m #[(.ref x0), (.ref x1), (.ref x2)] 3 = mkF m 0 #[.val (.ref x0), .val (.ref x1), .val (.ref x2)] [] := by first | (simp [entryFrame, mkF, argsToLocals, Value.category]; done) | rfl
def Q_ksinit (Z : State) (a1 : Addr) (a2 : Addr) (a3 : Addr) (u_a1_text : Value) (u_a1_identity : Value) (h0 : Heap) (n0 : Nat) (v : Option Value) (h : Heap) (L : List Loc) : Prop := v = none ∧ Fr n0 L ∧ Keep h0 h [a1] ∧ Exa Z h a1 "com/example/commitgate/commitgate/store/KeySpelling" ∧ Fld Z h a1 "com/example/commitgate/commitgate/store/KeySpelling" "text" "Ljava/lang/String;" (.ref a2)
set_option maxRecDepth 65536 in
set_option maxHeartbeats 40000000 in
theorem rm_ksinit (l : Launch) (Z : State) (a0 : Array Value) (hw : ∀ d ∈ tables_1, d.before a0 Z = true) (ws : List Jvm.Cond) (a1 : Addr) (a2 : Addr) (a3 : Addr) (u_a1_text : Value) (u_a1_identity : Value) (h0 : Heap) (n0 : Nat) (Z0 : n0 ≤ h0.size) (E_a1 : Exa Z h0 a1 "com/example/commitgate/commitgate/store/KeySpelling") (F_a1_text : Fld Z h0 a1 "com/example/commitgate/commitgate/store/KeySpelling" "text" "Ljava/lang/String;" u_a1_text) (g_a1 : n0 ≤ a1) (O0 : Old Z n0 h0) (F_a1_identity : Fld Z h0 a1 "com/example/commitgate/commitgate/store/KeySpelling" "identity" "[B" u_a1_identity) :
    MetFree l (⟨"com/example/commitgate/commitgate/store/KeySpelling", "<init>", "(Ljava/lang/String;[B)V"⟩ : MethodName) (head1 (Jvm.Cond.code (⟨"com/example/commitgate/commitgate/store/KeySpelling", "<init>", "(Ljava/lang/String;[B)V"⟩ : MethodName) prog_168_method_1_code 3 none :: ws) ({ frames := 1, cells := 0, slots := 0, locals := 12 } : Room)) (fun a U => a = #[(.ref a1), (.ref a2), (.ref a3)] ∧ Z.Warmed39 U.vm ∧ U.heap = h0) (fun _ _ _ _ _ => True) (fun _ U o U' => ∃ v L, o = .returned v ∧ Q_ksinit Z a1 a2 a3 u_a1_text u_a1_identity h0 n0 v U'.heap L ∧ FrameEnd U o U' L ({ frames := 1, cells := 0, slots := 0, locals := 12 } : Room).cells ({ frames := 1, cells := 0, slots := 0, locals := 12 } : Room).slots) := by
  refine MetFree.of_bodySF (plainFor_of_name pn_7) hisR ?_
  intro p e s m args below meth c s₁ Bd hml0 hP hK
  obtain ⟨rfl, hZ, hh⟩ := hP
  have hx := Bd.exec
  have hby := Bd.bytes
  have hml : c.maxLocals = 3 := hml0
  have hown : s.vm.findClass "com/example/commitgate/commitgate/store/KeySpelling" = some m.cls := findClass_of_methodNamed Bd.named
  have hnm := (name_of_methodNamed Bd.named Bd.method).1
  have X0 : Stand p l e ({ frames := 1, cells := 0, slots := 0, locals := 12 } : Room) s m #[(.ref a1), (.ref a2), (.ref a3)] below meth c s₁ [] 0 0 := Stand.of_body Bd
  have e0 : s₁.heap = h0 := by rw [← hh, Bd.state]; rfl
  have N0 := Fr.nil n0
  have pre0 : ∀ t, Steps p.tables e below (s₁.setTop (mkF m 0 #[.val (.ref a1), .val (.ref a2), .val (.ref a3)] [])) t → Steps p.tables e below (s₁.setTop (entryFrame m #[(.ref a1), (.ref a2), (.ref a3)] 3)) t := fun t k => castTop (ef_7_RRR m a1 a2 a3) k
  obtain ⟨T1, X1, e1, st1⟩ := initO X0 hx hZ hown (hwi hw 37 rfl) (hwi hw 12 rfl) (hwi hw 13 rfl) e0 (g := (mkF m 1 #[.val (.ref a1), .val (.ref a2), .val (.ref a3)] [(.ref a1)])) rfl (by rw [hml]; rfl) rfl (hb hby d7_1) (by decide) (W := 0) (by show 2 * 0 + _ ≤ _; exact Nat.le_of_eq rfl) (by decide)
  obtain ⟨T2, h2, X2, e2, W2, st2⟩ := putF X1 hx hZ hown (host := "") (Or.inl (hwi hw 38 rfl)) Via.refl e1 F_a1_text E_a1 (Or.inr ⟨(hwi hw 39 rfl), rfl, hnm⟩) (hwi hw 32 rfl) (ty := (.object "java/lang/String")) (by decide) rfl rfl (g := (mkF m 6 #[.val (.ref a1), .val (.ref a2), .val (.ref a3)] [(.ref a2), (.ref a1)])) rfl rfl (hb hby d7_6)
  have N2 := Fr.snoc X2 N0 g_a1
  have Fw2 := F_a1_text.same W2
  have sz3 : h0.size ≤ h2.size := Nat.le_of_eq W2.size.symm
  have Z3 : n0 ≤ h2.size := Nat.le_trans Z0 sz3
  have O3 := O0.wr W2 g_a1
  have K3 : Keep h0 h2 [a1] := (Keep.refl h0 [a1]).wr W2 (Or.inl (List.mem_of_getElem? (i := 0) rfl))
  have fc4 := (E_a1.wr W2)
  have fc5 := (F_a1_identity.other W2 (Or.inr (slot_ne (Or.inr (hwi hw 41 rfl)) (Or.inr (hwi hw 39 rfl)) (by decide) (t := (.array .byte)) (t' := (.object "java/lang/String")) (by decide) (by decide))))
  obtain ⟨T6, h6, X6, e6, W6, st6⟩ := putF X2 hx hZ hown (host := "") (Or.inl (hwi hw 40 rfl)) Via.refl e2 fc5 fc4 (Or.inr ⟨(hwi hw 41 rfl), rfl, hnm⟩) (hwi hw 32 rfl) (ty := (.array .byte)) (by decide) rfl rfl (g := (mkF m 11 #[.val (.ref a1), .val (.ref a2), .val (.ref a3)] [(.ref a3), (.ref a1)])) rfl rfl (hb hby d7_11)
  have N6 := Fr.snoc X6 N2 g_a1
  have Fw6 := fc5.same W6
  have sz7 : h2.size ≤ h6.size := Nat.le_of_eq W6.size.symm
  have Z7 : n0 ≤ h6.size := Nat.le_trans Z3 sz7
  have O7 := O3.wr W6 g_a1
  have K7 : Keep h0 h6 [a1] := K3.wr W6 (Or.inl (List.mem_of_getElem? (i := 0) rfl))
  have fc8 := (fc4.wr W6)
  have fc9 := (Fw2.other W6 (Or.inr (slot_ne (Or.inr (hwi hw 39 rfl)) (Or.inr (hwi hw 41 rfl)) (by decide) (t := (.object "java/lang/String")) (t' := (.array .byte)) (by decide) (by decide))))
  obtain ⟨fs, hr, hrun, hended, hW, hsame⟩ := X6.leave (v := none) (fun _ => rfl)
  refine ⟨_, _, pre0 _ ?_, hrun, hended, _, _, rfl, ?_, ⟨_, rfl⟩, hW, hsame.mono (by decide) (by decide)⟩
  · show St p e below s₁ (mkF m 0 #[.val (.ref a1), .val (.ref a2), .val (.ref a3)] []) _
    refine XS.aloadN X0.here hx rfl (hb hby d7_0) rfl rfl ?_
    show St p e below s₁ (mkF m 1 #[.val (.ref a1), .val (.ref a2), .val (.ref a3)] [(.ref a1)]) _
    refine st1 _ ?_
    show St p e below T1 (mkF m 4 #[.val (.ref a1), .val (.ref a2), .val (.ref a3)] []) _
    refine XS.aloadN X1.here hx rfl (hb hby d7_4) rfl rfl ?_
    show St p e below T1 (mkF m 5 #[.val (.ref a1), .val (.ref a2), .val (.ref a3)] [(.ref a1)]) _
    refine XS.aloadN X1.here hx rfl (hb hby d7_5) rfl rfl ?_
    show St p e below T1 (mkF m 6 #[.val (.ref a1), .val (.ref a2), .val (.ref a3)] [(.ref a2), (.ref a1)]) _
    refine st2 _ ?_
    show St p e below T2 (mkF m 9 #[.val (.ref a1), .val (.ref a2), .val (.ref a3)] []) _
    refine XS.aloadN X2.here hx rfl (hb hby d7_9) rfl rfl ?_
    show St p e below T2 (mkF m 10 #[.val (.ref a1), .val (.ref a2), .val (.ref a3)] [(.ref a1)]) _
    refine XS.aloadN X2.here hx rfl (hb hby d7_10) rfl rfl ?_
    show St p e below T2 (mkF m 11 #[.val (.ref a1), .val (.ref a2), .val (.ref a3)] [(.ref a3), (.ref a1)]) _
    refine st6 _ ?_
    show St p e below T6 (mkF m 14 #[.val (.ref a1), .val (.ref a2), .val (.ref a3)] []) _
    exact X6.returnOut hx Bd.returns (hb hby d7_14) hr
  · show Q_ksinit Z a1 a2 a3 u_a1_text u_a1_identity h0 n0 _ T6.heap _
    rw [e6]
    exact ⟨rfl, N6, K7, fc8, fc9⟩
theorem d8_0 : decode prog_168_method_2_code 0 = .ok (.aload_n 0, 1) := by decide +kernel
theorem d8_1 : decode prog_168_method_2_code 1 = .ok (.instanceof 8, 3) := by decide +kernel
theorem d8_4 : decode prog_168_method_2_code 4 = .ok (.ifCond .eq 15, 3) := by decide +kernel
theorem d8_7 : decode prog_168_method_2_code 7 = .ok (.aload_n 0, 1) := by decide +kernel
theorem d8_8 : decode prog_168_method_2_code 8 = .ok (.checkcast 8, 3) := by decide +kernel
theorem d8_11 : decode prog_168_method_2_code 11 = .ok (.astore_n 1, 1) := by decide +kernel
theorem d8_12 : decode prog_168_method_2_code 12 = .ok (.aload_n 1, 1) := by decide +kernel
theorem d8_13 : decode prog_168_method_2_code 13 = .ok (.getfield 7, 3) := by decide +kernel
theorem d8_16 : decode prog_168_method_2_code 16 = .ok (.goto 4, 3) := by decide +kernel
theorem d8_20 : decode prog_168_method_2_code 20 = .ok (.areturn, 1) := by decide +kernel
theorem pn_8 : plainName "com/example/commitgate/commitgate/store/KeySpelling" = true := by first | (simp [plainName, overriddenIn]; done) | decide +kernel
theorem ef_8_R (m : MethodId) (x0 : Addr) : entryFrame m #[(.ref x0)] 2 = mkF m 0 #[.val (.ref x0), .unset] [] := by first | (simp [entryFrame, mkF, argsToLocals, Value.category]; done) | rfl
def Q_text_ks (Z : State) (a1 : Addr) (v_a1_text : Addr) (h0 : Heap) (n0 : Nat) (v : Option Value) (h : Heap) (L : List Loc) : Prop := v = some (.ref v_a1_text) ∧ Fr n0 L ∧ h = h0
set_option maxRecDepth 65536 in
set_option maxHeartbeats 40000000 in
theorem rm_text_ks (l : Launch) (Z : State) (a0 : Array Value) (hw : ∀ d ∈ tables_1, d.before a0 Z = true) (ws : List Jvm.Cond) (a1 : Addr) (v_a1_text : Addr) (h0 : Heap) (n0 : Nat) (Z0 : n0 ≤ h0.size) (E_a1 : Exa Z h0 a1 "com/example/commitgate/commitgate/store/KeySpelling") (F_a1_text : Fld Z h0 a1 "com/example/commitgate/commitgate/store/KeySpelling" "text" "Ljava/lang/String;" (.ref v_a1_text)) :
    MetFree l (⟨"com/example/commitgate/commitgate/store/KeySpelling", "text", "(Ljava/lang/Object;)Ljava/lang/Object;"⟩ : MethodName) (head1 (Jvm.Cond.code (⟨"com/example/commitgate/commitgate/store/KeySpelling", "text", "(Ljava/lang/Object;)Ljava/lang/Object;"⟩ : MethodName) prog_168_method_2_code 2 (some (.object "java/lang/Object")) :: ws) ({ frames := 0, cells := 0, slots := 0, locals := 0 } : Room)) (fun a U => a = #[(.ref a1)] ∧ Z.Warmed39 U.vm ∧ U.heap = h0) (fun _ _ _ _ _ => True) (fun _ U o U' => ∃ v L, o = .returned v ∧ Q_text_ks Z a1 v_a1_text h0 n0 v U'.heap L ∧ FrameEnd U o U' L ({ frames := 0, cells := 0, slots := 0, locals := 0 } : Room).cells ({ frames := 0, cells := 0, slots := 0, locals := 0 } : Room).slots) := by
  refine MetFree.of_bodySF (plainFor_of_name pn_8) hisR ?_
  intro p e s m args below meth c s₁ Bd hml0 hP hK
  obtain ⟨rfl, hZ, hh⟩ := hP
  have hx := Bd.exec
  have hby := Bd.bytes
  have hml : c.maxLocals = 2 := hml0
  have hown : s.vm.findClass "com/example/commitgate/commitgate/store/KeySpelling" = some m.cls := findClass_of_methodNamed Bd.named
  have hnm := (name_of_methodNamed Bd.named Bd.method).1
  have X0 : Stand p l e ({ frames := 0, cells := 0, slots := 0, locals := 0 } : Room) s m #[(.ref a1)] below meth c s₁ [] 0 0 := Stand.of_body Bd
  have e0 : s₁.heap = h0 := by rw [← hh, Bd.state]; rfl
  have N0 := Fr.nil n0
  have pre0 : ∀ t, Steps p.tables e below (s₁.setTop (mkF m 0 #[.val (.ref a1), .unset] [])) t → Steps p.tables e below (s₁.setTop (entryFrame m #[(.ref a1)] 2)) t := fun t k => castTop (ef_8_R m a1) k
  obtain ⟨T1, X1, e1, st1⟩ := instY X0 hx hZ hown (hwi hw 45 rfl) e0 (Ins.self E_a1) (g := (mkF m 1 #[.val (.ref a1), .unset] [(.ref a1)])) rfl rfl (hb hby d8_1)
  obtain ⟨T2, X2, e2, st2⟩ := castY X1 hx hZ hown (hwi hw 45 rfl) e1 (Ins.self E_a1) (g := (mkF m 8 #[.val (.ref a1), .unset] [(.ref a1)])) rfl rfl (hb hby d8_8)
  obtain ⟨T3, X3, e3, st3⟩ := getF X2 hx hZ hown (host := "") (Or.inl (hwi hw 38 rfl)) Via.refl e2 F_a1_text (g := (mkF m 13 #[.val (.ref a1), .val (.ref a1)] [(.ref a1)])) rfl rfl (hb hby d8_13)
  obtain ⟨fs, hr, hrun, hended, hW, hsame⟩ := X3.leave (v := some (.ref v_a1_text)) (fun h => by rw [Bd.returns] at h; cases h)
  refine ⟨_, _, pre0 _ ?_, hrun, hended, _, _, rfl, ?_, ⟨_, rfl⟩, hW, hsame.mono (by decide) (by decide)⟩
  · show St p e below s₁ (mkF m 0 #[.val (.ref a1), .unset] []) _
    refine XS.aloadN X0.here hx rfl (hb hby d8_0) rfl rfl ?_
    show St p e below s₁ (mkF m 1 #[.val (.ref a1), .unset] [(.ref a1)]) _
    refine st1 _ ?_
    show St p e below T1 (mkF m 4 #[.val (.ref a1), .unset] [(.int 1)]) _
    refine XS.ifNo X1.here hx rfl (hb hby d8_4) rfl ((if0 _ _).trans (feq (by decide : ¬ ((1 : Int32) = (0 : Int32)))).1) ?_
    show St p e below T1 (mkF m 7 #[.val (.ref a1), .unset] []) _
    refine XS.aloadN X1.here hx rfl (hb hby d8_7) rfl rfl ?_
    show St p e below T1 (mkF m 8 #[.val (.ref a1), .unset] [(.ref a1)]) _
    refine st2 _ ?_
    show St p e below T2 (mkF m 11 #[.val (.ref a1), .unset] [(.ref a1)]) _
    refine XS.astoreN X2.here hx rfl (hb hby d8_11) rfl rfl (l' := #[.val (.ref a1), .val (.ref a1)]) rfl ?_
    show St p e below T2 (mkF m 12 #[.val (.ref a1), .val (.ref a1)] []) _
    refine XS.aloadN X2.here hx rfl (hb hby d8_12) rfl rfl ?_
    show St p e below T2 (mkF m 13 #[.val (.ref a1), .val (.ref a1)] [(.ref a1)]) _
    refine st3 _ ?_
    show St p e below T3 (mkF m 16 #[.val (.ref a1), .val (.ref a1)] [(.ref v_a1_text)]) _
    refine XS.goto X3.here hx rfl (pc0 := 16) (pc' := 20) rfl (hb hby d8_16) (by decide) (by decide) ?_
    show St p e below T3 (mkF m 20 #[.val (.ref a1), .val (.ref a1)] [(.ref v_a1_text)]) _
    jvm_step X3.here [X3.here.top, hx, (hb hby d8_20), X3.method', Bd.returns, Value.isRef, FieldType.isReference]
    first | (intro acts; rw [hr _ acts rfl rfl rfl]) | rw [hr _ _ rfl rfl rfl]
    exact Steps.refl _
  · show Q_text_ks Z a1 v_a1_text h0 n0 _ T3.heap _
    rw [e3]
    exact ⟨rfl, N0, rfl⟩
theorem own_root {Z : State} {a0 : Array Value} {O K : String} {n : Nat} (w : (Jvm.Cond.noSuperclass O).before a0 Z = true) (wk : (Jvm.Cond.instantiable K n).before a0 Z = true) (hn : O ≠ K) : NS Z O K := by
  obtain ⟨c, k, h1, h2, h3, -, -⟩ := Cond.noSuperclass_spec w
  obtain ⟨t, kt, g1, -⟩ := Cond.instantiable_spec wk
  have ne := ids_ne h1 g1 hn
  refine ⟨c, t, h1, g1, fun fuel => ?_⟩
  cases fuel with
  | zero => rfl
  | succ f => simp [Vm.isSubclassAux, ne, h2, h3]
theorem own_no {Z : State} {a0 : Array Value} {C S K : String} {n : Nat} (w : (Jvm.Cond.superclass C S).before a0 Z = true) (wk : (Jvm.Cond.instantiable K n).before a0 Z = true) (ns : NS Z C K) (hn : C ≠ K) : ∃ c t, Z.vm.findClass C = some c ∧ Z.vm.findClass K = some t ∧ Z.vm.assignable c t = false := by
  obtain ⟨c, t, h0, g0, n3⟩ := ns
  obtain ⟨p, k, kp, h1, h2, h3, h4, h5, -, h7⟩ := Cond.superclass_spec h0 w
  obtain ⟨q, k', g1, g2, g3, g4, -⟩ := Cond.instantiable_spec wk
  cases g0.symm.trans g1
  have ne := ids_ne h0 g0 hn
  simp only [Bool.or_eq_false_iff] at g4
  refine ⟨c, t, h0, g0, ?_⟩
  show Z.vm.assignableAux (255 + 1) c t = false
  simp [Vm.assignableAux, ne, h2, g2, h5, g3, g4.1, Vm.isSubclass, n3]
theorem d8_19 : decode prog_168_method_2_code 19 = .ok (.aload_n 0, 1) := by decide +kernel
def Q_text_long (Z : State) (a1 : Addr) (h0 : Heap) (n0 : Nat) (v : Option Value) (h : Heap) (L : List Loc) : Prop := v = some (.ref a1) ∧ Fr n0 L ∧ h = h0
set_option maxRecDepth 65536 in
set_option maxHeartbeats 40000000 in
theorem rm_text_long (l : Launch) (Z : State) (a0 : Array Value) (hw : ∀ d ∈ tables_1, d.before a0 Z = true) (ws : List Jvm.Cond) (a1 : Addr) (h0 : Heap) (n0 : Nat) (Z0 : n0 ≤ h0.size) (E_a1 : Exa Z h0 a1 "java/lang/Long") :
    MetFree l (⟨"com/example/commitgate/commitgate/store/KeySpelling", "text", "(Ljava/lang/Object;)Ljava/lang/Object;"⟩ : MethodName) (head1 (Jvm.Cond.code (⟨"com/example/commitgate/commitgate/store/KeySpelling", "text", "(Ljava/lang/Object;)Ljava/lang/Object;"⟩ : MethodName) prog_168_method_2_code 2 (some (.object "java/lang/Object")) :: ws) ({ frames := 0, cells := 0, slots := 0, locals := 0 } : Room)) (fun a U => a = #[(.ref a1)] ∧ Z.Warmed39 U.vm ∧ U.heap = h0) (fun _ _ _ _ _ => True) (fun _ U o U' => ∃ v L, o = .returned v ∧ Q_text_long Z a1 h0 n0 v U'.heap L ∧ FrameEnd U o U' L ({ frames := 0, cells := 0, slots := 0, locals := 0 } : Room).cells ({ frames := 0, cells := 0, slots := 0, locals := 0 } : Room).slots) := by
  refine MetFree.of_bodySF (plainFor_of_name pn_8) hisR ?_
  intro p e s m args below meth c s₁ Bd hml0 hP hK
  obtain ⟨rfl, hZ, hh⟩ := hP
  have hx := Bd.exec
  have hby := Bd.bytes
  have hml : c.maxLocals = 2 := hml0
  have hown : s.vm.findClass "com/example/commitgate/commitgate/store/KeySpelling" = some m.cls := findClass_of_methodNamed Bd.named
  have hnm := (name_of_methodNamed Bd.named Bd.method).1
  have X0 : Stand p l e ({ frames := 0, cells := 0, slots := 0, locals := 0 } : Room) s m #[(.ref a1)] below meth c s₁ [] 0 0 := Stand.of_body Bd
  have e0 : s₁.heap = h0 := by rw [← hh, Bd.state]; rfl
  have N0 := Fr.nil n0
  have pre0 : ∀ t, Steps p.tables e below (s₁.setTop (mkF m 0 #[.val (.ref a1), .unset] [])) t → Steps p.tables e below (s₁.setTop (entryFrame m #[(.ref a1)] 2)) t := fun t k => castTop (ef_8_R m a1) k
  obtain ⟨T1, X1, e1, st1⟩ := instNo X0 hx hZ hown (hwi hw 45 rfl) e0 E_a1 (own_no (hwi hw 68 rfl) (hwi hw 32 rfl) (NS.step (hwi hw 68 rfl) (NS.step (hwi hw 69 rfl) (own_root (hwi hw 70 rfl) (hwi hw 32 rfl) (by decide)) (by decide)) (by decide)) (by decide)) (g := (mkF m 1 #[.val (.ref a1), .unset] [(.ref a1)])) rfl rfl (hb hby d8_1)
  obtain ⟨fs, hr, hrun, hended, hW, hsame⟩ := X1.leave (v := some (.ref a1)) (fun h => by rw [Bd.returns] at h; cases h)
  refine ⟨_, _, pre0 _ ?_, hrun, hended, _, _, rfl, ?_, ⟨_, rfl⟩, hW, hsame.mono (by decide) (by decide)⟩
  · show St p e below s₁ (mkF m 0 #[.val (.ref a1), .unset] []) _
    refine XS.aloadN X0.here hx rfl (hb hby d8_0) rfl rfl ?_
    show St p e below s₁ (mkF m 1 #[.val (.ref a1), .unset] [(.ref a1)]) _
    refine st1 _ ?_
    show St p e below T1 (mkF m 4 #[.val (.ref a1), .unset] [(.int 0)]) _
    refine XS.ifYes X1.here hx rfl (pc0 := 4) (pc' := 19) rfl (hb hby d8_4) rfl ((if0 _ _).trans (teq (by decide : (0 : Int32) = (0 : Int32))).1) (by decide) (by decide) ?_
    show St p e below T1 (mkF m 19 #[.val (.ref a1), .unset] []) _
    refine XS.aloadN X1.here hx rfl (hb hby d8_19) rfl rfl ?_
    show St p e below T1 (mkF m 20 #[.val (.ref a1), .unset] [(.ref a1)]) _
    jvm_step X1.here [X1.here.top, hx, (hb hby d8_20), X1.method', Bd.returns, Value.isRef, FieldType.isReference]
    first | (intro acts; rw [hr _ acts rfl rfl rfl]) | rw [hr _ _ rfl rfl rfl]
    exact Steps.refl _
  · show Q_text_long Z a1 h0 n0 _ T1.heap _
    rw [e1]
    exact ⟨rfl, N0, rfl⟩
def Q_text_str (Z : State) (a1 : Addr) (h0 : Heap) (n0 : Nat) (v : Option Value) (h : Heap) (L : List Loc) : Prop := v = some (.ref a1) ∧ Fr n0 L ∧ h = h0
set_option maxRecDepth 65536 in
set_option maxHeartbeats 40000000 in
theorem rm_text_str (l : Launch) (Z : State) (a0 : Array Value) (hw : ∀ d ∈ tables_1, d.before a0 Z = true) (ws : List Jvm.Cond) (a1 : Addr) (h0 : Heap) (n0 : Nat) (Z0 : n0 ≤ h0.size) (E_a1 : Exa Z h0 a1 "java/lang/String") :
    MetFree l (⟨"com/example/commitgate/commitgate/store/KeySpelling", "text", "(Ljava/lang/Object;)Ljava/lang/Object;"⟩ : MethodName) (head1 (Jvm.Cond.code (⟨"com/example/commitgate/commitgate/store/KeySpelling", "text", "(Ljava/lang/Object;)Ljava/lang/Object;"⟩ : MethodName) prog_168_method_2_code 2 (some (.object "java/lang/Object")) :: ws) ({ frames := 0, cells := 0, slots := 0, locals := 0 } : Room)) (fun a U => a = #[(.ref a1)] ∧ Z.Warmed39 U.vm ∧ U.heap = h0) (fun _ _ _ _ _ => True) (fun _ U o U' => ∃ v L, o = .returned v ∧ Q_text_str Z a1 h0 n0 v U'.heap L ∧ FrameEnd U o U' L ({ frames := 0, cells := 0, slots := 0, locals := 0 } : Room).cells ({ frames := 0, cells := 0, slots := 0, locals := 0 } : Room).slots) := by
  refine MetFree.of_bodySF (plainFor_of_name pn_8) hisR ?_
  intro p e s m args below meth c s₁ Bd hml0 hP hK
  obtain ⟨rfl, hZ, hh⟩ := hP
  have hx := Bd.exec
  have hby := Bd.bytes
  have hml : c.maxLocals = 2 := hml0
  have hown : s.vm.findClass "com/example/commitgate/commitgate/store/KeySpelling" = some m.cls := findClass_of_methodNamed Bd.named
  have hnm := (name_of_methodNamed Bd.named Bd.method).1
  have X0 : Stand p l e ({ frames := 0, cells := 0, slots := 0, locals := 0 } : Room) s m #[(.ref a1)] below meth c s₁ [] 0 0 := Stand.of_body Bd
  have e0 : s₁.heap = h0 := by rw [← hh, Bd.state]; rfl
  have N0 := Fr.nil n0
  have pre0 : ∀ t, Steps p.tables e below (s₁.setTop (mkF m 0 #[.val (.ref a1), .unset] [])) t → Steps p.tables e below (s₁.setTop (entryFrame m #[(.ref a1)] 2)) t := fun t k => castTop (ef_8_R m a1) k
  obtain ⟨T1, X1, e1, st1⟩ := instNo X0 hx hZ hown (hwi hw 45 rfl) e0 E_a1 (own_no (hwi hw 71 rfl) (hwi hw 32 rfl) (NS.step (hwi hw 71 rfl) (own_root (hwi hw 70 rfl) (hwi hw 32 rfl) (by decide)) (by decide)) (by decide)) (g := (mkF m 1 #[.val (.ref a1), .unset] [(.ref a1)])) rfl rfl (hb hby d8_1)
  obtain ⟨fs, hr, hrun, hended, hW, hsame⟩ := X1.leave (v := some (.ref a1)) (fun h => by rw [Bd.returns] at h; cases h)
  refine ⟨_, _, pre0 _ ?_, hrun, hended, _, _, rfl, ?_, ⟨_, rfl⟩, hW, hsame.mono (by decide) (by decide)⟩
  · show St p e below s₁ (mkF m 0 #[.val (.ref a1), .unset] []) _
    refine XS.aloadN X0.here hx rfl (hb hby d8_0) rfl rfl ?_
    show St p e below s₁ (mkF m 1 #[.val (.ref a1), .unset] [(.ref a1)]) _
    refine st1 _ ?_
    show St p e below T1 (mkF m 4 #[.val (.ref a1), .unset] [(.int 0)]) _
    refine XS.ifYes X1.here hx rfl (pc0 := 4) (pc' := 19) rfl (hb hby d8_4) rfl ((if0 _ _).trans (teq (by decide : (0 : Int32) = (0 : Int32))).1) (by decide) (by decide) ?_
    show St p e below T1 (mkF m 19 #[.val (.ref a1), .unset] []) _
    refine XS.aloadN X1.here hx rfl (hb hby d8_19) rfl rfl ?_
    show St p e below T1 (mkF m 20 #[.val (.ref a1), .unset] [(.ref a1)]) _
    jvm_step X1.here [X1.here.top, hx, (hb hby d8_20), X1.method', Bd.returns, Value.isRef, FieldType.isReference]
    first | (intro acts; rw [hr _ acts rfl rfl rfl]) | rw [hr _ _ rfl rfl rfl]
    exact Steps.refl _
  · show Q_text_str Z a1 h0 n0 _ T1.heap _
    rw [e1]
    exact ⟨rfl, N0, rfl⟩
theorem ef_8_n (m : MethodId)  : entryFrame m #[.null] 2 = mkF m 0 #[.val .null, .unset] [] := by first | (simp [entryFrame, mkF, argsToLocals, Value.category]; done) | rfl
def Q_text_null (Z : State)  (h0 : Heap) (n0 : Nat) (v : Option Value) (h : Heap) (L : List Loc) : Prop := v = some .null ∧ Fr n0 L ∧ h = h0
set_option maxRecDepth 65536 in
set_option maxHeartbeats 40000000 in
theorem rm_text_null (l : Launch) (Z : State) (a0 : Array Value) (hw : ∀ d ∈ tables_1, d.before a0 Z = true) (ws : List Jvm.Cond)  (h0 : Heap) (n0 : Nat) (Z0 : n0 ≤ h0.size) :
    MetFree l (⟨"com/example/commitgate/commitgate/store/KeySpelling", "text", "(Ljava/lang/Object;)Ljava/lang/Object;"⟩ : MethodName) (head1 (Jvm.Cond.code (⟨"com/example/commitgate/commitgate/store/KeySpelling", "text", "(Ljava/lang/Object;)Ljava/lang/Object;"⟩ : MethodName) prog_168_method_2_code 2 (some (.object "java/lang/Object")) :: ws) ({ frames := 0, cells := 0, slots := 0, locals := 0 } : Room)) (fun a U => a = #[.null] ∧ Z.Warmed39 U.vm ∧ U.heap = h0) (fun _ _ _ _ _ => True) (fun _ U o U' => ∃ v L, o = .returned v ∧ Q_text_null Z  h0 n0 v U'.heap L ∧ FrameEnd U o U' L ({ frames := 0, cells := 0, slots := 0, locals := 0 } : Room).cells ({ frames := 0, cells := 0, slots := 0, locals := 0 } : Room).slots) := by
  refine MetFree.of_bodySF (plainFor_of_name pn_8) hisR ?_
  intro p e s m args below meth c s₁ Bd hml0 hP hK
  obtain ⟨rfl, hZ, hh⟩ := hP
  have hx := Bd.exec
  have hby := Bd.bytes
  have hml : c.maxLocals = 2 := hml0
  have hown : s.vm.findClass "com/example/commitgate/commitgate/store/KeySpelling" = some m.cls := findClass_of_methodNamed Bd.named
  have hnm := (name_of_methodNamed Bd.named Bd.method).1
  have X0 : Stand p l e ({ frames := 0, cells := 0, slots := 0, locals := 0 } : Room) s m #[.null] below meth c s₁ [] 0 0 := Stand.of_body Bd
  have e0 : s₁.heap = h0 := by rw [← hh, Bd.state]; rfl
  have N0 := Fr.nil n0
  have pre0 : ∀ t, Steps p.tables e below (s₁.setTop (mkF m 0 #[.val .null, .unset] [])) t → Steps p.tables e below (s₁.setTop (entryFrame m #[.null] 2)) t := fun t k => castTop (ef_8_n m ) k
  obtain ⟨fs, hr, hrun, hended, hW, hsame⟩ := X0.leave (v := some .null) (fun h => by rw [Bd.returns] at h; cases h)
  refine ⟨_, _, pre0 _ ?_, hrun, hended, _, _, rfl, ?_, ⟨_, rfl⟩, hW, hsame.mono (by decide) (by decide)⟩
  · show St p e below s₁ (mkF m 0 #[.val .null, .unset] []) _
    refine XS.aloadN X0.here hx rfl (hb hby d8_0) rfl rfl ?_
    show St p e below s₁ (mkF m 1 #[.val .null, .unset] [.null]) _
    refine X0.instanceofNull hx (g := (mkF m 1 #[.val .null, .unset] [.null])) rfl rfl (hb hby d8_1) _ ?_
    show St p e below s₁ (mkF m 4 #[.val .null, .unset] [(.int 0)]) _
    refine XS.ifYes X0.here hx rfl (pc0 := 4) (pc' := 19) rfl (hb hby d8_4) rfl ((if0 _ _).trans (teq (by decide : (0 : Int32) = (0 : Int32))).1) (by decide) (by decide) ?_
    show St p e below s₁ (mkF m 19 #[.val .null, .unset] []) _
    refine XS.aloadN X0.here hx rfl (hb hby d8_19) rfl rfl ?_
    show St p e below s₁ (mkF m 20 #[.val .null, .unset] [.null]) _
    jvm_step X0.here [X0.here.top, hx, (hb hby d8_20), X0.method', Bd.returns, Value.isRef, FieldType.isReference]
    first | (intro acts; rw [hr _ acts rfl rfl rfl]) | rw [hr _ _ rfl rfl rfl]
    exact Steps.refl _
  · show Q_text_null Z  h0 n0 _ s₁.heap _
    rw [e0]
    exact ⟨rfl, N0, rfl⟩
theorem d11_0 : decode jdk_18_method_1_code 0 = .ok (.aload_n 0, 1) := by decide +kernel
theorem d11_1 : decode jdk_18_method_1_code 1 = .ok (.invokespecial 1, 3) := by decide +kernel
theorem d11_4 : decode jdk_18_method_1_code 4 = .ok (.return_, 1) := by decide +kernel
theorem pn_11 : plainName "java/lang/Number" = true := by first | (simp [plainName, overriddenIn]; done) | decide +kernel
theorem ef_11_R (m : MethodId) (x0 : Addr) : entryFrame m #[(.ref x0)] 1 = mkF m 0 #[.val (.ref x0)] [] := by first | (simp [entryFrame, mkF, argsToLocals, Value.category]; done) | rfl
def Q_numinit (Z : State) (a1 : Addr) (h0 : Heap) (n0 : Nat) (v : Option Value) (h : Heap) (L : List Loc) : Prop := v = none ∧ Fr n0 L ∧ h = h0
set_option maxRecDepth 65536 in
set_option maxHeartbeats 40000000 in
theorem rm_numinit (l : Launch) (Z : State) (a0 : Array Value) (hw : ∀ d ∈ tables_1, d.before a0 Z = true) (ws : List Jvm.Cond) (a1 : Addr) (h0 : Heap) (n0 : Nat) (Z0 : n0 ≤ h0.size) :
    MetFree l (⟨"java/lang/Number", "<init>", "()V"⟩ : MethodName) (head1 (Jvm.Cond.code (⟨"java/lang/Number", "<init>", "()V"⟩ : MethodName) jdk_18_method_1_code 1 none :: ws) ({ frames := 1, cells := 0, slots := 0, locals := 12 } : Room)) (fun a U => a = #[(.ref a1)] ∧ Z.Warmed39 U.vm ∧ U.heap = h0) (fun _ _ _ _ _ => True) (fun _ U o U' => ∃ v L, o = .returned v ∧ Q_numinit Z a1 h0 n0 v U'.heap L ∧ FrameEnd U o U' L ({ frames := 1, cells := 0, slots := 0, locals := 12 } : Room).cells ({ frames := 1, cells := 0, slots := 0, locals := 12 } : Room).slots) := by
  refine MetFree.of_bodySF (plainFor_of_name pn_11) hisR ?_
  intro p e s m args below meth c s₁ Bd hml0 hP hK
  obtain ⟨rfl, hZ, hh⟩ := hP
  have hx := Bd.exec
  have hby := Bd.bytes
  have hml : c.maxLocals = 1 := hml0
  have hown : s.vm.findClass "java/lang/Number" = some m.cls := findClass_of_methodNamed Bd.named
  have hnm := (name_of_methodNamed Bd.named Bd.method).1
  have X0 : Stand p l e ({ frames := 1, cells := 0, slots := 0, locals := 12 } : Room) s m #[(.ref a1)] below meth c s₁ [] 0 0 := Stand.of_body Bd
  have e0 : s₁.heap = h0 := by rw [← hh, Bd.state]; rfl
  have N0 := Fr.nil n0
  have pre0 : ∀ t, Steps p.tables e below (s₁.setTop (mkF m 0 #[.val (.ref a1)] [])) t → Steps p.tables e below (s₁.setTop (entryFrame m #[(.ref a1)] 1)) t := fun t k => castTop (ef_11_R m a1) k
  obtain ⟨T1, X1, e1, st1⟩ := initO X0 hx hZ hown (hwi hw 65 rfl) (hwi hw 12 rfl) (hwi hw 13 rfl) e0 (g := (mkF m 1 #[.val (.ref a1)] [(.ref a1)])) rfl (by rw [hml]; rfl) rfl (hb hby d11_1) (by decide) (W := 0) (by show 2 * 0 + _ ≤ _; exact Nat.le_of_eq rfl) (by decide)
  obtain ⟨fs, hr, hrun, hended, hW, hsame⟩ := X1.leave (v := none) (fun _ => rfl)
  refine ⟨_, _, pre0 _ ?_, hrun, hended, _, _, rfl, ?_, ⟨_, rfl⟩, hW, hsame.mono (by decide) (by decide)⟩
  · show St p e below s₁ (mkF m 0 #[.val (.ref a1)] []) _
    refine XS.aloadN X0.here hx rfl (hb hby d11_0) rfl rfl ?_
    show St p e below s₁ (mkF m 1 #[.val (.ref a1)] [(.ref a1)]) _
    refine st1 _ ?_
    show St p e below T1 (mkF m 4 #[.val (.ref a1)] []) _
    exact X1.returnOut hx Bd.returns (hb hby d11_4) hr
  · show Q_numinit Z a1 h0 n0 _ T1.heap _
    rw [e1]
    exact ⟨rfl, N0, rfl⟩
theorem pd_V_167 : parseMethodDescriptor "()V" = some ⟨[], none⟩ := by decide +kernel
theorem d10_0 : decode jdk_35_method_26_code 0 = .ok (.aload_n 0, 1) := by decide +kernel
theorem d10_1 : decode jdk_35_method_26_code 1 = .ok (.invokespecial 270, 3) := by decide +kernel
theorem d10_4 : decode jdk_35_method_26_code 4 = .ok (.aload_n 0, 1) := by decide +kernel
theorem d10_5 : decode jdk_35_method_26_code 5 = .ok (.lload_n 1, 1) := by decide +kernel
theorem d10_6 : decode jdk_35_method_26_code 6 = .ok (.putfield 273, 3) := by decide +kernel
theorem d10_9 : decode jdk_35_method_26_code 9 = .ok (.return_, 1) := by decide +kernel
theorem pn_10 : plainName "java/lang/Long" = true := by first | (simp [plainName, overriddenIn]; done) | decide +kernel
theorem ef_10_RJ (m : MethodId) (x0 : Addr) (x1 : Int64) : entryFrame m #[(.ref x0), (.long x1)] 3 = mkF m 0 #[.val (.ref x0), .val (.long x1), .second] [] := by first | (simp [entryFrame, mkF, argsToLocals, Value.category]; done) | rfl
def Q_longinit (Z : State) (a1 : Addr) (q2 : Int64) (u_a1_value : Value) (h0 : Heap) (n0 : Nat) (v : Option Value) (h : Heap) (L : List Loc) : Prop := v = none ∧ Fr n0 L ∧ Keep h0 h [a1] ∧ Exa Z h a1 "java/lang/Long"
set_option maxRecDepth 65536 in
set_option maxHeartbeats 40000000 in
theorem rm_longinit (l : Launch) (Z : State) (a0 : Array Value) (hw : ∀ d ∈ tables_1, d.before a0 Z = true) (ws : List Jvm.Cond) (a1 : Addr) (q2 : Int64) (u_a1_value : Value) (h0 : Heap) (n0 : Nat) (Z0 : n0 ≤ h0.size) (E_a1 : Exa Z h0 a1 "java/lang/Long") (F_a1_value : Fld Z h0 a1 "java/lang/Long" "value" "J" u_a1_value) (g_a1 : n0 ≤ a1) (O0 : Old Z n0 h0) :
    MetFree l (⟨"java/lang/Long", "<init>", "(J)V"⟩ : MethodName) (head1 (Jvm.Cond.code (⟨"java/lang/Long", "<init>", "(J)V"⟩ : MethodName) jdk_35_method_26_code 3 none :: ws) ({ frames := 2, cells := 0, slots := 0, locals := 24 } : Room)) (fun a U => a = #[(.ref a1), (.long q2)] ∧ Z.Warmed39 U.vm ∧ U.heap = h0) (fun _ _ _ _ _ => True) (fun _ U o U' => ∃ v L, o = .returned v ∧ Q_longinit Z a1 q2 u_a1_value h0 n0 v U'.heap L ∧ FrameEnd U o U' L ({ frames := 2, cells := 0, slots := 0, locals := 24 } : Room).cells ({ frames := 2, cells := 0, slots := 0, locals := 24 } : Room).slots) := by
  refine MetFree.of_bodySF (plainFor_of_name pn_10) hisR ?_
  intro p e s m args below meth c s₁ Bd hml0 hP hK
  obtain ⟨rfl, hZ, hh⟩ := hP
  have hx := Bd.exec
  have hby := Bd.bytes
  have hml : c.maxLocals = 3 := hml0
  have hown : s.vm.findClass "java/lang/Long" = some m.cls := findClass_of_methodNamed Bd.named
  have hnm := (name_of_methodNamed Bd.named Bd.method).1
  have X0 : Stand p l e ({ frames := 2, cells := 0, slots := 0, locals := 24 } : Room) s m #[(.ref a1), (.long q2)] below meth c s₁ [] 0 0 := Stand.of_body Bd
  have e0 : s₁.heap = h0 := by rw [← hh, Bd.state]; rfl
  have N0 := Fr.nil n0
  have pre0 : ∀ t, Steps p.tables e below (s₁.setTop (mkF m 0 #[.val (.ref a1), .val (.long q2), .second] [])) t → Steps p.tables e below (s₁.setTop (entryFrame m #[(.ref a1), (.long q2)] 3)) t := fun t k => castTop (ef_10_RJ m a1 q2) k
  obtain ⟨_, _, ⟨T1, L1, k1, n1⟩, -, X1, ⟨Lc1, hQ1, l1, y1, z1⟩, st1⟩ := X0.specialBack hx (y := (⟨"java/lang/Number", "<init>", "()V"⟩ : MethodName)) rfl hown (mvT hZ (hwi hw 59 rfl)) (mvT hZ (hwi hw 60 rfl)) (mvT hZ (hwi hw 64 rfl)) (by decide) (backOf (W := 0) (rm_numinit l Z a0 hw [] a1 h0 n0 Z0) hZ (hwi hw 64 rfl) (hwi hw 63 rfl) (by decide) (by decide)) (g := (mkF m 1 #[.val (.ref a1), .val (.long q2), .second] [(.ref a1)])) rfl (by rw [hml]; rfl) (Steps.refl _) (a := a1) (argsL := []) (rest := []) (lenOf pd_V_167 rfl) rfl (by show 2 * 0 + _ ≤ _; exact Nat.le_of_eq rfl) (hb hby d10_1) (fun _ _ => ⟨rfl, e0, (by decide : 0 + 0 ≤ _), (by decide : 0 + 0 ≤ _)⟩)
  dsimp only [Pt.U, Pt.locs, Pt.cells, Pt.slots] at X1 l1 y1 z1 st1 hQ1
  subst l1 y1 z1
  obtain ⟨rfl, N1q, e1⟩ := hQ1
  have N1 := Fr.app N0 N1q
  obtain ⟨T2, h2, X2, e2, W2, st2⟩ := putF X1 hx hZ hown (host := "") (Or.inl (hwi hw 66 rfl)) Via.refl e1 F_a1_value E_a1 (Or.inr ⟨(hwi hw 67 rfl), rfl, hnm⟩) (hwi hw 54 rfl) (ty := .long) (by decide) rfl rfl (g := (mkF m 6 #[.val (.ref a1), .val (.long q2), .second] [(.long q2), (.ref a1)])) rfl rfl (hb hby d10_6)
  have N2 := Fr.snoc X2 N1 g_a1
  have Fw2 := F_a1_value.same W2
  have sz3 : h0.size ≤ h2.size := Nat.le_of_eq W2.size.symm
  have Z3 : n0 ≤ h2.size := Nat.le_trans Z0 sz3
  have O3 := O0.wr W2 g_a1
  have K3 : Keep h0 h2 [a1] := (Keep.refl h0 [a1]).wr W2 (Or.inl (List.mem_of_getElem? (i := 0) rfl))
  have fc4 := (E_a1.wr W2)
  obtain ⟨fs, hr, hrun, hended, hW, hsame⟩ := X2.leave (v := none) (fun _ => rfl)
  refine ⟨_, _, pre0 _ ?_, hrun, hended, _, _, rfl, ?_, ⟨_, rfl⟩, hW, hsame.mono (by decide) (by decide)⟩
  · show St p e below s₁ (mkF m 0 #[.val (.ref a1), .val (.long q2), .second] []) _
    refine XS.aloadN X0.here hx rfl (hb hby d10_0) rfl rfl ?_
    show St p e below s₁ (mkF m 1 #[.val (.ref a1), .val (.long q2), .second] [(.ref a1)]) _
    refine st1.trans ?_
    show St p e below T1 (mkF m 4 #[.val (.ref a1), .val (.long q2), .second] []) _
    refine XS.aloadN X1.here hx rfl (hb hby d10_4) rfl rfl ?_
    show St p e below T1 (mkF m 5 #[.val (.ref a1), .val (.long q2), .second] [(.ref a1)]) _
    refine XS.lloadN X1.here hx rfl (hb hby d10_5) rfl ?_
    show St p e below T1 (mkF m 6 #[.val (.ref a1), .val (.long q2), .second] [(.long q2), (.ref a1)]) _
    refine st2 _ ?_
    show St p e below T2 (mkF m 9 #[.val (.ref a1), .val (.long q2), .second] []) _
    exact X2.returnOut hx Bd.returns (hb hby d10_9) hr
  · show Q_longinit Z a1 q2 u_a1_value h0 n0 _ T2.heap _
    rw [e2]
    exact ⟨rfl, N2, K3, fc4⟩
theorem pd_J_V_241 : parseMethodDescriptor "(J)V" = some ⟨[.long], none⟩ := by decide +kernel
theorem d9_0 : decode jdk_35_method_24_code 0 = .ok (.sipush 128, 3) := by decide +kernel
theorem d9_3 : decode jdk_35_method_24_code 3 = .ok (.istore_n 2, 1) := by decide +kernel
theorem d9_4 : decode jdk_35_method_24_code 4 = .ok (.lload_n 0, 1) := by decide +kernel
theorem d9_5 : decode jdk_35_method_24_code 5 = .ok (.ldc2_w 230, 3) := by decide +kernel
theorem d9_8 : decode jdk_35_method_24_code 8 = .ok (.lcmp, 1) := by decide +kernel
theorem d9_9 : decode jdk_35_method_24_code 9 = .ok (.ifCond .lt 22, 3) := by decide +kernel
theorem d9_31 : decode jdk_35_method_24_code 31 = .ok (.new 1, 3) := by decide +kernel
theorem d9_34 : decode jdk_35_method_24_code 34 = .ok (.dup, 1) := by decide +kernel
theorem d9_35 : decode jdk_35_method_24_code 35 = .ok (.lload_n 0, 1) := by decide +kernel
theorem d9_36 : decode jdk_35_method_24_code 36 = .ok (.invokespecial 240, 3) := by decide +kernel
theorem d9_39 : decode jdk_35_method_24_code 39 = .ok (.areturn, 1) := by decide +kernel
theorem pn_9 : plainName "java/lang/Long" = true := by first | (simp [plainName, overriddenIn]; done) | decide +kernel
theorem ef_9_J (m : MethodId) (x0 : Int64) : entryFrame m #[(.long x0)] 3 = mkF m 0 #[.val (.long x0), .second, .unset] [] := by first | (simp [entryFrame, mkF, argsToLocals, Value.category]; done) | rfl
def Q_valueof_lt (Z : State) (q1 : Int64) (h0 : Heap) (n0 : Nat) (v : Option Value) (h : Heap) (L : List Loc) : Prop := ∃ (r : Addr), v = some (.ref r) ∧ Fr n0 L ∧ Keep h0 h [] ∧ h0.size ≤ r ∧ Exa Z h r "java/lang/Long"
set_option maxRecDepth 65536 in
set_option maxHeartbeats 40000000 in
theorem rm_valueof_lt (l : Launch) (Z : State) (a0 : Array Value) (hw : ∀ d ∈ tables_1, d.before a0 Z = true) (ws : List Jvm.Cond) (q1 : Int64) (h0 : Heap) (n0 : Nat) (Z0 : n0 ≤ h0.size) (hc9 : (lcmpW q1 (-128 : Int64)) < (0 : Int32)) (O0 : Old Z n0 h0) :
    MetFree l (⟨"java/lang/Long", "valueOf", "(J)Ljava/lang/Long;"⟩ : MethodName) (head1 (Jvm.Cond.code (⟨"java/lang/Long", "valueOf", "(J)Ljava/lang/Long;"⟩ : MethodName) jdk_35_method_24_code 3 (some (.object "java/lang/Long")) :: ws) ({ frames := 3, cells := 1, slots := 1, locals := 39 } : Room)) (fun a U => a = #[(.long q1)] ∧ Z.Warmed39 U.vm ∧ U.heap = h0) (fun _ _ _ _ _ => True) (fun _ U o U' => ∃ v L, o = .returned v ∧ Q_valueof_lt Z q1 h0 n0 v U'.heap L ∧ FrameEnd U o U' L ({ frames := 3, cells := 1, slots := 1, locals := 39 } : Room).cells ({ frames := 3, cells := 1, slots := 1, locals := 39 } : Room).slots) := by
  refine MetFree.of_bodySF (plainFor_of_name pn_9) hisR ?_
  intro p e s m args below meth c s₁ Bd hml0 hP hK
  obtain ⟨rfl, hZ, hh⟩ := hP
  have hx := Bd.exec
  have hby := Bd.bytes
  have hml : c.maxLocals = 3 := hml0
  have hown : s.vm.findClass "java/lang/Long" = some m.cls := findClass_of_methodNamed Bd.named
  have hnm := (name_of_methodNamed Bd.named Bd.method).1
  have X0 : Stand p l e ({ frames := 3, cells := 1, slots := 1, locals := 39 } : Room) s m #[(.long q1)] below meth c s₁ [] 0 0 := Stand.of_body Bd
  have e0 : s₁.heap = h0 := by rw [← hh, Bd.state]; rfl
  have N0 := Fr.nil n0
  have pre0 : ∀ t, Steps p.tables e below (s₁.setTop (mkF m 0 #[.val (.long q1), .second, .unset] [])) t → Steps p.tables e below (s₁.setTop (entryFrame m #[(.long q1)] 3)) t := fun t k => castTop (ef_9_J m q1) k
  obtain ⟨T1, h1, X1, e1, E1, A1, D1, -, st1⟩ := newO X0 hx hZ hown (hwi hw 53 rfl) (hwi hw 54 rfl) (hwi hw 49 rfl) e0 (g := (mkF m 31 #[.val (.long q1), .second, .val (.int 128)] [])) rfl (hb hby d9_31) (by decide) (by decide)
  obtain ⟨b1, g1⟩ : ∃ z, z = h0.size := ⟨_, rfl⟩
  rw [← g1] at A1 D1 st1
  have bn_b1 : h0.size ≤ b1 := Nat.le_of_eq g1.symm
  have sz2 : h0.size ≤ h1.size := E1.1
  have Z2 : n0 ≤ h1.size := Nat.le_trans Z0 sz2
  have O2 := O0.ext E1
  have K2 : Keep h0 h1 [] := (Keep.refl h0 []).ext E1
  have F1_value : Fld Z h1 b1 "java/lang/Long" "value" "J" (.long 0) := D1 (Or.inr (hwi hw 67 rfl)) (ty := .long) (by decide)
  obtain ⟨_, _, ⟨T3, L3, k3, n3⟩, -, X3, ⟨Lc3, hQ3, l3, y3, z3⟩, st3⟩ := X1.specialBack hx (y := (⟨"java/lang/Long", "<init>", "(J)V"⟩ : MethodName)) rfl hown (mvT hZ (hwi hw 55 rfl)) (mvT hZ (hwi hw 56 rfl)) (mvT hZ (hwi hw 58 rfl)) (by decide) (backOf (W := 1) (rm_longinit l Z a0 hw [] b1 q1 (.long 0) h1 n0 Z2 A1 F1_value (Nat.le_trans Z0 bn_b1) O2) hZ (hwi hw 58 rfl) (hwi hw 49 rfl) (by decide) (by decide)) (g := (mkF m 36 #[.val (.long q1), .second, .val (.int 128)] [(.long q1), (.ref b1), (.ref b1)])) rfl (by rw [hml]; rfl) (Steps.refl _) (a := b1) (argsL := [(.long q1)]) (rest := [(.ref b1)]) (lenOf pd_J_V_241 rfl) rfl (by show 2 * 0 + _ ≤ _; exact Nat.le_of_eq rfl) (hb hby d9_36) (fun _ _ => ⟨rfl, e1, (by decide : 1 + 0 ≤ _), (by decide : 1 + 0 ≤ _)⟩)
  dsimp only [Pt.U, Pt.locs, Pt.cells, Pt.slots] at X3 l3 y3 z3 st3 hQ3
  subst l3 y3 z3
  obtain ⟨rfl, N3q, Kc3, g3_0⟩ := hQ3
  have N3 := Fr.app N0 N3q
  have sz4 : h1.size ≤ T3.heap.size := Kc3.1
  have Z4 : n0 ≤ T3.heap.size := Nat.le_trans Z2 sz4
  have O4 := O2.keep Kc3 (allS (Nat.le_trans Z0 bn_b1) all0)
  have K4 : Keep h0 T3.heap [] := K2.trans Kc3 (allS (Or.inr bn_b1) (all0))
  obtain ⟨fs, hr, hrun, hended, hW, hsame⟩ := X3.leave (v := some (.ref b1)) (fun h => by rw [Bd.returns] at h; cases h)
  refine ⟨_, _, pre0 _ ?_, hrun, hended, _, _, rfl, ?_, ⟨_, rfl⟩, hW, hsame.mono (by decide) (by decide)⟩
  · show St p e below s₁ (mkF m 0 #[.val (.long q1), .second, .unset] []) _
    refine XS.sipush X0.here hx rfl (hb hby d9_0) ?_
    show St p e below s₁ (mkF m 3 #[.val (.long q1), .second, .unset] [(.int 128)]) _
    refine XS.istoreN X0.here hx rfl (hb hby d9_3) rfl (l' := #[.val (.long q1), .second, .val (.int 128)]) rfl ?_
    show St p e below s₁ (mkF m 4 #[.val (.long q1), .second, .val (.int 128)] []) _
    refine XS.lloadN X0.here hx rfl (hb hby d9_4) rfl ?_
    show St p e below s₁ (mkF m 5 #[.val (.long q1), .second, .val (.int 128)] [(.long q1)]) _
    refine X0.ldc2Long hx hown (mvT hZ (hwi hw 51 rfl)) (g := (mkF m 5 #[.val (.long q1), .second, .val (.int 128)] [(.long q1)])) rfl (hb hby d9_5) _ ?_
    show St p e below s₁ (mkF m 8 #[.val (.long q1), .second, .val (.int 128)] [(.long (-128)), (.long q1)]) _
    refine XS.lcmp X0.here hx rfl (hb hby d9_8) rfl ?_
    show St p e below s₁ (mkF m 9 #[.val (.long q1), .second, .val (.int 128)] [(.int (lcmpW q1 (-128 : Int64)))]) _
    refine XS.ifYes X0.here hx rfl (pc0 := 9) (pc' := 31) rfl (hb hby d9_9) rfl ((if0 _ _).trans (tlt hc9).1) (by decide) (by decide) ?_
    show St p e below s₁ (mkF m 31 #[.val (.long q1), .second, .val (.int 128)] []) _
    refine st1 _ ?_
    show St p e below T1 (mkF m 34 #[.val (.long q1), .second, .val (.int 128)] [(.ref b1)]) _
    refine XS.dup X1.here hx rfl (hb hby d9_34) rfl rfl ?_
    show St p e below T1 (mkF m 35 #[.val (.long q1), .second, .val (.int 128)] [(.ref b1), (.ref b1)]) _
    refine XS.lloadN X1.here hx rfl (hb hby d9_35) rfl ?_
    show St p e below T1 (mkF m 36 #[.val (.long q1), .second, .val (.int 128)] [(.long q1), (.ref b1), (.ref b1)]) _
    refine st3.trans ?_
    show St p e below T3 (mkF m 39 #[.val (.long q1), .second, .val (.int 128)] [(.ref b1)]) _
    jvm_step X3.here [X3.here.top, hx, (hb hby d9_39), X3.method', Bd.returns, Value.isRef, FieldType.isReference]
    first | (intro acts; rw [hr _ acts rfl rfl rfl]) | rw [hr _ _ rfl rfl rfl]
    exact Steps.refl _
  · show Q_valueof_lt Z q1 h0 n0 _ T3.heap _
    exact ⟨b1, rfl, N3, K4, bn_b1, g3_0⟩
theorem d9_12 : decode jdk_35_method_24_code 12 = .ok (.lload_n 0, 1) := by decide +kernel
theorem d9_13 : decode jdk_35_method_24_code 13 = .ok (.ldc2_w 232, 3) := by decide +kernel
theorem d9_16 : decode jdk_35_method_24_code 16 = .ok (.lcmp, 1) := by decide +kernel
theorem d9_17 : decode jdk_35_method_24_code 17 = .ok (.ifCond .gt 14, 3) := by decide +kernel
def Q_valueof_gt (Z : State) (q1 : Int64) (h0 : Heap) (n0 : Nat) (v : Option Value) (h : Heap) (L : List Loc) : Prop := ∃ (r : Addr), v = some (.ref r) ∧ Fr n0 L ∧ Keep h0 h [] ∧ h0.size ≤ r ∧ Exa Z h r "java/lang/Long"
set_option maxRecDepth 65536 in
set_option maxHeartbeats 40000000 in
theorem rm_valueof_gt (l : Launch) (Z : State) (a0 : Array Value) (hw : ∀ d ∈ tables_1, d.before a0 Z = true) (ws : List Jvm.Cond) (q1 : Int64) (h0 : Heap) (n0 : Nat) (Z0 : n0 ≤ h0.size) (hc9 : ¬ ((lcmpW q1 (-128 : Int64)) < (0 : Int32))) (hc17 : (0 : Int32) < (lcmpW q1 (127 : Int64))) (O0 : Old Z n0 h0) :
    MetFree l (⟨"java/lang/Long", "valueOf", "(J)Ljava/lang/Long;"⟩ : MethodName) (head1 (Jvm.Cond.code (⟨"java/lang/Long", "valueOf", "(J)Ljava/lang/Long;"⟩ : MethodName) jdk_35_method_24_code 3 (some (.object "java/lang/Long")) :: ws) ({ frames := 3, cells := 1, slots := 1, locals := 39 } : Room)) (fun a U => a = #[(.long q1)] ∧ Z.Warmed39 U.vm ∧ U.heap = h0) (fun _ _ _ _ _ => True) (fun _ U o U' => ∃ v L, o = .returned v ∧ Q_valueof_gt Z q1 h0 n0 v U'.heap L ∧ FrameEnd U o U' L ({ frames := 3, cells := 1, slots := 1, locals := 39 } : Room).cells ({ frames := 3, cells := 1, slots := 1, locals := 39 } : Room).slots) := by
  refine MetFree.of_bodySF (plainFor_of_name pn_9) hisR ?_
  intro p e s m args below meth c s₁ Bd hml0 hP hK
  obtain ⟨rfl, hZ, hh⟩ := hP
  have hx := Bd.exec
  have hby := Bd.bytes
  have hml : c.maxLocals = 3 := hml0
  have hown : s.vm.findClass "java/lang/Long" = some m.cls := findClass_of_methodNamed Bd.named
  have hnm := (name_of_methodNamed Bd.named Bd.method).1
  have X0 : Stand p l e ({ frames := 3, cells := 1, slots := 1, locals := 39 } : Room) s m #[(.long q1)] below meth c s₁ [] 0 0 := Stand.of_body Bd
  have e0 : s₁.heap = h0 := by rw [← hh, Bd.state]; rfl
  have N0 := Fr.nil n0
  have pre0 : ∀ t, Steps p.tables e below (s₁.setTop (mkF m 0 #[.val (.long q1), .second, .unset] [])) t → Steps p.tables e below (s₁.setTop (entryFrame m #[(.long q1)] 3)) t := fun t k => castTop (ef_9_J m q1) k
  obtain ⟨T1, h1, X1, e1, E1, A1, D1, -, st1⟩ := newO X0 hx hZ hown (hwi hw 53 rfl) (hwi hw 54 rfl) (hwi hw 49 rfl) e0 (g := (mkF m 31 #[.val (.long q1), .second, .val (.int 128)] [])) rfl (hb hby d9_31) (by decide) (by decide)
  obtain ⟨b1, g1⟩ : ∃ z, z = h0.size := ⟨_, rfl⟩
  rw [← g1] at A1 D1 st1
  have bn_b1 : h0.size ≤ b1 := Nat.le_of_eq g1.symm
  have sz2 : h0.size ≤ h1.size := E1.1
  have Z2 : n0 ≤ h1.size := Nat.le_trans Z0 sz2
  have O2 := O0.ext E1
  have K2 : Keep h0 h1 [] := (Keep.refl h0 []).ext E1
  have F1_value : Fld Z h1 b1 "java/lang/Long" "value" "J" (.long 0) := D1 (Or.inr (hwi hw 67 rfl)) (ty := .long) (by decide)
  obtain ⟨_, _, ⟨T3, L3, k3, n3⟩, -, X3, ⟨Lc3, hQ3, l3, y3, z3⟩, st3⟩ := X1.specialBack hx (y := (⟨"java/lang/Long", "<init>", "(J)V"⟩ : MethodName)) rfl hown (mvT hZ (hwi hw 55 rfl)) (mvT hZ (hwi hw 56 rfl)) (mvT hZ (hwi hw 58 rfl)) (by decide) (backOf (W := 1) (rm_longinit l Z a0 hw [] b1 q1 (.long 0) h1 n0 Z2 A1 F1_value (Nat.le_trans Z0 bn_b1) O2) hZ (hwi hw 58 rfl) (hwi hw 49 rfl) (by decide) (by decide)) (g := (mkF m 36 #[.val (.long q1), .second, .val (.int 128)] [(.long q1), (.ref b1), (.ref b1)])) rfl (by rw [hml]; rfl) (Steps.refl _) (a := b1) (argsL := [(.long q1)]) (rest := [(.ref b1)]) (lenOf pd_J_V_241 rfl) rfl (by show 2 * 0 + _ ≤ _; exact Nat.le_of_eq rfl) (hb hby d9_36) (fun _ _ => ⟨rfl, e1, (by decide : 1 + 0 ≤ _), (by decide : 1 + 0 ≤ _)⟩)
  dsimp only [Pt.U, Pt.locs, Pt.cells, Pt.slots] at X3 l3 y3 z3 st3 hQ3
  subst l3 y3 z3
  obtain ⟨rfl, N3q, Kc3, g3_0⟩ := hQ3
  have N3 := Fr.app N0 N3q
  have sz4 : h1.size ≤ T3.heap.size := Kc3.1
  have Z4 : n0 ≤ T3.heap.size := Nat.le_trans Z2 sz4
  have O4 := O2.keep Kc3 (allS (Nat.le_trans Z0 bn_b1) all0)
  have K4 : Keep h0 T3.heap [] := K2.trans Kc3 (allS (Or.inr bn_b1) (all0))
  obtain ⟨fs, hr, hrun, hended, hW, hsame⟩ := X3.leave (v := some (.ref b1)) (fun h => by rw [Bd.returns] at h; cases h)
  refine ⟨_, _, pre0 _ ?_, hrun, hended, _, _, rfl, ?_, ⟨_, rfl⟩, hW, hsame.mono (by decide) (by decide)⟩
  · show St p e below s₁ (mkF m 0 #[.val (.long q1), .second, .unset] []) _
    refine XS.sipush X0.here hx rfl (hb hby d9_0) ?_
    show St p e below s₁ (mkF m 3 #[.val (.long q1), .second, .unset] [(.int 128)]) _
    refine XS.istoreN X0.here hx rfl (hb hby d9_3) rfl (l' := #[.val (.long q1), .second, .val (.int 128)]) rfl ?_
    show St p e below s₁ (mkF m 4 #[.val (.long q1), .second, .val (.int 128)] []) _
    refine XS.lloadN X0.here hx rfl (hb hby d9_4) rfl ?_
    show St p e below s₁ (mkF m 5 #[.val (.long q1), .second, .val (.int 128)] [(.long q1)]) _
    refine X0.ldc2Long hx hown (mvT hZ (hwi hw 51 rfl)) (g := (mkF m 5 #[.val (.long q1), .second, .val (.int 128)] [(.long q1)])) rfl (hb hby d9_5) _ ?_
    show St p e below s₁ (mkF m 8 #[.val (.long q1), .second, .val (.int 128)] [(.long (-128)), (.long q1)]) _
    refine XS.lcmp X0.here hx rfl (hb hby d9_8) rfl ?_
    show St p e below s₁ (mkF m 9 #[.val (.long q1), .second, .val (.int 128)] [(.int (lcmpW q1 (-128 : Int64)))]) _
    refine XS.ifNo X0.here hx rfl (hb hby d9_9) rfl ((if0 _ _).trans (flt hc9).1) ?_
    show St p e below s₁ (mkF m 12 #[.val (.long q1), .second, .val (.int 128)] []) _
    refine XS.lloadN X0.here hx rfl (hb hby d9_12) rfl ?_
    show St p e below s₁ (mkF m 13 #[.val (.long q1), .second, .val (.int 128)] [(.long q1)]) _
    refine X0.ldc2Long hx hown (mvT hZ (hwi hw 52 rfl)) (g := (mkF m 13 #[.val (.long q1), .second, .val (.int 128)] [(.long q1)])) rfl (hb hby d9_13) _ ?_
    show St p e below s₁ (mkF m 16 #[.val (.long q1), .second, .val (.int 128)] [(.long 127), (.long q1)]) _
    refine XS.lcmp X0.here hx rfl (hb hby d9_16) rfl ?_
    show St p e below s₁ (mkF m 17 #[.val (.long q1), .second, .val (.int 128)] [(.int (lcmpW q1 (127 : Int64)))]) _
    refine XS.ifYes X0.here hx rfl (pc0 := 17) (pc' := 31) rfl (hb hby d9_17) rfl ((if0 _ _).trans (tlt hc17).2.2.1) (by decide) (by decide) ?_
    show St p e below s₁ (mkF m 31 #[.val (.long q1), .second, .val (.int 128)] []) _
    refine st1 _ ?_
    show St p e below T1 (mkF m 34 #[.val (.long q1), .second, .val (.int 128)] [(.ref b1)]) _
    refine XS.dup X1.here hx rfl (hb hby d9_34) rfl rfl ?_
    show St p e below T1 (mkF m 35 #[.val (.long q1), .second, .val (.int 128)] [(.ref b1), (.ref b1)]) _
    refine XS.lloadN X1.here hx rfl (hb hby d9_35) rfl ?_
    show St p e below T1 (mkF m 36 #[.val (.long q1), .second, .val (.int 128)] [(.long q1), (.ref b1), (.ref b1)]) _
    refine st3.trans ?_
    show St p e below T3 (mkF m 39 #[.val (.long q1), .second, .val (.int 128)] [(.ref b1)]) _
    jvm_step X3.here [X3.here.top, hx, (hb hby d9_39), X3.method', Bd.returns, Value.isRef, FieldType.isReference]
    first | (intro acts; rw [hr _ acts rfl rfl rfl]) | rw [hr _ _ rfl rfl rfl]
    exact Steps.refl _
  · show Q_valueof_gt Z q1 h0 n0 _ T3.heap _
    exact ⟨b1, rfl, N3, K4, bn_b1, g3_0⟩
theorem d9_20 : decode jdk_35_method_24_code 20 = .ok (.getstatic 234, 3) := by decide +kernel
theorem d9_23 : decode jdk_35_method_24_code 23 = .ok (.lload_n 0, 1) := by decide +kernel
theorem d9_24 : decode jdk_35_method_24_code 24 = .ok (.l2i, 1) := by decide +kernel
theorem d9_25 : decode jdk_35_method_24_code 25 = .ok (.sipush 128, 3) := by decide +kernel
theorem d9_28 : decode jdk_35_method_24_code 28 = .ok (.iadd, 1) := by decide +kernel
theorem d9_29 : decode jdk_35_method_24_code 29 = .ok (.aaload, 1) := by decide +kernel
theorem d9_30 : decode jdk_35_method_24_code 30 = .ok (.areturn, 1) := by decide +kernel
def Q_valueof_in (Z : State) (q1 : Int64) (cl : Cell) (bx : Addr) (w_cache : Addr) (h0 : Heap) (n0 : Nat) (v : Option Value) (h : Heap) (L : List Loc) : Prop := v = some (.ref bx) ∧ Fr n0 L ∧ h = h0
set_option maxRecDepth 65536 in
set_option maxHeartbeats 40000000 in
theorem rm_valueof_in (l : Launch) (Z : State) (a0 : Array Value) (hw : ∀ d ∈ tables_1, d.before a0 Z = true) (ws : List Jvm.Cond) (q1 : Int64) (cl : Cell) (bx : Addr) (w_cache : Addr) (h0 : Heap) (n0 : Nat) (Z0 : n0 ≤ h0.size) (S_cache : Sta Z Z.heap "java/lang/Long$LongCache" "cache" "[Ljava/lang/Long;" (.ref w_cache)) (hAr : Arr Z Z.heap w_cache cl (.object "java/lang/Long")) (hin : ¬ ((q1.toInt32 + (128 : Int32)) < 0 ∨ cl.slots.size ≤ (q1.toInt32 + (128 : Int32)).toNatClampNeg)) (hat : cl.slots[(q1.toInt32 + (128 : Int32)).toNatClampNeg]? = some (.ref bx)) (hc9 : ¬ ((lcmpW q1 (-128 : Int64)) < (0 : Int32))) (hc17 : ¬ ((0 : Int32) < (lcmpW q1 (127 : Int64)))) (O0 : Old Z n0 h0) :
    MetFree l (⟨"java/lang/Long", "valueOf", "(J)Ljava/lang/Long;"⟩ : MethodName) (head1 (Jvm.Cond.code (⟨"java/lang/Long", "valueOf", "(J)Ljava/lang/Long;"⟩ : MethodName) jdk_35_method_24_code 3 (some (.object "java/lang/Long")) :: ws) ({ frames := 0, cells := 0, slots := 0, locals := 0 } : Room)) (fun a U => a = #[(.long q1)] ∧ Z.Warmed39 U.vm ∧ U.heap = h0) (fun _ _ _ _ _ => True) (fun _ U o U' => ∃ v L, o = .returned v ∧ Q_valueof_in Z q1 cl bx w_cache h0 n0 v U'.heap L ∧ FrameEnd U o U' L ({ frames := 0, cells := 0, slots := 0, locals := 0 } : Room).cells ({ frames := 0, cells := 0, slots := 0, locals := 0 } : Room).slots) := by
  refine MetFree.of_bodySF (plainFor_of_name pn_9) hisR ?_
  intro p e s m args below meth c s₁ Bd hml0 hP hK
  obtain ⟨rfl, hZ, hh⟩ := hP
  have hx := Bd.exec
  have hby := Bd.bytes
  have hml : c.maxLocals = 3 := hml0
  have hown : s.vm.findClass "java/lang/Long" = some m.cls := findClass_of_methodNamed Bd.named
  have hnm := (name_of_methodNamed Bd.named Bd.method).1
  have X0 : Stand p l e ({ frames := 0, cells := 0, slots := 0, locals := 0 } : Room) s m #[(.long q1)] below meth c s₁ [] 0 0 := Stand.of_body Bd
  have e0 : s₁.heap = h0 := by rw [← hh, Bd.state]; rfl
  have N0 := Fr.nil n0
  have pre0 : ∀ t, Steps p.tables e below (s₁.setTop (mkF m 0 #[.val (.long q1), .second, .unset] [])) t → Steps p.tables e below (s₁.setTop (entryFrame m #[(.long q1)] 3)) t := fun t k => castTop (ef_9_J m q1) k
  obtain ⟨T1, X1, e1, st1⟩ := getS2 X0 hx hZ hown (host := "") (Or.inl (hwi hw 72 rfl)) Via.refl e0 (S_cache.ext O0.2) (g := (mkF m 20 #[.val (.long q1), .second, .val (.int 128)] [])) rfl (hb hby d9_20)
  obtain ⟨fs, hr, hrun, hended, hW, hsame⟩ := X1.leave (v := some (.ref bx)) (fun h => by rw [Bd.returns] at h; cases h)
  refine ⟨_, _, pre0 _ ?_, hrun, hended, _, _, rfl, ?_, ⟨_, rfl⟩, hW, hsame.mono (by decide) (by decide)⟩
  · show St p e below s₁ (mkF m 0 #[.val (.long q1), .second, .unset] []) _
    refine XS.sipush X0.here hx rfl (hb hby d9_0) ?_
    show St p e below s₁ (mkF m 3 #[.val (.long q1), .second, .unset] [(.int 128)]) _
    refine XS.istoreN X0.here hx rfl (hb hby d9_3) rfl (l' := #[.val (.long q1), .second, .val (.int 128)]) rfl ?_
    show St p e below s₁ (mkF m 4 #[.val (.long q1), .second, .val (.int 128)] []) _
    refine XS.lloadN X0.here hx rfl (hb hby d9_4) rfl ?_
    show St p e below s₁ (mkF m 5 #[.val (.long q1), .second, .val (.int 128)] [(.long q1)]) _
    refine X0.ldc2Long hx hown (mvT hZ (hwi hw 51 rfl)) (g := (mkF m 5 #[.val (.long q1), .second, .val (.int 128)] [(.long q1)])) rfl (hb hby d9_5) _ ?_
    show St p e below s₁ (mkF m 8 #[.val (.long q1), .second, .val (.int 128)] [(.long (-128)), (.long q1)]) _
    refine XS.lcmp X0.here hx rfl (hb hby d9_8) rfl ?_
    show St p e below s₁ (mkF m 9 #[.val (.long q1), .second, .val (.int 128)] [(.int (lcmpW q1 (-128 : Int64)))]) _
    refine XS.ifNo X0.here hx rfl (hb hby d9_9) rfl ((if0 _ _).trans (flt hc9).1) ?_
    show St p e below s₁ (mkF m 12 #[.val (.long q1), .second, .val (.int 128)] []) _
    refine XS.lloadN X0.here hx rfl (hb hby d9_12) rfl ?_
    show St p e below s₁ (mkF m 13 #[.val (.long q1), .second, .val (.int 128)] [(.long q1)]) _
    refine X0.ldc2Long hx hown (mvT hZ (hwi hw 52 rfl)) (g := (mkF m 13 #[.val (.long q1), .second, .val (.int 128)] [(.long q1)])) rfl (hb hby d9_13) _ ?_
    show St p e below s₁ (mkF m 16 #[.val (.long q1), .second, .val (.int 128)] [(.long 127), (.long q1)]) _
    refine XS.lcmp X0.here hx rfl (hb hby d9_16) rfl ?_
    show St p e below s₁ (mkF m 17 #[.val (.long q1), .second, .val (.int 128)] [(.int (lcmpW q1 (127 : Int64)))]) _
    refine XS.ifNo X0.here hx rfl (hb hby d9_17) rfl ((if0 _ _).trans (flt hc17).2.2.1) ?_
    show St p e below s₁ (mkF m 20 #[.val (.long q1), .second, .val (.int 128)] []) _
    refine st1 _ ?_
    show St p e below T1 (mkF m 23 #[.val (.long q1), .second, .val (.int 128)] [(.ref w_cache)]) _
    refine XS.lloadN X1.here hx rfl (hb hby d9_23) rfl ?_
    show St p e below T1 (mkF m 24 #[.val (.long q1), .second, .val (.int 128)] [(.long q1), (.ref w_cache)]) _
    refine XS.l2i X1.here hx rfl (hb hby d9_24) rfl ?_
    show St p e below T1 (mkF m 25 #[.val (.long q1), .second, .val (.int 128)] [(.int (q1.toInt32)), (.ref w_cache)]) _
    refine XS.sipush X1.here hx rfl (hb hby d9_25) ?_
    show St p e below T1 (mkF m 28 #[.val (.long q1), .second, .val (.int 128)] [(.int 128), (.int (q1.toInt32)), (.ref w_cache)]) _
    refine XS.iadd X1.here hx rfl (hb hby d9_28) rfl ?_
    show St p e below T1 (mkF m 29 #[.val (.long q1), .second, .val (.int 128)] [(.int ((q1.toInt32) + (128 : Int32))), (.ref w_cache)]) _
    refine X1.aaload hx (j := ((q1.toInt32) + (128 : Int32))) (v := (.ref bx)) (by rw [e1]; exact (hAr.ext O0.2).1) (State.isArrayOf_alike hZ.alike hAr.2.1) rfl hAr.2.2 hin hat (g := (mkF m 29 #[.val (.long q1), .second, .val (.int 128)] [(.int ((q1.toInt32) + (128 : Int32))), (.ref w_cache)])) rfl rfl (hb hby d9_29) _ ?_
    show St p e below T1 (mkF m 30 #[.val (.long q1), .second, .val (.int 128)] [(.ref bx)]) _
    jvm_step X1.here [X1.here.top, hx, (hb hby d9_30), X1.method', Bd.returns, Value.isRef, FieldType.isReference]
    first | (intro acts; rw [hr _ acts rfl rfl rfl]) | rw [hr _ _ rfl rfl rfl]
    exact Steps.refl _
  · show Q_valueof_in Z q1 cl bx w_cache h0 n0 _ T1.heap _
    rw [e1]
    exact ⟨rfl, N0, rfl⟩
theorem pd_C_V_325 : parseMethodDescriptor "([C)V" = some ⟨[(.array .char)], none⟩ := by decide +kernel
set_option maxRecDepth 65536 in
set_option maxHeartbeats 40000000 in
theorem sg_pre {p : Program} {l : Launch} {e : Env} {s : State} {m : MethodId} {args : Array Value} {below : List Frame} {meth : Method} {c : Code} {T0 : State} {locs : List Loc} {Z : State} {a0 : Array Value} {h0 : Heap} {n0 : Nat} (p1 : Int32) (p2 : Int32) (p3 : Int32) (q4 : Int64) (p5 : Int32) (p6 : Int32) (cA : Int32) (cB : Int32) (cC : Int32) (w_COMPACT_STRINGS : Int32)
    (X0 : Stand p l e room_1 s m args below meth c T0 locs 0 0) (hx : p.tables.exec = Jvm.exec) (hZ : Z.Warmed39 s.vm) (hw : ∀ d ∈ tables_1, d.before a0 Z = true) (hby : c.code = code) (hml : c.maxLocals = 17) (hown : s.vm.findClass "com/example/commitgate/commitgate/store/KeySpellingTextPinLaw" = some m.cls) (e0 : T0.heap = h0) (N0 : Fr n0 locs) (Z0 : n0 ≤ h0.size) (hbcA : ¬ ((255 : Int32) < cA)) (hbcB : ¬ ((255 : Int32) < cB)) (hbcC : ¬ ((255 : Int32) < cC)) (S_COMPACT_STRINGS : Sta Z Z.heap "java/lang/String" "COMPACT_STRINGS" "Z" (.int w_COMPACT_STRINGS)) (hcs : ¬ (w_COMPACT_STRINGS = (0 : Int32))) (O0 : Old Z n0 h0) (hcA : ((p2 &&& (255 : Int32)).toUInt32.toUInt16.toUInt32.toInt32) = cA) (hncA : (cA.toUInt32.toUInt16.toUInt32.toInt32) = cA) (hcB : ((p3 &&& (255 : Int32)).toUInt32.toUInt16.toUInt32.toInt32) = cB) (hncB : (cB.toUInt32.toUInt16.toUInt32.toInt32) = cB) (hcC : ((p6 &&& (255 : Int32)).toUInt32.toUInt16.toUInt32.toInt32) = cC) (hncC : (cC.toUInt32.toUInt16.toUInt32.toInt32) = cC) :
    ∃ (T' : State) (locs' : List Loc) (sa : Addr) (ta : Addr) (ia : Addr) (ca : Addr) (cb : Addr), Stand p l e room_1 s m args below meth c T' locs' 7 15 ∧ Fr n0 locs' ∧ Keep h0 T'.heap [] ∧ h0.size ≤ sa ∧ h0.size ≤ ta ∧ h0.size ≤ ia ∧ Exa Z T'.heap sa "java/lang/String" ∧ Exa Z T'.heap ta "java/lang/String" ∧ ∀ target, Steps p.tables e below (T'.setTop (mkF m 71 #[.val (.int p1), .val (.int p2), .val (.int p3), .val (.long q4), .second, .val (.int p5), .val (.int p6), .val (.ref ca), .val (.ref sa), .val (.ref cb), .val (.ref ta), .val (.ref ia), .unset, .unset, .unset, .unset, .unset] [])) target → Steps p.tables e below (T0.setTop (mkF m 0 #[.val (.int p1), .val (.int p2), .val (.int p3), .val (.long q4), .second, .val (.int p5), .val (.int p6), .unset, .unset, .unset, .unset, .unset, .unset, .unset, .unset, .unset, .unset] [])) target := by
  obtain ⟨T1, h1, k1, X1, e1, E1, A1, st1⟩ := newP X0 hx hZ (hwi hw 0 rfl) e0 (g := (mkF m 1 #[.val (.int p1), .val (.int p2), .val (.int p3), .val (.long q4), .second, .val (.int p5), .val (.int p6), .unset, .unset, .unset, .unset, .unset, .unset, .unset, .unset, .unset, .unset] [(.int 2)])) rfl (hb hby at_1) rfl (by decide) (cap := 2) (by decide) (by decide) (by decide) (by decide)
  obtain ⟨b1, g1⟩ : ∃ z, z = h0.size := ⟨_, rfl⟩
  rw [← g1] at A1 st1
  have bn_b1 : h0.size ≤ b1 := Nat.le_of_eq g1.symm
  have sz2 : h0.size ≤ h1.size := E1.1
  have Z2 : n0 ≤ h1.size := Nat.le_trans Z0 sz2
  have O2 := O0.ext E1
  have K2 : Keep h0 h1 [] := (Keep.refl h0 []).ext E1
  have V1 : Arv Z h1 b1 k1 .char (2 : Int32) [(.int 0), (.int 0)] (.int 0) := (Arv.new A1 (by decide)).pad (pad_rep [] (.int 0) 2)
  obtain ⟨cl3, Ar3, q3, S3, M3, H3, G3⟩ := id V1
  have hin3 : ¬ ((0 : Int32) < 0 ∨ cl3.slots.size ≤ ((0 : Int32)).toNatClampNeg) := inb_of S3 ⟨by decide, by decide⟩
  obtain ⟨T4, h4, X4, e4, W4, st4⟩ := stC X1 hx hZ e1 Ar3 (j := (0 : Int32)) hin3 (g := (mkF m 11 #[.val (.int p1), .val (.int p2), .val (.int p3), .val (.long q4), .second, .val (.int p5), .val (.int p6), .unset, .unset, .unset, .unset, .unset, .unset, .unset, .unset, .unset, .unset] [(.int cA), (.int 0), (.ref b1), (.ref b1)])) rfl rfl (hb hby at_11)
  have N4 := Fr.snoc X4 N0 (Nat.le_trans Z0 bn_b1)
  have V4 : Arv Z h4 b1 k1 .char (2 : Int32) [(.int (cA.toUInt32.toUInt16.toUInt32.toInt32)), (.int 0)] (.int 0) := Arv.set Ar3 q3 S3 M3 H3 G3 (fits_nar_char _) W4 0 rfl (Nat.le_of_ble_eq_true rfl)
  rw [hncA] at V4
  have sz5 : h1.size ≤ h4.size := Nat.le_of_eq W4.size.symm
  have Z5 : n0 ≤ h4.size := Nat.le_trans Z2 sz5
  have O5 := O2.wr W4 (Nat.le_trans Z0 bn_b1)
  have K5 : Keep h0 h4 [] := K2.wr W4 (Or.inr bn_b1)
  obtain ⟨cl6, Ar6, q6, S6, M6, H6, G6⟩ := id V4
  have hin6 : ¬ ((1 : Int32) < 0 ∨ cl6.slots.size ≤ ((1 : Int32)).toNatClampNeg) := inb_of S6 ⟨by decide, by decide⟩
  obtain ⟨T7, h7, X7, e7, W7, st7⟩ := stC X4 hx hZ e4 Ar6 (j := (1 : Int32)) hin6 (g := (mkF m 20 #[.val (.int p1), .val (.int p2), .val (.int p3), .val (.long q4), .second, .val (.int p5), .val (.int p6), .unset, .unset, .unset, .unset, .unset, .unset, .unset, .unset, .unset, .unset] [(.int cB), (.int 1), (.ref b1), (.ref b1)])) rfl rfl (hb hby at_20)
  have N7 := Fr.snoc X7 N4 (Nat.le_trans Z0 bn_b1)
  have V7 : Arv Z h7 b1 k1 .char (2 : Int32) [(.int cA), (.int (cB.toUInt32.toUInt16.toUInt32.toInt32))] (.int 0) := Arv.set Ar6 q6 S6 M6 H6 G6 (fits_nar_char _) W7 1 rfl (Nat.le_of_ble_eq_true rfl)
  rw [hncB] at V7
  have sz8 : h4.size ≤ h7.size := Nat.le_of_eq W7.size.symm
  have Z8 : n0 ≤ h7.size := Nat.le_trans Z5 sz8
  have O8 := O5.wr W7 (Nat.le_trans Z0 bn_b1)
  have K8 : Keep h0 h7 [] := K5.wr W7 (Or.inr bn_b1)
  obtain ⟨T9, h9, X9, e9, E9, A9, D9, -, st9⟩ := newO X7 hx hZ hown (hwi hw 1 rfl) (hwi hw 2 rfl) (hwi hw 3 rfl) e7 (g := (mkF m 23 #[.val (.int p1), .val (.int p2), .val (.int p3), .val (.long q4), .second, .val (.int p5), .val (.int p6), .val (.ref b1), .unset, .unset, .unset, .unset, .unset, .unset, .unset, .unset, .unset] [])) rfl (hb hby at_23) (by decide) (by decide)
  obtain ⟨b9, g9⟩ : ∃ z, z = h7.size := ⟨_, rfl⟩
  rw [← g9] at A9 D9 st9
  have bn_b9 : h0.size ≤ b9 := Nat.le_trans K8.1 (Nat.le_of_eq g9.symm)
  have sz10 : h7.size ≤ h9.size := E9.1
  have Z10 : n0 ≤ h9.size := Nat.le_trans Z8 sz10
  have O10 := O8.ext E9
  have K10 : Keep h0 h9 [] := K8.ext E9
  have F9_coder : Fld Z h9 b9 "java/lang/String" "coder" "B" (.int 0) := D9 (Or.inr (hwi hw 27 rfl)) (ty := .byte) (by decide)
  have F9_value : Fld Z h9 b9 "java/lang/String" "value" "[B" .null := D9 (Or.inr (hwi hw 29 rfl)) (ty := (.array .byte)) (by decide)
  have fc12 := (V7.ext E9)
  obtain ⟨_, _, ⟨T11, L11, k11, n11⟩, -, X11, ⟨Lc11, hQ11, l11, y11, z11⟩, st11⟩ := X9.specialBack hx (y := (⟨"java/lang/String", "<init>", "([C)V"⟩ : MethodName)) rfl hown (mvT hZ (hwi hw 4 rfl)) (mvT hZ (hwi hw 5 rfl)) (mvT hZ (hwi hw 6 rfl)) (by decide) (backOf (W := 1) (rm_new1_2 l Z a0 hw [] b9 b1 w_COMPACT_STRINGS k1 cA cB (.int 0) .null h9 n0 Z10 S_COMPACT_STRINGS hcs fc12 hbcA hbcB O10 A9 F9_coder (Nat.le_trans Z0 bn_b9) F9_value) hZ (hwi hw 6 rfl) (hwi hw 3 rfl) (by decide) (by decide)) (g := (mkF m 29 #[.val (.int p1), .val (.int p2), .val (.int p3), .val (.long q4), .second, .val (.int p5), .val (.int p6), .val (.ref b1), .unset, .unset, .unset, .unset, .unset, .unset, .unset, .unset, .unset] [(.ref b1), (.ref b9), (.ref b9)])) rfl (by rw [hml]; rfl) (Steps.refl _) (a := b9) (argsL := [(.ref b1)]) (rest := [(.ref b9)]) (lenOf pd_C_V_325 rfl) rfl (by show 2 * 0 + _ ≤ _; exact Nat.le_of_eq rfl) (hb hby at_29) (fun _ _ => ⟨rfl, e9, (by decide : 2 + 1 ≤ _), (by decide : 6 + 2 ≤ _)⟩)
  dsimp only [Pt.U, Pt.locs, Pt.cells, Pt.slots] at X11 l11 y11 z11 st11 hQ11
  subst l11 y11 z11
  obtain ⟨t_11, kt_11, rfl, N11q, Kc11, g11_0, g11_1, g11_2, g11_3, g11_4⟩ := hQ11
  have N11 := Fr.app N7 N11q
  have sz13 : h9.size ≤ T11.heap.size := Kc11.1
  have Z13 : n0 ≤ T11.heap.size := Nat.le_trans Z10 sz13
  have O13 := O10.keep Kc11 (allS (Nat.le_trans Z0 bn_b9) all0)
  have K13 : Keep h0 T11.heap [] := K10.trans Kc11 (allS (Or.inr bn_b9) (all0))
  have bn_t_11 : h0.size ≤ t_11 := Nat.le_trans K10.1 g11_3
  obtain ⟨T14, h14, k14, X14, e14, E14, A14, st14⟩ := newP X11 hx hZ (hwi hw 0 rfl) rfl (g := (mkF m 35 #[.val (.int p1), .val (.int p2), .val (.int p3), .val (.long q4), .second, .val (.int p5), .val (.int p6), .val (.ref b1), .val (.ref b9), .unset, .unset, .unset, .unset, .unset, .unset, .unset, .unset] [(.int 1)])) rfl (hb hby at_35) rfl (by decide) (cap := 1) (by decide) (by decide) (by decide) (by decide)
  obtain ⟨b14, g14⟩ : ∃ z, z = T11.heap.size := ⟨_, rfl⟩
  rw [← g14] at A14 st14
  have bn_b14 : h0.size ≤ b14 := Nat.le_trans K13.1 (Nat.le_of_eq g14.symm)
  have sz15 : T11.heap.size ≤ h14.size := E14.1
  have Z15 : n0 ≤ h14.size := Nat.le_trans Z13 sz15
  have O15 := O13.ext E14
  have K15 : Keep h0 h14 [] := K13.ext E14
  have V14 : Arv Z h14 b14 k14 .char (1 : Int32) [(.int 0)] (.int 0) := (Arv.new A14 (by decide)).pad (pad_rep [] (.int 0) 1)
  obtain ⟨cl16, Ar16, q16, S16, M16, H16, G16⟩ := id V14
  have hin16 : ¬ ((0 : Int32) < 0 ∨ cl16.slots.size ≤ ((0 : Int32)).toNatClampNeg) := inb_of S16 ⟨by decide, by decide⟩
  obtain ⟨T17, h17, X17, e17, W17, st17⟩ := stC X14 hx hZ e14 Ar16 (j := (0 : Int32)) hin16 (g := (mkF m 46 #[.val (.int p1), .val (.int p2), .val (.int p3), .val (.long q4), .second, .val (.int p5), .val (.int p6), .val (.ref b1), .val (.ref b9), .unset, .unset, .unset, .unset, .unset, .unset, .unset, .unset] [(.int cC), (.int 0), (.ref b14), (.ref b14)])) rfl rfl (hb hby at_46)
  have N17 := Fr.snoc X17 N11 (Nat.le_trans Z0 bn_b14)
  have V17 : Arv Z h17 b14 k14 .char (1 : Int32) [(.int (cC.toUInt32.toUInt16.toUInt32.toInt32))] (.int 0) := Arv.set Ar16 q16 S16 M16 H16 G16 (fits_nar_char _) W17 0 rfl (Nat.le_of_ble_eq_true rfl)
  rw [hncC] at V17
  have sz18 : h14.size ≤ h17.size := Nat.le_of_eq W17.size.symm
  have Z18 : n0 ≤ h17.size := Nat.le_trans Z15 sz18
  have O18 := O15.wr W17 (Nat.le_trans Z0 bn_b14)
  have K18 : Keep h0 h17 [] := K15.wr W17 (Or.inr bn_b14)
  obtain ⟨T19, h19, X19, e19, E19, A19, D19, -, st19⟩ := newO X17 hx hZ hown (hwi hw 1 rfl) (hwi hw 2 rfl) (hwi hw 3 rfl) e17 (g := (mkF m 49 #[.val (.int p1), .val (.int p2), .val (.int p3), .val (.long q4), .second, .val (.int p5), .val (.int p6), .val (.ref b1), .val (.ref b9), .val (.ref b14), .unset, .unset, .unset, .unset, .unset, .unset, .unset] [])) rfl (hb hby at_49) (by decide) (by decide)
  obtain ⟨b19, g19⟩ : ∃ z, z = h17.size := ⟨_, rfl⟩
  rw [← g19] at A19 D19 st19
  have bn_b19 : h0.size ≤ b19 := Nat.le_trans K18.1 (Nat.le_of_eq g19.symm)
  have sz20 : h17.size ≤ h19.size := E19.1
  have Z20 : n0 ≤ h19.size := Nat.le_trans Z18 sz20
  have O20 := O18.ext E19
  have K20 : Keep h0 h19 [] := K18.ext E19
  have F19_coder : Fld Z h19 b19 "java/lang/String" "coder" "B" (.int 0) := D19 (Or.inr (hwi hw 27 rfl)) (ty := .byte) (by decide)
  have F19_value : Fld Z h19 b19 "java/lang/String" "value" "[B" .null := D19 (Or.inr (hwi hw 29 rfl)) (ty := (.array .byte)) (by decide)
  have fc22 := (V17.ext E19)
  obtain ⟨_, _, ⟨T21, L21, k21, n21⟩, -, X21, ⟨Lc21, hQ21, l21, y21, z21⟩, st21⟩ := X19.specialBack hx (y := (⟨"java/lang/String", "<init>", "([C)V"⟩ : MethodName)) rfl hown (mvT hZ (hwi hw 4 rfl)) (mvT hZ (hwi hw 5 rfl)) (mvT hZ (hwi hw 6 rfl)) (by decide) (backOf (W := 1) (rm_new1_1 l Z a0 hw [] b19 b14 w_COMPACT_STRINGS k14 cC (.int 0) .null h19 n0 Z20 S_COMPACT_STRINGS hcs fc22 hbcC O20 A19 F19_coder (Nat.le_trans Z0 bn_b19) F19_value) hZ (hwi hw 6 rfl) (hwi hw 3 rfl) (by decide) (by decide)) (g := (mkF m 55 #[.val (.int p1), .val (.int p2), .val (.int p3), .val (.long q4), .second, .val (.int p5), .val (.int p6), .val (.ref b1), .val (.ref b9), .val (.ref b14), .unset, .unset, .unset, .unset, .unset, .unset, .unset] [(.ref b14), (.ref b19), (.ref b19)])) rfl (by rw [hml]; rfl) (Steps.refl _) (a := b19) (argsL := [(.ref b14)]) (rest := [(.ref b19)]) (lenOf pd_C_V_325 rfl) rfl (by show 2 * 0 + _ ≤ _; exact Nat.le_of_eq rfl) (hb hby at_55) (fun _ _ => ⟨rfl, e19, (by decide : 5 + 1 ≤ _), (by decide : 13 + 1 ≤ _)⟩)
  dsimp only [Pt.U, Pt.locs, Pt.cells, Pt.slots] at X21 l21 y21 z21 st21 hQ21
  subst l21 y21 z21
  obtain ⟨t_21, kt_21, rfl, N21q, Kc21, g21_0, g21_1, g21_2, g21_3, g21_4⟩ := hQ21
  have N21 := Fr.app N17 N21q
  have sz23 : h19.size ≤ T21.heap.size := Kc21.1
  have Z23 : n0 ≤ T21.heap.size := Nat.le_trans Z20 sz23
  have O23 := O20.keep Kc21 (allS (Nat.le_trans Z0 bn_b19) all0)
  have K23 : Keep h0 T21.heap [] := K20.trans Kc21 (allS (Or.inr bn_b19) (all0))
  have bn_t_21 : h0.size ≤ t_21 := Nat.le_trans K20.1 g21_3
  obtain ⟨T24, h24, k24, X24, e24, E24, A24, st24⟩ := newP X21 hx hZ (hwi hw 19 rfl) rfl (g := (mkF m 61 #[.val (.int p1), .val (.int p2), .val (.int p3), .val (.long q4), .second, .val (.int p5), .val (.int p6), .val (.ref b1), .val (.ref b9), .val (.ref b14), .val (.ref b19), .unset, .unset, .unset, .unset, .unset, .unset] [(.int 1)])) rfl (hb hby at_61) rfl (by decide) (cap := 1) (by decide) (by decide) (by decide) (by decide)
  obtain ⟨b24, g24⟩ : ∃ z, z = T21.heap.size := ⟨_, rfl⟩
  rw [← g24] at A24 st24
  have bn_b24 : h0.size ≤ b24 := Nat.le_trans K23.1 (Nat.le_of_eq g24.symm)
  have sz25 : T21.heap.size ≤ h24.size := E24.1
  have Z25 : n0 ≤ h24.size := Nat.le_trans Z23 sz25
  have O25 := O23.ext E24
  have K25 : Keep h0 h24 [] := K23.ext E24
  have V24 : Arv Z h24 b24 k24 .byte (1 : Int32) [(.int 0)] (.int 0) := (Arv.new A24 (by decide)).pad (pad_rep [] (.int 0) 1)
  obtain ⟨cl26, Ar26, q26, S26, M26, H26, G26⟩ := id V24
  have hin26 : ¬ ((0 : Int32) < 0 ∨ cl26.slots.size ≤ ((0 : Int32)).toNatClampNeg) := inb_of S26 ⟨by decide, by decide⟩
  obtain ⟨T27, h27, X27, e27, W27, st27⟩ := stB X24 hx hZ e24 Ar26 (j := (0 : Int32)) hin26 (g := (mkF m 68 #[.val (.int p1), .val (.int p2), .val (.int p3), .val (.long q4), .second, .val (.int p5), .val (.int p6), .val (.ref b1), .val (.ref b9), .val (.ref b14), .val (.ref b19), .unset, .unset, .unset, .unset, .unset, .unset] [(.int (p5.toInt8.toInt32)), (.int 0), (.ref b24), (.ref b24)])) rfl rfl (hb hby at_68)
  have N27 := Fr.snoc X27 N21 (Nat.le_trans Z0 bn_b24)
  have V27 : Arv Z h27 b24 k24 .byte (1 : Int32) [(.int ((p5.toInt8.toInt32).toInt8.toInt32))] (.int 0) := Arv.set Ar26 q26 S26 M26 H26 G26 (fits_nar_byte _) W27 0 rfl (Nat.le_of_ble_eq_true rfl)
  have sz28 : h24.size ≤ h27.size := Nat.le_of_eq W27.size.symm
  have Z28 : n0 ≤ h27.size := Nat.le_trans Z25 sz28
  have O28 := O25.wr W27 (Nat.le_trans Z0 bn_b24)
  have K28 : Keep h0 h27 [] := K25.wr W27 (Or.inr bn_b24)
  have fc29 := ((((((g11_0.ext E14).wr W17).ext E19).keep Kc21).ext E24).wr W27)
  have fc30 := ((g21_0.ext E24).wr W27)
  subst e27
  refine ⟨T27, _, b9, b19, b24, b1, b14, X27, N27, K28, bn_b9, bn_b19, bn_b24, fc29, fc30, fun target kt => ?_⟩
  show St p e below T0 (mkF m 0 #[.val (.int p1), .val (.int p2), .val (.int p3), .val (.long q4), .second, .val (.int p5), .val (.int p6), .unset, .unset, .unset, .unset, .unset, .unset, .unset, .unset, .unset, .unset] []) _
  refine XS.iconst X0.here hx rfl (hb hby at_0) ?_
  show St p e below T0 (mkF m 1 #[.val (.int p1), .val (.int p2), .val (.int p3), .val (.long q4), .second, .val (.int p5), .val (.int p6), .unset, .unset, .unset, .unset, .unset, .unset, .unset, .unset, .unset, .unset] [(.int 2)]) _
  refine st1 _ ?_
  show St p e below T1 (mkF m 3 #[.val (.int p1), .val (.int p2), .val (.int p3), .val (.long q4), .second, .val (.int p5), .val (.int p6), .unset, .unset, .unset, .unset, .unset, .unset, .unset, .unset, .unset, .unset] [(.ref b1)]) _
  refine XS.dup X1.here hx rfl (hb hby at_3) rfl rfl ?_
  show St p e below T1 (mkF m 4 #[.val (.int p1), .val (.int p2), .val (.int p3), .val (.long q4), .second, .val (.int p5), .val (.int p6), .unset, .unset, .unset, .unset, .unset, .unset, .unset, .unset, .unset, .unset] [(.ref b1), (.ref b1)]) _
  refine XS.iconst X1.here hx rfl (hb hby at_4) ?_
  show St p e below T1 (mkF m 5 #[.val (.int p1), .val (.int p2), .val (.int p3), .val (.long q4), .second, .val (.int p5), .val (.int p6), .unset, .unset, .unset, .unset, .unset, .unset, .unset, .unset, .unset, .unset] [(.int 0), (.ref b1), (.ref b1)]) _
  refine XS.iloadN X1.here hx rfl (hb hby at_5) rfl ?_
  show St p e below T1 (mkF m 6 #[.val (.int p1), .val (.int p2), .val (.int p3), .val (.long q4), .second, .val (.int p5), .val (.int p6), .unset, .unset, .unset, .unset, .unset, .unset, .unset, .unset, .unset, .unset] [(.int p2), (.int 0), (.ref b1), (.ref b1)]) _
  refine XS.sipush X1.here hx rfl (hb hby at_6) ?_
  show St p e below T1 (mkF m 9 #[.val (.int p1), .val (.int p2), .val (.int p3), .val (.long q4), .second, .val (.int p5), .val (.int p6), .unset, .unset, .unset, .unset, .unset, .unset, .unset, .unset, .unset, .unset] [(.int 255), (.int p2), (.int 0), (.ref b1), (.ref b1)]) _
  refine XS.iand X1.here hx rfl (hb hby at_9) rfl ?_
  show St p e below T1 (mkF m 10 #[.val (.int p1), .val (.int p2), .val (.int p3), .val (.long q4), .second, .val (.int p5), .val (.int p6), .unset, .unset, .unset, .unset, .unset, .unset, .unset, .unset, .unset, .unset] [(.int (p2 &&& (255 : Int32))), (.int 0), (.ref b1), (.ref b1)]) _
  refine XS.i2c X1.here hx rfl (hb hby at_10) rfl ?_
  show St p e below T1 (mkF m 11 #[.val (.int p1), .val (.int p2), .val (.int p3), .val (.long q4), .second, .val (.int p5), .val (.int p6), .unset, .unset, .unset, .unset, .unset, .unset, .unset, .unset, .unset, .unset] [(.int ((p2 &&& (255 : Int32)).toUInt32.toUInt16.toUInt32.toInt32)), (.int 0), (.ref b1), (.ref b1)]) _
  rw [hcA]
  show St p e below T1 (mkF m 11 #[.val (.int p1), .val (.int p2), .val (.int p3), .val (.long q4), .second, .val (.int p5), .val (.int p6), .unset, .unset, .unset, .unset, .unset, .unset, .unset, .unset, .unset, .unset] [(.int cA), (.int 0), (.ref b1), (.ref b1)]) _
  refine st4 _ ?_
  show St p e below T4 (mkF m 12 #[.val (.int p1), .val (.int p2), .val (.int p3), .val (.long q4), .second, .val (.int p5), .val (.int p6), .unset, .unset, .unset, .unset, .unset, .unset, .unset, .unset, .unset, .unset] [(.ref b1)]) _
  refine XS.dup X4.here hx rfl (hb hby at_12) rfl rfl ?_
  show St p e below T4 (mkF m 13 #[.val (.int p1), .val (.int p2), .val (.int p3), .val (.long q4), .second, .val (.int p5), .val (.int p6), .unset, .unset, .unset, .unset, .unset, .unset, .unset, .unset, .unset, .unset] [(.ref b1), (.ref b1)]) _
  refine XS.iconst X4.here hx rfl (hb hby at_13) ?_
  show St p e below T4 (mkF m 14 #[.val (.int p1), .val (.int p2), .val (.int p3), .val (.long q4), .second, .val (.int p5), .val (.int p6), .unset, .unset, .unset, .unset, .unset, .unset, .unset, .unset, .unset, .unset] [(.int 1), (.ref b1), (.ref b1)]) _
  refine XS.iloadN X4.here hx rfl (hb hby at_14) rfl ?_
  show St p e below T4 (mkF m 15 #[.val (.int p1), .val (.int p2), .val (.int p3), .val (.long q4), .second, .val (.int p5), .val (.int p6), .unset, .unset, .unset, .unset, .unset, .unset, .unset, .unset, .unset, .unset] [(.int p3), (.int 1), (.ref b1), (.ref b1)]) _
  refine XS.sipush X4.here hx rfl (hb hby at_15) ?_
  show St p e below T4 (mkF m 18 #[.val (.int p1), .val (.int p2), .val (.int p3), .val (.long q4), .second, .val (.int p5), .val (.int p6), .unset, .unset, .unset, .unset, .unset, .unset, .unset, .unset, .unset, .unset] [(.int 255), (.int p3), (.int 1), (.ref b1), (.ref b1)]) _
  refine XS.iand X4.here hx rfl (hb hby at_18) rfl ?_
  show St p e below T4 (mkF m 19 #[.val (.int p1), .val (.int p2), .val (.int p3), .val (.long q4), .second, .val (.int p5), .val (.int p6), .unset, .unset, .unset, .unset, .unset, .unset, .unset, .unset, .unset, .unset] [(.int (p3 &&& (255 : Int32))), (.int 1), (.ref b1), (.ref b1)]) _
  refine XS.i2c X4.here hx rfl (hb hby at_19) rfl ?_
  show St p e below T4 (mkF m 20 #[.val (.int p1), .val (.int p2), .val (.int p3), .val (.long q4), .second, .val (.int p5), .val (.int p6), .unset, .unset, .unset, .unset, .unset, .unset, .unset, .unset, .unset, .unset] [(.int ((p3 &&& (255 : Int32)).toUInt32.toUInt16.toUInt32.toInt32)), (.int 1), (.ref b1), (.ref b1)]) _
  rw [hcB]
  show St p e below T4 (mkF m 20 #[.val (.int p1), .val (.int p2), .val (.int p3), .val (.long q4), .second, .val (.int p5), .val (.int p6), .unset, .unset, .unset, .unset, .unset, .unset, .unset, .unset, .unset, .unset] [(.int cB), (.int 1), (.ref b1), (.ref b1)]) _
  refine st7 _ ?_
  show St p e below T7 (mkF m 21 #[.val (.int p1), .val (.int p2), .val (.int p3), .val (.long q4), .second, .val (.int p5), .val (.int p6), .unset, .unset, .unset, .unset, .unset, .unset, .unset, .unset, .unset, .unset] [(.ref b1)]) _
  refine XS.astore X7.here hx rfl (hb hby at_21) rfl rfl (l' := #[.val (.int p1), .val (.int p2), .val (.int p3), .val (.long q4), .second, .val (.int p5), .val (.int p6), .val (.ref b1), .unset, .unset, .unset, .unset, .unset, .unset, .unset, .unset, .unset]) rfl ?_
  show St p e below T7 (mkF m 23 #[.val (.int p1), .val (.int p2), .val (.int p3), .val (.long q4), .second, .val (.int p5), .val (.int p6), .val (.ref b1), .unset, .unset, .unset, .unset, .unset, .unset, .unset, .unset, .unset] []) _
  refine st9 _ ?_
  show St p e below T9 (mkF m 26 #[.val (.int p1), .val (.int p2), .val (.int p3), .val (.long q4), .second, .val (.int p5), .val (.int p6), .val (.ref b1), .unset, .unset, .unset, .unset, .unset, .unset, .unset, .unset, .unset] [(.ref b9)]) _
  refine XS.dup X9.here hx rfl (hb hby at_26) rfl rfl ?_
  show St p e below T9 (mkF m 27 #[.val (.int p1), .val (.int p2), .val (.int p3), .val (.long q4), .second, .val (.int p5), .val (.int p6), .val (.ref b1), .unset, .unset, .unset, .unset, .unset, .unset, .unset, .unset, .unset] [(.ref b9), (.ref b9)]) _
  refine XS.aload X9.here hx rfl (hb hby at_27) rfl rfl ?_
  show St p e below T9 (mkF m 29 #[.val (.int p1), .val (.int p2), .val (.int p3), .val (.long q4), .second, .val (.int p5), .val (.int p6), .val (.ref b1), .unset, .unset, .unset, .unset, .unset, .unset, .unset, .unset, .unset] [(.ref b1), (.ref b9), (.ref b9)]) _
  refine st11.trans ?_
  show St p e below T11 (mkF m 32 #[.val (.int p1), .val (.int p2), .val (.int p3), .val (.long q4), .second, .val (.int p5), .val (.int p6), .val (.ref b1), .unset, .unset, .unset, .unset, .unset, .unset, .unset, .unset, .unset] [(.ref b9)]) _
  refine XS.astore X11.here hx rfl (hb hby at_32) rfl rfl (l' := #[.val (.int p1), .val (.int p2), .val (.int p3), .val (.long q4), .second, .val (.int p5), .val (.int p6), .val (.ref b1), .val (.ref b9), .unset, .unset, .unset, .unset, .unset, .unset, .unset, .unset]) rfl ?_
  show St p e below T11 (mkF m 34 #[.val (.int p1), .val (.int p2), .val (.int p3), .val (.long q4), .second, .val (.int p5), .val (.int p6), .val (.ref b1), .val (.ref b9), .unset, .unset, .unset, .unset, .unset, .unset, .unset, .unset] []) _
  refine XS.iconst X11.here hx rfl (hb hby at_34) ?_
  show St p e below T11 (mkF m 35 #[.val (.int p1), .val (.int p2), .val (.int p3), .val (.long q4), .second, .val (.int p5), .val (.int p6), .val (.ref b1), .val (.ref b9), .unset, .unset, .unset, .unset, .unset, .unset, .unset, .unset] [(.int 1)]) _
  refine st14 _ ?_
  show St p e below T14 (mkF m 37 #[.val (.int p1), .val (.int p2), .val (.int p3), .val (.long q4), .second, .val (.int p5), .val (.int p6), .val (.ref b1), .val (.ref b9), .unset, .unset, .unset, .unset, .unset, .unset, .unset, .unset] [(.ref b14)]) _
  refine XS.dup X14.here hx rfl (hb hby at_37) rfl rfl ?_
  show St p e below T14 (mkF m 38 #[.val (.int p1), .val (.int p2), .val (.int p3), .val (.long q4), .second, .val (.int p5), .val (.int p6), .val (.ref b1), .val (.ref b9), .unset, .unset, .unset, .unset, .unset, .unset, .unset, .unset] [(.ref b14), (.ref b14)]) _
  refine XS.iconst X14.here hx rfl (hb hby at_38) ?_
  show St p e below T14 (mkF m 39 #[.val (.int p1), .val (.int p2), .val (.int p3), .val (.long q4), .second, .val (.int p5), .val (.int p6), .val (.ref b1), .val (.ref b9), .unset, .unset, .unset, .unset, .unset, .unset, .unset, .unset] [(.int 0), (.ref b14), (.ref b14)]) _
  refine XS.iload X14.here hx rfl (hb hby at_39) rfl ?_
  show St p e below T14 (mkF m 41 #[.val (.int p1), .val (.int p2), .val (.int p3), .val (.long q4), .second, .val (.int p5), .val (.int p6), .val (.ref b1), .val (.ref b9), .unset, .unset, .unset, .unset, .unset, .unset, .unset, .unset] [(.int p6), (.int 0), (.ref b14), (.ref b14)]) _
  refine XS.sipush X14.here hx rfl (hb hby at_41) ?_
  show St p e below T14 (mkF m 44 #[.val (.int p1), .val (.int p2), .val (.int p3), .val (.long q4), .second, .val (.int p5), .val (.int p6), .val (.ref b1), .val (.ref b9), .unset, .unset, .unset, .unset, .unset, .unset, .unset, .unset] [(.int 255), (.int p6), (.int 0), (.ref b14), (.ref b14)]) _
  refine XS.iand X14.here hx rfl (hb hby at_44) rfl ?_
  show St p e below T14 (mkF m 45 #[.val (.int p1), .val (.int p2), .val (.int p3), .val (.long q4), .second, .val (.int p5), .val (.int p6), .val (.ref b1), .val (.ref b9), .unset, .unset, .unset, .unset, .unset, .unset, .unset, .unset] [(.int (p6 &&& (255 : Int32))), (.int 0), (.ref b14), (.ref b14)]) _
  refine XS.i2c X14.here hx rfl (hb hby at_45) rfl ?_
  show St p e below T14 (mkF m 46 #[.val (.int p1), .val (.int p2), .val (.int p3), .val (.long q4), .second, .val (.int p5), .val (.int p6), .val (.ref b1), .val (.ref b9), .unset, .unset, .unset, .unset, .unset, .unset, .unset, .unset] [(.int ((p6 &&& (255 : Int32)).toUInt32.toUInt16.toUInt32.toInt32)), (.int 0), (.ref b14), (.ref b14)]) _
  rw [hcC]
  show St p e below T14 (mkF m 46 #[.val (.int p1), .val (.int p2), .val (.int p3), .val (.long q4), .second, .val (.int p5), .val (.int p6), .val (.ref b1), .val (.ref b9), .unset, .unset, .unset, .unset, .unset, .unset, .unset, .unset] [(.int cC), (.int 0), (.ref b14), (.ref b14)]) _
  refine st17 _ ?_
  show St p e below T17 (mkF m 47 #[.val (.int p1), .val (.int p2), .val (.int p3), .val (.long q4), .second, .val (.int p5), .val (.int p6), .val (.ref b1), .val (.ref b9), .unset, .unset, .unset, .unset, .unset, .unset, .unset, .unset] [(.ref b14)]) _
  refine XS.astore X17.here hx rfl (hb hby at_47) rfl rfl (l' := #[.val (.int p1), .val (.int p2), .val (.int p3), .val (.long q4), .second, .val (.int p5), .val (.int p6), .val (.ref b1), .val (.ref b9), .val (.ref b14), .unset, .unset, .unset, .unset, .unset, .unset, .unset]) rfl ?_
  show St p e below T17 (mkF m 49 #[.val (.int p1), .val (.int p2), .val (.int p3), .val (.long q4), .second, .val (.int p5), .val (.int p6), .val (.ref b1), .val (.ref b9), .val (.ref b14), .unset, .unset, .unset, .unset, .unset, .unset, .unset] []) _
  refine st19 _ ?_
  show St p e below T19 (mkF m 52 #[.val (.int p1), .val (.int p2), .val (.int p3), .val (.long q4), .second, .val (.int p5), .val (.int p6), .val (.ref b1), .val (.ref b9), .val (.ref b14), .unset, .unset, .unset, .unset, .unset, .unset, .unset] [(.ref b19)]) _
  refine XS.dup X19.here hx rfl (hb hby at_52) rfl rfl ?_
  show St p e below T19 (mkF m 53 #[.val (.int p1), .val (.int p2), .val (.int p3), .val (.long q4), .second, .val (.int p5), .val (.int p6), .val (.ref b1), .val (.ref b9), .val (.ref b14), .unset, .unset, .unset, .unset, .unset, .unset, .unset] [(.ref b19), (.ref b19)]) _
  refine XS.aload X19.here hx rfl (hb hby at_53) rfl rfl ?_
  show St p e below T19 (mkF m 55 #[.val (.int p1), .val (.int p2), .val (.int p3), .val (.long q4), .second, .val (.int p5), .val (.int p6), .val (.ref b1), .val (.ref b9), .val (.ref b14), .unset, .unset, .unset, .unset, .unset, .unset, .unset] [(.ref b14), (.ref b19), (.ref b19)]) _
  refine st21.trans ?_
  show St p e below T21 (mkF m 58 #[.val (.int p1), .val (.int p2), .val (.int p3), .val (.long q4), .second, .val (.int p5), .val (.int p6), .val (.ref b1), .val (.ref b9), .val (.ref b14), .unset, .unset, .unset, .unset, .unset, .unset, .unset] [(.ref b19)]) _
  refine XS.astore X21.here hx rfl (hb hby at_58) rfl rfl (l' := #[.val (.int p1), .val (.int p2), .val (.int p3), .val (.long q4), .second, .val (.int p5), .val (.int p6), .val (.ref b1), .val (.ref b9), .val (.ref b14), .val (.ref b19), .unset, .unset, .unset, .unset, .unset, .unset]) rfl ?_
  show St p e below T21 (mkF m 60 #[.val (.int p1), .val (.int p2), .val (.int p3), .val (.long q4), .second, .val (.int p5), .val (.int p6), .val (.ref b1), .val (.ref b9), .val (.ref b14), .val (.ref b19), .unset, .unset, .unset, .unset, .unset, .unset] []) _
  refine XS.iconst X21.here hx rfl (hb hby at_60) ?_
  show St p e below T21 (mkF m 61 #[.val (.int p1), .val (.int p2), .val (.int p3), .val (.long q4), .second, .val (.int p5), .val (.int p6), .val (.ref b1), .val (.ref b9), .val (.ref b14), .val (.ref b19), .unset, .unset, .unset, .unset, .unset, .unset] [(.int 1)]) _
  refine st24 _ ?_
  show St p e below T24 (mkF m 63 #[.val (.int p1), .val (.int p2), .val (.int p3), .val (.long q4), .second, .val (.int p5), .val (.int p6), .val (.ref b1), .val (.ref b9), .val (.ref b14), .val (.ref b19), .unset, .unset, .unset, .unset, .unset, .unset] [(.ref b24)]) _
  refine XS.dup X24.here hx rfl (hb hby at_63) rfl rfl ?_
  show St p e below T24 (mkF m 64 #[.val (.int p1), .val (.int p2), .val (.int p3), .val (.long q4), .second, .val (.int p5), .val (.int p6), .val (.ref b1), .val (.ref b9), .val (.ref b14), .val (.ref b19), .unset, .unset, .unset, .unset, .unset, .unset] [(.ref b24), (.ref b24)]) _
  refine XS.iconst X24.here hx rfl (hb hby at_64) ?_
  show St p e below T24 (mkF m 65 #[.val (.int p1), .val (.int p2), .val (.int p3), .val (.long q4), .second, .val (.int p5), .val (.int p6), .val (.ref b1), .val (.ref b9), .val (.ref b14), .val (.ref b19), .unset, .unset, .unset, .unset, .unset, .unset] [(.int 0), (.ref b24), (.ref b24)]) _
  refine XS.iload X24.here hx rfl (hb hby at_65) rfl ?_
  show St p e below T24 (mkF m 67 #[.val (.int p1), .val (.int p2), .val (.int p3), .val (.long q4), .second, .val (.int p5), .val (.int p6), .val (.ref b1), .val (.ref b9), .val (.ref b14), .val (.ref b19), .unset, .unset, .unset, .unset, .unset, .unset] [(.int p5), (.int 0), (.ref b24), (.ref b24)]) _
  refine XS.i2b X24.here hx rfl (hb hby at_67) rfl ?_
  show St p e below T24 (mkF m 68 #[.val (.int p1), .val (.int p2), .val (.int p3), .val (.long q4), .second, .val (.int p5), .val (.int p6), .val (.ref b1), .val (.ref b9), .val (.ref b14), .val (.ref b19), .unset, .unset, .unset, .unset, .unset, .unset] [(.int (p5.toInt8.toInt32)), (.int 0), (.ref b24), (.ref b24)]) _
  refine st27 _ ?_
  show St p e below T27 (mkF m 69 #[.val (.int p1), .val (.int p2), .val (.int p3), .val (.long q4), .second, .val (.int p5), .val (.int p6), .val (.ref b1), .val (.ref b9), .val (.ref b14), .val (.ref b19), .unset, .unset, .unset, .unset, .unset, .unset] [(.ref b24)]) _
  refine XS.astore X27.here hx rfl (hb hby at_69) rfl rfl (l' := #[.val (.int p1), .val (.int p2), .val (.int p3), .val (.long q4), .second, .val (.int p5), .val (.int p6), .val (.ref b1), .val (.ref b9), .val (.ref b14), .val (.ref b19), .val (.ref b24), .unset, .unset, .unset, .unset, .unset]) rfl ?_
  exact kt
theorem pd_Ljava_lang_String__B_V_20 : parseMethodDescriptor "(Ljava/lang/String;[B)V" = some ⟨[(.object "java/lang/String"), (.array .byte)], none⟩ := by decide +kernel
theorem pd_Ljava_lang_Object__Ljava_lang_Object_409 : parseMethodDescriptor "(Ljava/lang/Object;)Ljava/lang/Object;" = some ⟨[(.object "java/lang/Object")], some (.object "java/lang/Object")⟩ := by decide +kernel
theorem pn_0 : plainName "com/example/commitgate/commitgate/store/KeySpellingTextPinLaw" = true := by first | (simp [plainName, overriddenIn]; done) | decide +kernel
theorem ef_0_IIIJII (m : MethodId) (x0 : Int32) (x1 : Int32) (x2 : Int32) (x3 : Int64) (x4 : Int32) (x5 : Int32) : entryFrame m #[(.int x0), (.int x1), (.int x2), (.long x3), (.int x4), (.int x5)] maxLocals = mkF m 0 #[.val (.int x0), .val (.int x1), .val (.int x2), .val (.long x3), .second, .val (.int x4), .val (.int x5), .unset, .unset, .unset, .unset, .unset, .unset, .unset, .unset, .unset, .unset] [] := by first | (simp [entryFrame, mkF, argsToLocals, Value.category, maxLocals]; done) | rfl
def Q_law (n0 : Nat) (v : Option Value) (L : List Loc) : Prop := v = some (.int 1) ∧ Fr n0 L
set_option maxRecDepth 65536 in
set_option maxHeartbeats 40000000 in
theorem rm_law_0 (l : Launch) (Z : State) (a0 : Array Value) (hw : ∀ d ∈ tables_1, d.before a0 Z = true) (ws : List Jvm.Cond) (p1 : Int32) (p2 : Int32) (p3 : Int32) (q4 : Int64) (p5 : Int32) (p6 : Int32) (cA : Int32) (cB : Int32) (cC : Int32) (w_COMPACT_STRINGS : Int32) (h0 : Heap) (n0 : Nat) (Z0 : n0 ≤ h0.size) (S_COMPACT_STRINGS : Sta Z Z.heap "java/lang/String" "COMPACT_STRINGS" "Z" (.int w_COMPACT_STRINGS)) (hcs : ¬ (w_COMPACT_STRINGS = (0 : Int32))) (O0 : Old Z n0 h0) (hbcA : ¬ ((255 : Int32) < cA)) (hbcB : ¬ ((255 : Int32) < cB)) (hbcC : ¬ ((255 : Int32) < cC)) (hcA : ((p2 &&& (255 : Int32)).toUInt32.toUInt16.toUInt32.toInt32) = cA) (hncA : (cA.toUInt32.toUInt16.toUInt32.toInt32) = cA) (hcB : ((p3 &&& (255 : Int32)).toUInt32.toUInt16.toUInt32.toInt32) = cB) (hncB : (cB.toUInt32.toUInt16.toUInt32.toInt32) = cB) (hcC : ((p6 &&& (255 : Int32)).toUInt32.toUInt16.toUInt32.toInt32) = cC) (hncC : (cC.toUInt32.toUInt16.toUInt32.toInt32) = cC) (hk : ((p1 &&& (2147483647 : Int32)) % (5 : Int32)) = (0 : Int32)) :
    MetFree l x (head1 (Jvm.Cond.code x code maxLocals ret :: ws) room_1) (fun a U => a = #[(.int p1), (.int p2), (.int p3), (.long q4), (.int p5), (.int p6)] ∧ Z.Warmed39 U.vm ∧ U.heap = h0) (fun _ _ _ _ _ => True) (fun _ U o U' => ∃ v L, o = .returned v ∧ Q_law n0 v L ∧ FrameEnd U o U' L room_1.cells room_1.slots) := by
  refine MetFree.of_bodySF (plainFor_of_name pn_0) hisR ?_
  intro p e s m args below meth c s₁ Bd hml0 hP hK
  obtain ⟨rfl, hZ, hh⟩ := hP
  have hx := Bd.exec
  have hby := Bd.bytes
  have hml : c.maxLocals = 17 := hml0
  have hown : s.vm.findClass "com/example/commitgate/commitgate/store/KeySpellingTextPinLaw" = some m.cls := findClass_of_methodNamed Bd.named
  have hnm := (name_of_methodNamed Bd.named Bd.method).1
  have X0 : Stand p l e room_1 s m #[(.int p1), (.int p2), (.int p3), (.long q4), (.int p5), (.int p6)] below meth c s₁ [] 0 0 := Stand.of_body Bd
  have e0 : s₁.heap = h0 := by rw [← hh, Bd.state]; rfl
  have N0 := Fr.nil n0
  have pre0 : ∀ t, Steps p.tables e below (s₁.setTop (mkF m 0 #[.val (.int p1), .val (.int p2), .val (.int p3), .val (.long q4), .second, .val (.int p5), .val (.int p6), .unset, .unset, .unset, .unset, .unset, .unset, .unset, .unset, .unset, .unset] [])) t → Steps p.tables e below (s₁.setTop (entryFrame m #[(.int p1), (.int p2), (.int p3), (.long q4), (.int p5), (.int p6)] maxLocals)) t := fun t k => castTop (ef_0_IIIJII m p1 p2 p3 q4 p5 p6) k
  obtain ⟨T1, L1, sa_1, ta_1, ia_1, ca_1, cb_1, X1, N1, Kc1, g1_0, g1_1, g1_2, g1_3, g1_4, st1⟩ := sg_pre p1 p2 p3 q4 p5 p6 cA cB cC w_COMPACT_STRINGS X0 hx hZ hw hby hml hown e0 N0 Z0 hbcA hbcB hbcC S_COMPACT_STRINGS hcs O0 hcA hncA hcB hncB hcC hncC
  have sz2 : h0.size ≤ T1.heap.size := Kc1.1
  have Z2 : n0 ≤ T1.heap.size := Nat.le_trans Z0 sz2
  have O2 := O0.keep Kc1 all0
  have K2 : Keep h0 T1.heap [] := (Keep.refl h0 []).trans Kc1 (all0)
  have bn_sa_1 : h0.size ≤ sa_1 := g1_0
  have bn_ta_1 : h0.size ≤ ta_1 := g1_1
  have bn_ia_1 : h0.size ≤ ia_1 := g1_2
  obtain ⟨T3, h3, X3, e3, E3, A3, D3, -, st3⟩ := newO X1 hx hZ hown (hwi hw 31 rfl) (hwi hw 32 rfl) (hwi hw 33 rfl) rfl (g := (mkF m 84 #[.val (.int p1), .val (.int p2), .val (.int p3), .val (.long q4), .second, .val (.int p5), .val (.int p6), .val (.ref ca_1), .val (.ref sa_1), .val (.ref cb_1), .val (.ref ta_1), .val (.ref ia_1), .val (.int 0), .unset, .unset, .unset, .unset] [])) rfl (hb hby at_84) (by decide) (by decide)
  obtain ⟨b3, g3⟩ : ∃ z, z = T1.heap.size := ⟨_, rfl⟩
  rw [← g3] at A3 D3 st3
  have bn_b3 : h0.size ≤ b3 := Nat.le_trans K2.1 (Nat.le_of_eq g3.symm)
  have sz4 : T1.heap.size ≤ h3.size := E3.1
  have Z4 : n0 ≤ h3.size := Nat.le_trans Z2 sz4
  have O4 := O2.ext E3
  have K4 : Keep h0 h3 [] := K2.ext E3
  have F3_text : Fld Z h3 b3 "com/example/commitgate/commitgate/store/KeySpelling" "text" "Ljava/lang/String;" .null := D3 (Or.inr (hwi hw 39 rfl)) (ty := (.object "java/lang/String")) (by decide)
  have F3_identity : Fld Z h3 b3 "com/example/commitgate/commitgate/store/KeySpelling" "identity" "[B" .null := D3 (Or.inr (hwi hw 41 rfl)) (ty := (.array .byte)) (by decide)
  obtain ⟨_, _, ⟨T5, L5, k5, n5⟩, -, X5, ⟨Lc5, hQ5, l5, y5, z5⟩, st5⟩ := X3.specialBack hx (y := (⟨"com/example/commitgate/commitgate/store/KeySpelling", "<init>", "(Ljava/lang/String;[B)V"⟩ : MethodName)) rfl hown (mvT hZ (hwi hw 34 rfl)) (mvT hZ (hwi hw 35 rfl)) (mvT hZ (hwi hw 36 rfl)) (by decide) (backOf (W := 1) (rm_ksinit l Z a0 hw [] b3 sa_1 ia_1 .null .null h3 n0 Z4 A3 F3_text (Nat.le_trans Z0 bn_b3) O4 F3_identity) hZ (hwi hw 36 rfl) (hwi hw 33 rfl) (by decide) (by decide)) (g := (mkF m 92 #[.val (.int p1), .val (.int p2), .val (.int p3), .val (.long q4), .second, .val (.int p5), .val (.int p6), .val (.ref ca_1), .val (.ref sa_1), .val (.ref cb_1), .val (.ref ta_1), .val (.ref ia_1), .val (.int 0), .unset, .unset, .unset, .unset] [(.ref ia_1), (.ref sa_1), (.ref b3), (.ref b3)])) rfl (by rw [hml]; rfl) (Steps.refl _) (a := b3) (argsL := [(.ref sa_1), (.ref ia_1)]) (rest := [(.ref b3)]) (lenOf pd_Ljava_lang_String__B_V_20 rfl) rfl (by show 2 * 0 + _ ≤ _; exact Nat.le_of_eq rfl) (hb hby at_92) (fun _ _ => ⟨rfl, e3, (by decide : 8 + 0 ≤ _), (by decide : 17 + 0 ≤ _)⟩)
  dsimp only [Pt.U, Pt.locs, Pt.cells, Pt.slots] at X5 l5 y5 z5 st5 hQ5
  subst l5 y5 z5
  obtain ⟨rfl, N5q, Kc5, g5_0, g5_1⟩ := hQ5
  have N5 := Fr.app N1 N5q
  have sz6 : h3.size ≤ T5.heap.size := Kc5.1
  have Z6 : n0 ≤ T5.heap.size := Nat.le_trans Z4 sz6
  have O6 := O4.keep Kc5 (allS (Nat.le_trans Z0 bn_b3) all0)
  have K6 : Keep h0 T5.heap [] := K4.trans Kc5 (allS (Or.inr bn_b3) (all0))
  obtain ⟨_, _, ⟨T7, L7, k7, n7⟩, -, X7, ⟨Lc7, hQ7, l7, y7, z7⟩, st7⟩ := Jvm.LawKit.callS X5 hx (y := (⟨"com/example/commitgate/commitgate/store/KeySpelling", "text", "(Ljava/lang/Object;)Ljava/lang/Object;"⟩ : MethodName)) hown (mvT hZ (hwi hw 42 rfl)) (mvT hZ (hwi hw 43 rfl)) (mvT hZ (hwi hw 33 rfl)) (mvT hZ (hwi hw 44 rfl)) (by decide) (backOf (W := 0) (rm_text_ks l Z a0 hw [] b3 sa_1 T5.heap n0 Z6 g5_0 g5_1) hZ (hwi hw 44 rfl) (hwi hw 33 rfl) (by decide) (by decide)) (g := (mkF m 99 #[.val (.int p1), .val (.int p2), .val (.int p3), .val (.long q4), .second, .val (.int p5), .val (.int p6), .val (.ref ca_1), .val (.ref sa_1), .val (.ref cb_1), .val (.ref ta_1), .val (.ref ia_1), .val (.int 0), .val (.ref b3), .unset, .unset, .unset] [(.ref b3)])) rfl (by rw [hml]; rfl) (argsL := [(.ref b3)]) (rest := []) (lenOf pd_Ljava_lang_Object__Ljava_lang_Object_409 rfl) rfl (by show 2 * 0 + _ ≤ _; exact Nat.le_of_eq rfl) (hb hby at_99) (fun _ _ => ⟨rfl, rfl, (by decide : 8 + 0 ≤ _), (by decide : 17 + 0 ≤ _)⟩)
  dsimp only [Pt.U, Pt.locs, Pt.cells, Pt.slots] at X7 l7 y7 z7 st7 hQ7
  subst l7 y7 z7
  obtain ⟨rfl, N7q, e7⟩ := hQ7
  have N7 := Fr.app N5 N7q
  obtain ⟨fs, hr, hrun, hended, hW, hsame⟩ := X7.leave (v := some (.int 1)) (fun h => by rw [Bd.returns] at h; cases h)
  refine ⟨_, _, pre0 _ ?_, hrun, hended, _, _, rfl, ?_, ⟨_, rfl⟩, hW, hsame.mono (by decide) (by decide)⟩
  · show St p e below s₁ (mkF m 0 #[.val (.int p1), .val (.int p2), .val (.int p3), .val (.long q4), .second, .val (.int p5), .val (.int p6), .unset, .unset, .unset, .unset, .unset, .unset, .unset, .unset, .unset, .unset] []) _
    refine st1 _ ?_
    show St p e below T1 (mkF m 71 #[.val (.int p1), .val (.int p2), .val (.int p3), .val (.long q4), .second, .val (.int p5), .val (.int p6), .val (.ref ca_1), .val (.ref sa_1), .val (.ref cb_1), .val (.ref ta_1), .val (.ref ia_1), .unset, .unset, .unset, .unset, .unset] []) _
    refine XS.iloadN X1.here hx rfl (hb hby at_71) rfl ?_
    show St p e below T1 (mkF m 72 #[.val (.int p1), .val (.int p2), .val (.int p3), .val (.long q4), .second, .val (.int p5), .val (.int p6), .val (.ref ca_1), .val (.ref sa_1), .val (.ref cb_1), .val (.ref ta_1), .val (.ref ia_1), .unset, .unset, .unset, .unset, .unset] [(.int p1)]) _
    refine X1.ldcInt hx hown (mvT hZ (hwi hw 30 rfl)) (g := (mkF m 72 #[.val (.int p1), .val (.int p2), .val (.int p3), .val (.long q4), .second, .val (.int p5), .val (.int p6), .val (.ref ca_1), .val (.ref sa_1), .val (.ref cb_1), .val (.ref ta_1), .val (.ref ia_1), .unset, .unset, .unset, .unset, .unset] [(.int p1)])) rfl (hb hby at_72) _ ?_
    show St p e below T1 (mkF m 74 #[.val (.int p1), .val (.int p2), .val (.int p3), .val (.long q4), .second, .val (.int p5), .val (.int p6), .val (.ref ca_1), .val (.ref sa_1), .val (.ref cb_1), .val (.ref ta_1), .val (.ref ia_1), .unset, .unset, .unset, .unset, .unset] [(.int 2147483647), (.int p1)]) _
    refine XS.iand X1.here hx rfl (hb hby at_74) rfl ?_
    show St p e below T1 (mkF m 75 #[.val (.int p1), .val (.int p2), .val (.int p3), .val (.long q4), .second, .val (.int p5), .val (.int p6), .val (.ref ca_1), .val (.ref sa_1), .val (.ref cb_1), .val (.ref ta_1), .val (.ref ia_1), .unset, .unset, .unset, .unset, .unset] [(.int (p1 &&& (2147483647 : Int32)))]) _
    refine XS.iconst X1.here hx rfl (hb hby at_75) ?_
    show St p e below T1 (mkF m 76 #[.val (.int p1), .val (.int p2), .val (.int p3), .val (.long q4), .second, .val (.int p5), .val (.int p6), .val (.ref ca_1), .val (.ref sa_1), .val (.ref cb_1), .val (.ref ta_1), .val (.ref ia_1), .unset, .unset, .unset, .unset, .unset] [(.int 5), (.int (p1 &&& (2147483647 : Int32)))]) _
    refine iremM X1 hx rfl (hb hby at_76) rfl (by decide) ?_
    show St p e below T1 (mkF m 77 #[.val (.int p1), .val (.int p2), .val (.int p3), .val (.long q4), .second, .val (.int p5), .val (.int p6), .val (.ref ca_1), .val (.ref sa_1), .val (.ref cb_1), .val (.ref ta_1), .val (.ref ia_1), .unset, .unset, .unset, .unset, .unset] [(.int ((p1 &&& (2147483647 : Int32)) % (5 : Int32)))]) _
    rw [hk]
    show St p e below T1 (mkF m 77 #[.val (.int p1), .val (.int p2), .val (.int p3), .val (.long q4), .second, .val (.int p5), .val (.int p6), .val (.ref ca_1), .val (.ref sa_1), .val (.ref cb_1), .val (.ref ta_1), .val (.ref ia_1), .unset, .unset, .unset, .unset, .unset] [(.int 0)]) _
    refine XS.istore X1.here hx rfl (hb hby at_77) rfl (l' := #[.val (.int p1), .val (.int p2), .val (.int p3), .val (.long q4), .second, .val (.int p5), .val (.int p6), .val (.ref ca_1), .val (.ref sa_1), .val (.ref cb_1), .val (.ref ta_1), .val (.ref ia_1), .val (.int 0), .unset, .unset, .unset, .unset]) rfl ?_
    show St p e below T1 (mkF m 79 #[.val (.int p1), .val (.int p2), .val (.int p3), .val (.long q4), .second, .val (.int p5), .val (.int p6), .val (.ref ca_1), .val (.ref sa_1), .val (.ref cb_1), .val (.ref ta_1), .val (.ref ia_1), .val (.int 0), .unset, .unset, .unset, .unset] []) _
    refine XS.iload X1.here hx rfl (hb hby at_79) rfl ?_
    show St p e below T1 (mkF m 81 #[.val (.int p1), .val (.int p2), .val (.int p3), .val (.long q4), .second, .val (.int p5), .val (.int p6), .val (.ref ca_1), .val (.ref sa_1), .val (.ref cb_1), .val (.ref ta_1), .val (.ref ia_1), .val (.int 0), .unset, .unset, .unset, .unset] [(.int 0)]) _
    refine XS.ifNo X1.here hx rfl (hb hby at_81) rfl ((if0 _ _).trans (teq (by decide : (0 : Int32) = (0 : Int32))).2) ?_
    show St p e below T1 (mkF m 84 #[.val (.int p1), .val (.int p2), .val (.int p3), .val (.long q4), .second, .val (.int p5), .val (.int p6), .val (.ref ca_1), .val (.ref sa_1), .val (.ref cb_1), .val (.ref ta_1), .val (.ref ia_1), .val (.int 0), .unset, .unset, .unset, .unset] []) _
    refine st3 _ ?_
    show St p e below T3 (mkF m 87 #[.val (.int p1), .val (.int p2), .val (.int p3), .val (.long q4), .second, .val (.int p5), .val (.int p6), .val (.ref ca_1), .val (.ref sa_1), .val (.ref cb_1), .val (.ref ta_1), .val (.ref ia_1), .val (.int 0), .unset, .unset, .unset, .unset] [(.ref b3)]) _
    refine XS.dup X3.here hx rfl (hb hby at_87) rfl rfl ?_
    show St p e below T3 (mkF m 88 #[.val (.int p1), .val (.int p2), .val (.int p3), .val (.long q4), .second, .val (.int p5), .val (.int p6), .val (.ref ca_1), .val (.ref sa_1), .val (.ref cb_1), .val (.ref ta_1), .val (.ref ia_1), .val (.int 0), .unset, .unset, .unset, .unset] [(.ref b3), (.ref b3)]) _
    refine XS.aload X3.here hx rfl (hb hby at_88) rfl rfl ?_
    show St p e below T3 (mkF m 90 #[.val (.int p1), .val (.int p2), .val (.int p3), .val (.long q4), .second, .val (.int p5), .val (.int p6), .val (.ref ca_1), .val (.ref sa_1), .val (.ref cb_1), .val (.ref ta_1), .val (.ref ia_1), .val (.int 0), .unset, .unset, .unset, .unset] [(.ref sa_1), (.ref b3), (.ref b3)]) _
    refine XS.aload X3.here hx rfl (hb hby at_90) rfl rfl ?_
    show St p e below T3 (mkF m 92 #[.val (.int p1), .val (.int p2), .val (.int p3), .val (.long q4), .second, .val (.int p5), .val (.int p6), .val (.ref ca_1), .val (.ref sa_1), .val (.ref cb_1), .val (.ref ta_1), .val (.ref ia_1), .val (.int 0), .unset, .unset, .unset, .unset] [(.ref ia_1), (.ref sa_1), (.ref b3), (.ref b3)]) _
    refine st5.trans ?_
    show St p e below T5 (mkF m 95 #[.val (.int p1), .val (.int p2), .val (.int p3), .val (.long q4), .second, .val (.int p5), .val (.int p6), .val (.ref ca_1), .val (.ref sa_1), .val (.ref cb_1), .val (.ref ta_1), .val (.ref ia_1), .val (.int 0), .unset, .unset, .unset, .unset] [(.ref b3)]) _
    refine XS.astore X5.here hx rfl (hb hby at_95) rfl rfl (l' := #[.val (.int p1), .val (.int p2), .val (.int p3), .val (.long q4), .second, .val (.int p5), .val (.int p6), .val (.ref ca_1), .val (.ref sa_1), .val (.ref cb_1), .val (.ref ta_1), .val (.ref ia_1), .val (.int 0), .val (.ref b3), .unset, .unset, .unset]) rfl ?_
    show St p e below T5 (mkF m 97 #[.val (.int p1), .val (.int p2), .val (.int p3), .val (.long q4), .second, .val (.int p5), .val (.int p6), .val (.ref ca_1), .val (.ref sa_1), .val (.ref cb_1), .val (.ref ta_1), .val (.ref ia_1), .val (.int 0), .val (.ref b3), .unset, .unset, .unset] []) _
    refine XS.aload X5.here hx rfl (hb hby at_97) rfl rfl ?_
    show St p e below T5 (mkF m 99 #[.val (.int p1), .val (.int p2), .val (.int p3), .val (.long q4), .second, .val (.int p5), .val (.int p6), .val (.ref ca_1), .val (.ref sa_1), .val (.ref cb_1), .val (.ref ta_1), .val (.ref ia_1), .val (.int 0), .val (.ref b3), .unset, .unset, .unset] [(.ref b3)]) _
    refine st7 _ ?_
    show St p e below T7 (mkF m 102 #[.val (.int p1), .val (.int p2), .val (.int p3), .val (.long q4), .second, .val (.int p5), .val (.int p6), .val (.ref ca_1), .val (.ref sa_1), .val (.ref cb_1), .val (.ref ta_1), .val (.ref ia_1), .val (.int 0), .val (.ref b3), .unset, .unset, .unset] [(.ref sa_1)]) _
    refine XS.astore X7.here hx rfl (hb hby at_102) rfl rfl (l' := #[.val (.int p1), .val (.int p2), .val (.int p3), .val (.long q4), .second, .val (.int p5), .val (.int p6), .val (.ref ca_1), .val (.ref sa_1), .val (.ref cb_1), .val (.ref ta_1), .val (.ref ia_1), .val (.int 0), .val (.ref b3), .val (.ref sa_1), .unset, .unset]) rfl ?_
    show St p e below T7 (mkF m 104 #[.val (.int p1), .val (.int p2), .val (.int p3), .val (.long q4), .second, .val (.int p5), .val (.int p6), .val (.ref ca_1), .val (.ref sa_1), .val (.ref cb_1), .val (.ref ta_1), .val (.ref ia_1), .val (.int 0), .val (.ref b3), .val (.ref sa_1), .unset, .unset] []) _
    refine XS.aload X7.here hx rfl (hb hby at_104) rfl rfl ?_
    show St p e below T7 (mkF m 106 #[.val (.int p1), .val (.int p2), .val (.int p3), .val (.long q4), .second, .val (.int p5), .val (.int p6), .val (.ref ca_1), .val (.ref sa_1), .val (.ref cb_1), .val (.ref ta_1), .val (.ref ia_1), .val (.int 0), .val (.ref b3), .val (.ref sa_1), .unset, .unset] [(.ref sa_1)]) _
    refine XS.aload X7.here hx rfl (hb hby at_106) rfl rfl ?_
    show St p e below T7 (mkF m 108 #[.val (.int p1), .val (.int p2), .val (.int p3), .val (.long q4), .second, .val (.int p5), .val (.int p6), .val (.ref ca_1), .val (.ref sa_1), .val (.ref cb_1), .val (.ref ta_1), .val (.ref ia_1), .val (.int 0), .val (.ref b3), .val (.ref sa_1), .unset, .unset] [(.ref sa_1), (.ref sa_1)]) _
    refine Jvm.RoadKit.acmp (g := (mkF m 108 #[.val (.int p1), .val (.int p2), .val (.int p3), .val (.long q4), .second, .val (.int p5), .val (.int p6), .val (.ref ca_1), .val (.ref sa_1), .val (.ref cb_1), .val (.ref ta_1), .val (.ref ia_1), .val (.int 0), .val (.ref b3), .val (.ref sa_1), .unset, .unset] [(.ref sa_1), (.ref sa_1)])) X7 hx rfl rfl rfl (pc0 := 108) (pc' := 111) (same := true) rfl (hb hby at_108) rfl (decide_eq_true rfl) (by decide) (by decide) ?_
    show St p e below T7 (mkF m 111 #[.val (.int p1), .val (.int p2), .val (.int p3), .val (.long q4), .second, .val (.int p5), .val (.int p6), .val (.ref ca_1), .val (.ref sa_1), .val (.ref cb_1), .val (.ref ta_1), .val (.ref ia_1), .val (.int 0), .val (.ref b3), .val (.ref sa_1), .unset, .unset] []) _
    refine XS.iconst X7.here hx rfl (hb hby at_111) ?_
    show St p e below T7 (mkF m 112 #[.val (.int p1), .val (.int p2), .val (.int p3), .val (.long q4), .second, .val (.int p5), .val (.int p6), .val (.ref ca_1), .val (.ref sa_1), .val (.ref cb_1), .val (.ref ta_1), .val (.ref ia_1), .val (.int 0), .val (.ref b3), .val (.ref sa_1), .unset, .unset] [(.int 1)]) _
    refine XS.goto X7.here hx rfl (pc0 := 112) (pc' := 116) rfl (hb hby at_112) (by decide) (by decide) ?_
    show St p e below T7 (mkF m 116 #[.val (.int p1), .val (.int p2), .val (.int p3), .val (.long q4), .second, .val (.int p5), .val (.int p6), .val (.ref ca_1), .val (.ref sa_1), .val (.ref cb_1), .val (.ref ta_1), .val (.ref ia_1), .val (.int 0), .val (.ref b3), .val (.ref sa_1), .unset, .unset] [(.int 1)]) _
    exact retN X7 hx (t := .boolean) Bd.returns (by simp) (hb hby at_116) hr
  · exact ⟨rfl, N7⟩
theorem pd_J_Ljava_lang_Long_620 : parseMethodDescriptor "(J)Ljava/lang/Long;" = some ⟨[.long], some (.object "java/lang/Long")⟩ := by decide +kernel
set_option maxRecDepth 65536 in
set_option maxHeartbeats 40000000 in
theorem rm_law_1lt (l : Launch) (Z : State) (a0 : Array Value) (hw : ∀ d ∈ tables_1, d.before a0 Z = true) (ws : List Jvm.Cond) (p1 : Int32) (p2 : Int32) (p3 : Int32) (q4 : Int64) (p5 : Int32) (p6 : Int32) (cA : Int32) (cB : Int32) (cC : Int32) (w_COMPACT_STRINGS : Int32) (h0 : Heap) (n0 : Nat) (Z0 : n0 ≤ h0.size) (S_COMPACT_STRINGS : Sta Z Z.heap "java/lang/String" "COMPACT_STRINGS" "Z" (.int w_COMPACT_STRINGS)) (hcs : ¬ (w_COMPACT_STRINGS = (0 : Int32))) (O0 : Old Z n0 h0) (hbcA : ¬ ((255 : Int32) < cA)) (hbcB : ¬ ((255 : Int32) < cB)) (hbcC : ¬ ((255 : Int32) < cC)) (hcA : ((p2 &&& (255 : Int32)).toUInt32.toUInt16.toUInt32.toInt32) = cA) (hncA : (cA.toUInt32.toUInt16.toUInt32.toInt32) = cA) (hcB : ((p3 &&& (255 : Int32)).toUInt32.toUInt16.toUInt32.toInt32) = cB) (hncB : (cB.toUInt32.toUInt16.toUInt32.toInt32) = cB) (hcC : ((p6 &&& (255 : Int32)).toUInt32.toUInt16.toUInt32.toInt32) = cC) (hncC : (cC.toUInt32.toUInt16.toUInt32.toInt32) = cC) (hk : ((p1 &&& (2147483647 : Int32)) % (5 : Int32)) = (1 : Int32)) (hp124 : (lcmpW q4 (-128 : Int64)) < (0 : Int32)) :
    MetFree l x (head1 (Jvm.Cond.code x code maxLocals ret :: ws) room_1) (fun a U => a = #[(.int p1), (.int p2), (.int p3), (.long q4), (.int p5), (.int p6)] ∧ Z.Warmed39 U.vm ∧ U.heap = h0) (fun _ _ _ _ _ => True) (fun _ U o U' => ∃ v L, o = .returned v ∧ Q_law n0 v L ∧ FrameEnd U o U' L room_1.cells room_1.slots) := by
  refine MetFree.of_bodySF (plainFor_of_name pn_0) hisR ?_
  intro p e s m args below meth c s₁ Bd hml0 hP hK
  obtain ⟨rfl, hZ, hh⟩ := hP
  have hx := Bd.exec
  have hby := Bd.bytes
  have hml : c.maxLocals = 17 := hml0
  have hown : s.vm.findClass "com/example/commitgate/commitgate/store/KeySpellingTextPinLaw" = some m.cls := findClass_of_methodNamed Bd.named
  have hnm := (name_of_methodNamed Bd.named Bd.method).1
  have X0 : Stand p l e room_1 s m #[(.int p1), (.int p2), (.int p3), (.long q4), (.int p5), (.int p6)] below meth c s₁ [] 0 0 := Stand.of_body Bd
  have e0 : s₁.heap = h0 := by rw [← hh, Bd.state]; rfl
  have N0 := Fr.nil n0
  have pre0 : ∀ t, Steps p.tables e below (s₁.setTop (mkF m 0 #[.val (.int p1), .val (.int p2), .val (.int p3), .val (.long q4), .second, .val (.int p5), .val (.int p6), .unset, .unset, .unset, .unset, .unset, .unset, .unset, .unset, .unset, .unset] [])) t → Steps p.tables e below (s₁.setTop (entryFrame m #[(.int p1), (.int p2), (.int p3), (.long q4), (.int p5), (.int p6)] maxLocals)) t := fun t k => castTop (ef_0_IIIJII m p1 p2 p3 q4 p5 p6) k
  obtain ⟨T1, L1, sa_1, ta_1, ia_1, ca_1, cb_1, X1, N1, Kc1, g1_0, g1_1, g1_2, g1_3, g1_4, st1⟩ := sg_pre p1 p2 p3 q4 p5 p6 cA cB cC w_COMPACT_STRINGS X0 hx hZ hw hby hml hown e0 N0 Z0 hbcA hbcB hbcC S_COMPACT_STRINGS hcs O0 hcA hncA hcB hncB hcC hncC
  have sz2 : h0.size ≤ T1.heap.size := Kc1.1
  have Z2 : n0 ≤ T1.heap.size := Nat.le_trans Z0 sz2
  have O2 := O0.keep Kc1 all0
  have K2 : Keep h0 T1.heap [] := (Keep.refl h0 []).trans Kc1 (all0)
  have bn_sa_1 : h0.size ≤ sa_1 := g1_0
  have bn_ta_1 : h0.size ≤ ta_1 := g1_1
  have bn_ia_1 : h0.size ≤ ia_1 := g1_2
  obtain ⟨_, _, ⟨T3, L3, k3, n3⟩, -, X3, ⟨Lc3, hQ3, l3, y3, z3⟩, st3⟩ := Jvm.LawKit.callS X1 hx (y := (⟨"java/lang/Long", "valueOf", "(J)Ljava/lang/Long;"⟩ : MethodName)) hown (mvT hZ (hwi hw 47 rfl)) (mvT hZ (hwi hw 48 rfl)) (mvT hZ (hwi hw 49 rfl)) (mvT hZ (hwi hw 50 rfl)) (by decide) (backOf (W := 0) (rm_valueof_lt l Z a0 hw [] q4 T1.heap n0 Z2 hp124 O2) hZ (hwi hw 50 rfl) (hwi hw 49 rfl) (by decide) (by decide)) (g := (mkF m 124 #[.val (.int p1), .val (.int p2), .val (.int p3), .val (.long q4), .second, .val (.int p5), .val (.int p6), .val (.ref ca_1), .val (.ref sa_1), .val (.ref cb_1), .val (.ref ta_1), .val (.ref ia_1), .val (.int 1), .unset, .unset, .unset, .unset] [(.long q4)])) rfl (by rw [hml]; rfl) (argsL := [(.long q4)]) (rest := []) (lenOf pd_J_Ljava_lang_Long_620 rfl) rfl (by show 2 * 0 + _ ≤ _; exact Nat.le_of_eq rfl) (hb hby at_124) (fun _ _ => ⟨rfl, rfl, (by decide : 7 + 1 ≤ _), (by decide : 15 + 1 ≤ _)⟩)
  dsimp only [Pt.U, Pt.locs, Pt.cells, Pt.slots] at X3 l3 y3 z3 st3 hQ3
  subst l3 y3 z3
  obtain ⟨r_3, rfl, N3q, Kc3, g3_0, g3_1⟩ := hQ3
  have N3 := Fr.app N1 N3q
  have sz4 : T1.heap.size ≤ T3.heap.size := Kc3.1
  have Z4 : n0 ≤ T3.heap.size := Nat.le_trans Z2 sz4
  have O4 := O2.keep Kc3 all0
  have K4 : Keep h0 T3.heap [] := K2.trans Kc3 (all0)
  have bn_r_3 : h0.size ≤ r_3 := Nat.le_trans K2.1 g3_0
  obtain ⟨_, _, ⟨T5, L5, k5, n5⟩, -, X5, ⟨Lc5, hQ5, l5, y5, z5⟩, st5⟩ := Jvm.LawKit.callS X3 hx (y := (⟨"com/example/commitgate/commitgate/store/KeySpelling", "text", "(Ljava/lang/Object;)Ljava/lang/Object;"⟩ : MethodName)) hown (mvT hZ (hwi hw 42 rfl)) (mvT hZ (hwi hw 43 rfl)) (mvT hZ (hwi hw 33 rfl)) (mvT hZ (hwi hw 44 rfl)) (by decide) (backOf (W := 0) (rm_text_long l Z a0 hw [] r_3 T3.heap n0 Z4 g3_1) hZ (hwi hw 44 rfl) (hwi hw 33 rfl) (by decide) (by decide)) (g := (mkF m 131 #[.val (.int p1), .val (.int p2), .val (.int p3), .val (.long q4), .second, .val (.int p5), .val (.int p6), .val (.ref ca_1), .val (.ref sa_1), .val (.ref cb_1), .val (.ref ta_1), .val (.ref ia_1), .val (.int 1), .val (.ref r_3), .unset, .unset, .unset] [(.ref r_3)])) rfl (by rw [hml]; rfl) (argsL := [(.ref r_3)]) (rest := []) (lenOf pd_Ljava_lang_Object__Ljava_lang_Object_409 rfl) rfl (by show 2 * 0 + _ ≤ _; exact Nat.le_of_eq rfl) (hb hby at_131) (fun _ _ => ⟨rfl, rfl, (by decide : 8 + 0 ≤ _), (by decide : 16 + 0 ≤ _)⟩)
  dsimp only [Pt.U, Pt.locs, Pt.cells, Pt.slots] at X5 l5 y5 z5 st5 hQ5
  subst l5 y5 z5
  obtain ⟨rfl, N5q, e5⟩ := hQ5
  have N5 := Fr.app N3 N5q
  obtain ⟨fs, hr, hrun, hended, hW, hsame⟩ := X5.leave (v := some (.int 1)) (fun h => by rw [Bd.returns] at h; cases h)
  refine ⟨_, _, pre0 _ ?_, hrun, hended, _, _, rfl, ?_, ⟨_, rfl⟩, hW, hsame.mono (by decide) (by decide)⟩
  · show St p e below s₁ (mkF m 0 #[.val (.int p1), .val (.int p2), .val (.int p3), .val (.long q4), .second, .val (.int p5), .val (.int p6), .unset, .unset, .unset, .unset, .unset, .unset, .unset, .unset, .unset, .unset] []) _
    refine st1 _ ?_
    show St p e below T1 (mkF m 71 #[.val (.int p1), .val (.int p2), .val (.int p3), .val (.long q4), .second, .val (.int p5), .val (.int p6), .val (.ref ca_1), .val (.ref sa_1), .val (.ref cb_1), .val (.ref ta_1), .val (.ref ia_1), .unset, .unset, .unset, .unset, .unset] []) _
    refine XS.iloadN X1.here hx rfl (hb hby at_71) rfl ?_
    show St p e below T1 (mkF m 72 #[.val (.int p1), .val (.int p2), .val (.int p3), .val (.long q4), .second, .val (.int p5), .val (.int p6), .val (.ref ca_1), .val (.ref sa_1), .val (.ref cb_1), .val (.ref ta_1), .val (.ref ia_1), .unset, .unset, .unset, .unset, .unset] [(.int p1)]) _
    refine X1.ldcInt hx hown (mvT hZ (hwi hw 30 rfl)) (g := (mkF m 72 #[.val (.int p1), .val (.int p2), .val (.int p3), .val (.long q4), .second, .val (.int p5), .val (.int p6), .val (.ref ca_1), .val (.ref sa_1), .val (.ref cb_1), .val (.ref ta_1), .val (.ref ia_1), .unset, .unset, .unset, .unset, .unset] [(.int p1)])) rfl (hb hby at_72) _ ?_
    show St p e below T1 (mkF m 74 #[.val (.int p1), .val (.int p2), .val (.int p3), .val (.long q4), .second, .val (.int p5), .val (.int p6), .val (.ref ca_1), .val (.ref sa_1), .val (.ref cb_1), .val (.ref ta_1), .val (.ref ia_1), .unset, .unset, .unset, .unset, .unset] [(.int 2147483647), (.int p1)]) _
    refine XS.iand X1.here hx rfl (hb hby at_74) rfl ?_
    show St p e below T1 (mkF m 75 #[.val (.int p1), .val (.int p2), .val (.int p3), .val (.long q4), .second, .val (.int p5), .val (.int p6), .val (.ref ca_1), .val (.ref sa_1), .val (.ref cb_1), .val (.ref ta_1), .val (.ref ia_1), .unset, .unset, .unset, .unset, .unset] [(.int (p1 &&& (2147483647 : Int32)))]) _
    refine XS.iconst X1.here hx rfl (hb hby at_75) ?_
    show St p e below T1 (mkF m 76 #[.val (.int p1), .val (.int p2), .val (.int p3), .val (.long q4), .second, .val (.int p5), .val (.int p6), .val (.ref ca_1), .val (.ref sa_1), .val (.ref cb_1), .val (.ref ta_1), .val (.ref ia_1), .unset, .unset, .unset, .unset, .unset] [(.int 5), (.int (p1 &&& (2147483647 : Int32)))]) _
    refine iremM X1 hx rfl (hb hby at_76) rfl (by decide) ?_
    show St p e below T1 (mkF m 77 #[.val (.int p1), .val (.int p2), .val (.int p3), .val (.long q4), .second, .val (.int p5), .val (.int p6), .val (.ref ca_1), .val (.ref sa_1), .val (.ref cb_1), .val (.ref ta_1), .val (.ref ia_1), .unset, .unset, .unset, .unset, .unset] [(.int ((p1 &&& (2147483647 : Int32)) % (5 : Int32)))]) _
    rw [hk]
    show St p e below T1 (mkF m 77 #[.val (.int p1), .val (.int p2), .val (.int p3), .val (.long q4), .second, .val (.int p5), .val (.int p6), .val (.ref ca_1), .val (.ref sa_1), .val (.ref cb_1), .val (.ref ta_1), .val (.ref ia_1), .unset, .unset, .unset, .unset, .unset] [(.int 1)]) _
    refine XS.istore X1.here hx rfl (hb hby at_77) rfl (l' := #[.val (.int p1), .val (.int p2), .val (.int p3), .val (.long q4), .second, .val (.int p5), .val (.int p6), .val (.ref ca_1), .val (.ref sa_1), .val (.ref cb_1), .val (.ref ta_1), .val (.ref ia_1), .val (.int 1), .unset, .unset, .unset, .unset]) rfl ?_
    show St p e below T1 (mkF m 79 #[.val (.int p1), .val (.int p2), .val (.int p3), .val (.long q4), .second, .val (.int p5), .val (.int p6), .val (.ref ca_1), .val (.ref sa_1), .val (.ref cb_1), .val (.ref ta_1), .val (.ref ia_1), .val (.int 1), .unset, .unset, .unset, .unset] []) _
    refine XS.iload X1.here hx rfl (hb hby at_79) rfl ?_
    show St p e below T1 (mkF m 81 #[.val (.int p1), .val (.int p2), .val (.int p3), .val (.long q4), .second, .val (.int p5), .val (.int p6), .val (.ref ca_1), .val (.ref sa_1), .val (.ref cb_1), .val (.ref ta_1), .val (.ref ia_1), .val (.int 1), .unset, .unset, .unset, .unset] [(.int 1)]) _
    refine XS.ifYes X1.here hx rfl (pc0 := 81) (pc' := 117) rfl (hb hby at_81) rfl ((if0 _ _).trans (feq (by decide : ¬ ((1 : Int32) = (0 : Int32)))).2) (by decide) (by decide) ?_
    show St p e below T1 (mkF m 117 #[.val (.int p1), .val (.int p2), .val (.int p3), .val (.long q4), .second, .val (.int p5), .val (.int p6), .val (.ref ca_1), .val (.ref sa_1), .val (.ref cb_1), .val (.ref ta_1), .val (.ref ia_1), .val (.int 1), .unset, .unset, .unset, .unset] []) _
    refine XS.iload X1.here hx rfl (hb hby at_117) rfl ?_
    show St p e below T1 (mkF m 119 #[.val (.int p1), .val (.int p2), .val (.int p3), .val (.long q4), .second, .val (.int p5), .val (.int p6), .val (.ref ca_1), .val (.ref sa_1), .val (.ref cb_1), .val (.ref ta_1), .val (.ref ia_1), .val (.int 1), .unset, .unset, .unset, .unset] [(.int 1)]) _
    refine XS.iconst X1.here hx rfl (hb hby at_119) ?_
    show St p e below T1 (mkF m 120 #[.val (.int p1), .val (.int p2), .val (.int p3), .val (.long q4), .second, .val (.int p5), .val (.int p6), .val (.ref ca_1), .val (.ref sa_1), .val (.ref cb_1), .val (.ref ta_1), .val (.ref ia_1), .val (.int 1), .unset, .unset, .unset, .unset] [(.int 1), (.int 1)]) _
    refine XS.icmpNo X1.here hx rfl (hb hby at_120) rfl (teq (by decide : (1 : Int32) = (1 : Int32))).2 ?_
    show St p e below T1 (mkF m 123 #[.val (.int p1), .val (.int p2), .val (.int p3), .val (.long q4), .second, .val (.int p5), .val (.int p6), .val (.ref ca_1), .val (.ref sa_1), .val (.ref cb_1), .val (.ref ta_1), .val (.ref ia_1), .val (.int 1), .unset, .unset, .unset, .unset] []) _
    refine XS.lloadN X1.here hx rfl (hb hby at_123) rfl ?_
    show St p e below T1 (mkF m 124 #[.val (.int p1), .val (.int p2), .val (.int p3), .val (.long q4), .second, .val (.int p5), .val (.int p6), .val (.ref ca_1), .val (.ref sa_1), .val (.ref cb_1), .val (.ref ta_1), .val (.ref ia_1), .val (.int 1), .unset, .unset, .unset, .unset] [(.long q4)]) _
    refine st3 _ ?_
    show St p e below T3 (mkF m 127 #[.val (.int p1), .val (.int p2), .val (.int p3), .val (.long q4), .second, .val (.int p5), .val (.int p6), .val (.ref ca_1), .val (.ref sa_1), .val (.ref cb_1), .val (.ref ta_1), .val (.ref ia_1), .val (.int 1), .unset, .unset, .unset, .unset] [(.ref r_3)]) _
    refine XS.astore X3.here hx rfl (hb hby at_127) rfl rfl (l' := #[.val (.int p1), .val (.int p2), .val (.int p3), .val (.long q4), .second, .val (.int p5), .val (.int p6), .val (.ref ca_1), .val (.ref sa_1), .val (.ref cb_1), .val (.ref ta_1), .val (.ref ia_1), .val (.int 1), .val (.ref r_3), .unset, .unset, .unset]) rfl ?_
    show St p e below T3 (mkF m 129 #[.val (.int p1), .val (.int p2), .val (.int p3), .val (.long q4), .second, .val (.int p5), .val (.int p6), .val (.ref ca_1), .val (.ref sa_1), .val (.ref cb_1), .val (.ref ta_1), .val (.ref ia_1), .val (.int 1), .val (.ref r_3), .unset, .unset, .unset] []) _
    refine XS.aload X3.here hx rfl (hb hby at_129) rfl rfl ?_
    show St p e below T3 (mkF m 131 #[.val (.int p1), .val (.int p2), .val (.int p3), .val (.long q4), .second, .val (.int p5), .val (.int p6), .val (.ref ca_1), .val (.ref sa_1), .val (.ref cb_1), .val (.ref ta_1), .val (.ref ia_1), .val (.int 1), .val (.ref r_3), .unset, .unset, .unset] [(.ref r_3)]) _
    refine st5 _ ?_
    show St p e below T5 (mkF m 134 #[.val (.int p1), .val (.int p2), .val (.int p3), .val (.long q4), .second, .val (.int p5), .val (.int p6), .val (.ref ca_1), .val (.ref sa_1), .val (.ref cb_1), .val (.ref ta_1), .val (.ref ia_1), .val (.int 1), .val (.ref r_3), .unset, .unset, .unset] [(.ref r_3)]) _
    refine XS.astore X5.here hx rfl (hb hby at_134) rfl rfl (l' := #[.val (.int p1), .val (.int p2), .val (.int p3), .val (.long q4), .second, .val (.int p5), .val (.int p6), .val (.ref ca_1), .val (.ref sa_1), .val (.ref cb_1), .val (.ref ta_1), .val (.ref ia_1), .val (.int 1), .val (.ref r_3), .val (.ref r_3), .unset, .unset]) rfl ?_
    show St p e below T5 (mkF m 136 #[.val (.int p1), .val (.int p2), .val (.int p3), .val (.long q4), .second, .val (.int p5), .val (.int p6), .val (.ref ca_1), .val (.ref sa_1), .val (.ref cb_1), .val (.ref ta_1), .val (.ref ia_1), .val (.int 1), .val (.ref r_3), .val (.ref r_3), .unset, .unset] []) _
    refine XS.aload X5.here hx rfl (hb hby at_136) rfl rfl ?_
    show St p e below T5 (mkF m 138 #[.val (.int p1), .val (.int p2), .val (.int p3), .val (.long q4), .second, .val (.int p5), .val (.int p6), .val (.ref ca_1), .val (.ref sa_1), .val (.ref cb_1), .val (.ref ta_1), .val (.ref ia_1), .val (.int 1), .val (.ref r_3), .val (.ref r_3), .unset, .unset] [(.ref r_3)]) _
    refine XS.aload X5.here hx rfl (hb hby at_138) rfl rfl ?_
    show St p e below T5 (mkF m 140 #[.val (.int p1), .val (.int p2), .val (.int p3), .val (.long q4), .second, .val (.int p5), .val (.int p6), .val (.ref ca_1), .val (.ref sa_1), .val (.ref cb_1), .val (.ref ta_1), .val (.ref ia_1), .val (.int 1), .val (.ref r_3), .val (.ref r_3), .unset, .unset] [(.ref r_3), (.ref r_3)]) _
    refine Jvm.RoadKit.acmp (g := (mkF m 140 #[.val (.int p1), .val (.int p2), .val (.int p3), .val (.long q4), .second, .val (.int p5), .val (.int p6), .val (.ref ca_1), .val (.ref sa_1), .val (.ref cb_1), .val (.ref ta_1), .val (.ref ia_1), .val (.int 1), .val (.ref r_3), .val (.ref r_3), .unset, .unset] [(.ref r_3), (.ref r_3)])) X5 hx rfl rfl rfl (pc0 := 140) (pc' := 143) (same := true) rfl (hb hby at_140) rfl (decide_eq_true rfl) (by decide) (by decide) ?_
    show St p e below T5 (mkF m 143 #[.val (.int p1), .val (.int p2), .val (.int p3), .val (.long q4), .second, .val (.int p5), .val (.int p6), .val (.ref ca_1), .val (.ref sa_1), .val (.ref cb_1), .val (.ref ta_1), .val (.ref ia_1), .val (.int 1), .val (.ref r_3), .val (.ref r_3), .unset, .unset] []) _
    refine XS.iconst X5.here hx rfl (hb hby at_143) ?_
    show St p e below T5 (mkF m 144 #[.val (.int p1), .val (.int p2), .val (.int p3), .val (.long q4), .second, .val (.int p5), .val (.int p6), .val (.ref ca_1), .val (.ref sa_1), .val (.ref cb_1), .val (.ref ta_1), .val (.ref ia_1), .val (.int 1), .val (.ref r_3), .val (.ref r_3), .unset, .unset] [(.int 1)]) _
    refine XS.goto X5.here hx rfl (pc0 := 144) (pc' := 148) rfl (hb hby at_144) (by decide) (by decide) ?_
    show St p e below T5 (mkF m 148 #[.val (.int p1), .val (.int p2), .val (.int p3), .val (.long q4), .second, .val (.int p5), .val (.int p6), .val (.ref ca_1), .val (.ref sa_1), .val (.ref cb_1), .val (.ref ta_1), .val (.ref ia_1), .val (.int 1), .val (.ref r_3), .val (.ref r_3), .unset, .unset] [(.int 1)]) _
    exact retN X5 hx (t := .boolean) Bd.returns (by simp) (hb hby at_148) hr
  · exact ⟨rfl, N5⟩
set_option maxRecDepth 65536 in
set_option maxHeartbeats 40000000 in
theorem rm_law_1gt (l : Launch) (Z : State) (a0 : Array Value) (hw : ∀ d ∈ tables_1, d.before a0 Z = true) (ws : List Jvm.Cond) (p1 : Int32) (p2 : Int32) (p3 : Int32) (q4 : Int64) (p5 : Int32) (p6 : Int32) (cA : Int32) (cB : Int32) (cC : Int32) (w_COMPACT_STRINGS : Int32) (h0 : Heap) (n0 : Nat) (Z0 : n0 ≤ h0.size) (S_COMPACT_STRINGS : Sta Z Z.heap "java/lang/String" "COMPACT_STRINGS" "Z" (.int w_COMPACT_STRINGS)) (hcs : ¬ (w_COMPACT_STRINGS = (0 : Int32))) (O0 : Old Z n0 h0) (hbcA : ¬ ((255 : Int32) < cA)) (hbcB : ¬ ((255 : Int32) < cB)) (hbcC : ¬ ((255 : Int32) < cC)) (hcA : ((p2 &&& (255 : Int32)).toUInt32.toUInt16.toUInt32.toInt32) = cA) (hncA : (cA.toUInt32.toUInt16.toUInt32.toInt32) = cA) (hcB : ((p3 &&& (255 : Int32)).toUInt32.toUInt16.toUInt32.toInt32) = cB) (hncB : (cB.toUInt32.toUInt16.toUInt32.toInt32) = cB) (hcC : ((p6 &&& (255 : Int32)).toUInt32.toUInt16.toUInt32.toInt32) = cC) (hncC : (cC.toUInt32.toUInt16.toUInt32.toInt32) = cC) (hk : ((p1 &&& (2147483647 : Int32)) % (5 : Int32)) = (1 : Int32)) (hp124 : ¬ ((lcmpW q4 (-128 : Int64)) < (0 : Int32))) (hp124_2 : (0 : Int32) < (lcmpW q4 (127 : Int64))) :
    MetFree l x (head1 (Jvm.Cond.code x code maxLocals ret :: ws) room_1) (fun a U => a = #[(.int p1), (.int p2), (.int p3), (.long q4), (.int p5), (.int p6)] ∧ Z.Warmed39 U.vm ∧ U.heap = h0) (fun _ _ _ _ _ => True) (fun _ U o U' => ∃ v L, o = .returned v ∧ Q_law n0 v L ∧ FrameEnd U o U' L room_1.cells room_1.slots) := by
  refine MetFree.of_bodySF (plainFor_of_name pn_0) hisR ?_
  intro p e s m args below meth c s₁ Bd hml0 hP hK
  obtain ⟨rfl, hZ, hh⟩ := hP
  have hx := Bd.exec
  have hby := Bd.bytes
  have hml : c.maxLocals = 17 := hml0
  have hown : s.vm.findClass "com/example/commitgate/commitgate/store/KeySpellingTextPinLaw" = some m.cls := findClass_of_methodNamed Bd.named
  have hnm := (name_of_methodNamed Bd.named Bd.method).1
  have X0 : Stand p l e room_1 s m #[(.int p1), (.int p2), (.int p3), (.long q4), (.int p5), (.int p6)] below meth c s₁ [] 0 0 := Stand.of_body Bd
  have e0 : s₁.heap = h0 := by rw [← hh, Bd.state]; rfl
  have N0 := Fr.nil n0
  have pre0 : ∀ t, Steps p.tables e below (s₁.setTop (mkF m 0 #[.val (.int p1), .val (.int p2), .val (.int p3), .val (.long q4), .second, .val (.int p5), .val (.int p6), .unset, .unset, .unset, .unset, .unset, .unset, .unset, .unset, .unset, .unset] [])) t → Steps p.tables e below (s₁.setTop (entryFrame m #[(.int p1), (.int p2), (.int p3), (.long q4), (.int p5), (.int p6)] maxLocals)) t := fun t k => castTop (ef_0_IIIJII m p1 p2 p3 q4 p5 p6) k
  obtain ⟨T1, L1, sa_1, ta_1, ia_1, ca_1, cb_1, X1, N1, Kc1, g1_0, g1_1, g1_2, g1_3, g1_4, st1⟩ := sg_pre p1 p2 p3 q4 p5 p6 cA cB cC w_COMPACT_STRINGS X0 hx hZ hw hby hml hown e0 N0 Z0 hbcA hbcB hbcC S_COMPACT_STRINGS hcs O0 hcA hncA hcB hncB hcC hncC
  have sz2 : h0.size ≤ T1.heap.size := Kc1.1
  have Z2 : n0 ≤ T1.heap.size := Nat.le_trans Z0 sz2
  have O2 := O0.keep Kc1 all0
  have K2 : Keep h0 T1.heap [] := (Keep.refl h0 []).trans Kc1 (all0)
  have bn_sa_1 : h0.size ≤ sa_1 := g1_0
  have bn_ta_1 : h0.size ≤ ta_1 := g1_1
  have bn_ia_1 : h0.size ≤ ia_1 := g1_2
  obtain ⟨_, _, ⟨T3, L3, k3, n3⟩, -, X3, ⟨Lc3, hQ3, l3, y3, z3⟩, st3⟩ := Jvm.LawKit.callS X1 hx (y := (⟨"java/lang/Long", "valueOf", "(J)Ljava/lang/Long;"⟩ : MethodName)) hown (mvT hZ (hwi hw 47 rfl)) (mvT hZ (hwi hw 48 rfl)) (mvT hZ (hwi hw 49 rfl)) (mvT hZ (hwi hw 50 rfl)) (by decide) (backOf (W := 0) (rm_valueof_gt l Z a0 hw [] q4 T1.heap n0 Z2 hp124 hp124_2 O2) hZ (hwi hw 50 rfl) (hwi hw 49 rfl) (by decide) (by decide)) (g := (mkF m 124 #[.val (.int p1), .val (.int p2), .val (.int p3), .val (.long q4), .second, .val (.int p5), .val (.int p6), .val (.ref ca_1), .val (.ref sa_1), .val (.ref cb_1), .val (.ref ta_1), .val (.ref ia_1), .val (.int 1), .unset, .unset, .unset, .unset] [(.long q4)])) rfl (by rw [hml]; rfl) (argsL := [(.long q4)]) (rest := []) (lenOf pd_J_Ljava_lang_Long_620 rfl) rfl (by show 2 * 0 + _ ≤ _; exact Nat.le_of_eq rfl) (hb hby at_124) (fun _ _ => ⟨rfl, rfl, (by decide : 7 + 1 ≤ _), (by decide : 15 + 1 ≤ _)⟩)
  dsimp only [Pt.U, Pt.locs, Pt.cells, Pt.slots] at X3 l3 y3 z3 st3 hQ3
  subst l3 y3 z3
  obtain ⟨r_3, rfl, N3q, Kc3, g3_0, g3_1⟩ := hQ3
  have N3 := Fr.app N1 N3q
  have sz4 : T1.heap.size ≤ T3.heap.size := Kc3.1
  have Z4 : n0 ≤ T3.heap.size := Nat.le_trans Z2 sz4
  have O4 := O2.keep Kc3 all0
  have K4 : Keep h0 T3.heap [] := K2.trans Kc3 (all0)
  have bn_r_3 : h0.size ≤ r_3 := Nat.le_trans K2.1 g3_0
  obtain ⟨_, _, ⟨T5, L5, k5, n5⟩, -, X5, ⟨Lc5, hQ5, l5, y5, z5⟩, st5⟩ := Jvm.LawKit.callS X3 hx (y := (⟨"com/example/commitgate/commitgate/store/KeySpelling", "text", "(Ljava/lang/Object;)Ljava/lang/Object;"⟩ : MethodName)) hown (mvT hZ (hwi hw 42 rfl)) (mvT hZ (hwi hw 43 rfl)) (mvT hZ (hwi hw 33 rfl)) (mvT hZ (hwi hw 44 rfl)) (by decide) (backOf (W := 0) (rm_text_long l Z a0 hw [] r_3 T3.heap n0 Z4 g3_1) hZ (hwi hw 44 rfl) (hwi hw 33 rfl) (by decide) (by decide)) (g := (mkF m 131 #[.val (.int p1), .val (.int p2), .val (.int p3), .val (.long q4), .second, .val (.int p5), .val (.int p6), .val (.ref ca_1), .val (.ref sa_1), .val (.ref cb_1), .val (.ref ta_1), .val (.ref ia_1), .val (.int 1), .val (.ref r_3), .unset, .unset, .unset] [(.ref r_3)])) rfl (by rw [hml]; rfl) (argsL := [(.ref r_3)]) (rest := []) (lenOf pd_Ljava_lang_Object__Ljava_lang_Object_409 rfl) rfl (by show 2 * 0 + _ ≤ _; exact Nat.le_of_eq rfl) (hb hby at_131) (fun _ _ => ⟨rfl, rfl, (by decide : 8 + 0 ≤ _), (by decide : 16 + 0 ≤ _)⟩)
  dsimp only [Pt.U, Pt.locs, Pt.cells, Pt.slots] at X5 l5 y5 z5 st5 hQ5
  subst l5 y5 z5
  obtain ⟨rfl, N5q, e5⟩ := hQ5
  have N5 := Fr.app N3 N5q
  obtain ⟨fs, hr, hrun, hended, hW, hsame⟩ := X5.leave (v := some (.int 1)) (fun h => by rw [Bd.returns] at h; cases h)
  refine ⟨_, _, pre0 _ ?_, hrun, hended, _, _, rfl, ?_, ⟨_, rfl⟩, hW, hsame.mono (by decide) (by decide)⟩
  · show St p e below s₁ (mkF m 0 #[.val (.int p1), .val (.int p2), .val (.int p3), .val (.long q4), .second, .val (.int p5), .val (.int p6), .unset, .unset, .unset, .unset, .unset, .unset, .unset, .unset, .unset, .unset] []) _
    refine st1 _ ?_
    show St p e below T1 (mkF m 71 #[.val (.int p1), .val (.int p2), .val (.int p3), .val (.long q4), .second, .val (.int p5), .val (.int p6), .val (.ref ca_1), .val (.ref sa_1), .val (.ref cb_1), .val (.ref ta_1), .val (.ref ia_1), .unset, .unset, .unset, .unset, .unset] []) _
    refine XS.iloadN X1.here hx rfl (hb hby at_71) rfl ?_
    show St p e below T1 (mkF m 72 #[.val (.int p1), .val (.int p2), .val (.int p3), .val (.long q4), .second, .val (.int p5), .val (.int p6), .val (.ref ca_1), .val (.ref sa_1), .val (.ref cb_1), .val (.ref ta_1), .val (.ref ia_1), .unset, .unset, .unset, .unset, .unset] [(.int p1)]) _
    refine X1.ldcInt hx hown (mvT hZ (hwi hw 30 rfl)) (g := (mkF m 72 #[.val (.int p1), .val (.int p2), .val (.int p3), .val (.long q4), .second, .val (.int p5), .val (.int p6), .val (.ref ca_1), .val (.ref sa_1), .val (.ref cb_1), .val (.ref ta_1), .val (.ref ia_1), .unset, .unset, .unset, .unset, .unset] [(.int p1)])) rfl (hb hby at_72) _ ?_
    show St p e below T1 (mkF m 74 #[.val (.int p1), .val (.int p2), .val (.int p3), .val (.long q4), .second, .val (.int p5), .val (.int p6), .val (.ref ca_1), .val (.ref sa_1), .val (.ref cb_1), .val (.ref ta_1), .val (.ref ia_1), .unset, .unset, .unset, .unset, .unset] [(.int 2147483647), (.int p1)]) _
    refine XS.iand X1.here hx rfl (hb hby at_74) rfl ?_
    show St p e below T1 (mkF m 75 #[.val (.int p1), .val (.int p2), .val (.int p3), .val (.long q4), .second, .val (.int p5), .val (.int p6), .val (.ref ca_1), .val (.ref sa_1), .val (.ref cb_1), .val (.ref ta_1), .val (.ref ia_1), .unset, .unset, .unset, .unset, .unset] [(.int (p1 &&& (2147483647 : Int32)))]) _
    refine XS.iconst X1.here hx rfl (hb hby at_75) ?_
    show St p e below T1 (mkF m 76 #[.val (.int p1), .val (.int p2), .val (.int p3), .val (.long q4), .second, .val (.int p5), .val (.int p6), .val (.ref ca_1), .val (.ref sa_1), .val (.ref cb_1), .val (.ref ta_1), .val (.ref ia_1), .unset, .unset, .unset, .unset, .unset] [(.int 5), (.int (p1 &&& (2147483647 : Int32)))]) _
    refine iremM X1 hx rfl (hb hby at_76) rfl (by decide) ?_
    show St p e below T1 (mkF m 77 #[.val (.int p1), .val (.int p2), .val (.int p3), .val (.long q4), .second, .val (.int p5), .val (.int p6), .val (.ref ca_1), .val (.ref sa_1), .val (.ref cb_1), .val (.ref ta_1), .val (.ref ia_1), .unset, .unset, .unset, .unset, .unset] [(.int ((p1 &&& (2147483647 : Int32)) % (5 : Int32)))]) _
    rw [hk]
    show St p e below T1 (mkF m 77 #[.val (.int p1), .val (.int p2), .val (.int p3), .val (.long q4), .second, .val (.int p5), .val (.int p6), .val (.ref ca_1), .val (.ref sa_1), .val (.ref cb_1), .val (.ref ta_1), .val (.ref ia_1), .unset, .unset, .unset, .unset, .unset] [(.int 1)]) _
    refine XS.istore X1.here hx rfl (hb hby at_77) rfl (l' := #[.val (.int p1), .val (.int p2), .val (.int p3), .val (.long q4), .second, .val (.int p5), .val (.int p6), .val (.ref ca_1), .val (.ref sa_1), .val (.ref cb_1), .val (.ref ta_1), .val (.ref ia_1), .val (.int 1), .unset, .unset, .unset, .unset]) rfl ?_
    show St p e below T1 (mkF m 79 #[.val (.int p1), .val (.int p2), .val (.int p3), .val (.long q4), .second, .val (.int p5), .val (.int p6), .val (.ref ca_1), .val (.ref sa_1), .val (.ref cb_1), .val (.ref ta_1), .val (.ref ia_1), .val (.int 1), .unset, .unset, .unset, .unset] []) _
    refine XS.iload X1.here hx rfl (hb hby at_79) rfl ?_
    show St p e below T1 (mkF m 81 #[.val (.int p1), .val (.int p2), .val (.int p3), .val (.long q4), .second, .val (.int p5), .val (.int p6), .val (.ref ca_1), .val (.ref sa_1), .val (.ref cb_1), .val (.ref ta_1), .val (.ref ia_1), .val (.int 1), .unset, .unset, .unset, .unset] [(.int 1)]) _
    refine XS.ifYes X1.here hx rfl (pc0 := 81) (pc' := 117) rfl (hb hby at_81) rfl ((if0 _ _).trans (feq (by decide : ¬ ((1 : Int32) = (0 : Int32)))).2) (by decide) (by decide) ?_
    show St p e below T1 (mkF m 117 #[.val (.int p1), .val (.int p2), .val (.int p3), .val (.long q4), .second, .val (.int p5), .val (.int p6), .val (.ref ca_1), .val (.ref sa_1), .val (.ref cb_1), .val (.ref ta_1), .val (.ref ia_1), .val (.int 1), .unset, .unset, .unset, .unset] []) _
    refine XS.iload X1.here hx rfl (hb hby at_117) rfl ?_
    show St p e below T1 (mkF m 119 #[.val (.int p1), .val (.int p2), .val (.int p3), .val (.long q4), .second, .val (.int p5), .val (.int p6), .val (.ref ca_1), .val (.ref sa_1), .val (.ref cb_1), .val (.ref ta_1), .val (.ref ia_1), .val (.int 1), .unset, .unset, .unset, .unset] [(.int 1)]) _
    refine XS.iconst X1.here hx rfl (hb hby at_119) ?_
    show St p e below T1 (mkF m 120 #[.val (.int p1), .val (.int p2), .val (.int p3), .val (.long q4), .second, .val (.int p5), .val (.int p6), .val (.ref ca_1), .val (.ref sa_1), .val (.ref cb_1), .val (.ref ta_1), .val (.ref ia_1), .val (.int 1), .unset, .unset, .unset, .unset] [(.int 1), (.int 1)]) _
    refine XS.icmpNo X1.here hx rfl (hb hby at_120) rfl (teq (by decide : (1 : Int32) = (1 : Int32))).2 ?_
    show St p e below T1 (mkF m 123 #[.val (.int p1), .val (.int p2), .val (.int p3), .val (.long q4), .second, .val (.int p5), .val (.int p6), .val (.ref ca_1), .val (.ref sa_1), .val (.ref cb_1), .val (.ref ta_1), .val (.ref ia_1), .val (.int 1), .unset, .unset, .unset, .unset] []) _
    refine XS.lloadN X1.here hx rfl (hb hby at_123) rfl ?_
    show St p e below T1 (mkF m 124 #[.val (.int p1), .val (.int p2), .val (.int p3), .val (.long q4), .second, .val (.int p5), .val (.int p6), .val (.ref ca_1), .val (.ref sa_1), .val (.ref cb_1), .val (.ref ta_1), .val (.ref ia_1), .val (.int 1), .unset, .unset, .unset, .unset] [(.long q4)]) _
    refine st3 _ ?_
    show St p e below T3 (mkF m 127 #[.val (.int p1), .val (.int p2), .val (.int p3), .val (.long q4), .second, .val (.int p5), .val (.int p6), .val (.ref ca_1), .val (.ref sa_1), .val (.ref cb_1), .val (.ref ta_1), .val (.ref ia_1), .val (.int 1), .unset, .unset, .unset, .unset] [(.ref r_3)]) _
    refine XS.astore X3.here hx rfl (hb hby at_127) rfl rfl (l' := #[.val (.int p1), .val (.int p2), .val (.int p3), .val (.long q4), .second, .val (.int p5), .val (.int p6), .val (.ref ca_1), .val (.ref sa_1), .val (.ref cb_1), .val (.ref ta_1), .val (.ref ia_1), .val (.int 1), .val (.ref r_3), .unset, .unset, .unset]) rfl ?_
    show St p e below T3 (mkF m 129 #[.val (.int p1), .val (.int p2), .val (.int p3), .val (.long q4), .second, .val (.int p5), .val (.int p6), .val (.ref ca_1), .val (.ref sa_1), .val (.ref cb_1), .val (.ref ta_1), .val (.ref ia_1), .val (.int 1), .val (.ref r_3), .unset, .unset, .unset] []) _
    refine XS.aload X3.here hx rfl (hb hby at_129) rfl rfl ?_
    show St p e below T3 (mkF m 131 #[.val (.int p1), .val (.int p2), .val (.int p3), .val (.long q4), .second, .val (.int p5), .val (.int p6), .val (.ref ca_1), .val (.ref sa_1), .val (.ref cb_1), .val (.ref ta_1), .val (.ref ia_1), .val (.int 1), .val (.ref r_3), .unset, .unset, .unset] [(.ref r_3)]) _
    refine st5 _ ?_
    show St p e below T5 (mkF m 134 #[.val (.int p1), .val (.int p2), .val (.int p3), .val (.long q4), .second, .val (.int p5), .val (.int p6), .val (.ref ca_1), .val (.ref sa_1), .val (.ref cb_1), .val (.ref ta_1), .val (.ref ia_1), .val (.int 1), .val (.ref r_3), .unset, .unset, .unset] [(.ref r_3)]) _
    refine XS.astore X5.here hx rfl (hb hby at_134) rfl rfl (l' := #[.val (.int p1), .val (.int p2), .val (.int p3), .val (.long q4), .second, .val (.int p5), .val (.int p6), .val (.ref ca_1), .val (.ref sa_1), .val (.ref cb_1), .val (.ref ta_1), .val (.ref ia_1), .val (.int 1), .val (.ref r_3), .val (.ref r_3), .unset, .unset]) rfl ?_
    show St p e below T5 (mkF m 136 #[.val (.int p1), .val (.int p2), .val (.int p3), .val (.long q4), .second, .val (.int p5), .val (.int p6), .val (.ref ca_1), .val (.ref sa_1), .val (.ref cb_1), .val (.ref ta_1), .val (.ref ia_1), .val (.int 1), .val (.ref r_3), .val (.ref r_3), .unset, .unset] []) _
    refine XS.aload X5.here hx rfl (hb hby at_136) rfl rfl ?_
    show St p e below T5 (mkF m 138 #[.val (.int p1), .val (.int p2), .val (.int p3), .val (.long q4), .second, .val (.int p5), .val (.int p6), .val (.ref ca_1), .val (.ref sa_1), .val (.ref cb_1), .val (.ref ta_1), .val (.ref ia_1), .val (.int 1), .val (.ref r_3), .val (.ref r_3), .unset, .unset] [(.ref r_3)]) _
    refine XS.aload X5.here hx rfl (hb hby at_138) rfl rfl ?_
    show St p e below T5 (mkF m 140 #[.val (.int p1), .val (.int p2), .val (.int p3), .val (.long q4), .second, .val (.int p5), .val (.int p6), .val (.ref ca_1), .val (.ref sa_1), .val (.ref cb_1), .val (.ref ta_1), .val (.ref ia_1), .val (.int 1), .val (.ref r_3), .val (.ref r_3), .unset, .unset] [(.ref r_3), (.ref r_3)]) _
    refine Jvm.RoadKit.acmp (g := (mkF m 140 #[.val (.int p1), .val (.int p2), .val (.int p3), .val (.long q4), .second, .val (.int p5), .val (.int p6), .val (.ref ca_1), .val (.ref sa_1), .val (.ref cb_1), .val (.ref ta_1), .val (.ref ia_1), .val (.int 1), .val (.ref r_3), .val (.ref r_3), .unset, .unset] [(.ref r_3), (.ref r_3)])) X5 hx rfl rfl rfl (pc0 := 140) (pc' := 143) (same := true) rfl (hb hby at_140) rfl (decide_eq_true rfl) (by decide) (by decide) ?_
    show St p e below T5 (mkF m 143 #[.val (.int p1), .val (.int p2), .val (.int p3), .val (.long q4), .second, .val (.int p5), .val (.int p6), .val (.ref ca_1), .val (.ref sa_1), .val (.ref cb_1), .val (.ref ta_1), .val (.ref ia_1), .val (.int 1), .val (.ref r_3), .val (.ref r_3), .unset, .unset] []) _
    refine XS.iconst X5.here hx rfl (hb hby at_143) ?_
    show St p e below T5 (mkF m 144 #[.val (.int p1), .val (.int p2), .val (.int p3), .val (.long q4), .second, .val (.int p5), .val (.int p6), .val (.ref ca_1), .val (.ref sa_1), .val (.ref cb_1), .val (.ref ta_1), .val (.ref ia_1), .val (.int 1), .val (.ref r_3), .val (.ref r_3), .unset, .unset] [(.int 1)]) _
    refine XS.goto X5.here hx rfl (pc0 := 144) (pc' := 148) rfl (hb hby at_144) (by decide) (by decide) ?_
    show St p e below T5 (mkF m 148 #[.val (.int p1), .val (.int p2), .val (.int p3), .val (.long q4), .second, .val (.int p5), .val (.int p6), .val (.ref ca_1), .val (.ref sa_1), .val (.ref cb_1), .val (.ref ta_1), .val (.ref ia_1), .val (.int 1), .val (.ref r_3), .val (.ref r_3), .unset, .unset] [(.int 1)]) _
    exact retN X5 hx (t := .boolean) Bd.returns (by simp) (hb hby at_148) hr
  · exact ⟨rfl, N5⟩
set_option maxRecDepth 65536 in
set_option maxHeartbeats 40000000 in
theorem rm_law_1in (l : Launch) (Z : State) (a0 : Array Value) (hw : ∀ d ∈ tables_1, d.before a0 Z = true) (ws : List Jvm.Cond) (p1 : Int32) (p2 : Int32) (p3 : Int32) (q4 : Int64) (p5 : Int32) (p6 : Int32) (cA : Int32) (cB : Int32) (cC : Int32) (w_COMPACT_STRINGS : Int32) (bx : Addr) (w_cache : Addr) (cl : Cell) (h0 : Heap) (n0 : Nat) (Z0 : n0 ≤ h0.size) (S_COMPACT_STRINGS : Sta Z Z.heap "java/lang/String" "COMPACT_STRINGS" "Z" (.int w_COMPACT_STRINGS)) (hcs : ¬ (w_COMPACT_STRINGS = (0 : Int32))) (O0 : Old Z n0 h0) (E_bx : Exa Z Z.heap bx "java/lang/Long") (hbcA : ¬ ((255 : Int32) < cA)) (hbcB : ¬ ((255 : Int32) < cB)) (hbcC : ¬ ((255 : Int32) < cC)) (hcA : ((p2 &&& (255 : Int32)).toUInt32.toUInt16.toUInt32.toInt32) = cA) (hncA : (cA.toUInt32.toUInt16.toUInt32.toInt32) = cA) (hcB : ((p3 &&& (255 : Int32)).toUInt32.toUInt16.toUInt32.toInt32) = cB) (hncB : (cB.toUInt32.toUInt16.toUInt32.toInt32) = cB) (hcC : ((p6 &&& (255 : Int32)).toUInt32.toUInt16.toUInt32.toInt32) = cC) (hncC : (cC.toUInt32.toUInt16.toUInt32.toInt32) = cC) (hk : ((p1 &&& (2147483647 : Int32)) % (5 : Int32)) = (1 : Int32)) (S_cache : Sta Z Z.heap "java/lang/Long$LongCache" "cache" "[Ljava/lang/Long;" (.ref w_cache)) (hAr : Arr Z Z.heap w_cache cl (.object "java/lang/Long")) (hin : ¬ ((q4.toInt32 + (128 : Int32)) < 0 ∨ cl.slots.size ≤ (q4.toInt32 + (128 : Int32)).toNatClampNeg)) (hat : cl.slots[(q4.toInt32 + (128 : Int32)).toNatClampNeg]? = some (.ref bx)) (hp124 : ¬ ((lcmpW q4 (-128 : Int64)) < (0 : Int32))) (hp124_2 : ¬ ((0 : Int32) < (lcmpW q4 (127 : Int64)))) :
    MetFree l x (head1 (Jvm.Cond.code x code maxLocals ret :: ws) room_1) (fun a U => a = #[(.int p1), (.int p2), (.int p3), (.long q4), (.int p5), (.int p6)] ∧ Z.Warmed39 U.vm ∧ U.heap = h0) (fun _ _ _ _ _ => True) (fun _ U o U' => ∃ v L, o = .returned v ∧ Q_law n0 v L ∧ FrameEnd U o U' L room_1.cells room_1.slots) := by
  refine MetFree.of_bodySF (plainFor_of_name pn_0) hisR ?_
  intro p e s m args below meth c s₁ Bd hml0 hP hK
  obtain ⟨rfl, hZ, hh⟩ := hP
  have hx := Bd.exec
  have hby := Bd.bytes
  have hml : c.maxLocals = 17 := hml0
  have hown : s.vm.findClass "com/example/commitgate/commitgate/store/KeySpellingTextPinLaw" = some m.cls := findClass_of_methodNamed Bd.named
  have hnm := (name_of_methodNamed Bd.named Bd.method).1
  have X0 : Stand p l e room_1 s m #[(.int p1), (.int p2), (.int p3), (.long q4), (.int p5), (.int p6)] below meth c s₁ [] 0 0 := Stand.of_body Bd
  have e0 : s₁.heap = h0 := by rw [← hh, Bd.state]; rfl
  have N0 := Fr.nil n0
  have pre0 : ∀ t, Steps p.tables e below (s₁.setTop (mkF m 0 #[.val (.int p1), .val (.int p2), .val (.int p3), .val (.long q4), .second, .val (.int p5), .val (.int p6), .unset, .unset, .unset, .unset, .unset, .unset, .unset, .unset, .unset, .unset] [])) t → Steps p.tables e below (s₁.setTop (entryFrame m #[(.int p1), (.int p2), (.int p3), (.long q4), (.int p5), (.int p6)] maxLocals)) t := fun t k => castTop (ef_0_IIIJII m p1 p2 p3 q4 p5 p6) k
  obtain ⟨T1, L1, sa_1, ta_1, ia_1, ca_1, cb_1, X1, N1, Kc1, g1_0, g1_1, g1_2, g1_3, g1_4, st1⟩ := sg_pre p1 p2 p3 q4 p5 p6 cA cB cC w_COMPACT_STRINGS X0 hx hZ hw hby hml hown e0 N0 Z0 hbcA hbcB hbcC S_COMPACT_STRINGS hcs O0 hcA hncA hcB hncB hcC hncC
  have sz2 : h0.size ≤ T1.heap.size := Kc1.1
  have Z2 : n0 ≤ T1.heap.size := Nat.le_trans Z0 sz2
  have O2 := O0.keep Kc1 all0
  have K2 : Keep h0 T1.heap [] := (Keep.refl h0 []).trans Kc1 (all0)
  have bn_sa_1 : h0.size ≤ sa_1 := g1_0
  have bn_ta_1 : h0.size ≤ ta_1 := g1_1
  have bn_ia_1 : h0.size ≤ ia_1 := g1_2
  obtain ⟨_, _, ⟨T3, L3, k3, n3⟩, -, X3, ⟨Lc3, hQ3, l3, y3, z3⟩, st3⟩ := Jvm.LawKit.callS X1 hx (y := (⟨"java/lang/Long", "valueOf", "(J)Ljava/lang/Long;"⟩ : MethodName)) hown (mvT hZ (hwi hw 47 rfl)) (mvT hZ (hwi hw 48 rfl)) (mvT hZ (hwi hw 49 rfl)) (mvT hZ (hwi hw 50 rfl)) (by decide) (backOf (W := 0) (rm_valueof_in l Z a0 hw [] q4 cl bx w_cache T1.heap n0 Z2 S_cache hAr hin hat hp124 hp124_2 O2) hZ (hwi hw 50 rfl) (hwi hw 49 rfl) (by decide) (by decide)) (g := (mkF m 124 #[.val (.int p1), .val (.int p2), .val (.int p3), .val (.long q4), .second, .val (.int p5), .val (.int p6), .val (.ref ca_1), .val (.ref sa_1), .val (.ref cb_1), .val (.ref ta_1), .val (.ref ia_1), .val (.int 1), .unset, .unset, .unset, .unset] [(.long q4)])) rfl (by rw [hml]; rfl) (argsL := [(.long q4)]) (rest := []) (lenOf pd_J_Ljava_lang_Long_620 rfl) rfl (by show 2 * 0 + _ ≤ _; exact Nat.le_of_eq rfl) (hb hby at_124) (fun _ _ => ⟨rfl, rfl, (by decide : 7 + 0 ≤ _), (by decide : 15 + 0 ≤ _)⟩)
  dsimp only [Pt.U, Pt.locs, Pt.cells, Pt.slots] at X3 l3 y3 z3 st3 hQ3
  subst l3 y3 z3
  obtain ⟨rfl, N3q, e3⟩ := hQ3
  have N3 := Fr.app N1 N3q
  obtain ⟨_, _, ⟨T4, L4, k4, n4⟩, -, X4, ⟨Lc4, hQ4, l4, y4, z4⟩, st4⟩ := Jvm.LawKit.callS X3 hx (y := (⟨"com/example/commitgate/commitgate/store/KeySpelling", "text", "(Ljava/lang/Object;)Ljava/lang/Object;"⟩ : MethodName)) hown (mvT hZ (hwi hw 42 rfl)) (mvT hZ (hwi hw 43 rfl)) (mvT hZ (hwi hw 33 rfl)) (mvT hZ (hwi hw 44 rfl)) (by decide) (backOf (W := 0) (rm_text_long l Z a0 hw [] bx T1.heap n0 Z2 (E_bx.ext O2.2)) hZ (hwi hw 44 rfl) (hwi hw 33 rfl) (by decide) (by decide)) (g := (mkF m 131 #[.val (.int p1), .val (.int p2), .val (.int p3), .val (.long q4), .second, .val (.int p5), .val (.int p6), .val (.ref ca_1), .val (.ref sa_1), .val (.ref cb_1), .val (.ref ta_1), .val (.ref ia_1), .val (.int 1), .val (.ref bx), .unset, .unset, .unset] [(.ref bx)])) rfl (by rw [hml]; rfl) (argsL := [(.ref bx)]) (rest := []) (lenOf pd_Ljava_lang_Object__Ljava_lang_Object_409 rfl) rfl (by show 2 * 0 + _ ≤ _; exact Nat.le_of_eq rfl) (hb hby at_131) (fun _ _ => ⟨rfl, e3, (by decide : 7 + 0 ≤ _), (by decide : 15 + 0 ≤ _)⟩)
  dsimp only [Pt.U, Pt.locs, Pt.cells, Pt.slots] at X4 l4 y4 z4 st4 hQ4
  subst l4 y4 z4
  obtain ⟨rfl, N4q, e4⟩ := hQ4
  have N4 := Fr.app N3 N4q
  obtain ⟨fs, hr, hrun, hended, hW, hsame⟩ := X4.leave (v := some (.int 1)) (fun h => by rw [Bd.returns] at h; cases h)
  refine ⟨_, _, pre0 _ ?_, hrun, hended, _, _, rfl, ?_, ⟨_, rfl⟩, hW, hsame.mono (by decide) (by decide)⟩
  · show St p e below s₁ (mkF m 0 #[.val (.int p1), .val (.int p2), .val (.int p3), .val (.long q4), .second, .val (.int p5), .val (.int p6), .unset, .unset, .unset, .unset, .unset, .unset, .unset, .unset, .unset, .unset] []) _
    refine st1 _ ?_
    show St p e below T1 (mkF m 71 #[.val (.int p1), .val (.int p2), .val (.int p3), .val (.long q4), .second, .val (.int p5), .val (.int p6), .val (.ref ca_1), .val (.ref sa_1), .val (.ref cb_1), .val (.ref ta_1), .val (.ref ia_1), .unset, .unset, .unset, .unset, .unset] []) _
    refine XS.iloadN X1.here hx rfl (hb hby at_71) rfl ?_
    show St p e below T1 (mkF m 72 #[.val (.int p1), .val (.int p2), .val (.int p3), .val (.long q4), .second, .val (.int p5), .val (.int p6), .val (.ref ca_1), .val (.ref sa_1), .val (.ref cb_1), .val (.ref ta_1), .val (.ref ia_1), .unset, .unset, .unset, .unset, .unset] [(.int p1)]) _
    refine X1.ldcInt hx hown (mvT hZ (hwi hw 30 rfl)) (g := (mkF m 72 #[.val (.int p1), .val (.int p2), .val (.int p3), .val (.long q4), .second, .val (.int p5), .val (.int p6), .val (.ref ca_1), .val (.ref sa_1), .val (.ref cb_1), .val (.ref ta_1), .val (.ref ia_1), .unset, .unset, .unset, .unset, .unset] [(.int p1)])) rfl (hb hby at_72) _ ?_
    show St p e below T1 (mkF m 74 #[.val (.int p1), .val (.int p2), .val (.int p3), .val (.long q4), .second, .val (.int p5), .val (.int p6), .val (.ref ca_1), .val (.ref sa_1), .val (.ref cb_1), .val (.ref ta_1), .val (.ref ia_1), .unset, .unset, .unset, .unset, .unset] [(.int 2147483647), (.int p1)]) _
    refine XS.iand X1.here hx rfl (hb hby at_74) rfl ?_
    show St p e below T1 (mkF m 75 #[.val (.int p1), .val (.int p2), .val (.int p3), .val (.long q4), .second, .val (.int p5), .val (.int p6), .val (.ref ca_1), .val (.ref sa_1), .val (.ref cb_1), .val (.ref ta_1), .val (.ref ia_1), .unset, .unset, .unset, .unset, .unset] [(.int (p1 &&& (2147483647 : Int32)))]) _
    refine XS.iconst X1.here hx rfl (hb hby at_75) ?_
    show St p e below T1 (mkF m 76 #[.val (.int p1), .val (.int p2), .val (.int p3), .val (.long q4), .second, .val (.int p5), .val (.int p6), .val (.ref ca_1), .val (.ref sa_1), .val (.ref cb_1), .val (.ref ta_1), .val (.ref ia_1), .unset, .unset, .unset, .unset, .unset] [(.int 5), (.int (p1 &&& (2147483647 : Int32)))]) _
    refine iremM X1 hx rfl (hb hby at_76) rfl (by decide) ?_
    show St p e below T1 (mkF m 77 #[.val (.int p1), .val (.int p2), .val (.int p3), .val (.long q4), .second, .val (.int p5), .val (.int p6), .val (.ref ca_1), .val (.ref sa_1), .val (.ref cb_1), .val (.ref ta_1), .val (.ref ia_1), .unset, .unset, .unset, .unset, .unset] [(.int ((p1 &&& (2147483647 : Int32)) % (5 : Int32)))]) _
    rw [hk]
    show St p e below T1 (mkF m 77 #[.val (.int p1), .val (.int p2), .val (.int p3), .val (.long q4), .second, .val (.int p5), .val (.int p6), .val (.ref ca_1), .val (.ref sa_1), .val (.ref cb_1), .val (.ref ta_1), .val (.ref ia_1), .unset, .unset, .unset, .unset, .unset] [(.int 1)]) _
    refine XS.istore X1.here hx rfl (hb hby at_77) rfl (l' := #[.val (.int p1), .val (.int p2), .val (.int p3), .val (.long q4), .second, .val (.int p5), .val (.int p6), .val (.ref ca_1), .val (.ref sa_1), .val (.ref cb_1), .val (.ref ta_1), .val (.ref ia_1), .val (.int 1), .unset, .unset, .unset, .unset]) rfl ?_
    show St p e below T1 (mkF m 79 #[.val (.int p1), .val (.int p2), .val (.int p3), .val (.long q4), .second, .val (.int p5), .val (.int p6), .val (.ref ca_1), .val (.ref sa_1), .val (.ref cb_1), .val (.ref ta_1), .val (.ref ia_1), .val (.int 1), .unset, .unset, .unset, .unset] []) _
    refine XS.iload X1.here hx rfl (hb hby at_79) rfl ?_
    show St p e below T1 (mkF m 81 #[.val (.int p1), .val (.int p2), .val (.int p3), .val (.long q4), .second, .val (.int p5), .val (.int p6), .val (.ref ca_1), .val (.ref sa_1), .val (.ref cb_1), .val (.ref ta_1), .val (.ref ia_1), .val (.int 1), .unset, .unset, .unset, .unset] [(.int 1)]) _
    refine XS.ifYes X1.here hx rfl (pc0 := 81) (pc' := 117) rfl (hb hby at_81) rfl ((if0 _ _).trans (feq (by decide : ¬ ((1 : Int32) = (0 : Int32)))).2) (by decide) (by decide) ?_
    show St p e below T1 (mkF m 117 #[.val (.int p1), .val (.int p2), .val (.int p3), .val (.long q4), .second, .val (.int p5), .val (.int p6), .val (.ref ca_1), .val (.ref sa_1), .val (.ref cb_1), .val (.ref ta_1), .val (.ref ia_1), .val (.int 1), .unset, .unset, .unset, .unset] []) _
    refine XS.iload X1.here hx rfl (hb hby at_117) rfl ?_
    show St p e below T1 (mkF m 119 #[.val (.int p1), .val (.int p2), .val (.int p3), .val (.long q4), .second, .val (.int p5), .val (.int p6), .val (.ref ca_1), .val (.ref sa_1), .val (.ref cb_1), .val (.ref ta_1), .val (.ref ia_1), .val (.int 1), .unset, .unset, .unset, .unset] [(.int 1)]) _
    refine XS.iconst X1.here hx rfl (hb hby at_119) ?_
    show St p e below T1 (mkF m 120 #[.val (.int p1), .val (.int p2), .val (.int p3), .val (.long q4), .second, .val (.int p5), .val (.int p6), .val (.ref ca_1), .val (.ref sa_1), .val (.ref cb_1), .val (.ref ta_1), .val (.ref ia_1), .val (.int 1), .unset, .unset, .unset, .unset] [(.int 1), (.int 1)]) _
    refine XS.icmpNo X1.here hx rfl (hb hby at_120) rfl (teq (by decide : (1 : Int32) = (1 : Int32))).2 ?_
    show St p e below T1 (mkF m 123 #[.val (.int p1), .val (.int p2), .val (.int p3), .val (.long q4), .second, .val (.int p5), .val (.int p6), .val (.ref ca_1), .val (.ref sa_1), .val (.ref cb_1), .val (.ref ta_1), .val (.ref ia_1), .val (.int 1), .unset, .unset, .unset, .unset] []) _
    refine XS.lloadN X1.here hx rfl (hb hby at_123) rfl ?_
    show St p e below T1 (mkF m 124 #[.val (.int p1), .val (.int p2), .val (.int p3), .val (.long q4), .second, .val (.int p5), .val (.int p6), .val (.ref ca_1), .val (.ref sa_1), .val (.ref cb_1), .val (.ref ta_1), .val (.ref ia_1), .val (.int 1), .unset, .unset, .unset, .unset] [(.long q4)]) _
    refine st3 _ ?_
    show St p e below T3 (mkF m 127 #[.val (.int p1), .val (.int p2), .val (.int p3), .val (.long q4), .second, .val (.int p5), .val (.int p6), .val (.ref ca_1), .val (.ref sa_1), .val (.ref cb_1), .val (.ref ta_1), .val (.ref ia_1), .val (.int 1), .unset, .unset, .unset, .unset] [(.ref bx)]) _
    refine XS.astore X3.here hx rfl (hb hby at_127) rfl rfl (l' := #[.val (.int p1), .val (.int p2), .val (.int p3), .val (.long q4), .second, .val (.int p5), .val (.int p6), .val (.ref ca_1), .val (.ref sa_1), .val (.ref cb_1), .val (.ref ta_1), .val (.ref ia_1), .val (.int 1), .val (.ref bx), .unset, .unset, .unset]) rfl ?_
    show St p e below T3 (mkF m 129 #[.val (.int p1), .val (.int p2), .val (.int p3), .val (.long q4), .second, .val (.int p5), .val (.int p6), .val (.ref ca_1), .val (.ref sa_1), .val (.ref cb_1), .val (.ref ta_1), .val (.ref ia_1), .val (.int 1), .val (.ref bx), .unset, .unset, .unset] []) _
    refine XS.aload X3.here hx rfl (hb hby at_129) rfl rfl ?_
    show St p e below T3 (mkF m 131 #[.val (.int p1), .val (.int p2), .val (.int p3), .val (.long q4), .second, .val (.int p5), .val (.int p6), .val (.ref ca_1), .val (.ref sa_1), .val (.ref cb_1), .val (.ref ta_1), .val (.ref ia_1), .val (.int 1), .val (.ref bx), .unset, .unset, .unset] [(.ref bx)]) _
    refine st4 _ ?_
    show St p e below T4 (mkF m 134 #[.val (.int p1), .val (.int p2), .val (.int p3), .val (.long q4), .second, .val (.int p5), .val (.int p6), .val (.ref ca_1), .val (.ref sa_1), .val (.ref cb_1), .val (.ref ta_1), .val (.ref ia_1), .val (.int 1), .val (.ref bx), .unset, .unset, .unset] [(.ref bx)]) _
    refine XS.astore X4.here hx rfl (hb hby at_134) rfl rfl (l' := #[.val (.int p1), .val (.int p2), .val (.int p3), .val (.long q4), .second, .val (.int p5), .val (.int p6), .val (.ref ca_1), .val (.ref sa_1), .val (.ref cb_1), .val (.ref ta_1), .val (.ref ia_1), .val (.int 1), .val (.ref bx), .val (.ref bx), .unset, .unset]) rfl ?_
    show St p e below T4 (mkF m 136 #[.val (.int p1), .val (.int p2), .val (.int p3), .val (.long q4), .second, .val (.int p5), .val (.int p6), .val (.ref ca_1), .val (.ref sa_1), .val (.ref cb_1), .val (.ref ta_1), .val (.ref ia_1), .val (.int 1), .val (.ref bx), .val (.ref bx), .unset, .unset] []) _
    refine XS.aload X4.here hx rfl (hb hby at_136) rfl rfl ?_
    show St p e below T4 (mkF m 138 #[.val (.int p1), .val (.int p2), .val (.int p3), .val (.long q4), .second, .val (.int p5), .val (.int p6), .val (.ref ca_1), .val (.ref sa_1), .val (.ref cb_1), .val (.ref ta_1), .val (.ref ia_1), .val (.int 1), .val (.ref bx), .val (.ref bx), .unset, .unset] [(.ref bx)]) _
    refine XS.aload X4.here hx rfl (hb hby at_138) rfl rfl ?_
    show St p e below T4 (mkF m 140 #[.val (.int p1), .val (.int p2), .val (.int p3), .val (.long q4), .second, .val (.int p5), .val (.int p6), .val (.ref ca_1), .val (.ref sa_1), .val (.ref cb_1), .val (.ref ta_1), .val (.ref ia_1), .val (.int 1), .val (.ref bx), .val (.ref bx), .unset, .unset] [(.ref bx), (.ref bx)]) _
    refine Jvm.RoadKit.acmp (g := (mkF m 140 #[.val (.int p1), .val (.int p2), .val (.int p3), .val (.long q4), .second, .val (.int p5), .val (.int p6), .val (.ref ca_1), .val (.ref sa_1), .val (.ref cb_1), .val (.ref ta_1), .val (.ref ia_1), .val (.int 1), .val (.ref bx), .val (.ref bx), .unset, .unset] [(.ref bx), (.ref bx)])) X4 hx rfl rfl rfl (pc0 := 140) (pc' := 143) (same := true) rfl (hb hby at_140) rfl (decide_eq_true rfl) (by decide) (by decide) ?_
    show St p e below T4 (mkF m 143 #[.val (.int p1), .val (.int p2), .val (.int p3), .val (.long q4), .second, .val (.int p5), .val (.int p6), .val (.ref ca_1), .val (.ref sa_1), .val (.ref cb_1), .val (.ref ta_1), .val (.ref ia_1), .val (.int 1), .val (.ref bx), .val (.ref bx), .unset, .unset] []) _
    refine XS.iconst X4.here hx rfl (hb hby at_143) ?_
    show St p e below T4 (mkF m 144 #[.val (.int p1), .val (.int p2), .val (.int p3), .val (.long q4), .second, .val (.int p5), .val (.int p6), .val (.ref ca_1), .val (.ref sa_1), .val (.ref cb_1), .val (.ref ta_1), .val (.ref ia_1), .val (.int 1), .val (.ref bx), .val (.ref bx), .unset, .unset] [(.int 1)]) _
    refine XS.goto X4.here hx rfl (pc0 := 144) (pc' := 148) rfl (hb hby at_144) (by decide) (by decide) ?_
    show St p e below T4 (mkF m 148 #[.val (.int p1), .val (.int p2), .val (.int p3), .val (.long q4), .second, .val (.int p5), .val (.int p6), .val (.ref ca_1), .val (.ref sa_1), .val (.ref cb_1), .val (.ref ta_1), .val (.ref ia_1), .val (.int 1), .val (.ref bx), .val (.ref bx), .unset, .unset] [(.int 1)]) _
    exact retN X4 hx (t := .boolean) Bd.returns (by simp) (hb hby at_148) hr
  · exact ⟨rfl, N4⟩
set_option maxRecDepth 65536 in
set_option maxHeartbeats 40000000 in
theorem rm_law_2 (l : Launch) (Z : State) (a0 : Array Value) (hw : ∀ d ∈ tables_1, d.before a0 Z = true) (ws : List Jvm.Cond) (p1 : Int32) (p2 : Int32) (p3 : Int32) (q4 : Int64) (p5 : Int32) (p6 : Int32) (cA : Int32) (cB : Int32) (cC : Int32) (w_COMPACT_STRINGS : Int32) (h0 : Heap) (n0 : Nat) (Z0 : n0 ≤ h0.size) (S_COMPACT_STRINGS : Sta Z Z.heap "java/lang/String" "COMPACT_STRINGS" "Z" (.int w_COMPACT_STRINGS)) (hcs : ¬ (w_COMPACT_STRINGS = (0 : Int32))) (O0 : Old Z n0 h0) (hbcA : ¬ ((255 : Int32) < cA)) (hbcB : ¬ ((255 : Int32) < cB)) (hbcC : ¬ ((255 : Int32) < cC)) (hcA : ((p2 &&& (255 : Int32)).toUInt32.toUInt16.toUInt32.toInt32) = cA) (hncA : (cA.toUInt32.toUInt16.toUInt32.toInt32) = cA) (hcB : ((p3 &&& (255 : Int32)).toUInt32.toUInt16.toUInt32.toInt32) = cB) (hncB : (cB.toUInt32.toUInt16.toUInt32.toInt32) = cB) (hcC : ((p6 &&& (255 : Int32)).toUInt32.toUInt16.toUInt32.toInt32) = cC) (hncC : (cC.toUInt32.toUInt16.toUInt32.toInt32) = cC) (hk : ((p1 &&& (2147483647 : Int32)) % (5 : Int32)) = (2 : Int32)) :
    MetFree l x (head1 (Jvm.Cond.code x code maxLocals ret :: ws) room_1) (fun a U => a = #[(.int p1), (.int p2), (.int p3), (.long q4), (.int p5), (.int p6)] ∧ Z.Warmed39 U.vm ∧ U.heap = h0) (fun _ _ _ _ _ => True) (fun _ U o U' => ∃ v L, o = .returned v ∧ Q_law n0 v L ∧ FrameEnd U o U' L room_1.cells room_1.slots) := by
  refine MetFree.of_bodySF (plainFor_of_name pn_0) hisR ?_
  intro p e s m args below meth c s₁ Bd hml0 hP hK
  obtain ⟨rfl, hZ, hh⟩ := hP
  have hx := Bd.exec
  have hby := Bd.bytes
  have hml : c.maxLocals = 17 := hml0
  have hown : s.vm.findClass "com/example/commitgate/commitgate/store/KeySpellingTextPinLaw" = some m.cls := findClass_of_methodNamed Bd.named
  have hnm := (name_of_methodNamed Bd.named Bd.method).1
  have X0 : Stand p l e room_1 s m #[(.int p1), (.int p2), (.int p3), (.long q4), (.int p5), (.int p6)] below meth c s₁ [] 0 0 := Stand.of_body Bd
  have e0 : s₁.heap = h0 := by rw [← hh, Bd.state]; rfl
  have N0 := Fr.nil n0
  have pre0 : ∀ t, Steps p.tables e below (s₁.setTop (mkF m 0 #[.val (.int p1), .val (.int p2), .val (.int p3), .val (.long q4), .second, .val (.int p5), .val (.int p6), .unset, .unset, .unset, .unset, .unset, .unset, .unset, .unset, .unset, .unset] [])) t → Steps p.tables e below (s₁.setTop (entryFrame m #[(.int p1), (.int p2), (.int p3), (.long q4), (.int p5), (.int p6)] maxLocals)) t := fun t k => castTop (ef_0_IIIJII m p1 p2 p3 q4 p5 p6) k
  obtain ⟨T1, L1, sa_1, ta_1, ia_1, ca_1, cb_1, X1, N1, Kc1, g1_0, g1_1, g1_2, g1_3, g1_4, st1⟩ := sg_pre p1 p2 p3 q4 p5 p6 cA cB cC w_COMPACT_STRINGS X0 hx hZ hw hby hml hown e0 N0 Z0 hbcA hbcB hbcC S_COMPACT_STRINGS hcs O0 hcA hncA hcB hncB hcC hncC
  have sz2 : h0.size ≤ T1.heap.size := Kc1.1
  have Z2 : n0 ≤ T1.heap.size := Nat.le_trans Z0 sz2
  have O2 := O0.keep Kc1 all0
  have K2 : Keep h0 T1.heap [] := (Keep.refl h0 []).trans Kc1 (all0)
  have bn_sa_1 : h0.size ≤ sa_1 := g1_0
  have bn_ta_1 : h0.size ≤ ta_1 := g1_1
  have bn_ia_1 : h0.size ≤ ia_1 := g1_2
  obtain ⟨_, _, ⟨T3, L3, k3, n3⟩, -, X3, ⟨Lc3, hQ3, l3, y3, z3⟩, st3⟩ := Jvm.LawKit.callS X1 hx (y := (⟨"com/example/commitgate/commitgate/store/KeySpelling", "text", "(Ljava/lang/Object;)Ljava/lang/Object;"⟩ : MethodName)) hown (mvT hZ (hwi hw 42 rfl)) (mvT hZ (hwi hw 43 rfl)) (mvT hZ (hwi hw 33 rfl)) (mvT hZ (hwi hw 44 rfl)) (by decide) (backOf (W := 0) (rm_text_str l Z a0 hw [] sa_1 T1.heap n0 Z2 g1_3) hZ (hwi hw 44 rfl) (hwi hw 33 rfl) (by decide) (by decide)) (g := (mkF m 157 #[.val (.int p1), .val (.int p2), .val (.int p3), .val (.long q4), .second, .val (.int p5), .val (.int p6), .val (.ref ca_1), .val (.ref sa_1), .val (.ref cb_1), .val (.ref ta_1), .val (.ref ia_1), .val (.int 2), .unset, .unset, .unset, .unset] [(.ref sa_1)])) rfl (by rw [hml]; rfl) (argsL := [(.ref sa_1)]) (rest := []) (lenOf pd_Ljava_lang_Object__Ljava_lang_Object_409 rfl) rfl (by show 2 * 0 + _ ≤ _; exact Nat.le_of_eq rfl) (hb hby at_157) (fun _ _ => ⟨rfl, rfl, (by decide : 7 + 0 ≤ _), (by decide : 15 + 0 ≤ _)⟩)
  dsimp only [Pt.U, Pt.locs, Pt.cells, Pt.slots] at X3 l3 y3 z3 st3 hQ3
  subst l3 y3 z3
  obtain ⟨rfl, N3q, e3⟩ := hQ3
  have N3 := Fr.app N1 N3q
  obtain ⟨fs, hr, hrun, hended, hW, hsame⟩ := X3.leave (v := some (.int 1)) (fun h => by rw [Bd.returns] at h; cases h)
  refine ⟨_, _, pre0 _ ?_, hrun, hended, _, _, rfl, ?_, ⟨_, rfl⟩, hW, hsame.mono (by decide) (by decide)⟩
  · show St p e below s₁ (mkF m 0 #[.val (.int p1), .val (.int p2), .val (.int p3), .val (.long q4), .second, .val (.int p5), .val (.int p6), .unset, .unset, .unset, .unset, .unset, .unset, .unset, .unset, .unset, .unset] []) _
    refine st1 _ ?_
    show St p e below T1 (mkF m 71 #[.val (.int p1), .val (.int p2), .val (.int p3), .val (.long q4), .second, .val (.int p5), .val (.int p6), .val (.ref ca_1), .val (.ref sa_1), .val (.ref cb_1), .val (.ref ta_1), .val (.ref ia_1), .unset, .unset, .unset, .unset, .unset] []) _
    refine XS.iloadN X1.here hx rfl (hb hby at_71) rfl ?_
    show St p e below T1 (mkF m 72 #[.val (.int p1), .val (.int p2), .val (.int p3), .val (.long q4), .second, .val (.int p5), .val (.int p6), .val (.ref ca_1), .val (.ref sa_1), .val (.ref cb_1), .val (.ref ta_1), .val (.ref ia_1), .unset, .unset, .unset, .unset, .unset] [(.int p1)]) _
    refine X1.ldcInt hx hown (mvT hZ (hwi hw 30 rfl)) (g := (mkF m 72 #[.val (.int p1), .val (.int p2), .val (.int p3), .val (.long q4), .second, .val (.int p5), .val (.int p6), .val (.ref ca_1), .val (.ref sa_1), .val (.ref cb_1), .val (.ref ta_1), .val (.ref ia_1), .unset, .unset, .unset, .unset, .unset] [(.int p1)])) rfl (hb hby at_72) _ ?_
    show St p e below T1 (mkF m 74 #[.val (.int p1), .val (.int p2), .val (.int p3), .val (.long q4), .second, .val (.int p5), .val (.int p6), .val (.ref ca_1), .val (.ref sa_1), .val (.ref cb_1), .val (.ref ta_1), .val (.ref ia_1), .unset, .unset, .unset, .unset, .unset] [(.int 2147483647), (.int p1)]) _
    refine XS.iand X1.here hx rfl (hb hby at_74) rfl ?_
    show St p e below T1 (mkF m 75 #[.val (.int p1), .val (.int p2), .val (.int p3), .val (.long q4), .second, .val (.int p5), .val (.int p6), .val (.ref ca_1), .val (.ref sa_1), .val (.ref cb_1), .val (.ref ta_1), .val (.ref ia_1), .unset, .unset, .unset, .unset, .unset] [(.int (p1 &&& (2147483647 : Int32)))]) _
    refine XS.iconst X1.here hx rfl (hb hby at_75) ?_
    show St p e below T1 (mkF m 76 #[.val (.int p1), .val (.int p2), .val (.int p3), .val (.long q4), .second, .val (.int p5), .val (.int p6), .val (.ref ca_1), .val (.ref sa_1), .val (.ref cb_1), .val (.ref ta_1), .val (.ref ia_1), .unset, .unset, .unset, .unset, .unset] [(.int 5), (.int (p1 &&& (2147483647 : Int32)))]) _
    refine iremM X1 hx rfl (hb hby at_76) rfl (by decide) ?_
    show St p e below T1 (mkF m 77 #[.val (.int p1), .val (.int p2), .val (.int p3), .val (.long q4), .second, .val (.int p5), .val (.int p6), .val (.ref ca_1), .val (.ref sa_1), .val (.ref cb_1), .val (.ref ta_1), .val (.ref ia_1), .unset, .unset, .unset, .unset, .unset] [(.int ((p1 &&& (2147483647 : Int32)) % (5 : Int32)))]) _
    rw [hk]
    show St p e below T1 (mkF m 77 #[.val (.int p1), .val (.int p2), .val (.int p3), .val (.long q4), .second, .val (.int p5), .val (.int p6), .val (.ref ca_1), .val (.ref sa_1), .val (.ref cb_1), .val (.ref ta_1), .val (.ref ia_1), .unset, .unset, .unset, .unset, .unset] [(.int 2)]) _
    refine XS.istore X1.here hx rfl (hb hby at_77) rfl (l' := #[.val (.int p1), .val (.int p2), .val (.int p3), .val (.long q4), .second, .val (.int p5), .val (.int p6), .val (.ref ca_1), .val (.ref sa_1), .val (.ref cb_1), .val (.ref ta_1), .val (.ref ia_1), .val (.int 2), .unset, .unset, .unset, .unset]) rfl ?_
    show St p e below T1 (mkF m 79 #[.val (.int p1), .val (.int p2), .val (.int p3), .val (.long q4), .second, .val (.int p5), .val (.int p6), .val (.ref ca_1), .val (.ref sa_1), .val (.ref cb_1), .val (.ref ta_1), .val (.ref ia_1), .val (.int 2), .unset, .unset, .unset, .unset] []) _
    refine XS.iload X1.here hx rfl (hb hby at_79) rfl ?_
    show St p e below T1 (mkF m 81 #[.val (.int p1), .val (.int p2), .val (.int p3), .val (.long q4), .second, .val (.int p5), .val (.int p6), .val (.ref ca_1), .val (.ref sa_1), .val (.ref cb_1), .val (.ref ta_1), .val (.ref ia_1), .val (.int 2), .unset, .unset, .unset, .unset] [(.int 2)]) _
    refine XS.ifYes X1.here hx rfl (pc0 := 81) (pc' := 117) rfl (hb hby at_81) rfl ((if0 _ _).trans (feq (by decide : ¬ ((2 : Int32) = (0 : Int32)))).2) (by decide) (by decide) ?_
    show St p e below T1 (mkF m 117 #[.val (.int p1), .val (.int p2), .val (.int p3), .val (.long q4), .second, .val (.int p5), .val (.int p6), .val (.ref ca_1), .val (.ref sa_1), .val (.ref cb_1), .val (.ref ta_1), .val (.ref ia_1), .val (.int 2), .unset, .unset, .unset, .unset] []) _
    refine XS.iload X1.here hx rfl (hb hby at_117) rfl ?_
    show St p e below T1 (mkF m 119 #[.val (.int p1), .val (.int p2), .val (.int p3), .val (.long q4), .second, .val (.int p5), .val (.int p6), .val (.ref ca_1), .val (.ref sa_1), .val (.ref cb_1), .val (.ref ta_1), .val (.ref ia_1), .val (.int 2), .unset, .unset, .unset, .unset] [(.int 2)]) _
    refine XS.iconst X1.here hx rfl (hb hby at_119) ?_
    show St p e below T1 (mkF m 120 #[.val (.int p1), .val (.int p2), .val (.int p3), .val (.long q4), .second, .val (.int p5), .val (.int p6), .val (.ref ca_1), .val (.ref sa_1), .val (.ref cb_1), .val (.ref ta_1), .val (.ref ia_1), .val (.int 2), .unset, .unset, .unset, .unset] [(.int 1), (.int 2)]) _
    refine XS.icmpYes X1.here hx rfl (pc0 := 120) (pc' := 149) rfl (hb hby at_120) rfl (feq (by decide : ¬ ((2 : Int32) = (1 : Int32)))).2 (by decide) (by decide) ?_
    show St p e below T1 (mkF m 149 #[.val (.int p1), .val (.int p2), .val (.int p3), .val (.long q4), .second, .val (.int p5), .val (.int p6), .val (.ref ca_1), .val (.ref sa_1), .val (.ref cb_1), .val (.ref ta_1), .val (.ref ia_1), .val (.int 2), .unset, .unset, .unset, .unset] []) _
    refine XS.iload X1.here hx rfl (hb hby at_149) rfl ?_
    show St p e below T1 (mkF m 151 #[.val (.int p1), .val (.int p2), .val (.int p3), .val (.long q4), .second, .val (.int p5), .val (.int p6), .val (.ref ca_1), .val (.ref sa_1), .val (.ref cb_1), .val (.ref ta_1), .val (.ref ia_1), .val (.int 2), .unset, .unset, .unset, .unset] [(.int 2)]) _
    refine XS.iconst X1.here hx rfl (hb hby at_151) ?_
    show St p e below T1 (mkF m 152 #[.val (.int p1), .val (.int p2), .val (.int p3), .val (.long q4), .second, .val (.int p5), .val (.int p6), .val (.ref ca_1), .val (.ref sa_1), .val (.ref cb_1), .val (.ref ta_1), .val (.ref ia_1), .val (.int 2), .unset, .unset, .unset, .unset] [(.int 2), (.int 2)]) _
    refine XS.icmpNo X1.here hx rfl (hb hby at_152) rfl (teq (by decide : (2 : Int32) = (2 : Int32))).2 ?_
    show St p e below T1 (mkF m 155 #[.val (.int p1), .val (.int p2), .val (.int p3), .val (.long q4), .second, .val (.int p5), .val (.int p6), .val (.ref ca_1), .val (.ref sa_1), .val (.ref cb_1), .val (.ref ta_1), .val (.ref ia_1), .val (.int 2), .unset, .unset, .unset, .unset] []) _
    refine XS.aload X1.here hx rfl (hb hby at_155) rfl rfl ?_
    show St p e below T1 (mkF m 157 #[.val (.int p1), .val (.int p2), .val (.int p3), .val (.long q4), .second, .val (.int p5), .val (.int p6), .val (.ref ca_1), .val (.ref sa_1), .val (.ref cb_1), .val (.ref ta_1), .val (.ref ia_1), .val (.int 2), .unset, .unset, .unset, .unset] [(.ref sa_1)]) _
    refine st3 _ ?_
    show St p e below T3 (mkF m 160 #[.val (.int p1), .val (.int p2), .val (.int p3), .val (.long q4), .second, .val (.int p5), .val (.int p6), .val (.ref ca_1), .val (.ref sa_1), .val (.ref cb_1), .val (.ref ta_1), .val (.ref ia_1), .val (.int 2), .unset, .unset, .unset, .unset] [(.ref sa_1)]) _
    refine XS.astore X3.here hx rfl (hb hby at_160) rfl rfl (l' := #[.val (.int p1), .val (.int p2), .val (.int p3), .val (.long q4), .second, .val (.int p5), .val (.int p6), .val (.ref ca_1), .val (.ref sa_1), .val (.ref cb_1), .val (.ref ta_1), .val (.ref ia_1), .val (.int 2), .val (.ref sa_1), .unset, .unset, .unset]) rfl ?_
    show St p e below T3 (mkF m 162 #[.val (.int p1), .val (.int p2), .val (.int p3), .val (.long q4), .second, .val (.int p5), .val (.int p6), .val (.ref ca_1), .val (.ref sa_1), .val (.ref cb_1), .val (.ref ta_1), .val (.ref ia_1), .val (.int 2), .val (.ref sa_1), .unset, .unset, .unset] []) _
    refine XS.aload X3.here hx rfl (hb hby at_162) rfl rfl ?_
    show St p e below T3 (mkF m 164 #[.val (.int p1), .val (.int p2), .val (.int p3), .val (.long q4), .second, .val (.int p5), .val (.int p6), .val (.ref ca_1), .val (.ref sa_1), .val (.ref cb_1), .val (.ref ta_1), .val (.ref ia_1), .val (.int 2), .val (.ref sa_1), .unset, .unset, .unset] [(.ref sa_1)]) _
    refine XS.aload X3.here hx rfl (hb hby at_164) rfl rfl ?_
    show St p e below T3 (mkF m 166 #[.val (.int p1), .val (.int p2), .val (.int p3), .val (.long q4), .second, .val (.int p5), .val (.int p6), .val (.ref ca_1), .val (.ref sa_1), .val (.ref cb_1), .val (.ref ta_1), .val (.ref ia_1), .val (.int 2), .val (.ref sa_1), .unset, .unset, .unset] [(.ref sa_1), (.ref sa_1)]) _
    refine Jvm.RoadKit.acmp (g := (mkF m 166 #[.val (.int p1), .val (.int p2), .val (.int p3), .val (.long q4), .second, .val (.int p5), .val (.int p6), .val (.ref ca_1), .val (.ref sa_1), .val (.ref cb_1), .val (.ref ta_1), .val (.ref ia_1), .val (.int 2), .val (.ref sa_1), .unset, .unset, .unset] [(.ref sa_1), (.ref sa_1)])) X3 hx rfl rfl rfl (pc0 := 166) (pc' := 169) (same := true) rfl (hb hby at_166) rfl (decide_eq_true rfl) (by decide) (by decide) ?_
    show St p e below T3 (mkF m 169 #[.val (.int p1), .val (.int p2), .val (.int p3), .val (.long q4), .second, .val (.int p5), .val (.int p6), .val (.ref ca_1), .val (.ref sa_1), .val (.ref cb_1), .val (.ref ta_1), .val (.ref ia_1), .val (.int 2), .val (.ref sa_1), .unset, .unset, .unset] []) _
    refine XS.iconst X3.here hx rfl (hb hby at_169) ?_
    show St p e below T3 (mkF m 170 #[.val (.int p1), .val (.int p2), .val (.int p3), .val (.long q4), .second, .val (.int p5), .val (.int p6), .val (.ref ca_1), .val (.ref sa_1), .val (.ref cb_1), .val (.ref ta_1), .val (.ref ia_1), .val (.int 2), .val (.ref sa_1), .unset, .unset, .unset] [(.int 1)]) _
    refine XS.goto X3.here hx rfl (pc0 := 170) (pc' := 174) rfl (hb hby at_170) (by decide) (by decide) ?_
    show St p e below T3 (mkF m 174 #[.val (.int p1), .val (.int p2), .val (.int p3), .val (.long q4), .second, .val (.int p5), .val (.int p6), .val (.ref ca_1), .val (.ref sa_1), .val (.ref cb_1), .val (.ref ta_1), .val (.ref ia_1), .val (.int 2), .val (.ref sa_1), .unset, .unset, .unset] [(.int 1)]) _
    exact retN X3 hx (t := .boolean) Bd.returns (by simp) (hb hby at_174) hr
  · exact ⟨rfl, N3⟩
set_option maxRecDepth 65536 in
set_option maxHeartbeats 40000000 in
theorem rm_law_3 (l : Launch) (Z : State) (a0 : Array Value) (hw : ∀ d ∈ tables_1, d.before a0 Z = true) (ws : List Jvm.Cond) (p1 : Int32) (p2 : Int32) (p3 : Int32) (q4 : Int64) (p5 : Int32) (p6 : Int32) (cA : Int32) (cB : Int32) (cC : Int32) (w_COMPACT_STRINGS : Int32) (h0 : Heap) (n0 : Nat) (Z0 : n0 ≤ h0.size) (S_COMPACT_STRINGS : Sta Z Z.heap "java/lang/String" "COMPACT_STRINGS" "Z" (.int w_COMPACT_STRINGS)) (hcs : ¬ (w_COMPACT_STRINGS = (0 : Int32))) (O0 : Old Z n0 h0) (hbcA : ¬ ((255 : Int32) < cA)) (hbcB : ¬ ((255 : Int32) < cB)) (hbcC : ¬ ((255 : Int32) < cC)) (hcA : ((p2 &&& (255 : Int32)).toUInt32.toUInt16.toUInt32.toInt32) = cA) (hncA : (cA.toUInt32.toUInt16.toUInt32.toInt32) = cA) (hcB : ((p3 &&& (255 : Int32)).toUInt32.toUInt16.toUInt32.toInt32) = cB) (hncB : (cB.toUInt32.toUInt16.toUInt32.toInt32) = cB) (hcC : ((p6 &&& (255 : Int32)).toUInt32.toUInt16.toUInt32.toInt32) = cC) (hncC : (cC.toUInt32.toUInt16.toUInt32.toInt32) = cC) (hk : ((p1 &&& (2147483647 : Int32)) % (5 : Int32)) = (3 : Int32)) :
    MetFree l x (head1 (Jvm.Cond.code x code maxLocals ret :: ws) room_1) (fun a U => a = #[(.int p1), (.int p2), (.int p3), (.long q4), (.int p5), (.int p6)] ∧ Z.Warmed39 U.vm ∧ U.heap = h0) (fun _ _ _ _ _ => True) (fun _ U o U' => ∃ v L, o = .returned v ∧ Q_law n0 v L ∧ FrameEnd U o U' L room_1.cells room_1.slots) := by
  refine MetFree.of_bodySF (plainFor_of_name pn_0) hisR ?_
  intro p e s m args below meth c s₁ Bd hml0 hP hK
  obtain ⟨rfl, hZ, hh⟩ := hP
  have hx := Bd.exec
  have hby := Bd.bytes
  have hml : c.maxLocals = 17 := hml0
  have hown : s.vm.findClass "com/example/commitgate/commitgate/store/KeySpellingTextPinLaw" = some m.cls := findClass_of_methodNamed Bd.named
  have hnm := (name_of_methodNamed Bd.named Bd.method).1
  have X0 : Stand p l e room_1 s m #[(.int p1), (.int p2), (.int p3), (.long q4), (.int p5), (.int p6)] below meth c s₁ [] 0 0 := Stand.of_body Bd
  have e0 : s₁.heap = h0 := by rw [← hh, Bd.state]; rfl
  have N0 := Fr.nil n0
  have pre0 : ∀ t, Steps p.tables e below (s₁.setTop (mkF m 0 #[.val (.int p1), .val (.int p2), .val (.int p3), .val (.long q4), .second, .val (.int p5), .val (.int p6), .unset, .unset, .unset, .unset, .unset, .unset, .unset, .unset, .unset, .unset] [])) t → Steps p.tables e below (s₁.setTop (entryFrame m #[(.int p1), (.int p2), (.int p3), (.long q4), (.int p5), (.int p6)] maxLocals)) t := fun t k => castTop (ef_0_IIIJII m p1 p2 p3 q4 p5 p6) k
  obtain ⟨T1, L1, sa_1, ta_1, ia_1, ca_1, cb_1, X1, N1, Kc1, g1_0, g1_1, g1_2, g1_3, g1_4, st1⟩ := sg_pre p1 p2 p3 q4 p5 p6 cA cB cC w_COMPACT_STRINGS X0 hx hZ hw hby hml hown e0 N0 Z0 hbcA hbcB hbcC S_COMPACT_STRINGS hcs O0 hcA hncA hcB hncB hcC hncC
  have sz2 : h0.size ≤ T1.heap.size := Kc1.1
  have Z2 : n0 ≤ T1.heap.size := Nat.le_trans Z0 sz2
  have O2 := O0.keep Kc1 all0
  have K2 : Keep h0 T1.heap [] := (Keep.refl h0 []).trans Kc1 (all0)
  have bn_sa_1 : h0.size ≤ sa_1 := g1_0
  have bn_ta_1 : h0.size ≤ ta_1 := g1_1
  have bn_ia_1 : h0.size ≤ ia_1 := g1_2
  obtain ⟨_, _, ⟨T3, L3, k3, n3⟩, -, X3, ⟨Lc3, hQ3, l3, y3, z3⟩, st3⟩ := Jvm.LawKit.callS X1 hx (y := (⟨"com/example/commitgate/commitgate/store/KeySpelling", "text", "(Ljava/lang/Object;)Ljava/lang/Object;"⟩ : MethodName)) hown (mvT hZ (hwi hw 42 rfl)) (mvT hZ (hwi hw 43 rfl)) (mvT hZ (hwi hw 33 rfl)) (mvT hZ (hwi hw 44 rfl)) (by decide) (backOf (W := 0) (rm_text_null l Z a0 hw []  T1.heap n0 Z2) hZ (hwi hw 44 rfl) (hwi hw 33 rfl) (by decide) (by decide)) (g := (mkF m 182 #[.val (.int p1), .val (.int p2), .val (.int p3), .val (.long q4), .second, .val (.int p5), .val (.int p6), .val (.ref ca_1), .val (.ref sa_1), .val (.ref cb_1), .val (.ref ta_1), .val (.ref ia_1), .val (.int 3), .unset, .unset, .unset, .unset] [.null])) rfl (by rw [hml]; rfl) (argsL := [.null]) (rest := []) (lenOf pd_Ljava_lang_Object__Ljava_lang_Object_409 rfl) rfl (by show 2 * 0 + _ ≤ _; exact Nat.le_of_eq rfl) (hb hby at_182) (fun _ _ => ⟨rfl, rfl, (by decide : 7 + 0 ≤ _), (by decide : 15 + 0 ≤ _)⟩)
  dsimp only [Pt.U, Pt.locs, Pt.cells, Pt.slots] at X3 l3 y3 z3 st3 hQ3
  subst l3 y3 z3
  obtain ⟨rfl, N3q, e3⟩ := hQ3
  have N3 := Fr.app N1 N3q
  obtain ⟨fs, hr, hrun, hended, hW, hsame⟩ := X3.leave (v := some (.int 1)) (fun h => by rw [Bd.returns] at h; cases h)
  refine ⟨_, _, pre0 _ ?_, hrun, hended, _, _, rfl, ?_, ⟨_, rfl⟩, hW, hsame.mono (by decide) (by decide)⟩
  · show St p e below s₁ (mkF m 0 #[.val (.int p1), .val (.int p2), .val (.int p3), .val (.long q4), .second, .val (.int p5), .val (.int p6), .unset, .unset, .unset, .unset, .unset, .unset, .unset, .unset, .unset, .unset] []) _
    refine st1 _ ?_
    show St p e below T1 (mkF m 71 #[.val (.int p1), .val (.int p2), .val (.int p3), .val (.long q4), .second, .val (.int p5), .val (.int p6), .val (.ref ca_1), .val (.ref sa_1), .val (.ref cb_1), .val (.ref ta_1), .val (.ref ia_1), .unset, .unset, .unset, .unset, .unset] []) _
    refine XS.iloadN X1.here hx rfl (hb hby at_71) rfl ?_
    show St p e below T1 (mkF m 72 #[.val (.int p1), .val (.int p2), .val (.int p3), .val (.long q4), .second, .val (.int p5), .val (.int p6), .val (.ref ca_1), .val (.ref sa_1), .val (.ref cb_1), .val (.ref ta_1), .val (.ref ia_1), .unset, .unset, .unset, .unset, .unset] [(.int p1)]) _
    refine X1.ldcInt hx hown (mvT hZ (hwi hw 30 rfl)) (g := (mkF m 72 #[.val (.int p1), .val (.int p2), .val (.int p3), .val (.long q4), .second, .val (.int p5), .val (.int p6), .val (.ref ca_1), .val (.ref sa_1), .val (.ref cb_1), .val (.ref ta_1), .val (.ref ia_1), .unset, .unset, .unset, .unset, .unset] [(.int p1)])) rfl (hb hby at_72) _ ?_
    show St p e below T1 (mkF m 74 #[.val (.int p1), .val (.int p2), .val (.int p3), .val (.long q4), .second, .val (.int p5), .val (.int p6), .val (.ref ca_1), .val (.ref sa_1), .val (.ref cb_1), .val (.ref ta_1), .val (.ref ia_1), .unset, .unset, .unset, .unset, .unset] [(.int 2147483647), (.int p1)]) _
    refine XS.iand X1.here hx rfl (hb hby at_74) rfl ?_
    show St p e below T1 (mkF m 75 #[.val (.int p1), .val (.int p2), .val (.int p3), .val (.long q4), .second, .val (.int p5), .val (.int p6), .val (.ref ca_1), .val (.ref sa_1), .val (.ref cb_1), .val (.ref ta_1), .val (.ref ia_1), .unset, .unset, .unset, .unset, .unset] [(.int (p1 &&& (2147483647 : Int32)))]) _
    refine XS.iconst X1.here hx rfl (hb hby at_75) ?_
    show St p e below T1 (mkF m 76 #[.val (.int p1), .val (.int p2), .val (.int p3), .val (.long q4), .second, .val (.int p5), .val (.int p6), .val (.ref ca_1), .val (.ref sa_1), .val (.ref cb_1), .val (.ref ta_1), .val (.ref ia_1), .unset, .unset, .unset, .unset, .unset] [(.int 5), (.int (p1 &&& (2147483647 : Int32)))]) _
    refine iremM X1 hx rfl (hb hby at_76) rfl (by decide) ?_
    show St p e below T1 (mkF m 77 #[.val (.int p1), .val (.int p2), .val (.int p3), .val (.long q4), .second, .val (.int p5), .val (.int p6), .val (.ref ca_1), .val (.ref sa_1), .val (.ref cb_1), .val (.ref ta_1), .val (.ref ia_1), .unset, .unset, .unset, .unset, .unset] [(.int ((p1 &&& (2147483647 : Int32)) % (5 : Int32)))]) _
    rw [hk]
    show St p e below T1 (mkF m 77 #[.val (.int p1), .val (.int p2), .val (.int p3), .val (.long q4), .second, .val (.int p5), .val (.int p6), .val (.ref ca_1), .val (.ref sa_1), .val (.ref cb_1), .val (.ref ta_1), .val (.ref ia_1), .unset, .unset, .unset, .unset, .unset] [(.int 3)]) _
    refine XS.istore X1.here hx rfl (hb hby at_77) rfl (l' := #[.val (.int p1), .val (.int p2), .val (.int p3), .val (.long q4), .second, .val (.int p5), .val (.int p6), .val (.ref ca_1), .val (.ref sa_1), .val (.ref cb_1), .val (.ref ta_1), .val (.ref ia_1), .val (.int 3), .unset, .unset, .unset, .unset]) rfl ?_
    show St p e below T1 (mkF m 79 #[.val (.int p1), .val (.int p2), .val (.int p3), .val (.long q4), .second, .val (.int p5), .val (.int p6), .val (.ref ca_1), .val (.ref sa_1), .val (.ref cb_1), .val (.ref ta_1), .val (.ref ia_1), .val (.int 3), .unset, .unset, .unset, .unset] []) _
    refine XS.iload X1.here hx rfl (hb hby at_79) rfl ?_
    show St p e below T1 (mkF m 81 #[.val (.int p1), .val (.int p2), .val (.int p3), .val (.long q4), .second, .val (.int p5), .val (.int p6), .val (.ref ca_1), .val (.ref sa_1), .val (.ref cb_1), .val (.ref ta_1), .val (.ref ia_1), .val (.int 3), .unset, .unset, .unset, .unset] [(.int 3)]) _
    refine XS.ifYes X1.here hx rfl (pc0 := 81) (pc' := 117) rfl (hb hby at_81) rfl ((if0 _ _).trans (feq (by decide : ¬ ((3 : Int32) = (0 : Int32)))).2) (by decide) (by decide) ?_
    show St p e below T1 (mkF m 117 #[.val (.int p1), .val (.int p2), .val (.int p3), .val (.long q4), .second, .val (.int p5), .val (.int p6), .val (.ref ca_1), .val (.ref sa_1), .val (.ref cb_1), .val (.ref ta_1), .val (.ref ia_1), .val (.int 3), .unset, .unset, .unset, .unset] []) _
    refine XS.iload X1.here hx rfl (hb hby at_117) rfl ?_
    show St p e below T1 (mkF m 119 #[.val (.int p1), .val (.int p2), .val (.int p3), .val (.long q4), .second, .val (.int p5), .val (.int p6), .val (.ref ca_1), .val (.ref sa_1), .val (.ref cb_1), .val (.ref ta_1), .val (.ref ia_1), .val (.int 3), .unset, .unset, .unset, .unset] [(.int 3)]) _
    refine XS.iconst X1.here hx rfl (hb hby at_119) ?_
    show St p e below T1 (mkF m 120 #[.val (.int p1), .val (.int p2), .val (.int p3), .val (.long q4), .second, .val (.int p5), .val (.int p6), .val (.ref ca_1), .val (.ref sa_1), .val (.ref cb_1), .val (.ref ta_1), .val (.ref ia_1), .val (.int 3), .unset, .unset, .unset, .unset] [(.int 1), (.int 3)]) _
    refine XS.icmpYes X1.here hx rfl (pc0 := 120) (pc' := 149) rfl (hb hby at_120) rfl (feq (by decide : ¬ ((3 : Int32) = (1 : Int32)))).2 (by decide) (by decide) ?_
    show St p e below T1 (mkF m 149 #[.val (.int p1), .val (.int p2), .val (.int p3), .val (.long q4), .second, .val (.int p5), .val (.int p6), .val (.ref ca_1), .val (.ref sa_1), .val (.ref cb_1), .val (.ref ta_1), .val (.ref ia_1), .val (.int 3), .unset, .unset, .unset, .unset] []) _
    refine XS.iload X1.here hx rfl (hb hby at_149) rfl ?_
    show St p e below T1 (mkF m 151 #[.val (.int p1), .val (.int p2), .val (.int p3), .val (.long q4), .second, .val (.int p5), .val (.int p6), .val (.ref ca_1), .val (.ref sa_1), .val (.ref cb_1), .val (.ref ta_1), .val (.ref ia_1), .val (.int 3), .unset, .unset, .unset, .unset] [(.int 3)]) _
    refine XS.iconst X1.here hx rfl (hb hby at_151) ?_
    show St p e below T1 (mkF m 152 #[.val (.int p1), .val (.int p2), .val (.int p3), .val (.long q4), .second, .val (.int p5), .val (.int p6), .val (.ref ca_1), .val (.ref sa_1), .val (.ref cb_1), .val (.ref ta_1), .val (.ref ia_1), .val (.int 3), .unset, .unset, .unset, .unset] [(.int 2), (.int 3)]) _
    refine XS.icmpYes X1.here hx rfl (pc0 := 152) (pc' := 175) rfl (hb hby at_152) rfl (feq (by decide : ¬ ((3 : Int32) = (2 : Int32)))).2 (by decide) (by decide) ?_
    show St p e below T1 (mkF m 175 #[.val (.int p1), .val (.int p2), .val (.int p3), .val (.long q4), .second, .val (.int p5), .val (.int p6), .val (.ref ca_1), .val (.ref sa_1), .val (.ref cb_1), .val (.ref ta_1), .val (.ref ia_1), .val (.int 3), .unset, .unset, .unset, .unset] []) _
    refine XS.iload X1.here hx rfl (hb hby at_175) rfl ?_
    show St p e below T1 (mkF m 177 #[.val (.int p1), .val (.int p2), .val (.int p3), .val (.long q4), .second, .val (.int p5), .val (.int p6), .val (.ref ca_1), .val (.ref sa_1), .val (.ref cb_1), .val (.ref ta_1), .val (.ref ia_1), .val (.int 3), .unset, .unset, .unset, .unset] [(.int 3)]) _
    refine XS.iconst X1.here hx rfl (hb hby at_177) ?_
    show St p e below T1 (mkF m 178 #[.val (.int p1), .val (.int p2), .val (.int p3), .val (.long q4), .second, .val (.int p5), .val (.int p6), .val (.ref ca_1), .val (.ref sa_1), .val (.ref cb_1), .val (.ref ta_1), .val (.ref ia_1), .val (.int 3), .unset, .unset, .unset, .unset] [(.int 3), (.int 3)]) _
    refine XS.icmpNo X1.here hx rfl (hb hby at_178) rfl (teq (by decide : (3 : Int32) = (3 : Int32))).2 ?_
    show St p e below T1 (mkF m 181 #[.val (.int p1), .val (.int p2), .val (.int p3), .val (.long q4), .second, .val (.int p5), .val (.int p6), .val (.ref ca_1), .val (.ref sa_1), .val (.ref cb_1), .val (.ref ta_1), .val (.ref ia_1), .val (.int 3), .unset, .unset, .unset, .unset] []) _
    refine XS.aconstNull X1.here hx rfl (hb hby at_181) ?_
    show St p e below T1 (mkF m 182 #[.val (.int p1), .val (.int p2), .val (.int p3), .val (.long q4), .second, .val (.int p5), .val (.int p6), .val (.ref ca_1), .val (.ref sa_1), .val (.ref cb_1), .val (.ref ta_1), .val (.ref ia_1), .val (.int 3), .unset, .unset, .unset, .unset] [.null]) _
    refine st3 _ ?_
    show St p e below T3 (mkF m 185 #[.val (.int p1), .val (.int p2), .val (.int p3), .val (.long q4), .second, .val (.int p5), .val (.int p6), .val (.ref ca_1), .val (.ref sa_1), .val (.ref cb_1), .val (.ref ta_1), .val (.ref ia_1), .val (.int 3), .unset, .unset, .unset, .unset] [.null]) _
    refine XS.astore X3.here hx rfl (hb hby at_185) rfl rfl (l' := #[.val (.int p1), .val (.int p2), .val (.int p3), .val (.long q4), .second, .val (.int p5), .val (.int p6), .val (.ref ca_1), .val (.ref sa_1), .val (.ref cb_1), .val (.ref ta_1), .val (.ref ia_1), .val (.int 3), .val .null, .unset, .unset, .unset]) rfl ?_
    show St p e below T3 (mkF m 187 #[.val (.int p1), .val (.int p2), .val (.int p3), .val (.long q4), .second, .val (.int p5), .val (.int p6), .val (.ref ca_1), .val (.ref sa_1), .val (.ref cb_1), .val (.ref ta_1), .val (.ref ia_1), .val (.int 3), .val .null, .unset, .unset, .unset] []) _
    refine XS.aload X3.here hx rfl (hb hby at_187) rfl rfl ?_
    show St p e below T3 (mkF m 189 #[.val (.int p1), .val (.int p2), .val (.int p3), .val (.long q4), .second, .val (.int p5), .val (.int p6), .val (.ref ca_1), .val (.ref sa_1), .val (.ref cb_1), .val (.ref ta_1), .val (.ref ia_1), .val (.int 3), .val .null, .unset, .unset, .unset] [.null]) _
    refine XS.ifnonnullNo X3.here hx rfl (hb hby at_189) rfl ?_
    show St p e below T3 (mkF m 192 #[.val (.int p1), .val (.int p2), .val (.int p3), .val (.long q4), .second, .val (.int p5), .val (.int p6), .val (.ref ca_1), .val (.ref sa_1), .val (.ref cb_1), .val (.ref ta_1), .val (.ref ia_1), .val (.int 3), .val .null, .unset, .unset, .unset] []) _
    refine XS.iconst X3.here hx rfl (hb hby at_192) ?_
    show St p e below T3 (mkF m 193 #[.val (.int p1), .val (.int p2), .val (.int p3), .val (.long q4), .second, .val (.int p5), .val (.int p6), .val (.ref ca_1), .val (.ref sa_1), .val (.ref cb_1), .val (.ref ta_1), .val (.ref ia_1), .val (.int 3), .val .null, .unset, .unset, .unset] [(.int 1)]) _
    refine XS.goto X3.here hx rfl (pc0 := 193) (pc' := 197) rfl (hb hby at_193) (by decide) (by decide) ?_
    show St p e below T3 (mkF m 197 #[.val (.int p1), .val (.int p2), .val (.int p3), .val (.long q4), .second, .val (.int p5), .val (.int p6), .val (.ref ca_1), .val (.ref sa_1), .val (.ref cb_1), .val (.ref ta_1), .val (.ref ia_1), .val (.int 3), .val .null, .unset, .unset, .unset] [(.int 1)]) _
    exact retN X3 hx (t := .boolean) Bd.returns (by simp) (hb hby at_197) hr
  · exact ⟨rfl, N3⟩
set_option maxRecDepth 65536 in
set_option maxHeartbeats 40000000 in
theorem rm_law_4 (l : Launch) (Z : State) (a0 : Array Value) (hw : ∀ d ∈ tables_1, d.before a0 Z = true) (ws : List Jvm.Cond) (p1 : Int32) (p2 : Int32) (p3 : Int32) (q4 : Int64) (p5 : Int32) (p6 : Int32) (cA : Int32) (cB : Int32) (cC : Int32) (w_COMPACT_STRINGS : Int32) (h0 : Heap) (n0 : Nat) (Z0 : n0 ≤ h0.size) (S_COMPACT_STRINGS : Sta Z Z.heap "java/lang/String" "COMPACT_STRINGS" "Z" (.int w_COMPACT_STRINGS)) (hcs : ¬ (w_COMPACT_STRINGS = (0 : Int32))) (O0 : Old Z n0 h0) (hbcA : ¬ ((255 : Int32) < cA)) (hbcB : ¬ ((255 : Int32) < cB)) (hbcC : ¬ ((255 : Int32) < cC)) (hcA : ((p2 &&& (255 : Int32)).toUInt32.toUInt16.toUInt32.toInt32) = cA) (hncA : (cA.toUInt32.toUInt16.toUInt32.toInt32) = cA) (hcB : ((p3 &&& (255 : Int32)).toUInt32.toUInt16.toUInt32.toInt32) = cB) (hncB : (cB.toUInt32.toUInt16.toUInt32.toInt32) = cB) (hcC : ((p6 &&& (255 : Int32)).toUInt32.toUInt16.toUInt32.toInt32) = cC) (hncC : (cC.toUInt32.toUInt16.toUInt32.toInt32) = cC) (hk : ((p1 &&& (2147483647 : Int32)) % (5 : Int32)) = (4 : Int32)) :
    MetFree l x (head1 (Jvm.Cond.code x code maxLocals ret :: ws) room_1) (fun a U => a = #[(.int p1), (.int p2), (.int p3), (.long q4), (.int p5), (.int p6)] ∧ Z.Warmed39 U.vm ∧ U.heap = h0) (fun _ _ _ _ _ => True) (fun _ U o U' => ∃ v L, o = .returned v ∧ Q_law n0 v L ∧ FrameEnd U o U' L room_1.cells room_1.slots) := by
  refine MetFree.of_bodySF (plainFor_of_name pn_0) hisR ?_
  intro p e s m args below meth c s₁ Bd hml0 hP hK
  obtain ⟨rfl, hZ, hh⟩ := hP
  have hx := Bd.exec
  have hby := Bd.bytes
  have hml : c.maxLocals = 17 := hml0
  have hown : s.vm.findClass "com/example/commitgate/commitgate/store/KeySpellingTextPinLaw" = some m.cls := findClass_of_methodNamed Bd.named
  have hnm := (name_of_methodNamed Bd.named Bd.method).1
  have X0 : Stand p l e room_1 s m #[(.int p1), (.int p2), (.int p3), (.long q4), (.int p5), (.int p6)] below meth c s₁ [] 0 0 := Stand.of_body Bd
  have e0 : s₁.heap = h0 := by rw [← hh, Bd.state]; rfl
  have N0 := Fr.nil n0
  have pre0 : ∀ t, Steps p.tables e below (s₁.setTop (mkF m 0 #[.val (.int p1), .val (.int p2), .val (.int p3), .val (.long q4), .second, .val (.int p5), .val (.int p6), .unset, .unset, .unset, .unset, .unset, .unset, .unset, .unset, .unset, .unset] [])) t → Steps p.tables e below (s₁.setTop (entryFrame m #[(.int p1), (.int p2), (.int p3), (.long q4), (.int p5), (.int p6)] maxLocals)) t := fun t k => castTop (ef_0_IIIJII m p1 p2 p3 q4 p5 p6) k
  obtain ⟨T1, L1, sa_1, ta_1, ia_1, ca_1, cb_1, X1, N1, Kc1, g1_0, g1_1, g1_2, g1_3, g1_4, st1⟩ := sg_pre p1 p2 p3 q4 p5 p6 cA cB cC w_COMPACT_STRINGS X0 hx hZ hw hby hml hown e0 N0 Z0 hbcA hbcB hbcC S_COMPACT_STRINGS hcs O0 hcA hncA hcB hncB hcC hncC
  have sz2 : h0.size ≤ T1.heap.size := Kc1.1
  have Z2 : n0 ≤ T1.heap.size := Nat.le_trans Z0 sz2
  have O2 := O0.keep Kc1 all0
  have K2 : Keep h0 T1.heap [] := (Keep.refl h0 []).trans Kc1 (all0)
  have bn_sa_1 : h0.size ≤ sa_1 := g1_0
  have bn_ta_1 : h0.size ≤ ta_1 := g1_1
  have bn_ia_1 : h0.size ≤ ia_1 := g1_2
  obtain ⟨T3, h3, X3, e3, E3, A3, D3, -, st3⟩ := newO X1 hx hZ hown (hwi hw 31 rfl) (hwi hw 32 rfl) (hwi hw 33 rfl) rfl (g := (mkF m 198 #[.val (.int p1), .val (.int p2), .val (.int p3), .val (.long q4), .second, .val (.int p5), .val (.int p6), .val (.ref ca_1), .val (.ref sa_1), .val (.ref cb_1), .val (.ref ta_1), .val (.ref ia_1), .val (.int 4), .unset, .unset, .unset, .unset] [])) rfl (hb hby at_198) (by decide) (by decide)
  obtain ⟨b3, g3⟩ : ∃ z, z = T1.heap.size := ⟨_, rfl⟩
  rw [← g3] at A3 D3 st3
  have bn_b3 : h0.size ≤ b3 := Nat.le_trans K2.1 (Nat.le_of_eq g3.symm)
  have sz4 : T1.heap.size ≤ h3.size := E3.1
  have Z4 : n0 ≤ h3.size := Nat.le_trans Z2 sz4
  have O4 := O2.ext E3
  have K4 : Keep h0 h3 [] := K2.ext E3
  have F3_text : Fld Z h3 b3 "com/example/commitgate/commitgate/store/KeySpelling" "text" "Ljava/lang/String;" .null := D3 (Or.inr (hwi hw 39 rfl)) (ty := (.object "java/lang/String")) (by decide)
  have F3_identity : Fld Z h3 b3 "com/example/commitgate/commitgate/store/KeySpelling" "identity" "[B" .null := D3 (Or.inr (hwi hw 41 rfl)) (ty := (.array .byte)) (by decide)
  obtain ⟨_, _, ⟨T5, L5, k5, n5⟩, -, X5, ⟨Lc5, hQ5, l5, y5, z5⟩, st5⟩ := X3.specialBack hx (y := (⟨"com/example/commitgate/commitgate/store/KeySpelling", "<init>", "(Ljava/lang/String;[B)V"⟩ : MethodName)) rfl hown (mvT hZ (hwi hw 34 rfl)) (mvT hZ (hwi hw 35 rfl)) (mvT hZ (hwi hw 36 rfl)) (by decide) (backOf (W := 1) (rm_ksinit l Z a0 hw [] b3 sa_1 ia_1 .null .null h3 n0 Z4 A3 F3_text (Nat.le_trans Z0 bn_b3) O4 F3_identity) hZ (hwi hw 36 rfl) (hwi hw 33 rfl) (by decide) (by decide)) (g := (mkF m 206 #[.val (.int p1), .val (.int p2), .val (.int p3), .val (.long q4), .second, .val (.int p5), .val (.int p6), .val (.ref ca_1), .val (.ref sa_1), .val (.ref cb_1), .val (.ref ta_1), .val (.ref ia_1), .val (.int 4), .unset, .unset, .unset, .unset] [(.ref ia_1), (.ref sa_1), (.ref b3), (.ref b3)])) rfl (by rw [hml]; rfl) (Steps.refl _) (a := b3) (argsL := [(.ref sa_1), (.ref ia_1)]) (rest := [(.ref b3)]) (lenOf pd_Ljava_lang_String__B_V_20 rfl) rfl (by show 2 * 0 + _ ≤ _; exact Nat.le_of_eq rfl) (hb hby at_206) (fun _ _ => ⟨rfl, e3, (by decide : 8 + 0 ≤ _), (by decide : 17 + 0 ≤ _)⟩)
  dsimp only [Pt.U, Pt.locs, Pt.cells, Pt.slots] at X5 l5 y5 z5 st5 hQ5
  subst l5 y5 z5
  obtain ⟨rfl, N5q, Kc5, g5_0, g5_1⟩ := hQ5
  have N5 := Fr.app N1 N5q
  have sz6 : h3.size ≤ T5.heap.size := Kc5.1
  have Z6 : n0 ≤ T5.heap.size := Nat.le_trans Z4 sz6
  have O6 := O4.keep Kc5 (allS (Nat.le_trans Z0 bn_b3) all0)
  have K6 : Keep h0 T5.heap [] := K4.trans Kc5 (allS (Or.inr bn_b3) (all0))
  obtain ⟨T7, h7, X7, e7, E7, A7, D7, -, st7⟩ := newO X5 hx hZ hown (hwi hw 31 rfl) (hwi hw 32 rfl) (hwi hw 33 rfl) rfl (g := (mkF m 211 #[.val (.int p1), .val (.int p2), .val (.int p3), .val (.long q4), .second, .val (.int p5), .val (.int p6), .val (.ref ca_1), .val (.ref sa_1), .val (.ref cb_1), .val (.ref ta_1), .val (.ref ia_1), .val (.int 4), .val (.ref b3), .unset, .unset, .unset] [])) rfl (hb hby at_211) (by decide) (by decide)
  obtain ⟨b7, g7⟩ : ∃ z, z = T5.heap.size := ⟨_, rfl⟩
  rw [← g7] at A7 D7 st7
  have bn_b7 : h0.size ≤ b7 := Nat.le_trans K6.1 (Nat.le_of_eq g7.symm)
  have sz8 : T5.heap.size ≤ h7.size := E7.1
  have Z8 : n0 ≤ h7.size := Nat.le_trans Z6 sz8
  have O8 := O6.ext E7
  have K8 : Keep h0 h7 [] := K6.ext E7
  have F7_text : Fld Z h7 b7 "com/example/commitgate/commitgate/store/KeySpelling" "text" "Ljava/lang/String;" .null := D7 (Or.inr (hwi hw 39 rfl)) (ty := (.object "java/lang/String")) (by decide)
  have F7_identity : Fld Z h7 b7 "com/example/commitgate/commitgate/store/KeySpelling" "identity" "[B" .null := D7 (Or.inr (hwi hw 41 rfl)) (ty := (.array .byte)) (by decide)
  obtain ⟨_, _, ⟨T9, L9, k9, n9⟩, -, X9, ⟨Lc9, hQ9, l9, y9, z9⟩, st9⟩ := X7.specialBack hx (y := (⟨"com/example/commitgate/commitgate/store/KeySpelling", "<init>", "(Ljava/lang/String;[B)V"⟩ : MethodName)) rfl hown (mvT hZ (hwi hw 34 rfl)) (mvT hZ (hwi hw 35 rfl)) (mvT hZ (hwi hw 36 rfl)) (by decide) (backOf (W := 1) (rm_ksinit l Z a0 hw [] b7 ta_1 ia_1 .null .null h7 n0 Z8 A7 F7_text (Nat.le_trans Z0 bn_b7) O8 F7_identity) hZ (hwi hw 36 rfl) (hwi hw 33 rfl) (by decide) (by decide)) (g := (mkF m 219 #[.val (.int p1), .val (.int p2), .val (.int p3), .val (.long q4), .second, .val (.int p5), .val (.int p6), .val (.ref ca_1), .val (.ref sa_1), .val (.ref cb_1), .val (.ref ta_1), .val (.ref ia_1), .val (.int 4), .val (.ref b3), .unset, .unset, .unset] [(.ref ia_1), (.ref ta_1), (.ref b7), (.ref b7)])) rfl (by rw [hml]; rfl) (Steps.refl _) (a := b7) (argsL := [(.ref ta_1), (.ref ia_1)]) (rest := [(.ref b7)]) (lenOf pd_Ljava_lang_String__B_V_20 rfl) rfl (by show 2 * 0 + _ ≤ _; exact Nat.le_of_eq rfl) (hb hby at_219) (fun _ _ => ⟨rfl, e7, (by decide : 9 + 0 ≤ _), (by decide : 19 + 0 ≤ _)⟩)
  dsimp only [Pt.U, Pt.locs, Pt.cells, Pt.slots] at X9 l9 y9 z9 st9 hQ9
  subst l9 y9 z9
  obtain ⟨rfl, N9q, Kc9, g9_0, g9_1⟩ := hQ9
  have N9 := Fr.app N5 N9q
  have sz10 : h7.size ≤ T9.heap.size := Kc9.1
  have Z10 : n0 ≤ T9.heap.size := Nat.le_trans Z8 sz10
  have O10 := O8.keep Kc9 (allS (Nat.le_trans Z0 bn_b7) all0)
  have K10 : Keep h0 T9.heap [] := K8.trans Kc9 (allS (Or.inr bn_b7) (all0))
  have fc12 := ((g5_0.ext E7).keep Kc9)
  have fc13 := ((g5_1.ext E7).keep Kc9 (ninS (neN (by have := ltN A3.lt; have := ltN A7.lt; omega)) nin0))
  obtain ⟨_, _, ⟨T11, L11, k11, n11⟩, -, X11, ⟨Lc11, hQ11, l11, y11, z11⟩, st11⟩ := Jvm.LawKit.callS X9 hx (y := (⟨"com/example/commitgate/commitgate/store/KeySpelling", "text", "(Ljava/lang/Object;)Ljava/lang/Object;"⟩ : MethodName)) hown (mvT hZ (hwi hw 42 rfl)) (mvT hZ (hwi hw 43 rfl)) (mvT hZ (hwi hw 33 rfl)) (mvT hZ (hwi hw 44 rfl)) (by decide) (backOf (W := 0) (rm_text_ks l Z a0 hw [] b3 sa_1 T9.heap n0 Z10 fc12 fc13) hZ (hwi hw 44 rfl) (hwi hw 33 rfl) (by decide) (by decide)) (g := (mkF m 226 #[.val (.int p1), .val (.int p2), .val (.int p3), .val (.long q4), .second, .val (.int p5), .val (.int p6), .val (.ref ca_1), .val (.ref sa_1), .val (.ref cb_1), .val (.ref ta_1), .val (.ref ia_1), .val (.int 4), .val (.ref b3), .val (.ref b7), .unset, .unset] [(.ref b3)])) rfl (by rw [hml]; rfl) (argsL := [(.ref b3)]) (rest := []) (lenOf pd_Ljava_lang_Object__Ljava_lang_Object_409 rfl) rfl (by show 2 * 0 + _ ≤ _; exact Nat.le_of_eq rfl) (hb hby at_226) (fun _ _ => ⟨rfl, rfl, (by decide : 9 + 0 ≤ _), (by decide : 19 + 0 ≤ _)⟩)
  dsimp only [Pt.U, Pt.locs, Pt.cells, Pt.slots] at X11 l11 y11 z11 st11 hQ11
  subst l11 y11 z11
  obtain ⟨rfl, N11q, e11⟩ := hQ11
  have N11 := Fr.app N9 N11q
  obtain ⟨_, _, ⟨T14, L14, k14, n14⟩, -, X14, ⟨Lc14, hQ14, l14, y14, z14⟩, st14⟩ := Jvm.LawKit.callS X11 hx (y := (⟨"com/example/commitgate/commitgate/store/KeySpelling", "text", "(Ljava/lang/Object;)Ljava/lang/Object;"⟩ : MethodName)) hown (mvT hZ (hwi hw 42 rfl)) (mvT hZ (hwi hw 43 rfl)) (mvT hZ (hwi hw 33 rfl)) (mvT hZ (hwi hw 44 rfl)) (by decide) (backOf (W := 0) (rm_text_ks l Z a0 hw [] b7 ta_1 T9.heap n0 Z10 g9_0 g9_1) hZ (hwi hw 44 rfl) (hwi hw 33 rfl) (by decide) (by decide)) (g := (mkF m 233 #[.val (.int p1), .val (.int p2), .val (.int p3), .val (.long q4), .second, .val (.int p5), .val (.int p6), .val (.ref ca_1), .val (.ref sa_1), .val (.ref cb_1), .val (.ref ta_1), .val (.ref ia_1), .val (.int 4), .val (.ref b3), .val (.ref b7), .val (.ref sa_1), .unset] [(.ref b7)])) rfl (by rw [hml]; rfl) (argsL := [(.ref b7)]) (rest := []) (lenOf pd_Ljava_lang_Object__Ljava_lang_Object_409 rfl) rfl (by show 2 * 0 + _ ≤ _; exact Nat.le_of_eq rfl) (hb hby at_233) (fun _ _ => ⟨rfl, e11, (by decide : 9 + 0 ≤ _), (by decide : 19 + 0 ≤ _)⟩)
  dsimp only [Pt.U, Pt.locs, Pt.cells, Pt.slots] at X14 l14 y14 z14 st14 hQ14
  subst l14 y14 z14
  obtain ⟨rfl, N14q, e14⟩ := hQ14
  have N14 := Fr.app N11 N14q
  obtain ⟨fs, hr, hrun, hended, hW, hsame⟩ := X14.leave (v := some (.int 1)) (fun h => by rw [Bd.returns] at h; cases h)
  refine ⟨_, _, pre0 _ ?_, hrun, hended, _, _, rfl, ?_, ⟨_, rfl⟩, hW, hsame.mono (by decide) (by decide)⟩
  · show St p e below s₁ (mkF m 0 #[.val (.int p1), .val (.int p2), .val (.int p3), .val (.long q4), .second, .val (.int p5), .val (.int p6), .unset, .unset, .unset, .unset, .unset, .unset, .unset, .unset, .unset, .unset] []) _
    refine st1 _ ?_
    show St p e below T1 (mkF m 71 #[.val (.int p1), .val (.int p2), .val (.int p3), .val (.long q4), .second, .val (.int p5), .val (.int p6), .val (.ref ca_1), .val (.ref sa_1), .val (.ref cb_1), .val (.ref ta_1), .val (.ref ia_1), .unset, .unset, .unset, .unset, .unset] []) _
    refine XS.iloadN X1.here hx rfl (hb hby at_71) rfl ?_
    show St p e below T1 (mkF m 72 #[.val (.int p1), .val (.int p2), .val (.int p3), .val (.long q4), .second, .val (.int p5), .val (.int p6), .val (.ref ca_1), .val (.ref sa_1), .val (.ref cb_1), .val (.ref ta_1), .val (.ref ia_1), .unset, .unset, .unset, .unset, .unset] [(.int p1)]) _
    refine X1.ldcInt hx hown (mvT hZ (hwi hw 30 rfl)) (g := (mkF m 72 #[.val (.int p1), .val (.int p2), .val (.int p3), .val (.long q4), .second, .val (.int p5), .val (.int p6), .val (.ref ca_1), .val (.ref sa_1), .val (.ref cb_1), .val (.ref ta_1), .val (.ref ia_1), .unset, .unset, .unset, .unset, .unset] [(.int p1)])) rfl (hb hby at_72) _ ?_
    show St p e below T1 (mkF m 74 #[.val (.int p1), .val (.int p2), .val (.int p3), .val (.long q4), .second, .val (.int p5), .val (.int p6), .val (.ref ca_1), .val (.ref sa_1), .val (.ref cb_1), .val (.ref ta_1), .val (.ref ia_1), .unset, .unset, .unset, .unset, .unset] [(.int 2147483647), (.int p1)]) _
    refine XS.iand X1.here hx rfl (hb hby at_74) rfl ?_
    show St p e below T1 (mkF m 75 #[.val (.int p1), .val (.int p2), .val (.int p3), .val (.long q4), .second, .val (.int p5), .val (.int p6), .val (.ref ca_1), .val (.ref sa_1), .val (.ref cb_1), .val (.ref ta_1), .val (.ref ia_1), .unset, .unset, .unset, .unset, .unset] [(.int (p1 &&& (2147483647 : Int32)))]) _
    refine XS.iconst X1.here hx rfl (hb hby at_75) ?_
    show St p e below T1 (mkF m 76 #[.val (.int p1), .val (.int p2), .val (.int p3), .val (.long q4), .second, .val (.int p5), .val (.int p6), .val (.ref ca_1), .val (.ref sa_1), .val (.ref cb_1), .val (.ref ta_1), .val (.ref ia_1), .unset, .unset, .unset, .unset, .unset] [(.int 5), (.int (p1 &&& (2147483647 : Int32)))]) _
    refine iremM X1 hx rfl (hb hby at_76) rfl (by decide) ?_
    show St p e below T1 (mkF m 77 #[.val (.int p1), .val (.int p2), .val (.int p3), .val (.long q4), .second, .val (.int p5), .val (.int p6), .val (.ref ca_1), .val (.ref sa_1), .val (.ref cb_1), .val (.ref ta_1), .val (.ref ia_1), .unset, .unset, .unset, .unset, .unset] [(.int ((p1 &&& (2147483647 : Int32)) % (5 : Int32)))]) _
    rw [hk]
    show St p e below T1 (mkF m 77 #[.val (.int p1), .val (.int p2), .val (.int p3), .val (.long q4), .second, .val (.int p5), .val (.int p6), .val (.ref ca_1), .val (.ref sa_1), .val (.ref cb_1), .val (.ref ta_1), .val (.ref ia_1), .unset, .unset, .unset, .unset, .unset] [(.int 4)]) _
    refine XS.istore X1.here hx rfl (hb hby at_77) rfl (l' := #[.val (.int p1), .val (.int p2), .val (.int p3), .val (.long q4), .second, .val (.int p5), .val (.int p6), .val (.ref ca_1), .val (.ref sa_1), .val (.ref cb_1), .val (.ref ta_1), .val (.ref ia_1), .val (.int 4), .unset, .unset, .unset, .unset]) rfl ?_
    show St p e below T1 (mkF m 79 #[.val (.int p1), .val (.int p2), .val (.int p3), .val (.long q4), .second, .val (.int p5), .val (.int p6), .val (.ref ca_1), .val (.ref sa_1), .val (.ref cb_1), .val (.ref ta_1), .val (.ref ia_1), .val (.int 4), .unset, .unset, .unset, .unset] []) _
    refine XS.iload X1.here hx rfl (hb hby at_79) rfl ?_
    show St p e below T1 (mkF m 81 #[.val (.int p1), .val (.int p2), .val (.int p3), .val (.long q4), .second, .val (.int p5), .val (.int p6), .val (.ref ca_1), .val (.ref sa_1), .val (.ref cb_1), .val (.ref ta_1), .val (.ref ia_1), .val (.int 4), .unset, .unset, .unset, .unset] [(.int 4)]) _
    refine XS.ifYes X1.here hx rfl (pc0 := 81) (pc' := 117) rfl (hb hby at_81) rfl ((if0 _ _).trans (feq (by decide : ¬ ((4 : Int32) = (0 : Int32)))).2) (by decide) (by decide) ?_
    show St p e below T1 (mkF m 117 #[.val (.int p1), .val (.int p2), .val (.int p3), .val (.long q4), .second, .val (.int p5), .val (.int p6), .val (.ref ca_1), .val (.ref sa_1), .val (.ref cb_1), .val (.ref ta_1), .val (.ref ia_1), .val (.int 4), .unset, .unset, .unset, .unset] []) _
    refine XS.iload X1.here hx rfl (hb hby at_117) rfl ?_
    show St p e below T1 (mkF m 119 #[.val (.int p1), .val (.int p2), .val (.int p3), .val (.long q4), .second, .val (.int p5), .val (.int p6), .val (.ref ca_1), .val (.ref sa_1), .val (.ref cb_1), .val (.ref ta_1), .val (.ref ia_1), .val (.int 4), .unset, .unset, .unset, .unset] [(.int 4)]) _
    refine XS.iconst X1.here hx rfl (hb hby at_119) ?_
    show St p e below T1 (mkF m 120 #[.val (.int p1), .val (.int p2), .val (.int p3), .val (.long q4), .second, .val (.int p5), .val (.int p6), .val (.ref ca_1), .val (.ref sa_1), .val (.ref cb_1), .val (.ref ta_1), .val (.ref ia_1), .val (.int 4), .unset, .unset, .unset, .unset] [(.int 1), (.int 4)]) _
    refine XS.icmpYes X1.here hx rfl (pc0 := 120) (pc' := 149) rfl (hb hby at_120) rfl (feq (by decide : ¬ ((4 : Int32) = (1 : Int32)))).2 (by decide) (by decide) ?_
    show St p e below T1 (mkF m 149 #[.val (.int p1), .val (.int p2), .val (.int p3), .val (.long q4), .second, .val (.int p5), .val (.int p6), .val (.ref ca_1), .val (.ref sa_1), .val (.ref cb_1), .val (.ref ta_1), .val (.ref ia_1), .val (.int 4), .unset, .unset, .unset, .unset] []) _
    refine XS.iload X1.here hx rfl (hb hby at_149) rfl ?_
    show St p e below T1 (mkF m 151 #[.val (.int p1), .val (.int p2), .val (.int p3), .val (.long q4), .second, .val (.int p5), .val (.int p6), .val (.ref ca_1), .val (.ref sa_1), .val (.ref cb_1), .val (.ref ta_1), .val (.ref ia_1), .val (.int 4), .unset, .unset, .unset, .unset] [(.int 4)]) _
    refine XS.iconst X1.here hx rfl (hb hby at_151) ?_
    show St p e below T1 (mkF m 152 #[.val (.int p1), .val (.int p2), .val (.int p3), .val (.long q4), .second, .val (.int p5), .val (.int p6), .val (.ref ca_1), .val (.ref sa_1), .val (.ref cb_1), .val (.ref ta_1), .val (.ref ia_1), .val (.int 4), .unset, .unset, .unset, .unset] [(.int 2), (.int 4)]) _
    refine XS.icmpYes X1.here hx rfl (pc0 := 152) (pc' := 175) rfl (hb hby at_152) rfl (feq (by decide : ¬ ((4 : Int32) = (2 : Int32)))).2 (by decide) (by decide) ?_
    show St p e below T1 (mkF m 175 #[.val (.int p1), .val (.int p2), .val (.int p3), .val (.long q4), .second, .val (.int p5), .val (.int p6), .val (.ref ca_1), .val (.ref sa_1), .val (.ref cb_1), .val (.ref ta_1), .val (.ref ia_1), .val (.int 4), .unset, .unset, .unset, .unset] []) _
    refine XS.iload X1.here hx rfl (hb hby at_175) rfl ?_
    show St p e below T1 (mkF m 177 #[.val (.int p1), .val (.int p2), .val (.int p3), .val (.long q4), .second, .val (.int p5), .val (.int p6), .val (.ref ca_1), .val (.ref sa_1), .val (.ref cb_1), .val (.ref ta_1), .val (.ref ia_1), .val (.int 4), .unset, .unset, .unset, .unset] [(.int 4)]) _
    refine XS.iconst X1.here hx rfl (hb hby at_177) ?_
    show St p e below T1 (mkF m 178 #[.val (.int p1), .val (.int p2), .val (.int p3), .val (.long q4), .second, .val (.int p5), .val (.int p6), .val (.ref ca_1), .val (.ref sa_1), .val (.ref cb_1), .val (.ref ta_1), .val (.ref ia_1), .val (.int 4), .unset, .unset, .unset, .unset] [(.int 3), (.int 4)]) _
    refine XS.icmpYes X1.here hx rfl (pc0 := 178) (pc' := 198) rfl (hb hby at_178) rfl (feq (by decide : ¬ ((4 : Int32) = (3 : Int32)))).2 (by decide) (by decide) ?_
    show St p e below T1 (mkF m 198 #[.val (.int p1), .val (.int p2), .val (.int p3), .val (.long q4), .second, .val (.int p5), .val (.int p6), .val (.ref ca_1), .val (.ref sa_1), .val (.ref cb_1), .val (.ref ta_1), .val (.ref ia_1), .val (.int 4), .unset, .unset, .unset, .unset] []) _
    refine st3 _ ?_
    show St p e below T3 (mkF m 201 #[.val (.int p1), .val (.int p2), .val (.int p3), .val (.long q4), .second, .val (.int p5), .val (.int p6), .val (.ref ca_1), .val (.ref sa_1), .val (.ref cb_1), .val (.ref ta_1), .val (.ref ia_1), .val (.int 4), .unset, .unset, .unset, .unset] [(.ref b3)]) _
    refine XS.dup X3.here hx rfl (hb hby at_201) rfl rfl ?_
    show St p e below T3 (mkF m 202 #[.val (.int p1), .val (.int p2), .val (.int p3), .val (.long q4), .second, .val (.int p5), .val (.int p6), .val (.ref ca_1), .val (.ref sa_1), .val (.ref cb_1), .val (.ref ta_1), .val (.ref ia_1), .val (.int 4), .unset, .unset, .unset, .unset] [(.ref b3), (.ref b3)]) _
    refine XS.aload X3.here hx rfl (hb hby at_202) rfl rfl ?_
    show St p e below T3 (mkF m 204 #[.val (.int p1), .val (.int p2), .val (.int p3), .val (.long q4), .second, .val (.int p5), .val (.int p6), .val (.ref ca_1), .val (.ref sa_1), .val (.ref cb_1), .val (.ref ta_1), .val (.ref ia_1), .val (.int 4), .unset, .unset, .unset, .unset] [(.ref sa_1), (.ref b3), (.ref b3)]) _
    refine XS.aload X3.here hx rfl (hb hby at_204) rfl rfl ?_
    show St p e below T3 (mkF m 206 #[.val (.int p1), .val (.int p2), .val (.int p3), .val (.long q4), .second, .val (.int p5), .val (.int p6), .val (.ref ca_1), .val (.ref sa_1), .val (.ref cb_1), .val (.ref ta_1), .val (.ref ia_1), .val (.int 4), .unset, .unset, .unset, .unset] [(.ref ia_1), (.ref sa_1), (.ref b3), (.ref b3)]) _
    refine st5.trans ?_
    show St p e below T5 (mkF m 209 #[.val (.int p1), .val (.int p2), .val (.int p3), .val (.long q4), .second, .val (.int p5), .val (.int p6), .val (.ref ca_1), .val (.ref sa_1), .val (.ref cb_1), .val (.ref ta_1), .val (.ref ia_1), .val (.int 4), .unset, .unset, .unset, .unset] [(.ref b3)]) _
    refine XS.astore X5.here hx rfl (hb hby at_209) rfl rfl (l' := #[.val (.int p1), .val (.int p2), .val (.int p3), .val (.long q4), .second, .val (.int p5), .val (.int p6), .val (.ref ca_1), .val (.ref sa_1), .val (.ref cb_1), .val (.ref ta_1), .val (.ref ia_1), .val (.int 4), .val (.ref b3), .unset, .unset, .unset]) rfl ?_
    show St p e below T5 (mkF m 211 #[.val (.int p1), .val (.int p2), .val (.int p3), .val (.long q4), .second, .val (.int p5), .val (.int p6), .val (.ref ca_1), .val (.ref sa_1), .val (.ref cb_1), .val (.ref ta_1), .val (.ref ia_1), .val (.int 4), .val (.ref b3), .unset, .unset, .unset] []) _
    refine st7 _ ?_
    show St p e below T7 (mkF m 214 #[.val (.int p1), .val (.int p2), .val (.int p3), .val (.long q4), .second, .val (.int p5), .val (.int p6), .val (.ref ca_1), .val (.ref sa_1), .val (.ref cb_1), .val (.ref ta_1), .val (.ref ia_1), .val (.int 4), .val (.ref b3), .unset, .unset, .unset] [(.ref b7)]) _
    refine XS.dup X7.here hx rfl (hb hby at_214) rfl rfl ?_
    show St p e below T7 (mkF m 215 #[.val (.int p1), .val (.int p2), .val (.int p3), .val (.long q4), .second, .val (.int p5), .val (.int p6), .val (.ref ca_1), .val (.ref sa_1), .val (.ref cb_1), .val (.ref ta_1), .val (.ref ia_1), .val (.int 4), .val (.ref b3), .unset, .unset, .unset] [(.ref b7), (.ref b7)]) _
    refine XS.aload X7.here hx rfl (hb hby at_215) rfl rfl ?_
    show St p e below T7 (mkF m 217 #[.val (.int p1), .val (.int p2), .val (.int p3), .val (.long q4), .second, .val (.int p5), .val (.int p6), .val (.ref ca_1), .val (.ref sa_1), .val (.ref cb_1), .val (.ref ta_1), .val (.ref ia_1), .val (.int 4), .val (.ref b3), .unset, .unset, .unset] [(.ref ta_1), (.ref b7), (.ref b7)]) _
    refine XS.aload X7.here hx rfl (hb hby at_217) rfl rfl ?_
    show St p e below T7 (mkF m 219 #[.val (.int p1), .val (.int p2), .val (.int p3), .val (.long q4), .second, .val (.int p5), .val (.int p6), .val (.ref ca_1), .val (.ref sa_1), .val (.ref cb_1), .val (.ref ta_1), .val (.ref ia_1), .val (.int 4), .val (.ref b3), .unset, .unset, .unset] [(.ref ia_1), (.ref ta_1), (.ref b7), (.ref b7)]) _
    refine st9.trans ?_
    show St p e below T9 (mkF m 222 #[.val (.int p1), .val (.int p2), .val (.int p3), .val (.long q4), .second, .val (.int p5), .val (.int p6), .val (.ref ca_1), .val (.ref sa_1), .val (.ref cb_1), .val (.ref ta_1), .val (.ref ia_1), .val (.int 4), .val (.ref b3), .unset, .unset, .unset] [(.ref b7)]) _
    refine XS.astore X9.here hx rfl (hb hby at_222) rfl rfl (l' := #[.val (.int p1), .val (.int p2), .val (.int p3), .val (.long q4), .second, .val (.int p5), .val (.int p6), .val (.ref ca_1), .val (.ref sa_1), .val (.ref cb_1), .val (.ref ta_1), .val (.ref ia_1), .val (.int 4), .val (.ref b3), .val (.ref b7), .unset, .unset]) rfl ?_
    show St p e below T9 (mkF m 224 #[.val (.int p1), .val (.int p2), .val (.int p3), .val (.long q4), .second, .val (.int p5), .val (.int p6), .val (.ref ca_1), .val (.ref sa_1), .val (.ref cb_1), .val (.ref ta_1), .val (.ref ia_1), .val (.int 4), .val (.ref b3), .val (.ref b7), .unset, .unset] []) _
    refine XS.aload X9.here hx rfl (hb hby at_224) rfl rfl ?_
    show St p e below T9 (mkF m 226 #[.val (.int p1), .val (.int p2), .val (.int p3), .val (.long q4), .second, .val (.int p5), .val (.int p6), .val (.ref ca_1), .val (.ref sa_1), .val (.ref cb_1), .val (.ref ta_1), .val (.ref ia_1), .val (.int 4), .val (.ref b3), .val (.ref b7), .unset, .unset] [(.ref b3)]) _
    refine st11 _ ?_
    show St p e below T11 (mkF m 229 #[.val (.int p1), .val (.int p2), .val (.int p3), .val (.long q4), .second, .val (.int p5), .val (.int p6), .val (.ref ca_1), .val (.ref sa_1), .val (.ref cb_1), .val (.ref ta_1), .val (.ref ia_1), .val (.int 4), .val (.ref b3), .val (.ref b7), .unset, .unset] [(.ref sa_1)]) _
    refine XS.astore X11.here hx rfl (hb hby at_229) rfl rfl (l' := #[.val (.int p1), .val (.int p2), .val (.int p3), .val (.long q4), .second, .val (.int p5), .val (.int p6), .val (.ref ca_1), .val (.ref sa_1), .val (.ref cb_1), .val (.ref ta_1), .val (.ref ia_1), .val (.int 4), .val (.ref b3), .val (.ref b7), .val (.ref sa_1), .unset]) rfl ?_
    show St p e below T11 (mkF m 231 #[.val (.int p1), .val (.int p2), .val (.int p3), .val (.long q4), .second, .val (.int p5), .val (.int p6), .val (.ref ca_1), .val (.ref sa_1), .val (.ref cb_1), .val (.ref ta_1), .val (.ref ia_1), .val (.int 4), .val (.ref b3), .val (.ref b7), .val (.ref sa_1), .unset] []) _
    refine XS.aload X11.here hx rfl (hb hby at_231) rfl rfl ?_
    show St p e below T11 (mkF m 233 #[.val (.int p1), .val (.int p2), .val (.int p3), .val (.long q4), .second, .val (.int p5), .val (.int p6), .val (.ref ca_1), .val (.ref sa_1), .val (.ref cb_1), .val (.ref ta_1), .val (.ref ia_1), .val (.int 4), .val (.ref b3), .val (.ref b7), .val (.ref sa_1), .unset] [(.ref b7)]) _
    refine st14 _ ?_
    show St p e below T14 (mkF m 236 #[.val (.int p1), .val (.int p2), .val (.int p3), .val (.long q4), .second, .val (.int p5), .val (.int p6), .val (.ref ca_1), .val (.ref sa_1), .val (.ref cb_1), .val (.ref ta_1), .val (.ref ia_1), .val (.int 4), .val (.ref b3), .val (.ref b7), .val (.ref sa_1), .unset] [(.ref ta_1)]) _
    refine XS.astore X14.here hx rfl (hb hby at_236) rfl rfl (l' := #[.val (.int p1), .val (.int p2), .val (.int p3), .val (.long q4), .second, .val (.int p5), .val (.int p6), .val (.ref ca_1), .val (.ref sa_1), .val (.ref cb_1), .val (.ref ta_1), .val (.ref ia_1), .val (.int 4), .val (.ref b3), .val (.ref b7), .val (.ref sa_1), .val (.ref ta_1)]) rfl ?_
    show St p e below T14 (mkF m 238 #[.val (.int p1), .val (.int p2), .val (.int p3), .val (.long q4), .second, .val (.int p5), .val (.int p6), .val (.ref ca_1), .val (.ref sa_1), .val (.ref cb_1), .val (.ref ta_1), .val (.ref ia_1), .val (.int 4), .val (.ref b3), .val (.ref b7), .val (.ref sa_1), .val (.ref ta_1)] []) _
    refine XS.aload X14.here hx rfl (hb hby at_238) rfl rfl ?_
    show St p e below T14 (mkF m 240 #[.val (.int p1), .val (.int p2), .val (.int p3), .val (.long q4), .second, .val (.int p5), .val (.int p6), .val (.ref ca_1), .val (.ref sa_1), .val (.ref cb_1), .val (.ref ta_1), .val (.ref ia_1), .val (.int 4), .val (.ref b3), .val (.ref b7), .val (.ref sa_1), .val (.ref ta_1)] [(.ref sa_1)]) _
    refine XS.aload X14.here hx rfl (hb hby at_240) rfl rfl ?_
    show St p e below T14 (mkF m 242 #[.val (.int p1), .val (.int p2), .val (.int p3), .val (.long q4), .second, .val (.int p5), .val (.int p6), .val (.ref ca_1), .val (.ref sa_1), .val (.ref cb_1), .val (.ref ta_1), .val (.ref ia_1), .val (.int 4), .val (.ref b3), .val (.ref b7), .val (.ref sa_1), .val (.ref ta_1)] [(.ref sa_1), (.ref sa_1)]) _
    refine Jvm.RoadKit.acmp (g := (mkF m 242 #[.val (.int p1), .val (.int p2), .val (.int p3), .val (.long q4), .second, .val (.int p5), .val (.int p6), .val (.ref ca_1), .val (.ref sa_1), .val (.ref cb_1), .val (.ref ta_1), .val (.ref ia_1), .val (.int 4), .val (.ref b3), .val (.ref b7), .val (.ref sa_1), .val (.ref ta_1)] [(.ref sa_1), (.ref sa_1)])) X14 hx rfl rfl rfl (pc0 := 242) (pc' := 245) (same := true) rfl (hb hby at_242) rfl (decide_eq_true rfl) (by decide) (by decide) ?_
    show St p e below T14 (mkF m 245 #[.val (.int p1), .val (.int p2), .val (.int p3), .val (.long q4), .second, .val (.int p5), .val (.int p6), .val (.ref ca_1), .val (.ref sa_1), .val (.ref cb_1), .val (.ref ta_1), .val (.ref ia_1), .val (.int 4), .val (.ref b3), .val (.ref b7), .val (.ref sa_1), .val (.ref ta_1)] []) _
    refine XS.aload X14.here hx rfl (hb hby at_245) rfl rfl ?_
    show St p e below T14 (mkF m 247 #[.val (.int p1), .val (.int p2), .val (.int p3), .val (.long q4), .second, .val (.int p5), .val (.int p6), .val (.ref ca_1), .val (.ref sa_1), .val (.ref cb_1), .val (.ref ta_1), .val (.ref ia_1), .val (.int 4), .val (.ref b3), .val (.ref b7), .val (.ref sa_1), .val (.ref ta_1)] [(.ref ta_1)]) _
    refine XS.aload X14.here hx rfl (hb hby at_247) rfl rfl ?_
    show St p e below T14 (mkF m 249 #[.val (.int p1), .val (.int p2), .val (.int p3), .val (.long q4), .second, .val (.int p5), .val (.int p6), .val (.ref ca_1), .val (.ref sa_1), .val (.ref cb_1), .val (.ref ta_1), .val (.ref ia_1), .val (.int 4), .val (.ref b3), .val (.ref b7), .val (.ref sa_1), .val (.ref ta_1)] [(.ref ta_1), (.ref ta_1)]) _
    refine Jvm.RoadKit.acmp (g := (mkF m 249 #[.val (.int p1), .val (.int p2), .val (.int p3), .val (.long q4), .second, .val (.int p5), .val (.int p6), .val (.ref ca_1), .val (.ref sa_1), .val (.ref cb_1), .val (.ref ta_1), .val (.ref ia_1), .val (.int 4), .val (.ref b3), .val (.ref b7), .val (.ref sa_1), .val (.ref ta_1)] [(.ref ta_1), (.ref ta_1)])) X14 hx rfl rfl rfl (pc0 := 249) (pc' := 252) (same := true) rfl (hb hby at_249) rfl (decide_eq_true rfl) (by decide) (by decide) ?_
    show St p e below T14 (mkF m 252 #[.val (.int p1), .val (.int p2), .val (.int p3), .val (.long q4), .second, .val (.int p5), .val (.int p6), .val (.ref ca_1), .val (.ref sa_1), .val (.ref cb_1), .val (.ref ta_1), .val (.ref ia_1), .val (.int 4), .val (.ref b3), .val (.ref b7), .val (.ref sa_1), .val (.ref ta_1)] []) _
    refine XS.iconst X14.here hx rfl (hb hby at_252) ?_
    show St p e below T14 (mkF m 253 #[.val (.int p1), .val (.int p2), .val (.int p3), .val (.long q4), .second, .val (.int p5), .val (.int p6), .val (.ref ca_1), .val (.ref sa_1), .val (.ref cb_1), .val (.ref ta_1), .val (.ref ia_1), .val (.int 4), .val (.ref b3), .val (.ref b7), .val (.ref sa_1), .val (.ref ta_1)] [(.int 1)]) _
    refine XS.goto X14.here hx rfl (pc0 := 253) (pc' := 257) rfl (hb hby at_253) (by decide) (by decide) ?_
    show St p e below T14 (mkF m 257 #[.val (.int p1), .val (.int p2), .val (.int p3), .val (.long q4), .second, .val (.int p5), .val (.int p6), .val (.ref ca_1), .val (.ref sa_1), .val (.ref cb_1), .val (.ref ta_1), .val (.ref ia_1), .val (.int 4), .val (.ref b3), .val (.ref b7), .val (.ref sa_1), .val (.ref ta_1)] [(.int 1)]) _
    exact retN X14 hx (t := .boolean) Bd.returns (by simp) (hb hby at_257) hr
  · exact ⟨rfl, N14⟩
theorem own_rem5 (x : Int32) : ((x &&& (2147483647 : Int32)) % (5 : Int32)) = (0 : Int32) ∨ ((x &&& (2147483647 : Int32)) % (5 : Int32)) = (1 : Int32) ∨ ((x &&& (2147483647 : Int32)) % (5 : Int32)) = (2 : Int32) ∨ ((x &&& (2147483647 : Int32)) % (5 : Int32)) = (3 : Int32) ∨ ((x &&& (2147483647 : Int32)) % (5 : Int32)) = (4 : Int32) := by
  have h := c_and x (2147483647 : Int32) (by decide)
  have h2 := (c_iremV (x &&& (2147483647 : Int32)) (5 : Int32)).1 h.1 (by decide)
  rw [show (5 : Int32).toInt = 5 by decide] at h2
  have q : (((x &&& (2147483647 : Int32)) % (5 : Int32))).toInt = 0 ∨ (((x &&& (2147483647 : Int32)) % (5 : Int32))).toInt = 1 ∨ (((x &&& (2147483647 : Int32)) % (5 : Int32))).toInt = 2 ∨ (((x &&& (2147483647 : Int32)) % (5 : Int32))).toInt = 3 ∨ (((x &&& (2147483647 : Int32)) % (5 : Int32))).toInt = 4 := by omega
  rcases q with q | q | q | q | q
  · exact Or.inl (Int32.toInt_inj.mp (q.trans (by decide)))
  · exact Or.inr (Or.inl (Int32.toInt_inj.mp (q.trans (by decide))))
  · exact Or.inr (Or.inr (Or.inl (Int32.toInt_inj.mp (q.trans (by decide)))))
  · exact Or.inr (Or.inr (Or.inr (Or.inl (Int32.toInt_inj.mp (q.trans (by decide))))))
  · exact Or.inr (Or.inr (Or.inr (Or.inr (Int32.toInt_inj.mp (q.trans (by decide))))))
theorem own_byte (x : Int32) : ∃ k : Fin 256, x &&& (255 : Int32) = Int32.ofNat k.val := by
  have h : (x &&& (255 : Int32)).toBitVec.toNat < 256 := by
    simp only [Int32.toBitVec_and, BitVec.toNat_and]
    exact Nat.lt_succ_of_le Nat.and_le_right
  refine ⟨⟨_, h⟩, ?_⟩
  apply Int32.toBitVec_inj.mp
  show _ = BitVec.ofNat 32 _
  rw [BitVec.ofNat_toNat]; simp
theorem own_char (x : Int32) : (((x &&& (255 : Int32)).toUInt32.toUInt16.toUInt32.toInt32).toUInt32.toUInt16.toUInt32.toInt32) = ((x &&& (255 : Int32)).toUInt32.toUInt16.toUInt32.toInt32) ∧ ¬ (((x &&& (255 : Int32)).toUInt32.toUInt16.toUInt32.toInt32) < (0 : Int32)) ∧ ¬ ((255 : Int32) < ((x &&& (255 : Int32)).toUInt32.toUInt16.toUInt32.toInt32)) := by
  obtain ⟨k, hk⟩ := own_byte x
  rw [hk]
  exact (by decide +kernel : ∀ k : Fin 256, (((Int32.ofNat k.val).toUInt32.toUInt16.toUInt32.toInt32).toUInt32.toUInt16.toUInt32.toInt32) = ((Int32.ofNat k.val).toUInt32.toUInt16.toUInt32.toInt32) ∧ ¬ (((Int32.ofNat k.val).toUInt32.toUInt16.toUInt32.toInt32) < (0 : Int32)) ∧ ¬ ((255 : Int32) < ((Int32.ofNat k.val).toUInt32.toUInt16.toUInt32.toInt32))) k
theorem own_cache {s : State} {args : Array Value} (w : Int64) (h10 : (Jvm.Cond.initializedFor "java/lang/Long$LongCache" "cache" "[Ljava/lang/Long;").before args s = true)
    (h11 : (Jvm.Cond.arrayOf (Jvm.Term.static "java/lang/Long$LongCache" "cache" "[Ljava/lang/Long;") (Jvm.ClassFile.FieldType.object "java/lang/Long")).before args s = true)
    (h13 : (Jvm.Cond.eq (Jvm.Term.length (Jvm.Term.static "java/lang/Long$LongCache" "cache" "[Ljava/lang/Long;")) (Jvm.Term.int (256 : Int32))).before args s = true)
    (h14 : (Jvm.Cond.all (Jvm.Term.static "java/lang/Long$LongCache" "cache" "[Ljava/lang/Long;") (Jvm.Cond.and (Jvm.Cond.exactly (Jvm.Term.elem (Jvm.Term.static "java/lang/Long$LongCache" "cache" "[Ljava/lang/Long;") (Jvm.Term.index (0 : Nat))) "java/lang/Long") (Jvm.Cond.eq (Jvm.Term.field (Jvm.Term.elem (Jvm.Term.static "java/lang/Long$LongCache" "cache" "[Ljava/lang/Long;") (Jvm.Term.index (0 : Nat))) "java/lang/Long" "value" "J") (Jvm.Term.op1 Jvm.Unary.i2l (Jvm.Term.sub (Jvm.Term.index (0 : Nat)) (Jvm.Term.int (128 : Int32))))))).before args s = true)
    (hw1 : ¬ w < -128) (hw2 : ¬ w > 127) : ∃ (arr : Addr) (cl : Cell) (bx : Addr), Sta s s.heap "java/lang/Long$LongCache" "cache" "[Ljava/lang/Long;" (.ref arr) ∧ Arr s s.heap arr cl (.object "java/lang/Long") ∧ ¬ ((w.toInt32 + (128 : Int32)) < 0 ∨ cl.slots.size ≤ (w.toInt32 + (128 : Int32)).toNatClampNeg) ∧ cl.slots[(w.toInt32 + (128 : Int32)).toNatClampNeg]? = some (.ref bx) ∧ Exa s s.heap bx "java/lang/Long" := by
  obtain ⟨arr, evC⟩ := arr_v (Cond.before_iff.mp h11)
  obtain ⟨cl, A⟩ := Arr.start evC (Cond.before_iff.mp h11)
  have S := Sta.start evC (Or.inl h10)
  have hat := IntBox.arrayAt_of A.1 A.2.1 A.2.2
  obtain ⟨hsz, hsize⟩ := IntBox.length_fwd h13 evC A.1 A.2.1 A.2.2
  have hsz256 : cl.slots.size = 256 := by
    have e : (cl.slots.size.toInt32).toInt = cl.slots.size := len_toInt hsz
    rw [hsize] at e
    have : ((256 : Int32)).toInt = 256 := by decide
    omega
  obtain ⟨hbnd, hlt⟩ := Jvm.Free.LongBox.place_okL w hw1 hw2
  have hall := Cond.all_elim evC hat (Cond.before_iff.mp h14)
  have hj := hall _ (by rw [hsz256]; exact hlt)
  obtain ⟨hex, -⟩ := and_e hj
  obtain ⟨bx, evE⟩ := exa_v hex
  have evCi : (Jvm.Term.static "java/lang/Long$LongCache" "cache" "[Ljava/lang/Long;").eval args s none [(w.toInt32 + 128).toNatClampNeg] s = some (.ref arr) := evC
  obtain ⟨hnn, hback⟩ := IntBox.place_nonneg _ hlt
  have evE0 : (Term.elem (Jvm.Term.static "java/lang/Long$LongCache" "cache" "[Ljava/lang/Long;") (.index 0)).eval args s none [(w.toInt32 + 128).toNatClampNeg] s = cl.slots[(w.toInt32 + 128).toNatClampNeg]? := by
    generalize Jvm.Term.static "java/lang/Long$LongCache" "cache" "[Ljava/lang/Long;" = tt at evCi ⊢
    simp [Term.eval, evCi, hnn, hat, hback]
  exact ⟨arr, cl, bx, S, A, by rw [hsz256]; exact hbnd, evE0.symm.trans evE, exa_at evE hex⟩
theorem own_fi {s : State} {args : Array Value} {t : Term} {C n d : String} {k : Int32} {a : Addr} (ev : t.eval args s none [] s = some (.ref a)) (h : (Jvm.Cond.eq (Term.field t C n d) (Term.int k)).value args s none s [] = some true) : Fld s s.heap a C n d (.int k) := by
  obtain ⟨x, y, h1, h2, h3, h4⟩ := cmp_v (Or.inl h)
  have e2 : y = .int k := (Option.some.inj (h2.symm.trans (Term.int_eval k)))
  subst e2
  obtain ⟨z, rfl⟩ := h4
  have e3 : z = k := gotT (Cond.eq_ints h1 h2) h
  subst e3
  exact Fld.start ((fld_at ev).symm.trans h1)
theorem own_fr {s : State} {args : Array Value} {t u : Term} {C n d : String} {a b : Addr} (ev : t.eval args s none [] s = some (.ref a)) (ev2 : u.eval args s none [] s = some (.ref b)) (h : (Jvm.Cond.eq (Term.field t C n d) u).value args s none s [] = some true) : Fld s s.heap a C n d (.ref b) := by
  obtain ⟨x, y, h1, h2, h3, h4⟩ := cmp_v (Or.inl h)
  obtain rfl : y = .ref b := Option.some.inj (h2.symm.trans ev2)
  have hx : x.isRef = true := h4.2
  have e3 : x = .ref b := gotT (eq_R h1 h2 hx rfl) h
  subst e3
  exact Fld.start ((fld_at ev).symm.trans h1)
set_option maxRecDepth 65536 in
set_option maxHeartbeats 40000000 in
theorem comes_1 {Post : Tables → Env → Array Value → State → Outcome → State → Prop} (hpost : ∀ tb e args s v u, (limb_1_1.after args s (.returned v) u = true ∧ limb_1_2.after args s (.returned v) u = true ∧ True) → FrameEnd s (.returned v) u (Jvm.fieldLocs frame_1_writes args s ++ Jvm.arrayLocs frame_1_arrays args s ++ Jvm.staticLocs frame_1_statics s) 32 128 → Post tb e args s (.returned v) u) :
    ArmFor flags0 classFile x code maxLocals ret World_1 tables_1 room_1 Calls_1 rest_1 Pre_1 Post := by
  intro l hfl _ _ p e ha hc hk s m args below hf hA hF happ hP
  obtain ⟨hcalls, hrest, hpre⟩ := hP
  obtain ⟨-, -, -, hnamed, -, -, -, hat⟩ := (Spec.applies_iff hf).mp happ
  obtain ⟨hg, hn⟩ := and_e (Cond.before_iff.mp (show (Jvm.Cond.and given_1 narrow_1).before args s = true from hpre))
  obtain ⟨j1, j2⟩ := and_e hg
  obtain ⟨j3, j4⟩ := and_e j2
  obtain ⟨j5, j6⟩ := and_e j4
  obtain ⟨j7, j8⟩ := and_e j6
  obtain ⟨j9, j10⟩ := and_e j8
  obtain ⟨j11, j12⟩ := and_e j10
  obtain ⟨w0, w1, w2, w3, w4, w5, rfl⟩ : ∃ w0 w1 w2 w3 w4 w5 : Value, args = #[w0, w1, w2, w3, w4, w5] := by
    have hs : args.size = 6 := by simpa [Cond.value, given_1] using j1
    obtain ⟨L⟩ := args
    match L, hs with
    | [w0, w1, w2, w3, w4, w5], _ => exact ⟨w0, w1, w2, w3, w4, w5, rfl⟩
  have hw := fun d (hd : d ∈ tables_1) => atoms_spec (ws := Jvm.Cond.code x code maxLocals ret :: tables_1) hat d (List.mem_cons_of_mem _ hd)
  have hfit : Fit s := fun {y c} hc i hi => by
    obtain ⟨ha, rfl⟩ := Array.getElem?_eq_some_iff.mp hc
    have q := List.all_eq_true.mp ((Array.all_eq_true_iff_forall_mem.mp hF) _ (Array.getElem_mem ha)) i (List.mem_range.mpr hi)
    simpa [Array.getElem?_eq_getElem hi] using q
  obtain ⟨hsets, hown0⟩ := atoms_of _ (rest_1_c_eq ▸ (show rest_1_c.before _ s = true from hrest))
  have hr0 := Cond.before_iff.mp hown0
  obtain ⟨i0, ei0⟩ := is_v j3
  obtain rfl : w0 = (.int i0) := Option.some.inj ei0
  obtain ⟨i1, ei1⟩ := is_v j5
  obtain rfl : w1 = (.int i1) := Option.some.inj ei1
  obtain ⟨i2, ei2⟩ := is_v j7
  obtain rfl : w2 = (.int i2) := Option.some.inj ei2
  obtain ⟨i3, ei3⟩ := isL_v j9
  obtain rfl : w3 = (.long i3) := Option.some.inj ei3
  obtain ⟨i4, ei4⟩ := is_v j11
  obtain rfl : w4 = (.int i4) := Option.some.inj ei4
  obtain ⟨i5, ei5⟩ := is_v j12
  obtain rfl : w5 = (.int i5) := Option.some.inj ei5
  have n5 := not_v (Cond.before_iff.mp (hsets _ (List.mem_of_getElem? (i := 2) rfl)))
  obtain ⟨w_COMPACT_STRINGS, ecs⟩ := is_v (Cond.before_iff.mp (hsets _ (List.mem_of_getElem? (i := 1) rfl)))
  have S_COMPACT_STRINGS := Sta.start ecs (Or.inl (hsets _ (List.mem_of_getElem? (i := 0) rfl)))
  have hcs : ¬ (w_COMPACT_STRINGS = (0 : Int32)) := gotF (Cond.eq_ints ecs (Term.int_eval (0))) n5
  have key : MetFree l x (head1 (Jvm.Cond.code x code maxLocals ret :: tables_1) room_1) (fun a U => a = #[(.int i0), (.int i1), (.int i2), (.long i3), (.int i4), (.int i5)] ∧ s.Warmed39 U.vm ∧ U.heap = s.heap) (fun _ _ _ _ _ => True) (fun _ U o U' => ∃ v L, o = .returned v ∧ Q_law s.heap.size v L ∧ FrameEnd U o U' L room_1.cells room_1.slots) := by
    rcases own_rem5 i0 with hk | hk | hk | hk | hk
    · exact rm_law_0 l s _ hw tables_1 i0 i1 i2 i3 i4 i5 ((i1 &&& (255 : Int32)).toUInt32.toUInt16.toUInt32.toInt32) ((i2 &&& (255 : Int32)).toUInt32.toUInt16.toUInt32.toInt32) ((i5 &&& (255 : Int32)).toUInt32.toUInt16.toUInt32.toInt32) w_COMPACT_STRINGS s.heap s.heap.size (Nat.le_refl _) S_COMPACT_STRINGS hcs (Old.start s) (own_char i1).2.2 (own_char i2).2.2 (own_char i5).2.2 rfl (own_char i1).1 rfl (own_char i2).1 rfl (own_char i5).1 hk
    · by_cases hlt : lcmpW i3 (-128 : Int64) < (0 : Int32)
      · exact rm_law_1lt l s _ hw tables_1 i0 i1 i2 i3 i4 i5 ((i1 &&& (255 : Int32)).toUInt32.toUInt16.toUInt32.toInt32) ((i2 &&& (255 : Int32)).toUInt32.toUInt16.toUInt32.toInt32) ((i5 &&& (255 : Int32)).toUInt32.toUInt16.toUInt32.toInt32) w_COMPACT_STRINGS s.heap s.heap.size (Nat.le_refl _) S_COMPACT_STRINGS hcs (Old.start s) (own_char i1).2.2 (own_char i2).2.2 (own_char i5).2.2 rfl (own_char i1).1 rfl (own_char i2).1 rfl (own_char i5).1 hk hlt
      · by_cases hgt : (0 : Int32) < lcmpW i3 (127 : Int64)
        · exact rm_law_1gt l s _ hw tables_1 i0 i1 i2 i3 i4 i5 ((i1 &&& (255 : Int32)).toUInt32.toUInt16.toUInt32.toInt32) ((i2 &&& (255 : Int32)).toUInt32.toUInt16.toUInt32.toInt32) ((i5 &&& (255 : Int32)).toUInt32.toUInt16.toUInt32.toInt32) w_COMPACT_STRINGS s.heap s.heap.size (Nat.le_refl _) S_COMPACT_STRINGS hcs (Old.start s) (own_char i1).2.2 (own_char i2).2.2 (own_char i5).2.2 rfl (own_char i1).1 rfl (own_char i2).1 rfl (own_char i5).1 hk hlt hgt
        · obtain ⟨w_cache, cl, bx, S_cache, hAr, hin, hat', E_bx⟩ := own_cache i3 (hsets _ (List.mem_of_getElem? (i := 10) rfl)) (hsets _ (List.mem_of_getElem? (i := 11) rfl)) (hsets _ (List.mem_of_getElem? (i := 13) rfl)) (hsets _ (List.mem_of_getElem? (i := 14) rfl)) (fun q => hlt ((lw_lt _ _).mpr q)) (fun q => hgt ((lw_gt _ _).mpr q))
          exact rm_law_1in l s _ hw tables_1 i0 i1 i2 i3 i4 i5 ((i1 &&& (255 : Int32)).toUInt32.toUInt16.toUInt32.toInt32) ((i2 &&& (255 : Int32)).toUInt32.toUInt16.toUInt32.toInt32) ((i5 &&& (255 : Int32)).toUInt32.toUInt16.toUInt32.toInt32) w_COMPACT_STRINGS bx w_cache cl s.heap s.heap.size (Nat.le_refl _) S_COMPACT_STRINGS hcs (Old.start s) E_bx (own_char i1).2.2 (own_char i2).2.2 (own_char i5).2.2 rfl (own_char i1).1 rfl (own_char i2).1 rfl (own_char i5).1 hk S_cache hAr hin hat' hlt hgt
    · exact rm_law_2 l s _ hw tables_1 i0 i1 i2 i3 i4 i5 ((i1 &&& (255 : Int32)).toUInt32.toUInt16.toUInt32.toInt32) ((i2 &&& (255 : Int32)).toUInt32.toUInt16.toUInt32.toInt32) ((i5 &&& (255 : Int32)).toUInt32.toUInt16.toUInt32.toInt32) w_COMPACT_STRINGS s.heap s.heap.size (Nat.le_refl _) S_COMPACT_STRINGS hcs (Old.start s) (own_char i1).2.2 (own_char i2).2.2 (own_char i5).2.2 rfl (own_char i1).1 rfl (own_char i2).1 rfl (own_char i5).1 hk
    · exact rm_law_3 l s _ hw tables_1 i0 i1 i2 i3 i4 i5 ((i1 &&& (255 : Int32)).toUInt32.toUInt16.toUInt32.toInt32) ((i2 &&& (255 : Int32)).toUInt32.toUInt16.toUInt32.toInt32) ((i5 &&& (255 : Int32)).toUInt32.toUInt16.toUInt32.toInt32) w_COMPACT_STRINGS s.heap s.heap.size (Nat.le_refl _) S_COMPACT_STRINGS hcs (Old.start s) (own_char i1).2.2 (own_char i2).2.2 (own_char i5).2.2 rfl (own_char i1).1 rfl (own_char i2).1 rfl (own_char i5).1 hk
    · exact rm_law_4 l s _ hw tables_1 i0 i1 i2 i3 i4 i5 ((i1 &&& (255 : Int32)).toUInt32.toUInt16.toUInt32.toInt32) ((i2 &&& (255 : Int32)).toUInt32.toUInt16.toUInt32.toInt32) ((i5 &&& (255 : Int32)).toUInt32.toUInt16.toUInt32.toInt32) w_COMPACT_STRINGS s.heap s.heap.size (Nat.le_refl _) S_COMPACT_STRINGS hcs (Old.start s) (own_char i1).2.2 (own_char i2).2.2 (own_char i5).2.2 rfl (own_char i1).1 rfl (own_char i2).1 rfl (own_char i5).1 hk
  obtain ⟨n, o, h1, h2, h3, _, L, rfl, ⟨rfl, N⟩, hq⟩ := key p e ha hc hk s m _ below hf ((Spec.applies_iff_loose hf).mp happ).1 ⟨rfl, State.Warmed39.refl s, rfl⟩ trivial
  refine ⟨n, _, h1, h2, h3, hpost _ _ _ _ _ _ ⟨Cond.after_iff.mpr rfl, Cond.after_iff.mpr (eq_i res_at (Term.int_eval (1)) rfl), trivial⟩ ⟨hq.1, hq.2.1, (hq.2.2.sift fun y hy => Or.inr (N y hy)).mono (by decide) (by decide)⟩⟩
theorem main_1_1 : Claimed_1_1 := comes_1 fun _ _ _ _ _ _ h hF => ⟨h.1, hF⟩
theorem main_1_2 : Claimed_1_2 := comes_1 fun _ _ _ _ _ _ h hF => ⟨h.2.1, hF⟩
end Jvm.Pilot.@@N@@
namespace Jvm.Pilot.@@N@@
open Jvm Jvm.ClassFile Sem Op Lib Jvm.Free Jvm.Stand Jvm.Pilot.@@N@@.Jvm.D
/-! MADE BY PROGRAM (witnessworld.py) out of the Statement's table words and the real class files: 25 classes; the members and pool entries that the words name. The judged class is class 1, her method 1. -/
namespace start1
open Jvm.ClassFile
def u (s : String) : CpInfo := .utf8 (stringToUtf16 s)
/-- a pool by its gaps: so many unusable entries, then the entry; so many at the end -/
def gap : Nat → List CpInfo → List CpInfo
  | 0, r => r
  | n + 1, r => .unusable :: gap n r
def poolList (es : List (Nat × CpInfo)) (last : Nat) : List CpInfo := es.foldr (fun e r => gap e.1 (e.2 :: r)) (gap last [])
def pool (es : List (Nat × CpInfo)) (last : Nat) : Array CpInfo := ⟨poolList es last⟩
def fileOf (pool : Array CpInfo) (this : Nat) (attrs : Array Attribute := #[]) (ms : Array MethodInfo := #[]) (fl : Nat := 33) (sup : Nat := 0) (ifs : Array Nat := #[]) (fds : Array FieldInfo := #[]) : ClassFile where
  minorVersion := 0
  majorVersion := 65
  constantPool := pool
  accessFlags := fl
  thisClass := this
  superClass := sup
  interfaces := ifs
  fields := fds
  methods := ms
  attributes := attrs
def plain (name : String) (sup : Option ClassId) : Class where
  name := name
  kind := .ordinary
  loader := none
  accessFlags := 33
  super := sup
  interfaces := #[]
  cf := none
  fields := #[]
  methods := #[]
  instanceTypes := #[]
  staticTypes := #[]
  resolved := #[]
  callSites := []
  init := .initialized
  statics := none
  mirror := none

def pool0 : Array CpInfo := pool [(5, u "<init>"), (0, u "()V"), (1, .class_ 10), (1, u "java/lang/Object")] 113

def k0c0 : Code := { maxStack := 0, maxLocals := 1, code := object_method_1_code, exceptionTable := #[], attributes := #[] }
def k0m0 : Method := { name := "<init>", desc := "()V", sig := { parameters := [], returnType := none }, accessFlags := 1, code := some k0c0 }
/-- java/lang/Object -/
def k0 : Class := { plain "java/lang/Object" none with
  accessFlags := 33
  interfaces := #[]
  cf := some (fileOf pool0 8 #[] #[{ accessFlags := 1, nameIndex := 5, descriptorIndex := 6, attributes := #[] }] 33 0 #[] #[])
  fields := #[]
  methods := #[k0m0]
  instanceTypes := #[]
  staticTypes := #[]
  resolved := Array.replicate 124 none
  statics := none }

def pool1 : Array CpInfo := pool [(2, .class_ 4), (1, u "java/lang/Object"), (0, u "<init>"), (0, u "()V"), (0, .class_ 8), (0, u "java/lang/String"), (0, .methodref 7 10), (0, .nameAndType 5 11), (0, u "([C)V"), (0, .integer 2147483647), (0, .class_ 14), (0, u "com/example/commitgate/commitgate/store/KeySpelling"), (0, .methodref 13 16), (0, .nameAndType 5 17), (0, u "(Ljava/lang/String;[B)V"), (0, .methodref 13 19), (0, .nameAndType 20 21), (0, u "text"), (0, u "(Ljava/lang/Object;)Ljava/lang/Object;"), (0, .methodref 23 24), (0, .class_ 25), (0, .nameAndType 26 27), (0, u "java/lang/Long"), (0, u "valueOf"), (0, u "(J)Ljava/lang/Long;"), (0, .class_ 29), (0, u "com/example/commitgate/commitgate/store/KeySpellingTextPinLaw"), (2, u "law"), (0, u "(IIIJII)Z")] 7

def k1m0 : Method := { name := "<init>", desc := "()V", sig := { parameters := [], returnType := none }, accessFlags := 1, code := none }
def k1c1 : Code := { maxStack := 5, maxLocals := 17, code := code, exceptionTable := #[], attributes := #[] }
def k1m1 : Method := { name := "law", desc := "(IIIJII)Z", sig := { parameters := [.int, .int, .int, .long, .int, .int], returnType := some .boolean }, accessFlags := 9, code := some k1c1 }
/-- com/example/commitgate/commitgate/store/KeySpellingTextPinLaw -/
def k1 : Class := { plain "com/example/commitgate/commitgate/store/KeySpellingTextPinLaw" (some 0) with
  accessFlags := 49
  interfaces := #[]
  cf := some (fileOf pool1 28 #[] #[{ accessFlags := 1, nameIndex := 5, descriptorIndex := 6, attributes := #[] }, { accessFlags := 9, nameIndex := 32, descriptorIndex := 33, attributes := #[] }] 49 2 #[] #[])
  fields := #[]
  methods := #[k1m0, k1m1]
  instanceTypes := #[]
  staticTypes := #[]
  resolved := Array.replicate 41 none
  statics := none }

def pool2 : Array CpInfo := pool [(1, .class_ 2), (0, u "java/io/Serializable"), (0, .class_ 4), (0, u "java/lang/Object")] 2

/-- java/io/Serializable -/
def k2 : Class := { plain "java/io/Serializable" (some 0) with
  accessFlags := 1537
  interfaces := #[]
  cf := some (fileOf pool2 1 #[] #[] 1537 3 #[] #[])
  fields := #[]
  methods := #[]
  instanceTypes := #[]
  staticTypes := #[]
  resolved := Array.replicate 7 none
  statics := none }

def pool3 : Array CpInfo := pool [(1, .class_ 2), (0, u "java/lang/Comparable"), (0, .class_ 4), (0, u "java/lang/Object")] 7

/-- java/lang/Comparable -/
def k3 : Class := { plain "java/lang/Comparable" (some 0) with
  accessFlags := 1537
  interfaces := #[]
  cf := some (fileOf pool3 1 #[] #[] 1537 3 #[] #[])
  fields := #[]
  methods := #[]
  instanceTypes := #[]
  staticTypes := #[]
  resolved := Array.replicate 12 none
  statics := none }

def pool4 : Array CpInfo := pool [(2, .class_ 4), (1, u "java/lang/CharSequence"), (42, .class_ 48), (0, u "java/lang/CharSequence$1CodePointIterator"), (10, .class_ 60), (0, u "java/lang/CharSequence$1CharIterator"), (5, .class_ 67), (0, u "java/lang/Object")] 63

/-- java/lang/CharSequence -/
def k4 : Class := { plain "java/lang/CharSequence" (some 0) with
  accessFlags := 1537
  interfaces := #[]
  cf := some (fileOf pool4 2 #[.nestMembers #[47, 59]] #[] 1537 66 #[] #[])
  fields := #[]
  methods := #[]
  instanceTypes := #[]
  staticTypes := #[]
  resolved := Array.replicate 131 none
  statics := none }

def pool5 : Array CpInfo := pool [(1, .class_ 2), (0, u "java/lang/constant/Constable"), (0, .class_ 4), (0, u "java/lang/Object")] 6

/-- java/lang/constant/Constable -/
def k5 : Class := { plain "java/lang/constant/Constable" (some 0) with
  accessFlags := 1537
  interfaces := #[]
  cf := some (fileOf pool5 1 #[] #[] 1537 3 #[] #[])
  fields := #[]
  methods := #[]
  instanceTypes := #[]
  staticTypes := #[]
  resolved := Array.replicate 11 none
  statics := none }

def pool6 : Array CpInfo := pool [(1, .class_ 2), (0, u "java/lang/constant/ConstantDesc"), (0, .class_ 4), (0, u "java/lang/Object")] 32

/-- java/lang/constant/ConstantDesc -/
def k6 : Class := { plain "java/lang/constant/ConstantDesc" (some 0) with
  accessFlags := 1537
  interfaces := #[]
  cf := some (fileOf pool6 1 #[] #[] 1537 3 #[] #[])
  fields := #[]
  methods := #[]
  instanceTypes := #[]
  staticTypes := #[]
  resolved := Array.replicate 37 none
  statics := none }

def pool7 : Array CpInfo := pool [(1, .methodref 2 3), (0, .class_ 4), (0, .nameAndType 5 6), (0, u "java/lang/Object"), (0, u "<init>"), (0, u "()V"), (2, .fieldref 10 11), (0, .class_ 12), (0, .nameAndType 13 14), (0, u "java/lang/String"), (0, u "value"), (0, u "[B"), (0, .fieldref 10 16), (0, .nameAndType 17 18), (0, u "coder"), (0, u "B"), (2, u "hash"), (0, u "I"), (2, u "hashIsZero"), (0, u "Z"), (0, .methodref 10 28), (0, .nameAndType 5 29), (0, u "([CIILjava/lang/Void;)V"), (8, .fieldref 10 39), (0, .nameAndType 40 26), (0, u "COMPACT_STRINGS"), (1, .class_ 44), (1, u "java/lang/StringUTF16"), (0, u "compress"), (1, .methodref 42 48), (0, .nameAndType 49 50), (0, u "coderFromArrayLen"), (0, u "([BI)B"), (126, .methodref 42 178), (0, .nameAndType 45 179), (0, u "([CII)[B"), (395, .class_ 576), (0, u "java/lang/CharSequence"), (22, u "CASE_INSENSITIVE_ORDER"), (0, u "Ljava/util/Comparator;"), (409, u "([C)V"), (90, u "serialPersistentFields"), (0, u "[Ljava/io/ObjectStreamField;"), (0, .class_ 1104), (0, u "java/lang/String$CaseInsensitiveComparator"), (1, .class_ 1107), (0, u "java/io/Serializable"), (0, .class_ 1109), (0, u "java/lang/Comparable"), (0, .class_ 1111), (0, u "java/lang/constant/Constable"), (0, .class_ 1113), (0, u "java/lang/constant/ConstantDesc"), (2, u "serialVersionUID"), (0, u "J"), (3, u "REPL"), (0, u "C"), (2, u "LATIN1"), (1, u "UTF16")] 323

def k7m0 : Method := { name := "<init>", desc := "()V", sig := { parameters := [], returnType := none }, accessFlags := 1, code := none }
def k7c1 : Code := { maxStack := 5, maxLocals := 2, code := jdk_42_method_3_code, exceptionTable := #[], attributes := #[] }
def k7m1 : Method := { name := "<init>", desc := "([C)V", sig := { parameters := [(.array .char)], returnType := none }, accessFlags := 1, code := some k7c1 }
def k7c2 : Code := { maxStack := 4, maxLocals := 6, code := jdk_42_method_149_code, exceptionTable := #[], attributes := #[] }
def k7m2 : Method := { name := "<init>", desc := "([CIILjava/lang/Void;)V", sig := { parameters := [(.array .char), .int, .int, (.object "java/lang/Void")], returnType := none }, accessFlags := 2, code := some k7c2 }
/-- java/lang/String -/
def k7 : Class := { plain "java/lang/String" (some 0) with
  accessFlags := 49
  interfaces := #[2, 3, 4, 5, 6]
  cf := some (fileOf pool7 10 #[.nestMembers #[1103]] #[{ accessFlags := 1, nameIndex := 5, descriptorIndex := 6, attributes := #[] }, { accessFlags := 1, nameIndex := 5, descriptorIndex := 1010, attributes := #[] }, { accessFlags := 2, nameIndex := 5, descriptorIndex := 29, attributes := #[] }] 49 2 #[1106, 1108, 575, 1110, 1112] #[{ accessFlags := 18, nameIndex := 13, descriptorIndex := 14, attributes := #[] }, { accessFlags := 18, nameIndex := 17, descriptorIndex := 18, attributes := #[] }, { accessFlags := 2, nameIndex := 21, descriptorIndex := 22, attributes := #[] }, { accessFlags := 2, nameIndex := 25, descriptorIndex := 26, attributes := #[] }, { accessFlags := 26, nameIndex := 1116, descriptorIndex := 1117, attributes := #[] }, { accessFlags := 24, nameIndex := 40, descriptorIndex := 26, attributes := #[] }, { accessFlags := 26, nameIndex := 1101, descriptorIndex := 1102, attributes := #[] }, { accessFlags := 26, nameIndex := 1121, descriptorIndex := 1122, attributes := #[] }, { accessFlags := 25, nameIndex := 599, descriptorIndex := 600, attributes := #[] }, { accessFlags := 24, nameIndex := 1125, descriptorIndex := 18, attributes := #[] }, { accessFlags := 24, nameIndex := 1127, descriptorIndex := 18, attributes := #[] }])
  fields := #[{ name := "value", type := (.array .byte), accessFlags := 18, slot := 0, constantValue := 0 }, { name := "coder", type := .byte, accessFlags := 18, slot := 1, constantValue := 0 }, { name := "hash", type := .int, accessFlags := 2, slot := 2, constantValue := 0 }, { name := "hashIsZero", type := .boolean, accessFlags := 2, slot := 3, constantValue := 0 }, { name := "serialVersionUID", type := .long, accessFlags := 26, slot := 0, constantValue := 0 }, { name := "COMPACT_STRINGS", type := .boolean, accessFlags := 24, slot := 1, constantValue := 0 }, { name := "serialPersistentFields", type := (.array (.object "java/io/ObjectStreamField")), accessFlags := 26, slot := 2, constantValue := 0 }, { name := "REPL", type := .char, accessFlags := 26, slot := 3, constantValue := 0 }, { name := "CASE_INSENSITIVE_ORDER", type := (.object "java/util/Comparator"), accessFlags := 25, slot := 4, constantValue := 0 }, { name := "LATIN1", type := .byte, accessFlags := 24, slot := 5, constantValue := 0 }, { name := "UTF16", type := .byte, accessFlags := 24, slot := 6, constantValue := 0 }]
  methods := #[k7m0, k7m1, k7m2]
  instanceTypes := #[(.array .byte), .byte, .int, .boolean]
  staticTypes := #[.long, .boolean, (.array (.object "java/io/ObjectStreamField")), .char, (.object "java/util/Comparator"), .byte, .byte]
  resolved := Array.replicate 1451 none
  statics := some 0 }

def pool8 : Array CpInfo := pool [(6, .class_ 8), (1, u "java/lang/Object"), (0, u "<init>"), (0, u "()V"), (1, .class_ 14), (1, u "java/lang/StringUTF16"), (31, u "$assertionsDisabled"), (0, u "Z"), (13, u "HI_BYTE_SHIFT"), (0, u "I"), (2, u "LO_BYTE_SHIFT"), (49, .methodref 12 116), (0, .nameAndType 117 118), (0, u "compress"), (0, u "([CI[BII)I"), (3, u "([CII)[B"), (138, u "coderFromArrayLen"), (0, u "([BI)B"), (106, .class_ 371), (1, u "java/lang/StringUTF16$LinesSpliterator"), (58, u "MAX_LENGTH"), (196, .class_ 628), (0, u "java/lang/StringUTF16$CodePointsSpliterator"), (0, .class_ 630), (0, u "java/lang/StringUTF16$CharsSpliterator")] 4

def k8m0 : Method := { name := "<init>", desc := "()V", sig := { parameters := [], returnType := none }, accessFlags := 0, code := none }
def k8c1 : Code := { maxStack := 2, maxLocals := 2, code := jdk_52_method_15_code, exceptionTable := #[], attributes := #[] }
def k8m1 : Method := { name := "coderFromArrayLen", desc := "([BI)B", sig := { parameters := [(.array .byte), .int], returnType := some .byte }, accessFlags := 8, code := some k8c1 }
def k8c2 : Code := { maxStack := 5, maxLocals := 6, code := jdk_52_method_16_code, exceptionTable := #[], attributes := #[] }
def k8m2 : Method := { name := "compress", desc := "([CII)[B", sig := { parameters := [(.array .char), .int, .int], returnType := some (.array .byte) }, accessFlags := 9, code := some k8c2 }
def k8c3 : Code := { maxStack := 3, maxLocals := 7, code := jdk_52_method_21_code, exceptionTable := #[], attributes := #[] }
def k8m3 : Method := { name := "compress", desc := "([CI[BII)I", sig := { parameters := [(.array .char), .int, (.array .byte), .int, .int], returnType := some .int }, accessFlags := 9, code := some k8c3 }
/-- java/lang/StringUTF16 -/
def k8 : Class := { plain "java/lang/StringUTF16" (some 0) with
  accessFlags := 48
  interfaces := #[]
  cf := some (fileOf pool8 12 #[.nestMembers #[627, 629, 369]] #[{ accessFlags := 0, nameIndex := 9, descriptorIndex := 10, attributes := #[] }, { accessFlags := 8, nameIndex := 261, descriptorIndex := 262, attributes := #[] }, { accessFlags := 9, nameIndex := 117, descriptorIndex := 122, attributes := #[] }, { accessFlags := 9, nameIndex := 117, descriptorIndex := 118, attributes := #[] }] 48 6 #[] #[{ accessFlags := 26, nameIndex := 61, descriptorIndex := 62, attributes := #[] }, { accessFlags := 26, nameIndex := 65, descriptorIndex := 62, attributes := #[] }, { accessFlags := 24, nameIndex := 430, descriptorIndex := 62, attributes := #[] }, { accessFlags := 4120, nameIndex := 46, descriptorIndex := 47, attributes := #[] }])
  fields := #[{ name := "HI_BYTE_SHIFT", type := .int, accessFlags := 26, slot := 0, constantValue := 0 }, { name := "LO_BYTE_SHIFT", type := .int, accessFlags := 26, slot := 1, constantValue := 0 }, { name := "MAX_LENGTH", type := .int, accessFlags := 24, slot := 2, constantValue := 0 }, { name := "$assertionsDisabled", type := .boolean, accessFlags := 4120, slot := 3, constantValue := 0 }]
  methods := #[k8m0, k8m1, k8m2, k8m3]
  instanceTypes := #[]
  staticTypes := #[.int, .int, .int, .boolean]
  resolved := Array.replicate 635 none
  statics := none }

def pool9 : Array CpInfo := pool [(1, .class_ 2), (0, u "com/example/commitgate/commitgate/gate/Footprint$Sized"), (0, .class_ 4), (0, u "java/lang/Object"), (5, .class_ 11), (0, u "com/example/commitgate/commitgate/gate/Footprint")] 2

/-- com/example/commitgate/commitgate/gate/Footprint$Sized -/
def k9 : Class := { plain "com/example/commitgate/commitgate/gate/Footprint$Sized" (some 0) with
  accessFlags := 1537
  interfaces := #[]
  cf := some (fileOf pool9 1 #[.nestHost 10] #[] 1537 3 #[] #[])
  fields := #[]
  methods := #[]
  instanceTypes := #[]
  staticTypes := #[]
  resolved := Array.replicate 14 none
  statics := none }

def pool10 : Array CpInfo := pool [(1, .methodref 2 3), (0, .class_ 4), (0, .nameAndType 5 6), (0, u "java/lang/Object"), (0, u "<init>"), (0, u "()V"), (0, .fieldref 8 9), (0, .class_ 10), (0, .nameAndType 11 12), (0, u "com/example/commitgate/commitgate/store/KeySpelling"), (0, u "text"), (0, u "Ljava/lang/String;"), (0, .fieldref 8 14), (0, .nameAndType 15 16), (0, u "identity"), (0, u "[B"), (18, .class_ 36), (0, u "com/example/commitgate/commitgate/gate/Footprint$Sized"), (0, u "SPELLING_BYTES"), (0, u "J"), (1, u "(Ljava/lang/String;[B)V"), (2, u "(Ljava/lang/Object;)Ljava/lang/Object;")] 11

def k10c0 : Code := { maxStack := 2, maxLocals := 3, code := prog_168_method_1_code, exceptionTable := #[], attributes := #[] }
def k10m0 : Method := { name := "<init>", desc := "(Ljava/lang/String;[B)V", sig := { parameters := [(.object "java/lang/String"), (.array .byte)], returnType := none }, accessFlags := 0, code := some k10c0 }
def k10c1 : Code := { maxStack := 1, maxLocals := 2, code := prog_168_method_2_code, exceptionTable := #[], attributes := #[] }
def k10m1 : Method := { name := "text", desc := "(Ljava/lang/Object;)Ljava/lang/Object;", sig := { parameters := [(.object "java/lang/Object")], returnType := some (.object "java/lang/Object") }, accessFlags := 8, code := some k10c1 }
/-- com/example/commitgate/commitgate/store/KeySpelling -/
def k10 : Class := { plain "com/example/commitgate/commitgate/store/KeySpelling" (some 0) with
  accessFlags := 48
  interfaces := #[9]
  cf := some (fileOf pool10 8 #[] #[{ accessFlags := 0, nameIndex := 5, descriptorIndex := 40, attributes := #[] }, { accessFlags := 8, nameIndex := 11, descriptorIndex := 43, attributes := #[] }] 48 2 #[35] #[{ accessFlags := 26, nameIndex := 37, descriptorIndex := 38, attributes := #[] }, { accessFlags := 18, nameIndex := 11, descriptorIndex := 12, attributes := #[] }, { accessFlags := 18, nameIndex := 15, descriptorIndex := 16, attributes := #[] }])
  fields := #[{ name := "SPELLING_BYTES", type := .long, accessFlags := 26, slot := 0, constantValue := 0 }, { name := "text", type := (.object "java/lang/String"), accessFlags := 18, slot := 0, constantValue := 0 }, { name := "identity", type := (.array .byte), accessFlags := 18, slot := 1, constantValue := 0 }]
  methods := #[k10m0, k10m1]
  instanceTypes := #[(.object "java/lang/String"), (.array .byte)]
  staticTypes := #[.long]
  resolved := Array.replicate 55 none
  statics := none }

def pool11 : Array CpInfo := pool [(1, .methodref 2 3), (0, .class_ 4), (0, .nameAndType 5 6), (0, u "java/lang/Object"), (0, u "<init>"), (0, u "()V"), (1, .class_ 10), (1, u "java/lang/Number"), (2, .class_ 14), (0, u "java/io/Serializable"), (0, u "serialVersionUID"), (0, u "J")] 20

def k11c0 : Code := { maxStack := 1, maxLocals := 1, code := jdk_18_method_1_code, exceptionTable := #[], attributes := #[] }
def k11m0 : Method := { name := "<init>", desc := "()V", sig := { parameters := [], returnType := none }, accessFlags := 1, code := some k11c0 }
/-- java/lang/Number -/
def k11 : Class := { plain "java/lang/Number" (some 0) with
  accessFlags := 1057
  interfaces := #[2]
  cf := some (fileOf pool11 8 #[] #[{ accessFlags := 1, nameIndex := 5, descriptorIndex := 6, attributes := #[] }] 1057 2 #[13] #[{ accessFlags := 26, nameIndex := 15, descriptorIndex := 16, attributes := #[] }])
  fields := #[{ name := "serialVersionUID", type := .long, accessFlags := 26, slot := 0, constantValue := 0 }]
  methods := #[k11m0]
  instanceTypes := #[]
  staticTypes := #[.long]
  resolved := Array.replicate 37 none
  statics := none }

def pool12 : Array CpInfo := pool [(1, .class_ 2), (0, u "java/lang/Long"), (55, .nameAndType 59 60), (0, u "<init>"), (0, u "()V"), (24, u "valueOf"), (143, u "(J)Ljava/lang/Long;"), (0, .long 18446744073709551488), (1, .long 127), (1, .fieldref 235 236), (0, .class_ 237), (0, .nameAndType 238 239), (0, u "java/lang/Long$LongCache"), (0, u "cache"), (0, u "[Ljava/lang/Long;"), (0, .methodref 1 241), (0, .nameAndType 59 242), (0, u "(J)V"), (27, .methodref 271 58), (0, .class_ 272), (0, u "java/lang/Number"), (0, .fieldref 1 274), (0, .nameAndType 275 276), (0, u "value"), (0, u "J"), (84, u "TYPE"), (0, u "Ljava/lang/Class;"), (0, .class_ 364), (0, u "java/lang/Comparable"), (0, .class_ 366), (0, u "java/lang/constant/Constable"), (0, .class_ 368), (0, u "java/lang/constant/ConstantDesc"), (0, u "MIN_VALUE"), (1, u "MAX_VALUE"), (4, u "SIZE"), (0, u "I"), (1, u "BYTES"), (1, u "serialVersionUID")] 142

def k12c0 : Code := { maxStack := 4, maxLocals := 3, code := jdk_35_method_24_code, exceptionTable := #[], attributes := #[] }
def k12m0 : Method := { name := "valueOf", desc := "(J)Ljava/lang/Long;", sig := { parameters := [.long], returnType := some (.object "java/lang/Long") }, accessFlags := 9, code := some k12c0 }
def k12c1 : Code := { maxStack := 3, maxLocals := 3, code := jdk_35_method_26_code, exceptionTable := #[], attributes := #[] }
def k12m1 : Method := { name := "<init>", desc := "(J)V", sig := { parameters := [.long], returnType := none }, accessFlags := 1, code := some k12c1 }
/-- java/lang/Long -/
def k12 : Class := { plain "java/lang/Long" (some 11) with
  accessFlags := 49
  interfaces := #[3, 5, 6]
  cf := some (fileOf pool12 1 #[.nestMembers #[235]] #[{ accessFlags := 9, nameIndex := 85, descriptorIndex := 229, attributes := #[] }, { accessFlags := 1, nameIndex := 59, descriptorIndex := 242, attributes := #[] }] 49 271 #[363, 365, 367] #[{ accessFlags := 25, nameIndex := 369, descriptorIndex := 276, attributes := #[] }, { accessFlags := 25, nameIndex := 371, descriptorIndex := 276, attributes := #[] }, { accessFlags := 25, nameIndex := 361, descriptorIndex := 362, attributes := #[] }, { accessFlags := 18, nameIndex := 275, descriptorIndex := 276, attributes := #[] }, { accessFlags := 25, nameIndex := 376, descriptorIndex := 377, attributes := #[] }, { accessFlags := 25, nameIndex := 379, descriptorIndex := 377, attributes := #[] }, { accessFlags := 26, nameIndex := 381, descriptorIndex := 276, attributes := #[] }])
  fields := #[{ name := "MIN_VALUE", type := .long, accessFlags := 25, slot := 0, constantValue := 0 }, { name := "MAX_VALUE", type := .long, accessFlags := 25, slot := 1, constantValue := 0 }, { name := "TYPE", type := (.object "java/lang/Class"), accessFlags := 25, slot := 2, constantValue := 0 }, { name := "value", type := .long, accessFlags := 18, slot := 0, constantValue := 0 }, { name := "SIZE", type := .int, accessFlags := 25, slot := 3, constantValue := 0 }, { name := "BYTES", type := .int, accessFlags := 25, slot := 4, constantValue := 0 }, { name := "serialVersionUID", type := .long, accessFlags := 26, slot := 5, constantValue := 0 }]
  methods := #[k12m0, k12m1]
  instanceTypes := #[.long]
  staticTypes := #[.long, .long, (.object "java/lang/Class"), .int, .int, .long]
  resolved := Array.replicate 524 none
  statics := none }

def pool13 : Array CpInfo := pool [(2, .class_ 4), (1, u "java/lang/Object"), (0, u "<init>"), (0, u "()V"), (0, .class_ 8), (0, u "java/lang/Long"), (7, .class_ 18), (1, u "java/lang/Long$LongCache"), (0, u "$assertionsDisabled"), (0, u "Z"), (8, u "archivedCache"), (0, u "[Ljava/lang/Long;"), (7, u "cache")] 24

def k13m0 : Method := { name := "<init>", desc := "()V", sig := { parameters := [], returnType := none }, accessFlags := 2, code := none }
/-- java/lang/Long$LongCache -/
def k13 : Class := { plain "java/lang/Long$LongCache" (some 0) with
  accessFlags := 48
  interfaces := #[]
  cf := some (fileOf pool13 16 #[.nestHost 7] #[{ accessFlags := 2, nameIndex := 5, descriptorIndex := 6, attributes := #[] }] 48 2 #[] #[{ accessFlags := 24, nameIndex := 38, descriptorIndex := 30, attributes := #[] }, { accessFlags := 8, nameIndex := 29, descriptorIndex := 30, attributes := #[] }, { accessFlags := 4120, nameIndex := 19, descriptorIndex := 20, attributes := #[] }])
  fields := #[{ name := "cache", type := (.array (.object "java/lang/Long")), accessFlags := 24, slot := 0, constantValue := 0 }, { name := "archivedCache", type := (.array (.object "java/lang/Long")), accessFlags := 8, slot := 1, constantValue := 0 }, { name := "$assertionsDisabled", type := .boolean, accessFlags := 4120, slot := 2, constantValue := 0 }]
  methods := #[k13m0]
  instanceTypes := #[]
  staticTypes := #[(.array (.object "java/lang/Long")), (.array (.object "java/lang/Long")), .boolean]
  resolved := Array.replicate 63 none
  statics := some 1 }

def pool14 : Array CpInfo := pool [(4, .class_ 6), (1, u "java/lang/Object"), (0, u "<init>"), (0, u "()V"), (5, .class_ 16), (1, u "java/lang/StringLatin1"), (104, u "$assertionsDisabled"), (0, u "Z"), (98, .class_ 223), (1, u "java/lang/StringLatin1$LinesSpliterator"), (166, .class_ 391), (0, u "java/lang/StringLatin1$CharsSpliterator")] 3

def k14m0 : Method := { name := "<init>", desc := "()V", sig := { parameters := [], returnType := none }, accessFlags := 0, code := none }
/-- java/lang/StringLatin1 -/
def k14 : Class := { plain "java/lang/StringLatin1" (some 0) with
  accessFlags := 48
  interfaces := #[]
  cf := some (fileOf pool14 14 #[.nestMembers #[390, 221]] #[{ accessFlags := 0, nameIndex := 7, descriptorIndex := 8, attributes := #[] }] 48 4 #[] #[{ accessFlags := 4120, nameIndex := 121, descriptorIndex := 122, attributes := #[] }])
  fields := #[{ name := "$assertionsDisabled", type := .boolean, accessFlags := 4120, slot := 0, constantValue := 0 }]
  methods := #[k14m0]
  instanceTypes := #[]
  staticTypes := #[.boolean]
  resolved := Array.replicate 395 none
  statics := none }

def pool15 : Array CpInfo := pool [(2, .class_ 4), (1, u "java/lang/Object"), (0, u "<init>"), (0, u "()V"), (17, .class_ 26), (1, u "jdk/internal/util/Preconditions"), (28, .class_ 56), (0, u "jdk/internal/util/Preconditions$4"), (57, .class_ 115), (0, u "jdk/internal/util/Preconditions$1"), (7, u "SIOOBE_FORMATTER"), (0, u "Ljava/util/function/BiFunction;"), (0, .class_ 126), (0, u "jdk/internal/util/Preconditions$2"), (3, u "AIOOBE_FORMATTER"), (0, .class_ 132), (0, u "jdk/internal/util/Preconditions$3"), (3, u "IOOBE_FORMATTER")] 57

def k15m0 : Method := { name := "<init>", desc := "()V", sig := { parameters := [], returnType := none }, accessFlags := 1, code := none }
/-- jdk/internal/util/Preconditions -/
def k15 : Class := { plain "jdk/internal/util/Preconditions" (some 0) with
  accessFlags := 33
  interfaces := #[]
  cf := some (fileOf pool15 24 #[.nestMembers #[55, 131, 125, 114]] #[{ accessFlags := 1, nameIndex := 5, descriptorIndex := 6, attributes := #[] }] 33 2 #[] #[{ accessFlags := 25, nameIndex := 123, descriptorIndex := 124, attributes := #[] }, { accessFlags := 25, nameIndex := 130, descriptorIndex := 124, attributes := #[] }, { accessFlags := 25, nameIndex := 136, descriptorIndex := 124, attributes := #[] }])
  fields := #[{ name := "SIOOBE_FORMATTER", type := (.object "java/util/function/BiFunction"), accessFlags := 25, slot := 0, constantValue := 0 }, { name := "AIOOBE_FORMATTER", type := (.object "java/util/function/BiFunction"), accessFlags := 25, slot := 1, constantValue := 0 }, { name := "IOOBE_FORMATTER", type := (.object "java/util/function/BiFunction"), accessFlags := 25, slot := 2, constantValue := 0 }]
  methods := #[k15m0]
  instanceTypes := #[]
  staticTypes := #[(.object "java/util/function/BiFunction"), (.object "java/util/function/BiFunction"), (.object "java/util/function/BiFunction")]
  resolved := Array.replicate 194 none
  statics := some 2 }

def pool16 : Array CpInfo := pool [(9, u "<init>"), (6, .class_ 18), (1, u "java/lang/Object"), (0, u "()V"), (1, .class_ 23), (1, u "jdk/internal/util/ArraysSupport"), (0, u "LOG2_ARRAY_LONG_INDEX_SCALE"), (0, u "I"), (2, u "U"), (0, u "Ljdk/internal/misc/Unsafe;"), (8, u "BIG_ENDIAN"), (0, u "Z"), (8, u "LOG2_BYTE_BIT_SIZE"), (4, u "LOG2_ARRAY_INT_INDEX_SCALE"), (54, u "JLA"), (0, u "Ljdk/internal/access/JavaLangAccess;"), (11, u "LOG2_ARRAY_BOOLEAN_INDEX_SCALE"), (9, u "LOG2_ARRAY_BYTE_INDEX_SCALE"), (5, u "LOG2_ARRAY_CHAR_INDEX_SCALE"), (5, u "LOG2_ARRAY_SHORT_INDEX_SCALE"), (18, u "LOG2_ARRAY_FLOAT_INDEX_SCALE"), (24, u "LOG2_ARRAY_DOUBLE_INDEX_SCALE"), (89, u "T_BOOLEAN"), (2, u "T_CHAR"), (1, u "T_FLOAT"), (1, u "T_DOUBLE"), (1, u "T_BYTE"), (1, u "T_SHORT"), (1, u "T_INT"), (1, u "T_LONG"), (1, u "SOFT_MAX_ARRAY_LENGTH")] 83

def k16m0 : Method := { name := "<init>", desc := "()V", sig := { parameters := [], returnType := none }, accessFlags := 2, code := none }
/-- jdk/internal/util/ArraysSupport -/
def k16 : Class := { plain "jdk/internal/util/ArraysSupport" (some 0) with
  accessFlags := 33
  interfaces := #[]
  cf := some (fileOf pool16 21 #[] #[{ accessFlags := 2, nameIndex := 9, descriptorIndex := 19, attributes := #[] }] 33 16 #[] #[{ accessFlags := 24, nameIndex := 28, descriptorIndex := 29, attributes := #[] }, { accessFlags := 26, nameIndex := 38, descriptorIndex := 39, attributes := #[] }, { accessFlags := 25, nameIndex := 121, descriptorIndex := 25, attributes := #[] }, { accessFlags := 25, nameIndex := 131, descriptorIndex := 25, attributes := #[] }, { accessFlags := 25, nameIndex := 137, descriptorIndex := 25, attributes := #[] }, { accessFlags := 25, nameIndex := 143, descriptorIndex := 25, attributes := #[] }, { accessFlags := 25, nameIndex := 53, descriptorIndex := 25, attributes := #[] }, { accessFlags := 25, nameIndex := 24, descriptorIndex := 25, attributes := #[] }, { accessFlags := 25, nameIndex := 162, descriptorIndex := 25, attributes := #[] }, { accessFlags := 25, nameIndex := 187, descriptorIndex := 25, attributes := #[] }, { accessFlags := 26, nameIndex := 48, descriptorIndex := 25, attributes := #[] }, { accessFlags := 25, nameIndex := 277, descriptorIndex := 25, attributes := #[] }, { accessFlags := 25, nameIndex := 280, descriptorIndex := 25, attributes := #[] }, { accessFlags := 25, nameIndex := 282, descriptorIndex := 25, attributes := #[] }, { accessFlags := 25, nameIndex := 284, descriptorIndex := 25, attributes := #[] }, { accessFlags := 25, nameIndex := 286, descriptorIndex := 25, attributes := #[] }, { accessFlags := 25, nameIndex := 288, descriptorIndex := 25, attributes := #[] }, { accessFlags := 25, nameIndex := 290, descriptorIndex := 25, attributes := #[] }, { accessFlags := 25, nameIndex := 292, descriptorIndex := 25, attributes := #[] }, { accessFlags := 26, nameIndex := 108, descriptorIndex := 109, attributes := #[] }, { accessFlags := 25, nameIndex := 294, descriptorIndex := 25, attributes := #[] }])
  fields := #[{ name := "U", type := (.object "jdk/internal/misc/Unsafe"), accessFlags := 24, slot := 0, constantValue := 0 }, { name := "BIG_ENDIAN", type := .boolean, accessFlags := 26, slot := 1, constantValue := 0 }, { name := "LOG2_ARRAY_BOOLEAN_INDEX_SCALE", type := .int, accessFlags := 25, slot := 2, constantValue := 0 }, { name := "LOG2_ARRAY_BYTE_INDEX_SCALE", type := .int, accessFlags := 25, slot := 3, constantValue := 0 }, { name := "LOG2_ARRAY_CHAR_INDEX_SCALE", type := .int, accessFlags := 25, slot := 4, constantValue := 0 }, { name := "LOG2_ARRAY_SHORT_INDEX_SCALE", type := .int, accessFlags := 25, slot := 5, constantValue := 0 }, { name := "LOG2_ARRAY_INT_INDEX_SCALE", type := .int, accessFlags := 25, slot := 6, constantValue := 0 }, { name := "LOG2_ARRAY_LONG_INDEX_SCALE", type := .int, accessFlags := 25, slot := 7, constantValue := 0 }, { name := "LOG2_ARRAY_FLOAT_INDEX_SCALE", type := .int, accessFlags := 25, slot := 8, constantValue := 0 }, { name := "LOG2_ARRAY_DOUBLE_INDEX_SCALE", type := .int, accessFlags := 25, slot := 9, constantValue := 0 }, { name := "LOG2_BYTE_BIT_SIZE", type := .int, accessFlags := 26, slot := 10, constantValue := 0 }, { name := "T_BOOLEAN", type := .int, accessFlags := 25, slot := 11, constantValue := 0 }, { name := "T_CHAR", type := .int, accessFlags := 25, slot := 12, constantValue := 0 }, { name := "T_FLOAT", type := .int, accessFlags := 25, slot := 13, constantValue := 0 }, { name := "T_DOUBLE", type := .int, accessFlags := 25, slot := 14, constantValue := 0 }, { name := "T_BYTE", type := .int, accessFlags := 25, slot := 15, constantValue := 0 }, { name := "T_SHORT", type := .int, accessFlags := 25, slot := 16, constantValue := 0 }, { name := "T_INT", type := .int, accessFlags := 25, slot := 17, constantValue := 0 }, { name := "T_LONG", type := .int, accessFlags := 25, slot := 18, constantValue := 0 }, { name := "JLA", type := (.object "jdk/internal/access/JavaLangAccess"), accessFlags := 26, slot := 19, constantValue := 0 }, { name := "SOFT_MAX_ARRAY_LENGTH", type := .int, accessFlags := 25, slot := 20, constantValue := 0 }]
  methods := #[k16m0]
  instanceTypes := #[]
  staticTypes := #[(.object "jdk/internal/misc/Unsafe"), .boolean, .int, .int, .int, .int, .int, .int, .int, .int, .int, .int, .int, .int, .int, .int, .int, .int, .int, (.object "jdk/internal/access/JavaLangAccess"), .int]
  resolved := Array.replicate 378 none
  statics := none }

def pool17 : Array CpInfo := pool [(1, u "java/lang/Cloneable"), (0, .class_ 1), (0, u "java/lang/Object"), (0, .class_ 3)] 3

/-- java/lang/Cloneable -/
def k17 : Class := { plain "java/lang/Cloneable" (some 0) with
  accessFlags := 1537
  interfaces := #[]
  cf := some (fileOf pool17 2 #[] #[] 1537 4 #[] #[])
  fields := #[]
  methods := #[]
  instanceTypes := #[]
  staticTypes := #[]
  resolved := Array.replicate 8 none
  statics := none }

/-- the primitive byte -/
def k18 : Class := { plain "byte" none with kind := .primitive 'B', accessFlags := 0x411 }
/-- [B -/
def k19 : Class := { plain "[B" (some 0) with kind := .array 18 .byte, interfaces := #[17, 2], accessFlags := 1041 }

/-- the primitive char -/
def k20 : Class := { plain "char" none with kind := .primitive 'C', accessFlags := 0x411 }
/-- [C -/
def k21 : Class := { plain "[C" (some 0) with kind := .array 20 .char, interfaces := #[17, 2], accessFlags := 1041 }

/-- the primitive int -/
def k22 : Class := { plain "int" none with kind := .primitive 'I', accessFlags := 0x411 }
/-- [I -/
def k23 : Class := { plain "[I" (some 0) with kind := .array 22 .int, interfaces := #[17, 2], accessFlags := 1041 }

/-- [Ljava/lang/Long; -/
def k24 : Class := { plain "[Ljava/lang/Long;" (some 0) with kind := .array 12 (.object "java/lang/Long"), interfaces := #[17, 2], accessFlags := 1041 }

def heap : Heap := #[{ cls := 7, slots := #[.long 0, .int 1, .null, .int 0, .null, .int 0, .int 0], vm := .statics 7 },
  { cls := 13, slots := #[.ref 3, .null, .int 0], vm := .statics 13 },
  { cls := 15, slots := #[.null, .null, .null], vm := .statics 15 },
  { cls := 24, slots := #[.ref 4, .ref 5, .ref 6, .ref 7, .ref 8, .ref 9, .ref 10, .ref 11, .ref 12, .ref 13, .ref 14, .ref 15, .ref 16, .ref 17, .ref 18, .ref 19, .ref 20, .ref 21, .ref 22, .ref 23, .ref 24, .ref 25, .ref 26, .ref 27, .ref 28, .ref 29, .ref 30, .ref 31, .ref 32, .ref 33, .ref 34, .ref 35, .ref 36, .ref 37, .ref 38, .ref 39, .ref 40, .ref 41, .ref 42, .ref 43, .ref 44, .ref 45, .ref 46, .ref 47, .ref 48, .ref 49, .ref 50, .ref 51, .ref 52, .ref 53, .ref 54, .ref 55, .ref 56, .ref 57, .ref 58, .ref 59, .ref 60, .ref 61, .ref 62, .ref 63, .ref 64, .ref 65, .ref 66, .ref 67, .ref 68, .ref 69, .ref 70, .ref 71, .ref 72, .ref 73, .ref 74, .ref 75, .ref 76, .ref 77, .ref 78, .ref 79, .ref 80, .ref 81, .ref 82, .ref 83, .ref 84, .ref 85, .ref 86, .ref 87, .ref 88, .ref 89, .ref 90, .ref 91, .ref 92, .ref 93, .ref 94, .ref 95, .ref 96, .ref 97, .ref 98, .ref 99, .ref 100, .ref 101, .ref 102, .ref 103, .ref 104, .ref 105, .ref 106, .ref 107, .ref 108, .ref 109, .ref 110, .ref 111, .ref 112, .ref 113, .ref 114, .ref 115, .ref 116, .ref 117, .ref 118, .ref 119, .ref 120, .ref 121, .ref 122, .ref 123, .ref 124, .ref 125, .ref 126, .ref 127, .ref 128, .ref 129, .ref 130, .ref 131, .ref 132, .ref 133, .ref 134, .ref 135, .ref 136, .ref 137, .ref 138, .ref 139, .ref 140, .ref 141, .ref 142, .ref 143, .ref 144, .ref 145, .ref 146, .ref 147, .ref 148, .ref 149, .ref 150, .ref 151, .ref 152, .ref 153, .ref 154, .ref 155, .ref 156, .ref 157, .ref 158, .ref 159, .ref 160, .ref 161, .ref 162, .ref 163, .ref 164, .ref 165, .ref 166, .ref 167, .ref 168, .ref 169, .ref 170, .ref 171, .ref 172, .ref 173, .ref 174, .ref 175, .ref 176, .ref 177, .ref 178, .ref 179, .ref 180, .ref 181, .ref 182, .ref 183, .ref 184, .ref 185, .ref 186, .ref 187, .ref 188, .ref 189, .ref 190, .ref 191, .ref 192, .ref 193, .ref 194, .ref 195, .ref 196, .ref 197, .ref 198, .ref 199, .ref 200, .ref 201, .ref 202, .ref 203, .ref 204, .ref 205, .ref 206, .ref 207, .ref 208, .ref 209, .ref 210, .ref 211, .ref 212, .ref 213, .ref 214, .ref 215, .ref 216, .ref 217, .ref 218, .ref 219, .ref 220, .ref 221, .ref 222, .ref 223, .ref 224, .ref 225, .ref 226, .ref 227, .ref 228, .ref 229, .ref 230, .ref 231, .ref 232, .ref 233, .ref 234, .ref 235, .ref 236, .ref 237, .ref 238, .ref 239, .ref 240, .ref 241, .ref 242, .ref 243, .ref 244, .ref 245, .ref 246, .ref 247, .ref 248, .ref 249, .ref 250, .ref 251, .ref 252, .ref 253, .ref 254, .ref 255, .ref 256, .ref 257, .ref 258, .ref 259], vm := .none },
  { cls := 12, slots := #[.long (-128)], vm := .none },
  { cls := 12, slots := #[.long (-127)], vm := .none },
  { cls := 12, slots := #[.long (-126)], vm := .none },
  { cls := 12, slots := #[.long (-125)], vm := .none },
  { cls := 12, slots := #[.long (-124)], vm := .none },
  { cls := 12, slots := #[.long (-123)], vm := .none },
  { cls := 12, slots := #[.long (-122)], vm := .none },
  { cls := 12, slots := #[.long (-121)], vm := .none },
  { cls := 12, slots := #[.long (-120)], vm := .none },
  { cls := 12, slots := #[.long (-119)], vm := .none },
  { cls := 12, slots := #[.long (-118)], vm := .none },
  { cls := 12, slots := #[.long (-117)], vm := .none },
  { cls := 12, slots := #[.long (-116)], vm := .none },
  { cls := 12, slots := #[.long (-115)], vm := .none },
  { cls := 12, slots := #[.long (-114)], vm := .none },
  { cls := 12, slots := #[.long (-113)], vm := .none },
  { cls := 12, slots := #[.long (-112)], vm := .none },
  { cls := 12, slots := #[.long (-111)], vm := .none },
  { cls := 12, slots := #[.long (-110)], vm := .none },
  { cls := 12, slots := #[.long (-109)], vm := .none },
  { cls := 12, slots := #[.long (-108)], vm := .none },
  { cls := 12, slots := #[.long (-107)], vm := .none },
  { cls := 12, slots := #[.long (-106)], vm := .none },
  { cls := 12, slots := #[.long (-105)], vm := .none },
  { cls := 12, slots := #[.long (-104)], vm := .none },
  { cls := 12, slots := #[.long (-103)], vm := .none },
  { cls := 12, slots := #[.long (-102)], vm := .none },
  { cls := 12, slots := #[.long (-101)], vm := .none },
  { cls := 12, slots := #[.long (-100)], vm := .none },
  { cls := 12, slots := #[.long (-99)], vm := .none },
  { cls := 12, slots := #[.long (-98)], vm := .none },
  { cls := 12, slots := #[.long (-97)], vm := .none },
  { cls := 12, slots := #[.long (-96)], vm := .none },
  { cls := 12, slots := #[.long (-95)], vm := .none },
  { cls := 12, slots := #[.long (-94)], vm := .none },
  { cls := 12, slots := #[.long (-93)], vm := .none },
  { cls := 12, slots := #[.long (-92)], vm := .none },
  { cls := 12, slots := #[.long (-91)], vm := .none },
  { cls := 12, slots := #[.long (-90)], vm := .none },
  { cls := 12, slots := #[.long (-89)], vm := .none },
  { cls := 12, slots := #[.long (-88)], vm := .none },
  { cls := 12, slots := #[.long (-87)], vm := .none },
  { cls := 12, slots := #[.long (-86)], vm := .none },
  { cls := 12, slots := #[.long (-85)], vm := .none },
  { cls := 12, slots := #[.long (-84)], vm := .none },
  { cls := 12, slots := #[.long (-83)], vm := .none },
  { cls := 12, slots := #[.long (-82)], vm := .none },
  { cls := 12, slots := #[.long (-81)], vm := .none },
  { cls := 12, slots := #[.long (-80)], vm := .none },
  { cls := 12, slots := #[.long (-79)], vm := .none },
  { cls := 12, slots := #[.long (-78)], vm := .none },
  { cls := 12, slots := #[.long (-77)], vm := .none },
  { cls := 12, slots := #[.long (-76)], vm := .none },
  { cls := 12, slots := #[.long (-75)], vm := .none },
  { cls := 12, slots := #[.long (-74)], vm := .none },
  { cls := 12, slots := #[.long (-73)], vm := .none },
  { cls := 12, slots := #[.long (-72)], vm := .none },
  { cls := 12, slots := #[.long (-71)], vm := .none },
  { cls := 12, slots := #[.long (-70)], vm := .none },
  { cls := 12, slots := #[.long (-69)], vm := .none },
  { cls := 12, slots := #[.long (-68)], vm := .none },
  { cls := 12, slots := #[.long (-67)], vm := .none },
  { cls := 12, slots := #[.long (-66)], vm := .none },
  { cls := 12, slots := #[.long (-65)], vm := .none },
  { cls := 12, slots := #[.long (-64)], vm := .none },
  { cls := 12, slots := #[.long (-63)], vm := .none },
  { cls := 12, slots := #[.long (-62)], vm := .none },
  { cls := 12, slots := #[.long (-61)], vm := .none },
  { cls := 12, slots := #[.long (-60)], vm := .none },
  { cls := 12, slots := #[.long (-59)], vm := .none },
  { cls := 12, slots := #[.long (-58)], vm := .none },
  { cls := 12, slots := #[.long (-57)], vm := .none },
  { cls := 12, slots := #[.long (-56)], vm := .none },
  { cls := 12, slots := #[.long (-55)], vm := .none },
  { cls := 12, slots := #[.long (-54)], vm := .none },
  { cls := 12, slots := #[.long (-53)], vm := .none },
  { cls := 12, slots := #[.long (-52)], vm := .none },
  { cls := 12, slots := #[.long (-51)], vm := .none },
  { cls := 12, slots := #[.long (-50)], vm := .none },
  { cls := 12, slots := #[.long (-49)], vm := .none },
  { cls := 12, slots := #[.long (-48)], vm := .none },
  { cls := 12, slots := #[.long (-47)], vm := .none },
  { cls := 12, slots := #[.long (-46)], vm := .none },
  { cls := 12, slots := #[.long (-45)], vm := .none },
  { cls := 12, slots := #[.long (-44)], vm := .none },
  { cls := 12, slots := #[.long (-43)], vm := .none },
  { cls := 12, slots := #[.long (-42)], vm := .none },
  { cls := 12, slots := #[.long (-41)], vm := .none },
  { cls := 12, slots := #[.long (-40)], vm := .none },
  { cls := 12, slots := #[.long (-39)], vm := .none },
  { cls := 12, slots := #[.long (-38)], vm := .none },
  { cls := 12, slots := #[.long (-37)], vm := .none },
  { cls := 12, slots := #[.long (-36)], vm := .none },
  { cls := 12, slots := #[.long (-35)], vm := .none },
  { cls := 12, slots := #[.long (-34)], vm := .none },
  { cls := 12, slots := #[.long (-33)], vm := .none },
  { cls := 12, slots := #[.long (-32)], vm := .none },
  { cls := 12, slots := #[.long (-31)], vm := .none },
  { cls := 12, slots := #[.long (-30)], vm := .none },
  { cls := 12, slots := #[.long (-29)], vm := .none },
  { cls := 12, slots := #[.long (-28)], vm := .none },
  { cls := 12, slots := #[.long (-27)], vm := .none },
  { cls := 12, slots := #[.long (-26)], vm := .none },
  { cls := 12, slots := #[.long (-25)], vm := .none },
  { cls := 12, slots := #[.long (-24)], vm := .none },
  { cls := 12, slots := #[.long (-23)], vm := .none },
  { cls := 12, slots := #[.long (-22)], vm := .none },
  { cls := 12, slots := #[.long (-21)], vm := .none },
  { cls := 12, slots := #[.long (-20)], vm := .none },
  { cls := 12, slots := #[.long (-19)], vm := .none },
  { cls := 12, slots := #[.long (-18)], vm := .none },
  { cls := 12, slots := #[.long (-17)], vm := .none },
  { cls := 12, slots := #[.long (-16)], vm := .none },
  { cls := 12, slots := #[.long (-15)], vm := .none },
  { cls := 12, slots := #[.long (-14)], vm := .none },
  { cls := 12, slots := #[.long (-13)], vm := .none },
  { cls := 12, slots := #[.long (-12)], vm := .none },
  { cls := 12, slots := #[.long (-11)], vm := .none },
  { cls := 12, slots := #[.long (-10)], vm := .none },
  { cls := 12, slots := #[.long (-9)], vm := .none },
  { cls := 12, slots := #[.long (-8)], vm := .none },
  { cls := 12, slots := #[.long (-7)], vm := .none },
  { cls := 12, slots := #[.long (-6)], vm := .none },
  { cls := 12, slots := #[.long (-5)], vm := .none },
  { cls := 12, slots := #[.long (-4)], vm := .none },
  { cls := 12, slots := #[.long (-3)], vm := .none },
  { cls := 12, slots := #[.long (-2)], vm := .none },
  { cls := 12, slots := #[.long (-1)], vm := .none },
  { cls := 12, slots := #[.long 0], vm := .none },
  { cls := 12, slots := #[.long 1], vm := .none },
  { cls := 12, slots := #[.long 2], vm := .none },
  { cls := 12, slots := #[.long 3], vm := .none },
  { cls := 12, slots := #[.long 4], vm := .none },
  { cls := 12, slots := #[.long 5], vm := .none },
  { cls := 12, slots := #[.long 6], vm := .none },
  { cls := 12, slots := #[.long 7], vm := .none },
  { cls := 12, slots := #[.long 8], vm := .none },
  { cls := 12, slots := #[.long 9], vm := .none },
  { cls := 12, slots := #[.long 10], vm := .none },
  { cls := 12, slots := #[.long 11], vm := .none },
  { cls := 12, slots := #[.long 12], vm := .none },
  { cls := 12, slots := #[.long 13], vm := .none },
  { cls := 12, slots := #[.long 14], vm := .none },
  { cls := 12, slots := #[.long 15], vm := .none },
  { cls := 12, slots := #[.long 16], vm := .none },
  { cls := 12, slots := #[.long 17], vm := .none },
  { cls := 12, slots := #[.long 18], vm := .none },
  { cls := 12, slots := #[.long 19], vm := .none },
  { cls := 12, slots := #[.long 20], vm := .none },
  { cls := 12, slots := #[.long 21], vm := .none },
  { cls := 12, slots := #[.long 22], vm := .none },
  { cls := 12, slots := #[.long 23], vm := .none },
  { cls := 12, slots := #[.long 24], vm := .none },
  { cls := 12, slots := #[.long 25], vm := .none },
  { cls := 12, slots := #[.long 26], vm := .none },
  { cls := 12, slots := #[.long 27], vm := .none },
  { cls := 12, slots := #[.long 28], vm := .none },
  { cls := 12, slots := #[.long 29], vm := .none },
  { cls := 12, slots := #[.long 30], vm := .none },
  { cls := 12, slots := #[.long 31], vm := .none },
  { cls := 12, slots := #[.long 32], vm := .none },
  { cls := 12, slots := #[.long 33], vm := .none },
  { cls := 12, slots := #[.long 34], vm := .none },
  { cls := 12, slots := #[.long 35], vm := .none },
  { cls := 12, slots := #[.long 36], vm := .none },
  { cls := 12, slots := #[.long 37], vm := .none },
  { cls := 12, slots := #[.long 38], vm := .none },
  { cls := 12, slots := #[.long 39], vm := .none },
  { cls := 12, slots := #[.long 40], vm := .none },
  { cls := 12, slots := #[.long 41], vm := .none },
  { cls := 12, slots := #[.long 42], vm := .none },
  { cls := 12, slots := #[.long 43], vm := .none },
  { cls := 12, slots := #[.long 44], vm := .none },
  { cls := 12, slots := #[.long 45], vm := .none },
  { cls := 12, slots := #[.long 46], vm := .none },
  { cls := 12, slots := #[.long 47], vm := .none },
  { cls := 12, slots := #[.long 48], vm := .none },
  { cls := 12, slots := #[.long 49], vm := .none },
  { cls := 12, slots := #[.long 50], vm := .none },
  { cls := 12, slots := #[.long 51], vm := .none },
  { cls := 12, slots := #[.long 52], vm := .none },
  { cls := 12, slots := #[.long 53], vm := .none },
  { cls := 12, slots := #[.long 54], vm := .none },
  { cls := 12, slots := #[.long 55], vm := .none },
  { cls := 12, slots := #[.long 56], vm := .none },
  { cls := 12, slots := #[.long 57], vm := .none },
  { cls := 12, slots := #[.long 58], vm := .none },
  { cls := 12, slots := #[.long 59], vm := .none },
  { cls := 12, slots := #[.long 60], vm := .none },
  { cls := 12, slots := #[.long 61], vm := .none },
  { cls := 12, slots := #[.long 62], vm := .none },
  { cls := 12, slots := #[.long 63], vm := .none },
  { cls := 12, slots := #[.long 64], vm := .none },
  { cls := 12, slots := #[.long 65], vm := .none },
  { cls := 12, slots := #[.long 66], vm := .none },
  { cls := 12, slots := #[.long 67], vm := .none },
  { cls := 12, slots := #[.long 68], vm := .none },
  { cls := 12, slots := #[.long 69], vm := .none },
  { cls := 12, slots := #[.long 70], vm := .none },
  { cls := 12, slots := #[.long 71], vm := .none },
  { cls := 12, slots := #[.long 72], vm := .none },
  { cls := 12, slots := #[.long 73], vm := .none },
  { cls := 12, slots := #[.long 74], vm := .none },
  { cls := 12, slots := #[.long 75], vm := .none },
  { cls := 12, slots := #[.long 76], vm := .none },
  { cls := 12, slots := #[.long 77], vm := .none },
  { cls := 12, slots := #[.long 78], vm := .none },
  { cls := 12, slots := #[.long 79], vm := .none },
  { cls := 12, slots := #[.long 80], vm := .none },
  { cls := 12, slots := #[.long 81], vm := .none },
  { cls := 12, slots := #[.long 82], vm := .none },
  { cls := 12, slots := #[.long 83], vm := .none },
  { cls := 12, slots := #[.long 84], vm := .none },
  { cls := 12, slots := #[.long 85], vm := .none },
  { cls := 12, slots := #[.long 86], vm := .none },
  { cls := 12, slots := #[.long 87], vm := .none },
  { cls := 12, slots := #[.long 88], vm := .none },
  { cls := 12, slots := #[.long 89], vm := .none },
  { cls := 12, slots := #[.long 90], vm := .none },
  { cls := 12, slots := #[.long 91], vm := .none },
  { cls := 12, slots := #[.long 92], vm := .none },
  { cls := 12, slots := #[.long 93], vm := .none },
  { cls := 12, slots := #[.long 94], vm := .none },
  { cls := 12, slots := #[.long 95], vm := .none },
  { cls := 12, slots := #[.long 96], vm := .none },
  { cls := 12, slots := #[.long 97], vm := .none },
  { cls := 12, slots := #[.long 98], vm := .none },
  { cls := 12, slots := #[.long 99], vm := .none },
  { cls := 12, slots := #[.long 100], vm := .none },
  { cls := 12, slots := #[.long 101], vm := .none },
  { cls := 12, slots := #[.long 102], vm := .none },
  { cls := 12, slots := #[.long 103], vm := .none },
  { cls := 12, slots := #[.long 104], vm := .none },
  { cls := 12, slots := #[.long 105], vm := .none },
  { cls := 12, slots := #[.long 106], vm := .none },
  { cls := 12, slots := #[.long 107], vm := .none },
  { cls := 12, slots := #[.long 108], vm := .none },
  { cls := 12, slots := #[.long 109], vm := .none },
  { cls := 12, slots := #[.long 110], vm := .none },
  { cls := 12, slots := #[.long 111], vm := .none },
  { cls := 12, slots := #[.long 112], vm := .none },
  { cls := 12, slots := #[.long 113], vm := .none },
  { cls := 12, slots := #[.long 114], vm := .none },
  { cls := 12, slots := #[.long 115], vm := .none },
  { cls := 12, slots := #[.long 116], vm := .none },
  { cls := 12, slots := #[.long 117], vm := .none },
  { cls := 12, slots := #[.long 118], vm := .none },
  { cls := 12, slots := #[.long 119], vm := .none },
  { cls := 12, slots := #[.long 120], vm := .none },
  { cls := 12, slots := #[.long 121], vm := .none },
  { cls := 12, slots := #[.long 122], vm := .none },
  { cls := 12, slots := #[.long 123], vm := .none },
  { cls := 12, slots := #[.long 124], vm := .none },
  { cls := 12, slots := #[.long 125], vm := .none },
  { cls := 12, slots := #[.long 126], vm := .none },
  { cls := 12, slots := #[.long 127], vm := .none }]
def classes : Array Class := #[k0, k1, k2, k3, k4, k5, k6, k7, k8, k9, k10, k11, k12, k13, k14, k15, k16, k17, k18, k19, k20, k21, k22, k23, k24]
def interned : List (Array UInt16 × Addr) := []
def slotsUsed : Nat := 525
def theMethod : MethodId := ⟨1, 1⟩
def args0 : Array Value := #[.int 5, .int 5, .int 5, .long 5, .int 5, .int 5]
def aboutOver (below : List Frame) : State where
  vm := { classes := classes, interned := interned.toArray }
  heap := heap
  slotsUsed := slotsUsed
  threads := #[{ frames := .invoking theMethod args0 :: below }]
def below0 : List Frame := [.native { method := ⟨0, 0⟩, args := #[] }]
def about1 : State := aboutOver below0
def p0 : Program := .bare "" "" ""
def e0 : Env := launch0.env 0 0 0
theorem w_frames : about1.frames = Frame.invoking theMethod args0 :: below0 := rfl
set_option maxRecDepth 65536 in
theorem w_args : argsFit about1.vm theMethod args0 = true := by decide +kernel
set_option maxRecDepth 65536 in
theorem w_heap : heapFits about1 = true := by decide +kernel
set_option maxRecDepth 65536 in
theorem w_runnable : about1.curStatus? = some .runnable := by decide +kernel
set_option maxRecDepth 65536 in
theorem w_alone : about1.alone = true := by decide +kernel
set_option maxRecDepth 65536 in
theorem w_named : about1.methodNamed? x = some theMethod := by decide +kernel
set_option maxRecDepth 65536 in
theorem w_hears : about1.hears theMethod below0 = true := by decide +kernel
set_option maxRecDepth 65536 in
theorem w_ripe : about1.ripe theMethod args0 below0 = true := by decide +kernel
theorem w_running : about1.status = .running := rfl
set_option maxRecDepth 65536 in
theorem w_room : about1.hasRoom e0.platform room_1 = true :=
  launch0.hasRoom_least _ room_1 (by decide +kernel) (by decide +kernel) (by decide +kernel) (by decide +kernel) (by decide +kernel) (by decide +kernel)
theorem allAtoms_all (ts : List Jvm.Cond) (a : Array Jvm.Value) (st : Jvm.State) : (allAtoms ts).before a st = ts.all (fun c => c.before a st) := by
  induction ts with
  | nil => rfl
  | cons c t ih =>
    show (Jvm.Cond.and c (allAtoms t)).before a st = _
    rw [Jvm.Cond.before_and, ih, List.all_cons]
def words1 : List Jvm.Cond := Jvm.Cond.code x code maxLocals ret :: tables_1
/-- a 'code' word, met by the world's own term for the bytes: nothing is compared byte by byte -/
theorem code_word {y : MethodName} {bytes : ByteArray} {mx : Nat} {rt : Option FieldType} {a : Array Value} {s : State} {m : MethodId} {meth : Method} {c : Code} (h1 : s.methodNamed? y = some m) (h2 : s.vm.method? m = some meth) (h3 : meth.code = some c) (h4 : c.code = bytes)
    (h5 : (c.maxLocals == mx && c.exceptionTable.isEmpty && decide (c.maxStack ≤ mostOperands) && decide (meth.sig.returnType = rt) && !meth.locks && decide (parseMethodDescriptor y.desc = some meth.sig)) = true) : (Jvm.Cond.code y bytes mx rt).before a s = true := by
  simp only [Bool.and_eq_true, beq_iff_eq, Bool.not_eq_true', decide_eq_true_eq] at h5
  obtain ⟨⟨⟨⟨⟨g1, g2⟩, g3⟩, g4⟩, g5⟩, g6⟩ := h5
  simp [Cond.before, Cond.holds, Cond.value, h1, h2, h3, h4, g1, g2, g3, g4, g5, g6]
def isCode : Jvm.Cond → Bool
  | .code _ _ _ _ => true
  | _ => false
theorem all_split {L : List Jvm.Cond} {P : Jvm.Cond → Bool} (h1 : L.all (fun c => isCode c || P c) = true) (h2 : ∀ c ∈ L.filter isCode, P c = true) : L.all P = true := by
  refine List.all_eq_true.mpr fun c hc => ?_
  have h := List.all_eq_true.mp h1 c hc
  rcases Bool.eq_false_or_eq_true (isCode c) with hi | hi
  · exact h2 c (List.mem_filter.mpr ⟨hc, hi⟩)
  · simpa [hi] using h
set_option maxRecDepth 65536 in
theorem w_c0 : (Jvm.Cond.code x code maxLocals ret).before args0 about1 = true := code_word (m := ⟨1, 1⟩) (meth := k1m1) (c := k1c1) (by decide +kernel) rfl rfl rfl (by decide +kernel)
set_option maxRecDepth 65536 in
theorem w_c1 : (Jvm.Cond.code ({ cls := "java/lang/String", name := "<init>", desc := "([C)V" } : Jvm.MethodName) jdk_42_method_3_code (2 : Nat) (Option.none : Option Jvm.ClassFile.FieldType)).before args0 about1 = true := code_word (m := ⟨7, 1⟩) (meth := k7m1) (c := k7c1) (by decide +kernel) rfl rfl rfl (by decide +kernel)
set_option maxRecDepth 65536 in
theorem w_c2 : (Jvm.Cond.code ({ cls := "java/lang/String", name := "<init>", desc := "([CIILjava/lang/Void;)V" } : Jvm.MethodName) jdk_42_method_149_code (6 : Nat) (Option.none : Option Jvm.ClassFile.FieldType)).before args0 about1 = true := code_word (m := ⟨7, 2⟩) (meth := k7m2) (c := k7c2) (by decide +kernel) rfl rfl rfl (by decide +kernel)
set_option maxRecDepth 65536 in
theorem w_c3 : (Jvm.Cond.code ({ cls := "java/lang/Object", name := "<init>", desc := "()V" } : Jvm.MethodName) object_method_1_code (1 : Nat) (Option.none : Option Jvm.ClassFile.FieldType)).before args0 about1 = true := code_word (m := ⟨0, 0⟩) (meth := k0m0) (c := k0c0) (by decide +kernel) rfl rfl rfl (by decide +kernel)
set_option maxRecDepth 65536 in
theorem w_c4 : (Jvm.Cond.code ({ cls := "java/lang/StringUTF16", name := "compress", desc := "([CII)[B" } : Jvm.MethodName) jdk_52_method_16_code (6 : Nat) (Option.some (Jvm.ClassFile.FieldType.array Jvm.ClassFile.FieldType.byte))).before args0 about1 = true := code_word (m := ⟨8, 2⟩) (meth := k8m2) (c := k8c2) (by decide +kernel) rfl rfl rfl (by decide +kernel)
set_option maxRecDepth 65536 in
theorem w_c5 : (Jvm.Cond.code ({ cls := "java/lang/StringUTF16", name := "compress", desc := "([CI[BII)I" } : Jvm.MethodName) jdk_52_method_21_code (7 : Nat) (Option.some Jvm.ClassFile.FieldType.int)).before args0 about1 = true := code_word (m := ⟨8, 3⟩) (meth := k8m3) (c := k8c3) (by decide +kernel) rfl rfl rfl (by decide +kernel)
set_option maxRecDepth 65536 in
theorem w_c6 : (Jvm.Cond.code ({ cls := "java/lang/StringUTF16", name := "coderFromArrayLen", desc := "([BI)B" } : Jvm.MethodName) jdk_52_method_15_code (2 : Nat) (Option.some Jvm.ClassFile.FieldType.byte)).before args0 about1 = true := code_word (m := ⟨8, 1⟩) (meth := k8m1) (c := k8c1) (by decide +kernel) rfl rfl rfl (by decide +kernel)
set_option maxRecDepth 65536 in
theorem w_c7 : (Jvm.Cond.code ({ cls := "com/example/commitgate/commitgate/store/KeySpelling", name := "<init>", desc := "(Ljava/lang/String;[B)V" } : Jvm.MethodName) prog_168_method_1_code (3 : Nat) (Option.none : Option Jvm.ClassFile.FieldType)).before args0 about1 = true := code_word (m := ⟨10, 0⟩) (meth := k10m0) (c := k10c0) (by decide +kernel) rfl rfl rfl (by decide +kernel)
set_option maxRecDepth 65536 in
theorem w_c8 : (Jvm.Cond.code ({ cls := "com/example/commitgate/commitgate/store/KeySpelling", name := "text", desc := "(Ljava/lang/Object;)Ljava/lang/Object;" } : Jvm.MethodName) prog_168_method_2_code (2 : Nat) (Option.some (Jvm.ClassFile.FieldType.object "java/lang/Object"))).before args0 about1 = true := code_word (m := ⟨10, 1⟩) (meth := k10m1) (c := k10c1) (by decide +kernel) rfl rfl rfl (by decide +kernel)
set_option maxRecDepth 65536 in
theorem w_c9 : (Jvm.Cond.code ({ cls := "java/lang/Long", name := "valueOf", desc := "(J)Ljava/lang/Long;" } : Jvm.MethodName) jdk_35_method_24_code (3 : Nat) (Option.some (Jvm.ClassFile.FieldType.object "java/lang/Long"))).before args0 about1 = true := code_word (m := ⟨12, 0⟩) (meth := k12m0) (c := k12c0) (by decide +kernel) rfl rfl rfl (by decide +kernel)
set_option maxRecDepth 65536 in
theorem w_c10 : (Jvm.Cond.code ({ cls := "java/lang/Long", name := "<init>", desc := "(J)V" } : Jvm.MethodName) jdk_35_method_26_code (3 : Nat) (Option.none : Option Jvm.ClassFile.FieldType)).before args0 about1 = true := code_word (m := ⟨12, 1⟩) (meth := k12m1) (c := k12c1) (by decide +kernel) rfl rfl rfl (by decide +kernel)
set_option maxRecDepth 65536 in
theorem w_c11 : (Jvm.Cond.code ({ cls := "java/lang/Number", name := "<init>", desc := "()V" } : Jvm.MethodName) jdk_18_method_1_code (1 : Nat) (Option.none : Option Jvm.ClassFile.FieldType)).before args0 about1 = true := code_word (m := ⟨11, 0⟩) (meth := k11m0) (c := k11c0) (by decide +kernel) rfl rfl rfl (by decide +kernel)
def codes1 : List Jvm.Cond := [Jvm.Cond.code x code maxLocals ret, Jvm.Cond.code ({ cls := "java/lang/String", name := "<init>", desc := "([C)V" } : Jvm.MethodName) jdk_42_method_3_code (2 : Nat) (Option.none : Option Jvm.ClassFile.FieldType), Jvm.Cond.code ({ cls := "java/lang/String", name := "<init>", desc := "([CIILjava/lang/Void;)V" } : Jvm.MethodName) jdk_42_method_149_code (6 : Nat) (Option.none : Option Jvm.ClassFile.FieldType), Jvm.Cond.code ({ cls := "java/lang/Object", name := "<init>", desc := "()V" } : Jvm.MethodName) object_method_1_code (1 : Nat) (Option.none : Option Jvm.ClassFile.FieldType), Jvm.Cond.code ({ cls := "java/lang/StringUTF16", name := "compress", desc := "([CII)[B" } : Jvm.MethodName) jdk_52_method_16_code (6 : Nat) (Option.some (Jvm.ClassFile.FieldType.array Jvm.ClassFile.FieldType.byte)), Jvm.Cond.code ({ cls := "java/lang/StringUTF16", name := "compress", desc := "([CI[BII)I" } : Jvm.MethodName) jdk_52_method_21_code (7 : Nat) (Option.some Jvm.ClassFile.FieldType.int), Jvm.Cond.code ({ cls := "java/lang/StringUTF16", name := "coderFromArrayLen", desc := "([BI)B" } : Jvm.MethodName) jdk_52_method_15_code (2 : Nat) (Option.some Jvm.ClassFile.FieldType.byte), Jvm.Cond.code ({ cls := "com/example/commitgate/commitgate/store/KeySpelling", name := "<init>", desc := "(Ljava/lang/String;[B)V" } : Jvm.MethodName) prog_168_method_1_code (3 : Nat) (Option.none : Option Jvm.ClassFile.FieldType), Jvm.Cond.code ({ cls := "com/example/commitgate/commitgate/store/KeySpelling", name := "text", desc := "(Ljava/lang/Object;)Ljava/lang/Object;" } : Jvm.MethodName) prog_168_method_2_code (2 : Nat) (Option.some (Jvm.ClassFile.FieldType.object "java/lang/Object")), Jvm.Cond.code ({ cls := "java/lang/Long", name := "valueOf", desc := "(J)Ljava/lang/Long;" } : Jvm.MethodName) jdk_35_method_24_code (3 : Nat) (Option.some (Jvm.ClassFile.FieldType.object "java/lang/Long")), Jvm.Cond.code ({ cls := "java/lang/Long", name := "<init>", desc := "(J)V" } : Jvm.MethodName) jdk_35_method_26_code (3 : Nat) (Option.none : Option Jvm.ClassFile.FieldType), Jvm.Cond.code ({ cls := "java/lang/Number", name := "<init>", desc := "()V" } : Jvm.MethodName) jdk_18_method_1_code (1 : Nat) (Option.none : Option Jvm.ClassFile.FieldType)]
set_option maxRecDepth 65536 in
theorem codes_eq : words1.filter isCode = codes1 := rfl
theorem w_codes : ∀ c ∈ words1.filter isCode, c.before args0 about1 = true := by
  rw [codes_eq]
  intro c hc
  simp only [codes1, List.mem_cons, List.not_mem_nil, or_false] at hc
  rcases hc with rfl | rfl | rfl | rfl | rfl | rfl | rfl | rfl | rfl | rfl | rfl | rfl
  · exact w_c0
  · exact w_c1
  · exact w_c2
  · exact w_c3
  · exact w_c4
  · exact w_c5
  · exact w_c6
  · exact w_c7
  · exact w_c8
  · exact w_c9
  · exact w_c10
  · exact w_c11
set_option maxRecDepth 65536 in
theorem w_t1 : (words1.take 24).all (fun c => isCode c || c.before args0 about1) = true := by decide +kernel
set_option maxRecDepth 65536 in
theorem w_t2 : ((words1.drop 24).take 24).all (fun c => isCode c || c.before args0 about1) = true := by decide +kernel
set_option maxRecDepth 65536 in
theorem w_t3 : (((words1.drop 24).drop 24).take 24).all (fun c => isCode c || c.before args0 about1) = true := by decide +kernel
set_option maxRecDepth 65536 in
theorem w_t4 : (((words1.drop 24).drop 24).drop 24).all (fun c => isCode c || c.before args0 about1) = true := by decide +kernel
theorem w_tables : (allAtoms (Jvm.Cond.code x code maxLocals ret :: tables_1)).before args0 about1 = true := by
  rw [allAtoms_all]
  show words1.all (fun c => c.before args0 about1) = true
  refine all_split ?_ w_codes
  rw [← List.take_append_drop 24 words1, List.all_append, w_t1, ← List.take_append_drop 24 (words1.drop 24), List.all_append, w_t2, ← List.take_append_drop 24 ((words1.drop 24).drop 24), List.all_append, w_t3, w_t4]
  rfl
set_option maxRecDepth 65536 in
theorem w_rest : rest_1_c.before args0 about1 = true := by decide +kernel
set_option maxRecDepth 65536 in
theorem w_case : (Jvm.Cond.and given_1 narrow_1).before args0 about1 = true := by decide +kernel
theorem w_applies : (headSpec (Jvm.Cond.code x code maxLocals ret :: tables_1) room_1).applies x e0.platform about1 = true :=
  (Spec.applies_iff w_frames).mpr ⟨w_running, w_runnable, w_alone, w_named, w_hears, w_ripe, w_room, w_tables⟩
theorem atStart : AtStart classFile x code maxLocals ret World_1 tables_1 room_1 Calls_1 rest_1 Pre_1 launch0 p0 e0 about1 theMethod args0 below0 :=
  ⟨lists_1, trivial, launch0.admits_env _ _ _, launch0.least_env, fairChoices_fair.cas, fairChoices_fair.clock, w_frames, w_args, w_heap, w_applies, trivial, w_rest, w_case⟩
end start1
theorem witness_1 : WitnessClaimed_1 := ⟨start1.p0, start1.e0, start1.about1, start1.theMethod, start1.args0, start1.below0, start1.atStart⟩
end Jvm.Pilot.@@N@@
