import JvmDerived
import JvmDerived.Pilot.@@N@@Statement
import JvmDerived.Pilot.@@N@@Code
set_option linter.unusedVariables false
set_option linter.unusedSimpArgs false
@@BLOCK:NumsL.lean.txt@@
namespace Jvm.Pilot.@@N@@
open Jvm Jvm.ClassFile Sem Op Lib Jvm.Free Jvm.Stand Jvm.LawKit Jvm.RoadKit Bundle Jvm.Free.Fl Jvm.Pilot.@@N@@.Jvm.D
theorem d1_0 : decode jdk_35_method_44_code 0 = .ok (.lload_n 2, 1) := by decide +kernel
theorem d1_1 : decode jdk_35_method_44_code 1 = .ok (.lconst 0, 1) := by decide +kernel
theorem d1_2 : decode jdk_35_method_44_code 2 = .ok (.lcmp, 1) := by decide +kernel
theorem d1_3 : decode jdk_35_method_44_code 3 = .ok (.ifCond .lt 38, 3) := by decide +kernel
theorem d1_6 : decode jdk_35_method_44_code 6 = .ok (.lload_n 0, 1) := by decide +kernel
theorem d1_7 : decode jdk_35_method_44_code 7 = .ok (.iconst 1, 1) := by decide +kernel
theorem d1_8 : decode jdk_35_method_44_code 8 = .ok (.lushr, 1) := by decide +kernel
theorem d1_9 : decode jdk_35_method_44_code 9 = .ok (.lload_n 2, 1) := by decide +kernel
theorem d1_10 : decode jdk_35_method_44_code 10 = .ok (.ldiv, 1) := by decide +kernel
theorem d1_11 : decode jdk_35_method_44_code 11 = .ok (.iconst 1, 1) := by decide +kernel
theorem d1_12 : decode jdk_35_method_44_code 12 = .ok (.lshl, 1) := by decide +kernel
theorem d1_13 : decode jdk_35_method_44_code 13 = .ok (.lstore 4, 2) := by decide +kernel
theorem d1_15 : decode jdk_35_method_44_code 15 = .ok (.lload_n 0, 1) := by decide +kernel
theorem d1_16 : decode jdk_35_method_44_code 16 = .ok (.lload 4, 2) := by decide +kernel
theorem d1_18 : decode jdk_35_method_44_code 18 = .ok (.lload_n 2, 1) := by decide +kernel
theorem d1_19 : decode jdk_35_method_44_code 19 = .ok (.lmul, 1) := by decide +kernel
theorem d1_20 : decode jdk_35_method_44_code 20 = .ok (.lsub, 1) := by decide +kernel
theorem d1_21 : decode jdk_35_method_44_code 21 = .ok (.lstore 6, 2) := by decide +kernel
theorem d1_23 : decode jdk_35_method_44_code 23 = .ok (.lload 4, 2) := by decide +kernel
theorem d1_25 : decode jdk_35_method_44_code 25 = .ok (.lload 6, 2) := by decide +kernel
theorem d1_27 : decode jdk_35_method_44_code 27 = .ok (.lload 6, 2) := by decide +kernel
theorem d1_29 : decode jdk_35_method_44_code 29 = .ok (.lload_n 2, 1) := by decide +kernel
theorem d1_30 : decode jdk_35_method_44_code 30 = .ok (.lsub, 1) := by decide +kernel
theorem d1_31 : decode jdk_35_method_44_code 31 = .ok (.ldc2_w 306, 3) := by decide +kernel
theorem d1_34 : decode jdk_35_method_44_code 34 = .ok (.lxor, 1) := by decide +kernel
theorem d1_35 : decode jdk_35_method_44_code 35 = .ok (.lor, 1) := by decide +kernel
theorem d1_36 : decode jdk_35_method_44_code 36 = .ok (.bipush 63, 2) := by decide +kernel
theorem d1_38 : decode jdk_35_method_44_code 38 = .ok (.lushr, 1) := by decide +kernel
theorem d1_39 : decode jdk_35_method_44_code 39 = .ok (.ladd, 1) := by decide +kernel
theorem d1_40 : decode jdk_35_method_44_code 40 = .ok (.lreturn, 1) := by decide +kernel
theorem ef1 (m : MethodId) (x0 : Int64) (x1 : Int64) : entryFrame m #[(.long x0), (.long x1)] 8 = mkF m 0 #[.val (.long x0), .second, .val (.long x1), .second, .unset, .unset, .unset, .unset] [] := by first | (simp [entryFrame, mkF, argsToLocals, Value.category]; done) | rfl
theorem pn1 : plainName "java/lang/Long" = true := by first | (simp [plainName, overriddenIn]; done) | decide +kernel
theorem d4_0 : decode prog_4_method_1_code 0 = .ok (.aload_n 0, 1) := by decide +kernel
theorem d4_1 : decode prog_4_method_1_code 1 = .ok (.invokespecial 1, 3) := by decide +kernel
theorem d4_4 : decode prog_4_method_1_code 4 = .ok (.aload_n 0, 1) := by decide +kernel
theorem d4_5 : decode prog_4_method_1_code 5 = .ok (.lload_n 1, 1) := by decide +kernel
theorem d4_6 : decode prog_4_method_1_code 6 = .ok (.putfield 7, 3) := by decide +kernel
theorem d4_9 : decode prog_4_method_1_code 9 = .ok (.aload_n 0, 1) := by decide +kernel
theorem d4_10 : decode prog_4_method_1_code 10 = .ok (.lload_n 3, 1) := by decide +kernel
theorem d4_11 : decode prog_4_method_1_code 11 = .ok (.putfield 13, 3) := by decide +kernel
theorem d4_14 : decode prog_4_method_1_code 14 = .ok (.aload_n 0, 1) := by decide +kernel
theorem d4_15 : decode prog_4_method_1_code 15 = .ok (.dconst 1, 1) := by decide +kernel
theorem d4_16 : decode prog_4_method_1_code 16 = .ok (.lload_n 3, 1) := by decide +kernel
theorem d4_17 : decode prog_4_method_1_code 17 = .ok (.l2d, 1) := by decide +kernel
theorem d4_18 : decode prog_4_method_1_code 18 = .ok (.ddiv, 1) := by decide +kernel
theorem d4_19 : decode prog_4_method_1_code 19 = .ok (.putfield 16, 3) := by decide +kernel
theorem d4_22 : decode prog_4_method_1_code 22 = .ok (.aload_n 0, 1) := by decide +kernel
theorem d4_23 : decode prog_4_method_1_code 23 = .ok (.ldc2_w 20, 3) := by decide +kernel
theorem d4_26 : decode prog_4_method_1_code 26 = .ok (.lload_n 3, 1) := by decide +kernel
theorem d4_27 : decode prog_4_method_1_code 27 = .ok (.invokestatic 22, 3) := by decide +kernel
theorem pd1 : parseMethodDescriptor "(JJ)J" = some ⟨[.long, .long], some .long⟩ := by decide +kernel
theorem d4_30 : decode prog_4_method_1_code 30 = .ok (.putfield 28, 3) := by decide +kernel
theorem d4_33 : decode prog_4_method_1_code 33 = .ok (.return_, 1) := by decide +kernel
theorem ef2 (m : MethodId) (x0 : Addr) (x1 : Int64) (x2 : Int64) : entryFrame m #[(.ref x0), (.long x1), (.long x2)] 5 = mkF m 0 #[.val (.ref x0), .val (.long x1), .second, .val (.long x2), .second] [] := by first | (simp [entryFrame, mkF, argsToLocals, Value.category]; done) | rfl
theorem pn2 : plainName "com/example/tick60/tick60/Ticks" = true := by first | (simp [plainName, overriddenIn]; done) | decide +kernel
theorem d8_0 : decode prog_4_method_5_code 0 = .ok (.lload_n 1, 1) := by decide +kernel
theorem d8_1 : decode prog_4_method_5_code 1 = .ok (.lconst 0, 1) := by decide +kernel
theorem d8_2 : decode prog_4_method_5_code 2 = .ok (.lcmp, 1) := by decide +kernel
theorem d8_3 : decode prog_4_method_5_code 3 = .ok (.ifCond .lt 8, 3) := by decide +kernel
theorem d8_6 : decode prog_4_method_5_code 6 = .ok (.lload_n 1, 1) := by decide +kernel
theorem d8_7 : decode prog_4_method_5_code 7 = .ok (.l2d, 1) := by decide +kernel
theorem d8_8 : decode prog_4_method_5_code 8 = .ok (.goto 15, 3) := by decide +kernel
theorem d8_23 : decode prog_4_method_5_code 23 = .ok (.dstore_n 3, 1) := by decide +kernel
theorem d8_24 : decode prog_4_method_5_code 24 = .ok (.dload_n 3, 1) := by decide +kernel
theorem d8_25 : decode prog_4_method_5_code 25 = .ok (.aload_n 0, 1) := by decide +kernel
theorem d8_26 : decode prog_4_method_5_code 26 = .ok (.getfield 16, 3) := by decide +kernel
theorem d8_29 : decode prog_4_method_5_code 29 = .ok (.dmul, 1) := by decide +kernel
theorem d8_30 : decode prog_4_method_5_code 30 = .ok (.d2l, 1) := by decide +kernel
theorem d8_31 : decode prog_4_method_5_code 31 = .ok (.lstore 5, 2) := by decide +kernel
theorem d8_33 : decode prog_4_method_5_code 33 = .ok (.lload_n 1, 1) := by decide +kernel
theorem d8_34 : decode prog_4_method_5_code 34 = .ok (.lload 5, 2) := by decide +kernel
theorem d8_36 : decode prog_4_method_5_code 36 = .ok (.aload_n 0, 1) := by decide +kernel
theorem d8_37 : decode prog_4_method_5_code 37 = .ok (.getfield 13, 3) := by decide +kernel
theorem d8_40 : decode prog_4_method_5_code 40 = .ok (.lmul, 1) := by decide +kernel
theorem d8_41 : decode prog_4_method_5_code 41 = .ok (.lsub, 1) := by decide +kernel
theorem d8_42 : decode prog_4_method_5_code 42 = .ok (.lstore 7, 2) := by decide +kernel
theorem d8_44 : decode prog_4_method_5_code 44 = .ok (.lload 7, 2) := by decide +kernel
theorem d8_46 : decode prog_4_method_5_code 46 = .ok (.lconst 0, 1) := by decide +kernel
theorem d8_47 : decode prog_4_method_5_code 47 = .ok (.lcmp, 1) := by decide +kernel
theorem d8_48 : decode prog_4_method_5_code 48 = .ok (.ifCond .ge 12, 3) := by decide +kernel
theorem d8_51 : decode prog_4_method_5_code 51 = .ok (.lload 5, 2) := by decide +kernel
theorem d8_53 : decode prog_4_method_5_code 53 = .ok (.lconst 1, 1) := by decide +kernel
theorem d8_54 : decode prog_4_method_5_code 54 = .ok (.lsub, 1) := by decide +kernel
theorem d8_55 : decode prog_4_method_5_code 55 = .ok (.lstore 5, 2) := by decide +kernel
theorem d8_57 : decode prog_4_method_5_code 57 = .ok (.goto 19, 3) := by decide +kernel
theorem d8_76 : decode prog_4_method_5_code 76 = .ok (.lload 5, 2) := by decide +kernel
theorem d8_78 : decode prog_4_method_5_code 78 = .ok (.lreturn, 1) := by decide +kernel
theorem ef3 (m : MethodId) (x0 : Addr) (x1 : Int64) : entryFrame m #[(.ref x0), (.long x1)] 9 = mkF m 0 #[.val (.ref x0), .val (.long x1), .second, .unset, .unset, .unset, .unset, .unset, .unset] [] := by first | (simp [entryFrame, mkF, argsToLocals, Value.category]; done) | rfl
theorem d8_60 : decode prog_4_method_5_code 60 = .ok (.lload 7, 2) := by decide +kernel
theorem d8_62 : decode prog_4_method_5_code 62 = .ok (.aload_n 0, 1) := by decide +kernel
theorem d8_63 : decode prog_4_method_5_code 63 = .ok (.getfield 13, 3) := by decide +kernel
theorem d8_66 : decode prog_4_method_5_code 66 = .ok (.lcmp, 1) := by decide +kernel
theorem d8_67 : decode prog_4_method_5_code 67 = .ok (.ifCond .lt 9, 3) := by decide +kernel
theorem d8_70 : decode prog_4_method_5_code 70 = .ok (.lload 5, 2) := by decide +kernel
theorem d8_72 : decode prog_4_method_5_code 72 = .ok (.lconst 1, 1) := by decide +kernel
theorem d8_73 : decode prog_4_method_5_code 73 = .ok (.ladd, 1) := by decide +kernel
theorem d8_74 : decode prog_4_method_5_code 74 = .ok (.lstore 5, 2) := by decide +kernel
theorem d8_11 : decode prog_4_method_5_code 11 = .ok (.lload_n 1, 1) := by decide +kernel
theorem d8_12 : decode prog_4_method_5_code 12 = .ok (.iconst 1, 1) := by decide +kernel
theorem d8_13 : decode prog_4_method_5_code 13 = .ok (.lushr, 1) := by decide +kernel
theorem d8_14 : decode prog_4_method_5_code 14 = .ok (.lload_n 1, 1) := by decide +kernel
theorem d8_15 : decode prog_4_method_5_code 15 = .ok (.lconst 1, 1) := by decide +kernel
theorem d8_16 : decode prog_4_method_5_code 16 = .ok (.land, 1) := by decide +kernel
theorem d8_17 : decode prog_4_method_5_code 17 = .ok (.lor, 1) := by decide +kernel
theorem d8_18 : decode prog_4_method_5_code 18 = .ok (.l2d, 1) := by decide +kernel
theorem d8_19 : decode prog_4_method_5_code 19 = .ok (.ldc2_w 44, 3) := by decide +kernel
theorem d8_22 : decode prog_4_method_5_code 22 = .ok (.dmul, 1) := by decide +kernel
theorem d10_0 : decode prog_4_method_3_code 0 = .ok (.lload_n 1, 1) := by decide +kernel
theorem d10_1 : decode prog_4_method_3_code 1 = .ok (.aload_n 0, 1) := by decide +kernel
theorem d10_2 : decode prog_4_method_3_code 2 = .ok (.getfield 7, 3) := by decide +kernel
theorem d10_5 : decode prog_4_method_3_code 5 = .ok (.lcmp, 1) := by decide +kernel
theorem d10_6 : decode prog_4_method_3_code 6 = .ok (.ifCond .gt 7, 3) := by decide +kernel
theorem d10_9 : decode prog_4_method_3_code 9 = .ok (.lconst 0, 1) := by decide +kernel
theorem d10_10 : decode prog_4_method_3_code 10 = .ok (.goto 17, 3) := by decide +kernel
theorem d10_27 : decode prog_4_method_3_code 27 = .ok (.lreturn, 1) := by decide +kernel
theorem ef4 (m : MethodId) (x0 : Addr) (x1 : Int64) : entryFrame m #[(.ref x0), (.long x1)] 3 = mkF m 0 #[.val (.ref x0), .val (.long x1), .second] [] := by first | (simp [entryFrame, mkF, argsToLocals, Value.category]; done) | rfl
theorem d10_13 : decode prog_4_method_3_code 13 = .ok (.aload_n 0, 1) := by decide +kernel
theorem d10_14 : decode prog_4_method_3_code 14 = .ok (.lload_n 1, 1) := by decide +kernel
theorem d10_15 : decode prog_4_method_3_code 15 = .ok (.aload_n 0, 1) := by decide +kernel
theorem d10_16 : decode prog_4_method_3_code 16 = .ok (.getfield 7, 3) := by decide +kernel
theorem d10_19 : decode prog_4_method_3_code 19 = .ok (.lsub, 1) := by decide +kernel
theorem d10_20 : decode prog_4_method_3_code 20 = .ok (.lconst 1, 1) := by decide +kernel
theorem d10_21 : decode prog_4_method_3_code 21 = .ok (.lsub, 1) := by decide +kernel
theorem d10_22 : decode prog_4_method_3_code 22 = .ok (.invokevirtual 35, 3) := by decide +kernel
theorem pd2 : parseMethodDescriptor "(J)J" = some ⟨[.long], some .long⟩ := by decide +kernel
theorem d10_25 : decode prog_4_method_3_code 25 = .ok (.lconst 1, 1) := by decide +kernel
theorem d10_26 : decode prog_4_method_3_code 26 = .ok (.ladd, 1) := by decide +kernel
theorem d13_0 : decode method_2_code 0 = .ok (.lload_n 0, 1) := by decide +kernel
theorem d13_1 : decode method_2_code 1 = .ok (.lconst 0, 1) := by decide +kernel
theorem d13_2 : decode method_2_code 2 = .ok (.lcmp, 1) := by decide +kernel
theorem d13_3 : decode method_2_code 3 = .ok (.ifCond .lt 7, 3) := by decide +kernel
theorem d13_6 : decode method_2_code 6 = .ok (.lload_n 0, 1) := by decide +kernel
theorem d13_7 : decode method_2_code 7 = .ok (.lload_n 2, 1) := by decide +kernel
theorem d13_8 : decode method_2_code 8 = .ok (.ldiv, 1) := by decide +kernel
theorem d13_9 : decode method_2_code 9 = .ok (.lreturn, 1) := by decide +kernel
theorem pn3 : plainName "com/example/tick60/tick60/TicksBoundaryOfPinLaw" = true := by first | (simp [plainName, overriddenIn]; done) | decide +kernel
theorem d13_10 : decode method_2_code 10 = .ok (.lload_n 0, 1) := by decide +kernel
theorem d13_11 : decode method_2_code 11 = .ok (.iconst 1, 1) := by decide +kernel
theorem d13_12 : decode method_2_code 12 = .ok (.lushr, 1) := by decide +kernel
theorem d13_13 : decode method_2_code 13 = .ok (.lload_n 2, 1) := by decide +kernel
theorem d13_14 : decode method_2_code 14 = .ok (.ldiv, 1) := by decide +kernel
theorem d13_15 : decode method_2_code 15 = .ok (.iconst 1, 1) := by decide +kernel
theorem d13_16 : decode method_2_code 16 = .ok (.lshl, 1) := by decide +kernel
theorem d13_17 : decode method_2_code 17 = .ok (.lstore 4, 2) := by decide +kernel
theorem d13_19 : decode method_2_code 19 = .ok (.lload_n 0, 1) := by decide +kernel
theorem d13_20 : decode method_2_code 20 = .ok (.lload 4, 2) := by decide +kernel
theorem d13_22 : decode method_2_code 22 = .ok (.lload_n 2, 1) := by decide +kernel
theorem d13_23 : decode method_2_code 23 = .ok (.lmul, 1) := by decide +kernel
theorem d13_24 : decode method_2_code 24 = .ok (.lsub, 1) := by decide +kernel
theorem d13_25 : decode method_2_code 25 = .ok (.lstore 6, 2) := by decide +kernel
theorem d13_27 : decode method_2_code 27 = .ok (.lload 6, 2) := by decide +kernel
theorem d13_29 : decode method_2_code 29 = .ok (.lload_n 2, 1) := by decide +kernel
theorem d13_30 : decode method_2_code 30 = .ok (.lcmp, 1) := by decide +kernel
theorem d13_31 : decode method_2_code 31 = .ok (.ifCond .lt 10, 3) := by decide +kernel
theorem d13_41 : decode method_2_code 41 = .ok (.lload 4, 2) := by decide +kernel
theorem d13_43 : decode method_2_code 43 = .ok (.lreturn, 1) := by decide +kernel
theorem d13_34 : decode method_2_code 34 = .ok (.lload 4, 2) := by decide +kernel
theorem d13_36 : decode method_2_code 36 = .ok (.lconst 1, 1) := by decide +kernel
theorem d13_37 : decode method_2_code 37 = .ok (.ladd, 1) := by decide +kernel
theorem d13_38 : decode method_2_code 38 = .ok (.goto 5, 3) := by decide +kernel
theorem pd3 : parseMethodDescriptor "(JJ)V" = some ⟨[.long, .long], none⟩ := by decide +kernel
theorem ef5 (m : MethodId) (x0 : Int64) (x1 : Int64) (x2 : Int64) (x3 : Int32) : entryFrame m #[(.long x0), (.long x1), (.long x2), (.int x3)] maxLocals = mkF m 0 #[.val (.long x0), .second, .val (.long x1), .second, .val (.long x2), .second, .val (.int x3), .unset, .unset, .unset, .unset, .unset, .unset, .unset, .unset, .unset] [] := by first | (simp [entryFrame, mkF, argsToLocals, Value.category, maxLocals]; done) | rfl
theorem own_selP {s : State} {args : Array Value} {y y' : MethodName} (hcls : y'.cls = y.cls) (hsel : (Jvm.Cond.selects y'.cls y' y').before args s = true) (hpriv : s.PrivateAt y) (hinst : (Jvm.Cond.instanceMethod y).before args s = true)
    (hy : y.cls ≠ "java/lang/invoke/MethodHandle" ∧ y.cls ≠ "java/lang/invoke/VarHandle") : (Jvm.Cond.selects y.cls y y).before args s = true := by
  obtain ⟨c2, r2, m2, q1, q2, q3, q4, kP, hkP, hkPi⟩ := Cond.selects_spec hsel
  exact Stand.selects_self_of_private (by rw [← hcls]; exact findClass_of_methodNamed q3) hkP hkPi hpriv hinst hy
def own_du (n d : Int64) : Int64 := (((((n.toUInt64 >>> ((1 : Int32) &&& 0x3f).toInt64.toUInt64).toInt64) / d) <<< ((1 : Int32) &&& 0x3f).toInt64) + ((((n - (((((n.toUInt64 >>> ((1 : Int32) &&& 0x3f).toInt64.toUInt64).toInt64) / d) <<< ((1 : Int32) &&& 0x3f).toInt64) * d)) ||| (((n - (((((n.toUInt64 >>> ((1 : Int32) &&& 0x3f).toInt64.toUInt64).toInt64) / d) <<< ((1 : Int32) &&& 0x3f).toInt64) * d)) - d) ^^^ (-1 : Int64))).toUInt64 >>> ((63 : Int32) &&& 0x3f).toInt64.toUInt64).toInt64))
def QDU (r : Int64) (h0 : Heap) (n0 : Nat) (v : Option Value) (h : Heap) (L : List Loc) : Prop := v = some (.long r) ∧ Fr n0 L ∧ h = h0
set_option maxRecDepth 65536 in
set_option maxHeartbeats 40000000 in
theorem rmDU (l : Launch) (Z : State) (a0 : Array Value) (hw : ∀ d ∈ tables_1, d.before a0 Z = true) (ws : List Jvm.Cond) (n d : Int64) (h0 : Heap) (n0 : Nat) (Z0 : n0 ≤ h0.size) (hd : ¬ (lcmpW d (0 : Int64) < 0)) (hz : d ≠ 0) :
    MetFree l (⟨"java/lang/Long", "divideUnsigned", "(JJ)J"⟩ : MethodName) (head1 (Jvm.Cond.code (⟨"java/lang/Long", "divideUnsigned", "(JJ)J"⟩ : MethodName) jdk_35_method_44_code 8 (some .long) :: ws) ({ frames := 0, cells := 0, slots := 0, locals := 0 } : Room)) (fun a U => a = #[(.long n), (.long d)] ∧ Z.Warmed39 U.vm ∧ U.heap = h0) (fun _ _ _ _ _ => True) (fun _ U o U' => ∃ v L, o = .returned v ∧ QDU (own_du n d) h0 n0 v U'.heap L ∧ FrameEnd U o U' L ({ frames := 0, cells := 0, slots := 0, locals := 0 } : Room).cells ({ frames := 0, cells := 0, slots := 0, locals := 0 } : Room).slots) := by
  refine MetFree.of_bodySF (plainFor_of_name pn1) hisR ?_
  intro p e s m args below meth c s₁ Bd hml0 hP hK
  obtain ⟨rfl, hZ, hh⟩ := hP
  have hx := Bd.exec
  have hby := Bd.bytes
  have hml : c.maxLocals = 8 := hml0
  have hown : s.vm.findClass "java/lang/Long" = some m.cls := findClass_of_methodNamed Bd.named
  have hnm := (name_of_methodNamed Bd.named Bd.method).1
  have X0 : Stand p l e ({ frames := 0, cells := 0, slots := 0, locals := 0 } : Room) s m #[(.long n), (.long d)] below meth c s₁ [] 0 0 := Stand.of_body Bd
  have e0 : s₁.heap = h0 := by rw [← hh, Bd.state]; rfl
  have N0 := Fr.nil n0
  have pre0 : ∀ t, Steps p.tables e below (s₁.setTop (mkF m 0 #[.val (.long n), .second, .val (.long d), .second, .unset, .unset, .unset, .unset] [])) t → Steps p.tables e below (s₁.setTop (entryFrame m #[(.long n), (.long d)] 8)) t := fun t k => castTop (ef1 m n d) k
  obtain ⟨fs, hr, hrun, hended, hW, hsame⟩ := X0.leave (v := some (.long (((((n.toUInt64 >>> ((1 : Int32) &&& 0x3f).toInt64.toUInt64).toInt64) / d) <<< ((1 : Int32) &&& 0x3f).toInt64) + ((((n - (((((n.toUInt64 >>> ((1 : Int32) &&& 0x3f).toInt64.toUInt64).toInt64) / d) <<< ((1 : Int32) &&& 0x3f).toInt64) * d)) ||| (((n - (((((n.toUInt64 >>> ((1 : Int32) &&& 0x3f).toInt64.toUInt64).toInt64) / d) <<< ((1 : Int32) &&& 0x3f).toInt64) * d)) - d) ^^^ (-1 : Int64))).toUInt64 >>> ((63 : Int32) &&& 0x3f).toInt64.toUInt64).toInt64)))) (fun h => by rw [Bd.returns] at h; cases h)
  refine ⟨_, _, pre0 _ ?_, hrun, hended, _, _, rfl, ?_, ⟨_, rfl⟩, hW, hsame.mono (by decide) (by decide)⟩
  · show Steps p.tables e below (s₁.setTop (mkF m 0 #[.val (.long n), .second, .val (.long d), .second, .unset, .unset, .unset, .unset] [])) _
    refine XS.lloadN X0.here hx rfl (hb hby d1_0) rfl ?_
    show Steps p.tables e below (s₁.setTop (mkF m 1 #[.val (.long n), .second, .val (.long d), .second, .unset, .unset, .unset, .unset] [(.long d)])) _
    refine XS.lconst X0.here hx rfl (hb hby d1_1) ?_
    show Steps p.tables e below (s₁.setTop (mkF m 2 #[.val (.long n), .second, .val (.long d), .second, .unset, .unset, .unset, .unset] [(.long (0 : Int64)), (.long d)])) _
    refine XS.lcmp X0.here hx rfl (hb hby d1_2) rfl ?_
    show Steps p.tables e below (s₁.setTop (mkF m 3 #[.val (.long n), .second, .val (.long d), .second, .unset, .unset, .unset, .unset] [(.int (lcmpW d (0 : Int64)))])) _
    refine XS.ifNo X0.here hx rfl (hb hby d1_3) rfl ((if0 _ _).trans (flt hd).1) ?_
    show Steps p.tables e below (s₁.setTop (mkF m 6 #[.val (.long n), .second, .val (.long d), .second, .unset, .unset, .unset, .unset] [])) _
    refine XS.lloadN X0.here hx rfl (hb hby d1_6) rfl ?_
    show Steps p.tables e below (s₁.setTop (mkF m 7 #[.val (.long n), .second, .val (.long d), .second, .unset, .unset, .unset, .unset] [(.long n)])) _
    refine XS.iconst X0.here hx rfl (hb hby d1_7) ?_
    show Steps p.tables e below (s₁.setTop (mkF m 8 #[.val (.long n), .second, .val (.long d), .second, .unset, .unset, .unset, .unset] [(.int (1 : Int32)), (.long n)])) _
    refine XS.lushr X0.here hx rfl (hb hby d1_8) rfl ?_
    show Steps p.tables e below (s₁.setTop (mkF m 9 #[.val (.long n), .second, .val (.long d), .second, .unset, .unset, .unset, .unset] [(.long ((n.toUInt64 >>> ((1 : Int32) &&& 0x3f).toInt64.toUInt64).toInt64))])) _
    refine XS.lloadN X0.here hx rfl (hb hby d1_9) rfl ?_
    show Steps p.tables e below (s₁.setTop (mkF m 10 #[.val (.long n), .second, .val (.long d), .second, .unset, .unset, .unset, .unset] [(.long d), (.long ((n.toUInt64 >>> ((1 : Int32) &&& 0x3f).toInt64.toUInt64).toInt64))])) _
    refine XS.ldiv X0.here hx rfl (hb hby d1_10) rfl hz ?_
    show Steps p.tables e below (s₁.setTop (mkF m 11 #[.val (.long n), .second, .val (.long d), .second, .unset, .unset, .unset, .unset] [(.long (((n.toUInt64 >>> ((1 : Int32) &&& 0x3f).toInt64.toUInt64).toInt64) / d))])) _
    refine XS.iconst X0.here hx rfl (hb hby d1_11) ?_
    show Steps p.tables e below (s₁.setTop (mkF m 12 #[.val (.long n), .second, .val (.long d), .second, .unset, .unset, .unset, .unset] [(.int (1 : Int32)), (.long (((n.toUInt64 >>> ((1 : Int32) &&& 0x3f).toInt64.toUInt64).toInt64) / d))])) _
    refine XS.lshl X0.here hx rfl (hb hby d1_12) rfl ?_
    show Steps p.tables e below (s₁.setTop (mkF m 13 #[.val (.long n), .second, .val (.long d), .second, .unset, .unset, .unset, .unset] [(.long ((((n.toUInt64 >>> ((1 : Int32) &&& 0x3f).toInt64.toUInt64).toInt64) / d) <<< ((1 : Int32) &&& 0x3f).toInt64))])) _
    refine XS.lstore X0.here hx rfl (hb hby d1_13) rfl (l' := #[.val (.long n), .second, .val (.long d), .second, .val (.long ((((n.toUInt64 >>> ((1 : Int32) &&& 0x3f).toInt64.toUInt64).toInt64) / d) <<< ((1 : Int32) &&& 0x3f).toInt64)), .second, .unset, .unset]) rfl ?_
    show Steps p.tables e below (s₁.setTop (mkF m 15 #[.val (.long n), .second, .val (.long d), .second, .val (.long ((((n.toUInt64 >>> ((1 : Int32) &&& 0x3f).toInt64.toUInt64).toInt64) / d) <<< ((1 : Int32) &&& 0x3f).toInt64)), .second, .unset, .unset] [])) _
    refine XS.lloadN X0.here hx rfl (hb hby d1_15) rfl ?_
    show Steps p.tables e below (s₁.setTop (mkF m 16 #[.val (.long n), .second, .val (.long d), .second, .val (.long ((((n.toUInt64 >>> ((1 : Int32) &&& 0x3f).toInt64.toUInt64).toInt64) / d) <<< ((1 : Int32) &&& 0x3f).toInt64)), .second, .unset, .unset] [(.long n)])) _
    refine XS.lload X0.here hx rfl (hb hby d1_16) rfl ?_
    show Steps p.tables e below (s₁.setTop (mkF m 18 #[.val (.long n), .second, .val (.long d), .second, .val (.long ((((n.toUInt64 >>> ((1 : Int32) &&& 0x3f).toInt64.toUInt64).toInt64) / d) <<< ((1 : Int32) &&& 0x3f).toInt64)), .second, .unset, .unset] [(.long ((((n.toUInt64 >>> ((1 : Int32) &&& 0x3f).toInt64.toUInt64).toInt64) / d) <<< ((1 : Int32) &&& 0x3f).toInt64)), (.long n)])) _
    refine XS.lloadN X0.here hx rfl (hb hby d1_18) rfl ?_
    show Steps p.tables e below (s₁.setTop (mkF m 19 #[.val (.long n), .second, .val (.long d), .second, .val (.long ((((n.toUInt64 >>> ((1 : Int32) &&& 0x3f).toInt64.toUInt64).toInt64) / d) <<< ((1 : Int32) &&& 0x3f).toInt64)), .second, .unset, .unset] [(.long d), (.long ((((n.toUInt64 >>> ((1 : Int32) &&& 0x3f).toInt64.toUInt64).toInt64) / d) <<< ((1 : Int32) &&& 0x3f).toInt64)), (.long n)])) _
    refine XS.lmul X0.here hx rfl (hb hby d1_19) rfl ?_
    show Steps p.tables e below (s₁.setTop (mkF m 20 #[.val (.long n), .second, .val (.long d), .second, .val (.long ((((n.toUInt64 >>> ((1 : Int32) &&& 0x3f).toInt64.toUInt64).toInt64) / d) <<< ((1 : Int32) &&& 0x3f).toInt64)), .second, .unset, .unset] [(.long (((((n.toUInt64 >>> ((1 : Int32) &&& 0x3f).toInt64.toUInt64).toInt64) / d) <<< ((1 : Int32) &&& 0x3f).toInt64) * d)), (.long n)])) _
    refine XS.lsub X0.here hx rfl (hb hby d1_20) rfl ?_
    show Steps p.tables e below (s₁.setTop (mkF m 21 #[.val (.long n), .second, .val (.long d), .second, .val (.long ((((n.toUInt64 >>> ((1 : Int32) &&& 0x3f).toInt64.toUInt64).toInt64) / d) <<< ((1 : Int32) &&& 0x3f).toInt64)), .second, .unset, .unset] [(.long (n - (((((n.toUInt64 >>> ((1 : Int32) &&& 0x3f).toInt64.toUInt64).toInt64) / d) <<< ((1 : Int32) &&& 0x3f).toInt64) * d)))])) _
    refine XS.lstore X0.here hx rfl (hb hby d1_21) rfl (l' := #[.val (.long n), .second, .val (.long d), .second, .val (.long ((((n.toUInt64 >>> ((1 : Int32) &&& 0x3f).toInt64.toUInt64).toInt64) / d) <<< ((1 : Int32) &&& 0x3f).toInt64)), .second, .val (.long (n - (((((n.toUInt64 >>> ((1 : Int32) &&& 0x3f).toInt64.toUInt64).toInt64) / d) <<< ((1 : Int32) &&& 0x3f).toInt64) * d))), .second]) rfl ?_
    show Steps p.tables e below (s₁.setTop (mkF m 23 #[.val (.long n), .second, .val (.long d), .second, .val (.long ((((n.toUInt64 >>> ((1 : Int32) &&& 0x3f).toInt64.toUInt64).toInt64) / d) <<< ((1 : Int32) &&& 0x3f).toInt64)), .second, .val (.long (n - (((((n.toUInt64 >>> ((1 : Int32) &&& 0x3f).toInt64.toUInt64).toInt64) / d) <<< ((1 : Int32) &&& 0x3f).toInt64) * d))), .second] [])) _
    refine XS.lload X0.here hx rfl (hb hby d1_23) rfl ?_
    show Steps p.tables e below (s₁.setTop (mkF m 25 #[.val (.long n), .second, .val (.long d), .second, .val (.long ((((n.toUInt64 >>> ((1 : Int32) &&& 0x3f).toInt64.toUInt64).toInt64) / d) <<< ((1 : Int32) &&& 0x3f).toInt64)), .second, .val (.long (n - (((((n.toUInt64 >>> ((1 : Int32) &&& 0x3f).toInt64.toUInt64).toInt64) / d) <<< ((1 : Int32) &&& 0x3f).toInt64) * d))), .second] [(.long ((((n.toUInt64 >>> ((1 : Int32) &&& 0x3f).toInt64.toUInt64).toInt64) / d) <<< ((1 : Int32) &&& 0x3f).toInt64))])) _
    refine XS.lload X0.here hx rfl (hb hby d1_25) rfl ?_
    show Steps p.tables e below (s₁.setTop (mkF m 27 #[.val (.long n), .second, .val (.long d), .second, .val (.long ((((n.toUInt64 >>> ((1 : Int32) &&& 0x3f).toInt64.toUInt64).toInt64) / d) <<< ((1 : Int32) &&& 0x3f).toInt64)), .second, .val (.long (n - (((((n.toUInt64 >>> ((1 : Int32) &&& 0x3f).toInt64.toUInt64).toInt64) / d) <<< ((1 : Int32) &&& 0x3f).toInt64) * d))), .second] [(.long (n - (((((n.toUInt64 >>> ((1 : Int32) &&& 0x3f).toInt64.toUInt64).toInt64) / d) <<< ((1 : Int32) &&& 0x3f).toInt64) * d))), (.long ((((n.toUInt64 >>> ((1 : Int32) &&& 0x3f).toInt64.toUInt64).toInt64) / d) <<< ((1 : Int32) &&& 0x3f).toInt64))])) _
    refine XS.lload X0.here hx rfl (hb hby d1_27) rfl ?_
    show Steps p.tables e below (s₁.setTop (mkF m 29 #[.val (.long n), .second, .val (.long d), .second, .val (.long ((((n.toUInt64 >>> ((1 : Int32) &&& 0x3f).toInt64.toUInt64).toInt64) / d) <<< ((1 : Int32) &&& 0x3f).toInt64)), .second, .val (.long (n - (((((n.toUInt64 >>> ((1 : Int32) &&& 0x3f).toInt64.toUInt64).toInt64) / d) <<< ((1 : Int32) &&& 0x3f).toInt64) * d))), .second] [(.long (n - (((((n.toUInt64 >>> ((1 : Int32) &&& 0x3f).toInt64.toUInt64).toInt64) / d) <<< ((1 : Int32) &&& 0x3f).toInt64) * d))), (.long (n - (((((n.toUInt64 >>> ((1 : Int32) &&& 0x3f).toInt64.toUInt64).toInt64) / d) <<< ((1 : Int32) &&& 0x3f).toInt64) * d))), (.long ((((n.toUInt64 >>> ((1 : Int32) &&& 0x3f).toInt64.toUInt64).toInt64) / d) <<< ((1 : Int32) &&& 0x3f).toInt64))])) _
    refine XS.lloadN X0.here hx rfl (hb hby d1_29) rfl ?_
    show Steps p.tables e below (s₁.setTop (mkF m 30 #[.val (.long n), .second, .val (.long d), .second, .val (.long ((((n.toUInt64 >>> ((1 : Int32) &&& 0x3f).toInt64.toUInt64).toInt64) / d) <<< ((1 : Int32) &&& 0x3f).toInt64)), .second, .val (.long (n - (((((n.toUInt64 >>> ((1 : Int32) &&& 0x3f).toInt64.toUInt64).toInt64) / d) <<< ((1 : Int32) &&& 0x3f).toInt64) * d))), .second] [(.long d), (.long (n - (((((n.toUInt64 >>> ((1 : Int32) &&& 0x3f).toInt64.toUInt64).toInt64) / d) <<< ((1 : Int32) &&& 0x3f).toInt64) * d))), (.long (n - (((((n.toUInt64 >>> ((1 : Int32) &&& 0x3f).toInt64.toUInt64).toInt64) / d) <<< ((1 : Int32) &&& 0x3f).toInt64) * d))), (.long ((((n.toUInt64 >>> ((1 : Int32) &&& 0x3f).toInt64.toUInt64).toInt64) / d) <<< ((1 : Int32) &&& 0x3f).toInt64))])) _
    refine XS.lsub X0.here hx rfl (hb hby d1_30) rfl ?_
    show Steps p.tables e below (s₁.setTop (mkF m 31 #[.val (.long n), .second, .val (.long d), .second, .val (.long ((((n.toUInt64 >>> ((1 : Int32) &&& 0x3f).toInt64.toUInt64).toInt64) / d) <<< ((1 : Int32) &&& 0x3f).toInt64)), .second, .val (.long (n - (((((n.toUInt64 >>> ((1 : Int32) &&& 0x3f).toInt64.toUInt64).toInt64) / d) <<< ((1 : Int32) &&& 0x3f).toInt64) * d))), .second] [(.long ((n - (((((n.toUInt64 >>> ((1 : Int32) &&& 0x3f).toInt64.toUInt64).toInt64) / d) <<< ((1 : Int32) &&& 0x3f).toInt64) * d)) - d)), (.long (n - (((((n.toUInt64 >>> ((1 : Int32) &&& 0x3f).toInt64.toUInt64).toInt64) / d) <<< ((1 : Int32) &&& 0x3f).toInt64) * d))), (.long ((((n.toUInt64 >>> ((1 : Int32) &&& 0x3f).toInt64.toUInt64).toInt64) / d) <<< ((1 : Int32) &&& 0x3f).toInt64))])) _
    refine X0.ldc2Long hx hown (mvT hZ (hw _ (List.mem_of_getElem? (i := 22) rfl))) (g := (mkF m 31 #[.val (.long n), .second, .val (.long d), .second, .val (.long ((((n.toUInt64 >>> ((1 : Int32) &&& 0x3f).toInt64.toUInt64).toInt64) / d) <<< ((1 : Int32) &&& 0x3f).toInt64)), .second, .val (.long (n - (((((n.toUInt64 >>> ((1 : Int32) &&& 0x3f).toInt64.toUInt64).toInt64) / d) <<< ((1 : Int32) &&& 0x3f).toInt64) * d))), .second] [(.long ((n - (((((n.toUInt64 >>> ((1 : Int32) &&& 0x3f).toInt64.toUInt64).toInt64) / d) <<< ((1 : Int32) &&& 0x3f).toInt64) * d)) - d)), (.long (n - (((((n.toUInt64 >>> ((1 : Int32) &&& 0x3f).toInt64.toUInt64).toInt64) / d) <<< ((1 : Int32) &&& 0x3f).toInt64) * d))), (.long ((((n.toUInt64 >>> ((1 : Int32) &&& 0x3f).toInt64.toUInt64).toInt64) / d) <<< ((1 : Int32) &&& 0x3f).toInt64))])) rfl (hb hby d1_31) _ ?_
    show Steps p.tables e below (s₁.setTop (mkF m 34 #[.val (.long n), .second, .val (.long d), .second, .val (.long ((((n.toUInt64 >>> ((1 : Int32) &&& 0x3f).toInt64.toUInt64).toInt64) / d) <<< ((1 : Int32) &&& 0x3f).toInt64)), .second, .val (.long (n - (((((n.toUInt64 >>> ((1 : Int32) &&& 0x3f).toInt64.toUInt64).toInt64) / d) <<< ((1 : Int32) &&& 0x3f).toInt64) * d))), .second] [(.long (-1 : Int64)), (.long ((n - (((((n.toUInt64 >>> ((1 : Int32) &&& 0x3f).toInt64.toUInt64).toInt64) / d) <<< ((1 : Int32) &&& 0x3f).toInt64) * d)) - d)), (.long (n - (((((n.toUInt64 >>> ((1 : Int32) &&& 0x3f).toInt64.toUInt64).toInt64) / d) <<< ((1 : Int32) &&& 0x3f).toInt64) * d))), (.long ((((n.toUInt64 >>> ((1 : Int32) &&& 0x3f).toInt64.toUInt64).toInt64) / d) <<< ((1 : Int32) &&& 0x3f).toInt64))])) _
    refine XS.lxor X0.here hx rfl (hb hby d1_34) rfl ?_
    show Steps p.tables e below (s₁.setTop (mkF m 35 #[.val (.long n), .second, .val (.long d), .second, .val (.long ((((n.toUInt64 >>> ((1 : Int32) &&& 0x3f).toInt64.toUInt64).toInt64) / d) <<< ((1 : Int32) &&& 0x3f).toInt64)), .second, .val (.long (n - (((((n.toUInt64 >>> ((1 : Int32) &&& 0x3f).toInt64.toUInt64).toInt64) / d) <<< ((1 : Int32) &&& 0x3f).toInt64) * d))), .second] [(.long (((n - (((((n.toUInt64 >>> ((1 : Int32) &&& 0x3f).toInt64.toUInt64).toInt64) / d) <<< ((1 : Int32) &&& 0x3f).toInt64) * d)) - d) ^^^ (-1 : Int64))), (.long (n - (((((n.toUInt64 >>> ((1 : Int32) &&& 0x3f).toInt64.toUInt64).toInt64) / d) <<< ((1 : Int32) &&& 0x3f).toInt64) * d))), (.long ((((n.toUInt64 >>> ((1 : Int32) &&& 0x3f).toInt64.toUInt64).toInt64) / d) <<< ((1 : Int32) &&& 0x3f).toInt64))])) _
    refine XS.lor X0.here hx rfl (hb hby d1_35) rfl ?_
    show Steps p.tables e below (s₁.setTop (mkF m 36 #[.val (.long n), .second, .val (.long d), .second, .val (.long ((((n.toUInt64 >>> ((1 : Int32) &&& 0x3f).toInt64.toUInt64).toInt64) / d) <<< ((1 : Int32) &&& 0x3f).toInt64)), .second, .val (.long (n - (((((n.toUInt64 >>> ((1 : Int32) &&& 0x3f).toInt64.toUInt64).toInt64) / d) <<< ((1 : Int32) &&& 0x3f).toInt64) * d))), .second] [(.long ((n - (((((n.toUInt64 >>> ((1 : Int32) &&& 0x3f).toInt64.toUInt64).toInt64) / d) <<< ((1 : Int32) &&& 0x3f).toInt64) * d)) ||| (((n - (((((n.toUInt64 >>> ((1 : Int32) &&& 0x3f).toInt64.toUInt64).toInt64) / d) <<< ((1 : Int32) &&& 0x3f).toInt64) * d)) - d) ^^^ (-1 : Int64)))), (.long ((((n.toUInt64 >>> ((1 : Int32) &&& 0x3f).toInt64.toUInt64).toInt64) / d) <<< ((1 : Int32) &&& 0x3f).toInt64))])) _
    refine XS.bipush X0.here hx rfl (hb hby d1_36) ?_
    show Steps p.tables e below (s₁.setTop (mkF m 38 #[.val (.long n), .second, .val (.long d), .second, .val (.long ((((n.toUInt64 >>> ((1 : Int32) &&& 0x3f).toInt64.toUInt64).toInt64) / d) <<< ((1 : Int32) &&& 0x3f).toInt64)), .second, .val (.long (n - (((((n.toUInt64 >>> ((1 : Int32) &&& 0x3f).toInt64.toUInt64).toInt64) / d) <<< ((1 : Int32) &&& 0x3f).toInt64) * d))), .second] [(.int (63 : Int32)), (.long ((n - (((((n.toUInt64 >>> ((1 : Int32) &&& 0x3f).toInt64.toUInt64).toInt64) / d) <<< ((1 : Int32) &&& 0x3f).toInt64) * d)) ||| (((n - (((((n.toUInt64 >>> ((1 : Int32) &&& 0x3f).toInt64.toUInt64).toInt64) / d) <<< ((1 : Int32) &&& 0x3f).toInt64) * d)) - d) ^^^ (-1 : Int64)))), (.long ((((n.toUInt64 >>> ((1 : Int32) &&& 0x3f).toInt64.toUInt64).toInt64) / d) <<< ((1 : Int32) &&& 0x3f).toInt64))])) _
    refine XS.lushr X0.here hx rfl (hb hby d1_38) rfl ?_
    show Steps p.tables e below (s₁.setTop (mkF m 39 #[.val (.long n), .second, .val (.long d), .second, .val (.long ((((n.toUInt64 >>> ((1 : Int32) &&& 0x3f).toInt64.toUInt64).toInt64) / d) <<< ((1 : Int32) &&& 0x3f).toInt64)), .second, .val (.long (n - (((((n.toUInt64 >>> ((1 : Int32) &&& 0x3f).toInt64.toUInt64).toInt64) / d) <<< ((1 : Int32) &&& 0x3f).toInt64) * d))), .second] [(.long ((((n - (((((n.toUInt64 >>> ((1 : Int32) &&& 0x3f).toInt64.toUInt64).toInt64) / d) <<< ((1 : Int32) &&& 0x3f).toInt64) * d)) ||| (((n - (((((n.toUInt64 >>> ((1 : Int32) &&& 0x3f).toInt64.toUInt64).toInt64) / d) <<< ((1 : Int32) &&& 0x3f).toInt64) * d)) - d) ^^^ (-1 : Int64))).toUInt64 >>> ((63 : Int32) &&& 0x3f).toInt64.toUInt64).toInt64)), (.long ((((n.toUInt64 >>> ((1 : Int32) &&& 0x3f).toInt64.toUInt64).toInt64) / d) <<< ((1 : Int32) &&& 0x3f).toInt64))])) _
    refine XS.ladd X0.here hx rfl (hb hby d1_39) rfl ?_
    show Steps p.tables e below (s₁.setTop (mkF m 40 #[.val (.long n), .second, .val (.long d), .second, .val (.long ((((n.toUInt64 >>> ((1 : Int32) &&& 0x3f).toInt64.toUInt64).toInt64) / d) <<< ((1 : Int32) &&& 0x3f).toInt64)), .second, .val (.long (n - (((((n.toUInt64 >>> ((1 : Int32) &&& 0x3f).toInt64.toUInt64).toInt64) / d) <<< ((1 : Int32) &&& 0x3f).toInt64) * d))), .second] [(.long (((((n.toUInt64 >>> ((1 : Int32) &&& 0x3f).toInt64.toUInt64).toInt64) / d) <<< ((1 : Int32) &&& 0x3f).toInt64) + ((((n - (((((n.toUInt64 >>> ((1 : Int32) &&& 0x3f).toInt64.toUInt64).toInt64) / d) <<< ((1 : Int32) &&& 0x3f).toInt64) * d)) ||| (((n - (((((n.toUInt64 >>> ((1 : Int32) &&& 0x3f).toInt64.toUInt64).toInt64) / d) <<< ((1 : Int32) &&& 0x3f).toInt64) * d)) - d) ^^^ (-1 : Int64))).toUInt64 >>> ((63 : Int32) &&& 0x3f).toInt64.toUInt64).toInt64)))])) _
    exact retOut X0 hx Bd.returns rfl (Or.inr (Or.inl ⟨rfl, rfl, _, rfl⟩)) (hb hby d1_40) hr
  · show QDU (own_du n d) h0 n0 _ s₁.heap _
    rw [e0]
    exact ⟨rfl, N0, rfl⟩
def QI (Z : State) (a1 : Addr) (st tk : Int64) (r : UInt64) (h0 : Heap) (n0 : Nat) (v : Option Value) (h : Heap) (L : List Loc) : Prop := v = none ∧ Fr n0 L ∧ Keep h0 h [a1] ∧ Fld Z h a1 "com/example/tick60/tick60/Ticks" "start" "J" (.long st) ∧ Fld Z h a1 "com/example/tick60/tick60/Ticks" "tickNanos" "J" (.long tk) ∧ Fld Z h a1 "com/example/tick60/tick60/Ticks" "ticksPerNano" "D" (.double r)
set_option maxRecDepth 65536 in
set_option maxHeartbeats 40000000 in
theorem rmI (l : Launch) (Z : State) (a0 : Array Value) (hw : ∀ d ∈ tables_1, d.before a0 Z = true) (ws : List Jvm.Cond) (a1 : Addr) (st tk : Int64) (r : UInt64) (h0 : Heap) (n0 : Nat) (Z0 : n0 ≤ h0.size) (F_start : Fld Z h0 a1 "com/example/tick60/tick60/Ticks" "start" "J" (.long (0 : Int64))) (F_tickNanos : Fld Z h0 a1 "com/example/tick60/tick60/Ticks" "tickNanos" "J" (.long (0 : Int64))) (F_ticksPerNano : Fld Z h0 a1 "com/example/tick60/tick60/Ticks" "ticksPerNano" "D" (.double 0)) (F_lastTick : Fld Z h0 a1 "com/example/tick60/tick60/Ticks" "lastTick" "J" (.long (0 : Int64))) (E_a1 : Exa Z h0 a1 "com/example/tick60/tick60/Ticks") (g_a1 : n0 ≤ a1) (hd : ¬ (lcmpW tk (0 : Int64) < 0)) (hz : tk ≠ 0) (hn : NoNaN64 (FP.ddiv FP.dconst1 (FP.l2d tk))) (hv : FP.ddiv FP.dconst1 (FP.l2d tk) = r) :
    MetFree l (⟨"com/example/tick60/tick60/Ticks", "<init>", "(JJ)V"⟩ : MethodName) (head1 (Jvm.Cond.code (⟨"com/example/tick60/tick60/Ticks", "<init>", "(JJ)V"⟩ : MethodName) prog_4_method_1_code 5 none :: ws) ({ frames := 1, cells := 0, slots := 0, locals := 20 } : Room)) (fun a U => a = #[(.ref a1), (.long st), (.long tk)] ∧ Z.Warmed39 U.vm ∧ U.heap = h0) (fun _ _ _ _ _ => True) (fun _ U o U' => ∃ v L, o = .returned v ∧ QI Z a1 st tk r h0 n0 v U'.heap L ∧ FrameEnd U o U' L ({ frames := 1, cells := 0, slots := 0, locals := 20 } : Room).cells ({ frames := 1, cells := 0, slots := 0, locals := 20 } : Room).slots) := by
  refine MetFree.of_bodySF (plainFor_of_name pn2) hisR ?_
  intro p e s m args below meth c s₁ Bd hml0 hP hK
  obtain ⟨rfl, hZ, hh⟩ := hP
  have hx := Bd.exec
  have hby := Bd.bytes
  have hml : c.maxLocals = 5 := hml0
  have hown : s.vm.findClass "com/example/tick60/tick60/Ticks" = some m.cls := findClass_of_methodNamed Bd.named
  have hnm := (name_of_methodNamed Bd.named Bd.method).1
  have X0 : Stand p l e ({ frames := 1, cells := 0, slots := 0, locals := 20 } : Room) s m #[(.ref a1), (.long st), (.long tk)] below meth c s₁ [] 0 0 := Stand.of_body Bd
  have e0 : s₁.heap = h0 := by rw [← hh, Bd.state]; rfl
  have N0 := Fr.nil n0
  have pre0 : ∀ t, Steps p.tables e below (s₁.setTop (mkF m 0 #[.val (.ref a1), .val (.long st), .second, .val (.long tk), .second] [])) t → Steps p.tables e below (s₁.setTop (entryFrame m #[(.ref a1), (.long st), (.long tk)] 5)) t := fun t k => castTop (ef2 m a1 st tk) k
  obtain ⟨T1, X1, e1, st1⟩ := initO X0 hx hZ hown (hw _ (List.mem_of_getElem? (i := 8) rfl)) (hw _ (List.mem_of_getElem? (i := 9) rfl)) (hw _ (List.mem_of_getElem? (i := 10) rfl)) e0 (g := (mkF m 1 #[.val (.ref a1), .val (.long st), .second, .val (.long tk), .second] [(.ref a1)])) rfl (by rw [hml]; rfl) rfl (hb hby d4_1) (by decide) (W := 0) (by show 2 * 0 + _ ≤ _; exact Nat.le_of_eq rfl) (by decide)
  obtain ⟨T2, h2, X2, e2, W2, st2⟩ := putF X1 hx hZ hown (host := "") (Or.inl (hw _ (List.mem_of_getElem? (i := 11) rfl))) Via.refl e1 F_start E_a1 (Or.inr ⟨(hw _ (List.mem_of_getElem? (i := 12) rfl)), rfl, hnm⟩) (hw _ (List.mem_of_getElem? (i := 3) rfl)) (ty := .long) (by decide) rfl rfl (g := (mkF m 6 #[.val (.ref a1), .val (.long st), .second, .val (.long tk), .second] [(.long st), (.ref a1)])) rfl rfl (hb hby d4_6)
  have N3 := Fr.snoc X2 N0 g_a1
  have K3 : Keep h0 h2 [a1] := Keep.wr (Keep.refl h0 [a1]) W2 (Or.inl (List.mem_of_getElem? (i := 0) rfl))
  have Zc3 : n0 ≤ h2.size := by rw [Wr.size W2]; exact Z0
  have Fw2 : Fld Z h2 a1 "com/example/tick60/tick60/Ticks" "start" "J" (.long st) := Fld.same W2 F_start
  have f4 : Fld Z h2 a1 "com/example/tick60/tick60/Ticks" "tickNanos" "J" (.long (0 : Int64)) := (Fld.other W2 F_tickNanos (Or.inr (slot_ne (t := .long) (t' := .long) (Or.inr (hw _ (List.mem_of_getElem? (i := 14) rfl))) (Or.inr (hw _ (List.mem_of_getElem? (i := 12) rfl))) (by decide) (by decide) (by decide))))
  have f5 : Exa Z h2 a1 "com/example/tick60/tick60/Ticks" := (Exa.wr W2 E_a1)
  obtain ⟨T6, h6, X6, e6, W6, st6⟩ := putF X2 hx hZ hown (host := "") (Or.inl (hw _ (List.mem_of_getElem? (i := 13) rfl))) Via.refl e2 f4 f5 (Or.inr ⟨(hw _ (List.mem_of_getElem? (i := 14) rfl)), rfl, hnm⟩) (hw _ (List.mem_of_getElem? (i := 3) rfl)) (ty := .long) (by decide) rfl rfl (g := (mkF m 11 #[.val (.ref a1), .val (.long st), .second, .val (.long tk), .second] [(.long tk), (.ref a1)])) rfl rfl (hb hby d4_11)
  have N7 := Fr.snoc X6 N3 g_a1
  have K7 : Keep h0 h6 [a1] := Keep.wr K3 W6 (Or.inl (List.mem_of_getElem? (i := 0) rfl))
  have Zc7 : n0 ≤ h6.size := by rw [Wr.size W6]; exact Zc3
  have Fw6 : Fld Z h6 a1 "com/example/tick60/tick60/Ticks" "tickNanos" "J" (.long tk) := Fld.same W6 f4
  have f8 : Fld Z h6 a1 "com/example/tick60/tick60/Ticks" "ticksPerNano" "D" (.double 0) := (Fld.other W6 (Fld.other W2 F_ticksPerNano (Or.inr (slot_ne (t := .double) (t' := .long) (Or.inr (hw _ (List.mem_of_getElem? (i := 16) rfl))) (Or.inr (hw _ (List.mem_of_getElem? (i := 12) rfl))) (by decide) (by decide) (by decide)))) (Or.inr (slot_ne (t := .double) (t' := .long) (Or.inr (hw _ (List.mem_of_getElem? (i := 16) rfl))) (Or.inr (hw _ (List.mem_of_getElem? (i := 14) rfl))) (by decide) (by decide) (by decide))))
  have f9 : Exa Z h6 a1 "com/example/tick60/tick60/Ticks" := (Exa.wr W6 f5)
  obtain ⟨T10, h10, X10, e10, W10, st10⟩ := putF X6 hx hZ hown (host := "") (Or.inl (hw _ (List.mem_of_getElem? (i := 15) rfl))) Via.refl e6 f8 f9 (Or.inr ⟨(hw _ (List.mem_of_getElem? (i := 16) rfl)), rfl, hnm⟩) (hw _ (List.mem_of_getElem? (i := 3) rfl)) (ty := .double) (by decide) rfl rfl (g := (mkF m 19 #[.val (.ref a1), .val (.long st), .second, .val (.long tk), .second] [(.double r), (.ref a1)])) rfl rfl (hb hby d4_19)
  have N11 := Fr.snoc X10 N7 g_a1
  have K11 : Keep h0 h10 [a1] := Keep.wr K7 W10 (Or.inl (List.mem_of_getElem? (i := 0) rfl))
  have Zc11 : n0 ≤ h10.size := by rw [Wr.size W10]; exact Zc7
  have Fw10 : Fld Z h10 a1 "com/example/tick60/tick60/Ticks" "ticksPerNano" "D" (.double r) := Fld.same W10 f8
  obtain ⟨_, _, ⟨T12, L12, k12, n12⟩, -, X12, ⟨Lc12, hQ12, l12, y12, z12⟩, st12⟩ := Jvm.LawKit.callS X10 hx (y := (⟨"java/lang/Long", "divideUnsigned", "(JJ)J"⟩ : MethodName)) hown (mvT hZ (hw _ (List.mem_of_getElem? (i := 18) rfl))) (mvT hZ (hw _ (List.mem_of_getElem? (i := 19) rfl))) (mvT hZ (hw _ (List.mem_of_getElem? (i := 20) rfl))) (mvT hZ (hw _ (List.mem_of_getElem? (i := 21) rfl))) (by decide) (backOf (W := 1) (rmDU l Z a0 hw [] (-1 : Int64) tk h10 n0 Zc11 hd hz) hZ (hw _ (List.mem_of_getElem? (i := 21) rfl)) (hw _ (List.mem_of_getElem? (i := 20) rfl)) (by decide) (by decide)) (g := (mkF m 27 #[.val (.ref a1), .val (.long st), .second, .val (.long tk), .second] [(.long tk), (.long (-1 : Int64)), (.ref a1)])) rfl (by rw [hml]; rfl) (argsL := [(.long (-1 : Int64)), (.long tk)]) (rest := [(.ref a1)]) (lenOf pd1 rfl) rfl (by show 2 * 0 + _ ≤ _; exact Nat.le_of_eq rfl) (hb hby d4_27) (fun _ _ => ⟨rfl, e10, (by decide : 0 + 0 ≤ _), (by decide : 0 + 0 ≤ _)⟩)
  dsimp only [Pt.U, Pt.locs, Pt.cells, Pt.slots] at X12 l12 y12 z12 st12 hQ12
  subst l12 y12 z12
  obtain ⟨rfl, Nc12, ec12⟩ := hQ12
  have N12 := Fr.app N11 Nc12
  have f13 : Fld Z h10 a1 "com/example/tick60/tick60/Ticks" "lastTick" "J" (.long (0 : Int64)) := (Fld.other W10 (Fld.other W6 (Fld.other W2 F_lastTick (Or.inr (slot_ne (t := .long) (t' := .long) (Or.inr (hw _ (List.mem_of_getElem? (i := 24) rfl))) (Or.inr (hw _ (List.mem_of_getElem? (i := 12) rfl))) (by decide) (by decide) (by decide)))) (Or.inr (slot_ne (t := .long) (t' := .long) (Or.inr (hw _ (List.mem_of_getElem? (i := 24) rfl))) (Or.inr (hw _ (List.mem_of_getElem? (i := 14) rfl))) (by decide) (by decide) (by decide)))) (Or.inr (slot_ne (t := .long) (t' := .double) (Or.inr (hw _ (List.mem_of_getElem? (i := 24) rfl))) (Or.inr (hw _ (List.mem_of_getElem? (i := 16) rfl))) (by decide) (by decide) (by decide))))
  have f14 : Exa Z h10 a1 "com/example/tick60/tick60/Ticks" := (Exa.wr W10 f9)
  obtain ⟨T15, h15, X15, e15, W15, st15⟩ := putF X12 hx hZ hown (host := "") (Or.inl (hw _ (List.mem_of_getElem? (i := 23) rfl))) Via.refl ec12 f13 f14 (Or.inr ⟨(hw _ (List.mem_of_getElem? (i := 24) rfl)), rfl, hnm⟩) (hw _ (List.mem_of_getElem? (i := 3) rfl)) (ty := .long) (by decide) rfl rfl (g := (mkF m 30 #[.val (.ref a1), .val (.long st), .second, .val (.long tk), .second] [(.long (own_du (-1 : Int64) tk)), (.ref a1)])) rfl rfl (hb hby d4_30)
  have N16 := Fr.snoc X15 N12 g_a1
  have K16 : Keep h0 h15 [a1] := Keep.wr K11 W15 (Or.inl (List.mem_of_getElem? (i := 0) rfl))
  have Zc16 : n0 ≤ h15.size := by rw [Wr.size W15]; exact Zc11
  have Fw15 : Fld Z h15 a1 "com/example/tick60/tick60/Ticks" "lastTick" "J" (.long (own_du (-1 : Int64) tk)) := Fld.same W15 f13
  have f17 : Fld Z h15 a1 "com/example/tick60/tick60/Ticks" "start" "J" (.long st) := (Fld.other W15 (Fld.other W10 (Fld.other W6 Fw2 (Or.inr (slot_ne (t := .long) (t' := .long) (Or.inr (hw _ (List.mem_of_getElem? (i := 12) rfl))) (Or.inr (hw _ (List.mem_of_getElem? (i := 14) rfl))) (by decide) (by decide) (by decide)))) (Or.inr (slot_ne (t := .long) (t' := .double) (Or.inr (hw _ (List.mem_of_getElem? (i := 12) rfl))) (Or.inr (hw _ (List.mem_of_getElem? (i := 16) rfl))) (by decide) (by decide) (by decide)))) (Or.inr (slot_ne (t := .long) (t' := .long) (Or.inr (hw _ (List.mem_of_getElem? (i := 12) rfl))) (Or.inr (hw _ (List.mem_of_getElem? (i := 24) rfl))) (by decide) (by decide) (by decide))))
  have f18 : Fld Z h15 a1 "com/example/tick60/tick60/Ticks" "tickNanos" "J" (.long tk) := (Fld.other W15 (Fld.other W10 Fw6 (Or.inr (slot_ne (t := .long) (t' := .double) (Or.inr (hw _ (List.mem_of_getElem? (i := 14) rfl))) (Or.inr (hw _ (List.mem_of_getElem? (i := 16) rfl))) (by decide) (by decide) (by decide)))) (Or.inr (slot_ne (t := .long) (t' := .long) (Or.inr (hw _ (List.mem_of_getElem? (i := 14) rfl))) (Or.inr (hw _ (List.mem_of_getElem? (i := 24) rfl))) (by decide) (by decide) (by decide))))
  have f19 : Fld Z h15 a1 "com/example/tick60/tick60/Ticks" "ticksPerNano" "D" (.double r) := (Fld.other W15 Fw10 (Or.inr (slot_ne (t := .double) (t' := .long) (Or.inr (hw _ (List.mem_of_getElem? (i := 16) rfl))) (Or.inr (hw _ (List.mem_of_getElem? (i := 24) rfl))) (by decide) (by decide) (by decide))))
  obtain ⟨fs, hr, hrun, hended, hW, hsame⟩ := X15.leave (v := none) (fun _ => rfl)
  refine ⟨_, _, pre0 _ ?_, hrun, hended, _, _, rfl, ?_, ⟨_, rfl⟩, hW, hsame.mono (by decide) (by decide)⟩
  · show Steps p.tables e below (s₁.setTop (mkF m 0 #[.val (.ref a1), .val (.long st), .second, .val (.long tk), .second] [])) _
    refine XS.aloadN X0.here hx rfl (hb hby d4_0) rfl rfl ?_
    show Steps p.tables e below (s₁.setTop (mkF m 1 #[.val (.ref a1), .val (.long st), .second, .val (.long tk), .second] [(.ref a1)])) _
    refine st1 _ ?_
    show Steps p.tables e below (T1.setTop (mkF m 4 #[.val (.ref a1), .val (.long st), .second, .val (.long tk), .second] [])) _
    refine XS.aloadN X1.here hx rfl (hb hby d4_4) rfl rfl ?_
    show Steps p.tables e below (T1.setTop (mkF m 5 #[.val (.ref a1), .val (.long st), .second, .val (.long tk), .second] [(.ref a1)])) _
    refine XS.lloadN X1.here hx rfl (hb hby d4_5) rfl ?_
    show Steps p.tables e below (T1.setTop (mkF m 6 #[.val (.ref a1), .val (.long st), .second, .val (.long tk), .second] [(.long st), (.ref a1)])) _
    refine st2 _ ?_
    show Steps p.tables e below (T2.setTop (mkF m 9 #[.val (.ref a1), .val (.long st), .second, .val (.long tk), .second] [])) _
    refine XS.aloadN X2.here hx rfl (hb hby d4_9) rfl rfl ?_
    show Steps p.tables e below (T2.setTop (mkF m 10 #[.val (.ref a1), .val (.long st), .second, .val (.long tk), .second] [(.ref a1)])) _
    refine XS.lloadN X2.here hx rfl (hb hby d4_10) rfl ?_
    show Steps p.tables e below (T2.setTop (mkF m 11 #[.val (.ref a1), .val (.long st), .second, .val (.long tk), .second] [(.long tk), (.ref a1)])) _
    refine st6 _ ?_
    show Steps p.tables e below (T6.setTop (mkF m 14 #[.val (.ref a1), .val (.long st), .second, .val (.long tk), .second] [])) _
    refine XS.aloadN X6.here hx rfl (hb hby d4_14) rfl rfl ?_
    show Steps p.tables e below (T6.setTop (mkF m 15 #[.val (.ref a1), .val (.long st), .second, .val (.long tk), .second] [(.ref a1)])) _
    refine XS.dconst1 X6.here hx rfl (v := FP.dconst1) (hb hby d4_15) rfl ?_
    show Steps p.tables e below (T6.setTop (mkF m 16 #[.val (.ref a1), .val (.long st), .second, .val (.long tk), .second] [(.double FP.dconst1), (.ref a1)])) _
    refine XS.lloadN X6.here hx rfl (hb hby d4_16) rfl ?_
    show Steps p.tables e below (T6.setTop (mkF m 17 #[.val (.ref a1), .val (.long st), .second, .val (.long tk), .second] [(.long tk), (.double FP.dconst1), (.ref a1)])) _
    refine XS.l2dS X6.here hx rfl (v := (FP.l2d tk)) (hb hby d4_17) rfl rfl ?_
    show Steps p.tables e below (T6.setTop (mkF m 18 #[.val (.ref a1), .val (.long st), .second, .val (.long tk), .second] [(.double (FP.l2d tk)), (.double FP.dconst1), (.ref a1)])) _
    refine XS.ddivS X6.here hx rfl (v := r) (hb hby d4_18) rfl hn hv ?_
    show Steps p.tables e below (T6.setTop (mkF m 19 #[.val (.ref a1), .val (.long st), .second, .val (.long tk), .second] [(.double r), (.ref a1)])) _
    refine st10 _ ?_
    show Steps p.tables e below (T10.setTop (mkF m 22 #[.val (.ref a1), .val (.long st), .second, .val (.long tk), .second] [])) _
    refine XS.aloadN X10.here hx rfl (hb hby d4_22) rfl rfl ?_
    show Steps p.tables e below (T10.setTop (mkF m 23 #[.val (.ref a1), .val (.long st), .second, .val (.long tk), .second] [(.ref a1)])) _
    refine X10.ldc2Long hx hown (mvT hZ (hw _ (List.mem_of_getElem? (i := 17) rfl))) (g := (mkF m 23 #[.val (.ref a1), .val (.long st), .second, .val (.long tk), .second] [(.ref a1)])) rfl (hb hby d4_23) _ ?_
    show Steps p.tables e below (T10.setTop (mkF m 26 #[.val (.ref a1), .val (.long st), .second, .val (.long tk), .second] [(.long (-1 : Int64)), (.ref a1)])) _
    refine XS.lloadN X10.here hx rfl (hb hby d4_26) rfl ?_
    show Steps p.tables e below (T10.setTop (mkF m 27 #[.val (.ref a1), .val (.long st), .second, .val (.long tk), .second] [(.long tk), (.long (-1 : Int64)), (.ref a1)])) _
    refine st12 _ ?_
    show Steps p.tables e below (T12.setTop (mkF m 30 #[.val (.ref a1), .val (.long st), .second, .val (.long tk), .second] [(.long (own_du (-1 : Int64) tk)), (.ref a1)])) _
    refine st15 _ ?_
    show Steps p.tables e below (T15.setTop (mkF m 33 #[.val (.ref a1), .val (.long st), .second, .val (.long tk), .second] [])) _
    exact X15.returnOut hx Bd.returns (hb hby d4_33) hr
  · show QI Z a1 st tk r h0 n0 _ T15.heap _
    rw [e15]
    exact ⟨rfl, N16, K16, f17, f18, f19⟩
def QT (r : Int64) (h0 : Heap) (n0 : Nat) (v : Option Value) (h : Heap) (L : List Loc) : Prop := v = some (.long r) ∧ Fr n0 L ∧ h = h0
set_option maxRecDepth 65536 in
set_option maxHeartbeats 40000000 in
theorem rmT_pm (l : Launch) (Z : State) (a0 : Array Value) (hw : ∀ d ∈ tables_1, d.before a0 Z = true) (ws : List Jvm.Cond) (a1 : Addr) (nn tk : Int64) (r u : UInt64) (t : Int64) (h0 : Heap) (n0 : Nat) (Z0 : n0 ≤ h0.size) (F_tickNanos : Fld Z h0 a1 "com/example/tick60/tick60/Ticks" "tickNanos" "J" (.long tk)) (F_ticksPerNano : Fld Z h0 a1 "com/example/tick60/tick60/Ticks" "ticksPerNano" "D" (.double r)) (hs : ¬ (lcmpW nn (0 : Int64) < 0)) (hv7 : FP.l2d nn = u) (hn29 : NoNaN64 (FP.dmul u r)) (hv30 : FP.d2l (FP.dmul u r) = t) (h48 : lcmpW (nn - (t * tk)) (0 : Int64) < 0) :
    MetFree l (⟨"com/example/tick60/tick60/Ticks", "ticksIn", "(J)J"⟩ : MethodName) (head1 (Jvm.Cond.code (⟨"com/example/tick60/tick60/Ticks", "ticksIn", "(J)J"⟩ : MethodName) prog_4_method_5_code 9 (some .long) :: ws) ({ frames := 0, cells := 0, slots := 0, locals := 0 } : Room)) (fun a U => a = #[(.ref a1), (.long nn)] ∧ Z.Warmed39 U.vm ∧ U.heap = h0) (fun _ _ _ _ _ => True) (fun _ U o U' => ∃ v L, o = .returned v ∧ QT (t - (1 : Int64)) h0 n0 v U'.heap L ∧ FrameEnd U o U' L ({ frames := 0, cells := 0, slots := 0, locals := 0 } : Room).cells ({ frames := 0, cells := 0, slots := 0, locals := 0 } : Room).slots) := by
  refine MetFree.of_bodySF (plainFor_of_name pn2) hisR ?_
  intro p e s m args below meth c s₁ Bd hml0 hP hK
  obtain ⟨rfl, hZ, hh⟩ := hP
  have hx := Bd.exec
  have hby := Bd.bytes
  have hml : c.maxLocals = 9 := hml0
  have hown : s.vm.findClass "com/example/tick60/tick60/Ticks" = some m.cls := findClass_of_methodNamed Bd.named
  have hnm := (name_of_methodNamed Bd.named Bd.method).1
  have X0 : Stand p l e ({ frames := 0, cells := 0, slots := 0, locals := 0 } : Room) s m #[(.ref a1), (.long nn)] below meth c s₁ [] 0 0 := Stand.of_body Bd
  have e0 : s₁.heap = h0 := by rw [← hh, Bd.state]; rfl
  have N0 := Fr.nil n0
  have pre0 : ∀ t, Steps p.tables e below (s₁.setTop (mkF m 0 #[.val (.ref a1), .val (.long nn), .second, .unset, .unset, .unset, .unset, .unset, .unset] [])) t → Steps p.tables e below (s₁.setTop (entryFrame m #[(.ref a1), (.long nn)] 9)) t := fun t k => castTop (ef3 m a1 nn) k
  obtain ⟨T1, X1, e1, st1⟩ := getF X0 hx hZ hown (host := "") (Or.inl (hw _ (List.mem_of_getElem? (i := 15) rfl))) Via.refl e0 F_ticksPerNano (g := (mkF m 26 #[.val (.ref a1), .val (.long nn), .second, .val (.double u), .second, .unset, .unset, .unset, .unset] [(.ref a1), (.double u)])) rfl rfl (hb hby d8_26)
  obtain ⟨T2, X2, e2, st2⟩ := getF X1 hx hZ hown (host := "") (Or.inl (hw _ (List.mem_of_getElem? (i := 13) rfl))) Via.refl e1 F_tickNanos (g := (mkF m 37 #[.val (.ref a1), .val (.long nn), .second, .val (.double u), .second, .val (.long t), .second, .unset, .unset] [(.ref a1), (.long t), (.long nn)])) rfl rfl (hb hby d8_37)
  obtain ⟨fs, hr, hrun, hended, hW, hsame⟩ := X2.leave (v := some (.long (t - (1 : Int64)))) (fun h => by rw [Bd.returns] at h; cases h)
  refine ⟨_, _, pre0 _ ?_, hrun, hended, _, _, rfl, ?_, ⟨_, rfl⟩, hW, hsame.mono (by decide) (by decide)⟩
  · show Steps p.tables e below (s₁.setTop (mkF m 0 #[.val (.ref a1), .val (.long nn), .second, .unset, .unset, .unset, .unset, .unset, .unset] [])) _
    refine XS.lloadN X0.here hx rfl (hb hby d8_0) rfl ?_
    show Steps p.tables e below (s₁.setTop (mkF m 1 #[.val (.ref a1), .val (.long nn), .second, .unset, .unset, .unset, .unset, .unset, .unset] [(.long nn)])) _
    refine XS.lconst X0.here hx rfl (hb hby d8_1) ?_
    show Steps p.tables e below (s₁.setTop (mkF m 2 #[.val (.ref a1), .val (.long nn), .second, .unset, .unset, .unset, .unset, .unset, .unset] [(.long (0 : Int64)), (.long nn)])) _
    refine XS.lcmp X0.here hx rfl (hb hby d8_2) rfl ?_
    show Steps p.tables e below (s₁.setTop (mkF m 3 #[.val (.ref a1), .val (.long nn), .second, .unset, .unset, .unset, .unset, .unset, .unset] [(.int (lcmpW nn (0 : Int64)))])) _
    refine XS.ifNo X0.here hx rfl (hb hby d8_3) rfl ((if0 _ _).trans (flt hs).1) ?_
    show Steps p.tables e below (s₁.setTop (mkF m 6 #[.val (.ref a1), .val (.long nn), .second, .unset, .unset, .unset, .unset, .unset, .unset] [])) _
    refine XS.lloadN X0.here hx rfl (hb hby d8_6) rfl ?_
    show Steps p.tables e below (s₁.setTop (mkF m 7 #[.val (.ref a1), .val (.long nn), .second, .unset, .unset, .unset, .unset, .unset, .unset] [(.long nn)])) _
    refine XS.l2dS X0.here hx rfl (v := u) (hb hby d8_7) rfl hv7 ?_
    show Steps p.tables e below (s₁.setTop (mkF m 8 #[.val (.ref a1), .val (.long nn), .second, .unset, .unset, .unset, .unset, .unset, .unset] [(.double u)])) _
    refine XS.goto X0.here hx rfl (pc0 := 8) (pc' := 23) rfl (hb hby d8_8) (by decide) (by decide) ?_
    show Steps p.tables e below (s₁.setTop (mkF m 23 #[.val (.ref a1), .val (.long nn), .second, .unset, .unset, .unset, .unset, .unset, .unset] [(.double u)])) _
    refine XS.dstoreN X0.here hx rfl (hb hby d8_23) rfl (l' := #[.val (.ref a1), .val (.long nn), .second, .val (.double u), .second, .unset, .unset, .unset, .unset]) rfl ?_
    show Steps p.tables e below (s₁.setTop (mkF m 24 #[.val (.ref a1), .val (.long nn), .second, .val (.double u), .second, .unset, .unset, .unset, .unset] [])) _
    refine XS.dloadN X0.here hx rfl (hb hby d8_24) rfl ?_
    show Steps p.tables e below (s₁.setTop (mkF m 25 #[.val (.ref a1), .val (.long nn), .second, .val (.double u), .second, .unset, .unset, .unset, .unset] [(.double u)])) _
    refine XS.aloadN X0.here hx rfl (hb hby d8_25) rfl rfl ?_
    show Steps p.tables e below (s₁.setTop (mkF m 26 #[.val (.ref a1), .val (.long nn), .second, .val (.double u), .second, .unset, .unset, .unset, .unset] [(.ref a1), (.double u)])) _
    refine st1 _ ?_
    show Steps p.tables e below (T1.setTop (mkF m 29 #[.val (.ref a1), .val (.long nn), .second, .val (.double u), .second, .unset, .unset, .unset, .unset] [(.double r), (.double u)])) _
    refine XS.dmulS X1.here hx rfl (v := (FP.dmul u r)) (hb hby d8_29) rfl hn29 rfl ?_
    show Steps p.tables e below (T1.setTop (mkF m 30 #[.val (.ref a1), .val (.long nn), .second, .val (.double u), .second, .unset, .unset, .unset, .unset] [(.double (FP.dmul u r))])) _
    refine XS.d2lS X1.here hx rfl (v := t) (hb hby d8_30) rfl hv30 ?_
    show Steps p.tables e below (T1.setTop (mkF m 31 #[.val (.ref a1), .val (.long nn), .second, .val (.double u), .second, .unset, .unset, .unset, .unset] [(.long t)])) _
    refine XS.lstore X1.here hx rfl (hb hby d8_31) rfl (l' := #[.val (.ref a1), .val (.long nn), .second, .val (.double u), .second, .val (.long t), .second, .unset, .unset]) rfl ?_
    show Steps p.tables e below (T1.setTop (mkF m 33 #[.val (.ref a1), .val (.long nn), .second, .val (.double u), .second, .val (.long t), .second, .unset, .unset] [])) _
    refine XS.lloadN X1.here hx rfl (hb hby d8_33) rfl ?_
    show Steps p.tables e below (T1.setTop (mkF m 34 #[.val (.ref a1), .val (.long nn), .second, .val (.double u), .second, .val (.long t), .second, .unset, .unset] [(.long nn)])) _
    refine XS.lload X1.here hx rfl (hb hby d8_34) rfl ?_
    show Steps p.tables e below (T1.setTop (mkF m 36 #[.val (.ref a1), .val (.long nn), .second, .val (.double u), .second, .val (.long t), .second, .unset, .unset] [(.long t), (.long nn)])) _
    refine XS.aloadN X1.here hx rfl (hb hby d8_36) rfl rfl ?_
    show Steps p.tables e below (T1.setTop (mkF m 37 #[.val (.ref a1), .val (.long nn), .second, .val (.double u), .second, .val (.long t), .second, .unset, .unset] [(.ref a1), (.long t), (.long nn)])) _
    refine st2 _ ?_
    show Steps p.tables e below (T2.setTop (mkF m 40 #[.val (.ref a1), .val (.long nn), .second, .val (.double u), .second, .val (.long t), .second, .unset, .unset] [(.long tk), (.long t), (.long nn)])) _
    refine XS.lmul X2.here hx rfl (hb hby d8_40) rfl ?_
    show Steps p.tables e below (T2.setTop (mkF m 41 #[.val (.ref a1), .val (.long nn), .second, .val (.double u), .second, .val (.long t), .second, .unset, .unset] [(.long (t * tk)), (.long nn)])) _
    refine XS.lsub X2.here hx rfl (hb hby d8_41) rfl ?_
    show Steps p.tables e below (T2.setTop (mkF m 42 #[.val (.ref a1), .val (.long nn), .second, .val (.double u), .second, .val (.long t), .second, .unset, .unset] [(.long (nn - (t * tk)))])) _
    refine XS.lstore X2.here hx rfl (hb hby d8_42) rfl (l' := #[.val (.ref a1), .val (.long nn), .second, .val (.double u), .second, .val (.long t), .second, .val (.long (nn - (t * tk))), .second]) rfl ?_
    show Steps p.tables e below (T2.setTop (mkF m 44 #[.val (.ref a1), .val (.long nn), .second, .val (.double u), .second, .val (.long t), .second, .val (.long (nn - (t * tk))), .second] [])) _
    refine XS.lload X2.here hx rfl (hb hby d8_44) rfl ?_
    show Steps p.tables e below (T2.setTop (mkF m 46 #[.val (.ref a1), .val (.long nn), .second, .val (.double u), .second, .val (.long t), .second, .val (.long (nn - (t * tk))), .second] [(.long (nn - (t * tk)))])) _
    refine XS.lconst X2.here hx rfl (hb hby d8_46) ?_
    show Steps p.tables e below (T2.setTop (mkF m 47 #[.val (.ref a1), .val (.long nn), .second, .val (.double u), .second, .val (.long t), .second, .val (.long (nn - (t * tk))), .second] [(.long (0 : Int64)), (.long (nn - (t * tk)))])) _
    refine XS.lcmp X2.here hx rfl (hb hby d8_47) rfl ?_
    show Steps p.tables e below (T2.setTop (mkF m 48 #[.val (.ref a1), .val (.long nn), .second, .val (.double u), .second, .val (.long t), .second, .val (.long (nn - (t * tk))), .second] [(.int (lcmpW (nn - (t * tk)) (0 : Int64)))])) _
    refine XS.ifNo X2.here hx rfl (hb hby d8_48) rfl ((if0 _ _).trans (tlt h48).2.1) ?_
    show Steps p.tables e below (T2.setTop (mkF m 51 #[.val (.ref a1), .val (.long nn), .second, .val (.double u), .second, .val (.long t), .second, .val (.long (nn - (t * tk))), .second] [])) _
    refine XS.lload X2.here hx rfl (hb hby d8_51) rfl ?_
    show Steps p.tables e below (T2.setTop (mkF m 53 #[.val (.ref a1), .val (.long nn), .second, .val (.double u), .second, .val (.long t), .second, .val (.long (nn - (t * tk))), .second] [(.long t)])) _
    refine XS.lconst X2.here hx rfl (hb hby d8_53) ?_
    show Steps p.tables e below (T2.setTop (mkF m 54 #[.val (.ref a1), .val (.long nn), .second, .val (.double u), .second, .val (.long t), .second, .val (.long (nn - (t * tk))), .second] [(.long (1 : Int64)), (.long t)])) _
    refine XS.lsub X2.here hx rfl (hb hby d8_54) rfl ?_
    show Steps p.tables e below (T2.setTop (mkF m 55 #[.val (.ref a1), .val (.long nn), .second, .val (.double u), .second, .val (.long t), .second, .val (.long (nn - (t * tk))), .second] [(.long (t - (1 : Int64)))])) _
    refine XS.lstore X2.here hx rfl (hb hby d8_55) rfl (l' := #[.val (.ref a1), .val (.long nn), .second, .val (.double u), .second, .val (.long (t - (1 : Int64))), .second, .val (.long (nn - (t * tk))), .second]) rfl ?_
    show Steps p.tables e below (T2.setTop (mkF m 57 #[.val (.ref a1), .val (.long nn), .second, .val (.double u), .second, .val (.long (t - (1 : Int64))), .second, .val (.long (nn - (t * tk))), .second] [])) _
    refine XS.goto X2.here hx rfl (pc0 := 57) (pc' := 76) rfl (hb hby d8_57) (by decide) (by decide) ?_
    show Steps p.tables e below (T2.setTop (mkF m 76 #[.val (.ref a1), .val (.long nn), .second, .val (.double u), .second, .val (.long (t - (1 : Int64))), .second, .val (.long (nn - (t * tk))), .second] [])) _
    refine XS.lload X2.here hx rfl (hb hby d8_76) rfl ?_
    show Steps p.tables e below (T2.setTop (mkF m 78 #[.val (.ref a1), .val (.long nn), .second, .val (.double u), .second, .val (.long (t - (1 : Int64))), .second, .val (.long (nn - (t * tk))), .second] [(.long (t - (1 : Int64)))])) _
    exact retOut X2 hx Bd.returns rfl (Or.inr (Or.inl ⟨rfl, rfl, _, rfl⟩)) (hb hby d8_78) hr
  · show QT (t - (1 : Int64)) h0 n0 _ T2.heap _
    rw [e2]
    exact ⟨rfl, N0, rfl⟩
set_option maxRecDepth 65536 in
set_option maxHeartbeats 40000000 in
theorem rmT_pk (l : Launch) (Z : State) (a0 : Array Value) (hw : ∀ d ∈ tables_1, d.before a0 Z = true) (ws : List Jvm.Cond) (a1 : Addr) (nn tk : Int64) (r u : UInt64) (t : Int64) (h0 : Heap) (n0 : Nat) (Z0 : n0 ≤ h0.size) (F_tickNanos : Fld Z h0 a1 "com/example/tick60/tick60/Ticks" "tickNanos" "J" (.long tk)) (F_ticksPerNano : Fld Z h0 a1 "com/example/tick60/tick60/Ticks" "ticksPerNano" "D" (.double r)) (hs : ¬ (lcmpW nn (0 : Int64) < 0)) (hv7 : FP.l2d nn = u) (hn29 : NoNaN64 (FP.dmul u r)) (hv30 : FP.d2l (FP.dmul u r) = t) (h48 : ¬ (lcmpW (nn - (t * tk)) (0 : Int64) < 0)) (h67 : lcmpW (nn - (t * tk)) tk < 0) :
    MetFree l (⟨"com/example/tick60/tick60/Ticks", "ticksIn", "(J)J"⟩ : MethodName) (head1 (Jvm.Cond.code (⟨"com/example/tick60/tick60/Ticks", "ticksIn", "(J)J"⟩ : MethodName) prog_4_method_5_code 9 (some .long) :: ws) ({ frames := 0, cells := 0, slots := 0, locals := 0 } : Room)) (fun a U => a = #[(.ref a1), (.long nn)] ∧ Z.Warmed39 U.vm ∧ U.heap = h0) (fun _ _ _ _ _ => True) (fun _ U o U' => ∃ v L, o = .returned v ∧ QT t h0 n0 v U'.heap L ∧ FrameEnd U o U' L ({ frames := 0, cells := 0, slots := 0, locals := 0 } : Room).cells ({ frames := 0, cells := 0, slots := 0, locals := 0 } : Room).slots) := by
  refine MetFree.of_bodySF (plainFor_of_name pn2) hisR ?_
  intro p e s m args below meth c s₁ Bd hml0 hP hK
  obtain ⟨rfl, hZ, hh⟩ := hP
  have hx := Bd.exec
  have hby := Bd.bytes
  have hml : c.maxLocals = 9 := hml0
  have hown : s.vm.findClass "com/example/tick60/tick60/Ticks" = some m.cls := findClass_of_methodNamed Bd.named
  have hnm := (name_of_methodNamed Bd.named Bd.method).1
  have X0 : Stand p l e ({ frames := 0, cells := 0, slots := 0, locals := 0 } : Room) s m #[(.ref a1), (.long nn)] below meth c s₁ [] 0 0 := Stand.of_body Bd
  have e0 : s₁.heap = h0 := by rw [← hh, Bd.state]; rfl
  have N0 := Fr.nil n0
  have pre0 : ∀ t, Steps p.tables e below (s₁.setTop (mkF m 0 #[.val (.ref a1), .val (.long nn), .second, .unset, .unset, .unset, .unset, .unset, .unset] [])) t → Steps p.tables e below (s₁.setTop (entryFrame m #[(.ref a1), (.long nn)] 9)) t := fun t k => castTop (ef3 m a1 nn) k
  obtain ⟨T1, X1, e1, st1⟩ := getF X0 hx hZ hown (host := "") (Or.inl (hw _ (List.mem_of_getElem? (i := 15) rfl))) Via.refl e0 F_ticksPerNano (g := (mkF m 26 #[.val (.ref a1), .val (.long nn), .second, .val (.double u), .second, .unset, .unset, .unset, .unset] [(.ref a1), (.double u)])) rfl rfl (hb hby d8_26)
  obtain ⟨T2, X2, e2, st2⟩ := getF X1 hx hZ hown (host := "") (Or.inl (hw _ (List.mem_of_getElem? (i := 13) rfl))) Via.refl e1 F_tickNanos (g := (mkF m 37 #[.val (.ref a1), .val (.long nn), .second, .val (.double u), .second, .val (.long t), .second, .unset, .unset] [(.ref a1), (.long t), (.long nn)])) rfl rfl (hb hby d8_37)
  obtain ⟨T3, X3, e3, st3⟩ := getF X2 hx hZ hown (host := "") (Or.inl (hw _ (List.mem_of_getElem? (i := 13) rfl))) Via.refl e2 F_tickNanos (g := (mkF m 63 #[.val (.ref a1), .val (.long nn), .second, .val (.double u), .second, .val (.long t), .second, .val (.long (nn - (t * tk))), .second] [(.ref a1), (.long (nn - (t * tk)))])) rfl rfl (hb hby d8_63)
  obtain ⟨fs, hr, hrun, hended, hW, hsame⟩ := X3.leave (v := some (.long t)) (fun h => by rw [Bd.returns] at h; cases h)
  refine ⟨_, _, pre0 _ ?_, hrun, hended, _, _, rfl, ?_, ⟨_, rfl⟩, hW, hsame.mono (by decide) (by decide)⟩
  · show Steps p.tables e below (s₁.setTop (mkF m 0 #[.val (.ref a1), .val (.long nn), .second, .unset, .unset, .unset, .unset, .unset, .unset] [])) _
    refine XS.lloadN X0.here hx rfl (hb hby d8_0) rfl ?_
    show Steps p.tables e below (s₁.setTop (mkF m 1 #[.val (.ref a1), .val (.long nn), .second, .unset, .unset, .unset, .unset, .unset, .unset] [(.long nn)])) _
    refine XS.lconst X0.here hx rfl (hb hby d8_1) ?_
    show Steps p.tables e below (s₁.setTop (mkF m 2 #[.val (.ref a1), .val (.long nn), .second, .unset, .unset, .unset, .unset, .unset, .unset] [(.long (0 : Int64)), (.long nn)])) _
    refine XS.lcmp X0.here hx rfl (hb hby d8_2) rfl ?_
    show Steps p.tables e below (s₁.setTop (mkF m 3 #[.val (.ref a1), .val (.long nn), .second, .unset, .unset, .unset, .unset, .unset, .unset] [(.int (lcmpW nn (0 : Int64)))])) _
    refine XS.ifNo X0.here hx rfl (hb hby d8_3) rfl ((if0 _ _).trans (flt hs).1) ?_
    show Steps p.tables e below (s₁.setTop (mkF m 6 #[.val (.ref a1), .val (.long nn), .second, .unset, .unset, .unset, .unset, .unset, .unset] [])) _
    refine XS.lloadN X0.here hx rfl (hb hby d8_6) rfl ?_
    show Steps p.tables e below (s₁.setTop (mkF m 7 #[.val (.ref a1), .val (.long nn), .second, .unset, .unset, .unset, .unset, .unset, .unset] [(.long nn)])) _
    refine XS.l2dS X0.here hx rfl (v := u) (hb hby d8_7) rfl hv7 ?_
    show Steps p.tables e below (s₁.setTop (mkF m 8 #[.val (.ref a1), .val (.long nn), .second, .unset, .unset, .unset, .unset, .unset, .unset] [(.double u)])) _
    refine XS.goto X0.here hx rfl (pc0 := 8) (pc' := 23) rfl (hb hby d8_8) (by decide) (by decide) ?_
    show Steps p.tables e below (s₁.setTop (mkF m 23 #[.val (.ref a1), .val (.long nn), .second, .unset, .unset, .unset, .unset, .unset, .unset] [(.double u)])) _
    refine XS.dstoreN X0.here hx rfl (hb hby d8_23) rfl (l' := #[.val (.ref a1), .val (.long nn), .second, .val (.double u), .second, .unset, .unset, .unset, .unset]) rfl ?_
    show Steps p.tables e below (s₁.setTop (mkF m 24 #[.val (.ref a1), .val (.long nn), .second, .val (.double u), .second, .unset, .unset, .unset, .unset] [])) _
    refine XS.dloadN X0.here hx rfl (hb hby d8_24) rfl ?_
    show Steps p.tables e below (s₁.setTop (mkF m 25 #[.val (.ref a1), .val (.long nn), .second, .val (.double u), .second, .unset, .unset, .unset, .unset] [(.double u)])) _
    refine XS.aloadN X0.here hx rfl (hb hby d8_25) rfl rfl ?_
    show Steps p.tables e below (s₁.setTop (mkF m 26 #[.val (.ref a1), .val (.long nn), .second, .val (.double u), .second, .unset, .unset, .unset, .unset] [(.ref a1), (.double u)])) _
    refine st1 _ ?_
    show Steps p.tables e below (T1.setTop (mkF m 29 #[.val (.ref a1), .val (.long nn), .second, .val (.double u), .second, .unset, .unset, .unset, .unset] [(.double r), (.double u)])) _
    refine XS.dmulS X1.here hx rfl (v := (FP.dmul u r)) (hb hby d8_29) rfl hn29 rfl ?_
    show Steps p.tables e below (T1.setTop (mkF m 30 #[.val (.ref a1), .val (.long nn), .second, .val (.double u), .second, .unset, .unset, .unset, .unset] [(.double (FP.dmul u r))])) _
    refine XS.d2lS X1.here hx rfl (v := t) (hb hby d8_30) rfl hv30 ?_
    show Steps p.tables e below (T1.setTop (mkF m 31 #[.val (.ref a1), .val (.long nn), .second, .val (.double u), .second, .unset, .unset, .unset, .unset] [(.long t)])) _
    refine XS.lstore X1.here hx rfl (hb hby d8_31) rfl (l' := #[.val (.ref a1), .val (.long nn), .second, .val (.double u), .second, .val (.long t), .second, .unset, .unset]) rfl ?_
    show Steps p.tables e below (T1.setTop (mkF m 33 #[.val (.ref a1), .val (.long nn), .second, .val (.double u), .second, .val (.long t), .second, .unset, .unset] [])) _
    refine XS.lloadN X1.here hx rfl (hb hby d8_33) rfl ?_
    show Steps p.tables e below (T1.setTop (mkF m 34 #[.val (.ref a1), .val (.long nn), .second, .val (.double u), .second, .val (.long t), .second, .unset, .unset] [(.long nn)])) _
    refine XS.lload X1.here hx rfl (hb hby d8_34) rfl ?_
    show Steps p.tables e below (T1.setTop (mkF m 36 #[.val (.ref a1), .val (.long nn), .second, .val (.double u), .second, .val (.long t), .second, .unset, .unset] [(.long t), (.long nn)])) _
    refine XS.aloadN X1.here hx rfl (hb hby d8_36) rfl rfl ?_
    show Steps p.tables e below (T1.setTop (mkF m 37 #[.val (.ref a1), .val (.long nn), .second, .val (.double u), .second, .val (.long t), .second, .unset, .unset] [(.ref a1), (.long t), (.long nn)])) _
    refine st2 _ ?_
    show Steps p.tables e below (T2.setTop (mkF m 40 #[.val (.ref a1), .val (.long nn), .second, .val (.double u), .second, .val (.long t), .second, .unset, .unset] [(.long tk), (.long t), (.long nn)])) _
    refine XS.lmul X2.here hx rfl (hb hby d8_40) rfl ?_
    show Steps p.tables e below (T2.setTop (mkF m 41 #[.val (.ref a1), .val (.long nn), .second, .val (.double u), .second, .val (.long t), .second, .unset, .unset] [(.long (t * tk)), (.long nn)])) _
    refine XS.lsub X2.here hx rfl (hb hby d8_41) rfl ?_
    show Steps p.tables e below (T2.setTop (mkF m 42 #[.val (.ref a1), .val (.long nn), .second, .val (.double u), .second, .val (.long t), .second, .unset, .unset] [(.long (nn - (t * tk)))])) _
    refine XS.lstore X2.here hx rfl (hb hby d8_42) rfl (l' := #[.val (.ref a1), .val (.long nn), .second, .val (.double u), .second, .val (.long t), .second, .val (.long (nn - (t * tk))), .second]) rfl ?_
    show Steps p.tables e below (T2.setTop (mkF m 44 #[.val (.ref a1), .val (.long nn), .second, .val (.double u), .second, .val (.long t), .second, .val (.long (nn - (t * tk))), .second] [])) _
    refine XS.lload X2.here hx rfl (hb hby d8_44) rfl ?_
    show Steps p.tables e below (T2.setTop (mkF m 46 #[.val (.ref a1), .val (.long nn), .second, .val (.double u), .second, .val (.long t), .second, .val (.long (nn - (t * tk))), .second] [(.long (nn - (t * tk)))])) _
    refine XS.lconst X2.here hx rfl (hb hby d8_46) ?_
    show Steps p.tables e below (T2.setTop (mkF m 47 #[.val (.ref a1), .val (.long nn), .second, .val (.double u), .second, .val (.long t), .second, .val (.long (nn - (t * tk))), .second] [(.long (0 : Int64)), (.long (nn - (t * tk)))])) _
    refine XS.lcmp X2.here hx rfl (hb hby d8_47) rfl ?_
    show Steps p.tables e below (T2.setTop (mkF m 48 #[.val (.ref a1), .val (.long nn), .second, .val (.double u), .second, .val (.long t), .second, .val (.long (nn - (t * tk))), .second] [(.int (lcmpW (nn - (t * tk)) (0 : Int64)))])) _
    refine XS.ifYes X2.here hx rfl (pc0 := 48) (pc' := 60) rfl (hb hby d8_48) rfl ((if0 _ _).trans (flt h48).2.1) (by decide) (by decide) ?_
    show Steps p.tables e below (T2.setTop (mkF m 60 #[.val (.ref a1), .val (.long nn), .second, .val (.double u), .second, .val (.long t), .second, .val (.long (nn - (t * tk))), .second] [])) _
    refine XS.lload X2.here hx rfl (hb hby d8_60) rfl ?_
    show Steps p.tables e below (T2.setTop (mkF m 62 #[.val (.ref a1), .val (.long nn), .second, .val (.double u), .second, .val (.long t), .second, .val (.long (nn - (t * tk))), .second] [(.long (nn - (t * tk)))])) _
    refine XS.aloadN X2.here hx rfl (hb hby d8_62) rfl rfl ?_
    show Steps p.tables e below (T2.setTop (mkF m 63 #[.val (.ref a1), .val (.long nn), .second, .val (.double u), .second, .val (.long t), .second, .val (.long (nn - (t * tk))), .second] [(.ref a1), (.long (nn - (t * tk)))])) _
    refine st3 _ ?_
    show Steps p.tables e below (T3.setTop (mkF m 66 #[.val (.ref a1), .val (.long nn), .second, .val (.double u), .second, .val (.long t), .second, .val (.long (nn - (t * tk))), .second] [(.long tk), (.long (nn - (t * tk)))])) _
    refine XS.lcmp X3.here hx rfl (hb hby d8_66) rfl ?_
    show Steps p.tables e below (T3.setTop (mkF m 67 #[.val (.ref a1), .val (.long nn), .second, .val (.double u), .second, .val (.long t), .second, .val (.long (nn - (t * tk))), .second] [(.int (lcmpW (nn - (t * tk)) tk))])) _
    refine XS.ifYes X3.here hx rfl (pc0 := 67) (pc' := 76) rfl (hb hby d8_67) rfl ((if0 _ _).trans (tlt h67).1) (by decide) (by decide) ?_
    show Steps p.tables e below (T3.setTop (mkF m 76 #[.val (.ref a1), .val (.long nn), .second, .val (.double u), .second, .val (.long t), .second, .val (.long (nn - (t * tk))), .second] [])) _
    refine XS.lload X3.here hx rfl (hb hby d8_76) rfl ?_
    show Steps p.tables e below (T3.setTop (mkF m 78 #[.val (.ref a1), .val (.long nn), .second, .val (.double u), .second, .val (.long t), .second, .val (.long (nn - (t * tk))), .second] [(.long t)])) _
    exact retOut X3 hx Bd.returns rfl (Or.inr (Or.inl ⟨rfl, rfl, _, rfl⟩)) (hb hby d8_78) hr
  · show QT t h0 n0 _ T3.heap _
    rw [e3]
    exact ⟨rfl, N0, rfl⟩
set_option maxRecDepth 65536 in
set_option maxHeartbeats 40000000 in
theorem rmT_pq (l : Launch) (Z : State) (a0 : Array Value) (hw : ∀ d ∈ tables_1, d.before a0 Z = true) (ws : List Jvm.Cond) (a1 : Addr) (nn tk : Int64) (r u : UInt64) (t : Int64) (h0 : Heap) (n0 : Nat) (Z0 : n0 ≤ h0.size) (F_tickNanos : Fld Z h0 a1 "com/example/tick60/tick60/Ticks" "tickNanos" "J" (.long tk)) (F_ticksPerNano : Fld Z h0 a1 "com/example/tick60/tick60/Ticks" "ticksPerNano" "D" (.double r)) (hs : ¬ (lcmpW nn (0 : Int64) < 0)) (hv7 : FP.l2d nn = u) (hn29 : NoNaN64 (FP.dmul u r)) (hv30 : FP.d2l (FP.dmul u r) = t) (h48 : ¬ (lcmpW (nn - (t * tk)) (0 : Int64) < 0)) (h67 : ¬ (lcmpW (nn - (t * tk)) tk < 0)) :
    MetFree l (⟨"com/example/tick60/tick60/Ticks", "ticksIn", "(J)J"⟩ : MethodName) (head1 (Jvm.Cond.code (⟨"com/example/tick60/tick60/Ticks", "ticksIn", "(J)J"⟩ : MethodName) prog_4_method_5_code 9 (some .long) :: ws) ({ frames := 0, cells := 0, slots := 0, locals := 0 } : Room)) (fun a U => a = #[(.ref a1), (.long nn)] ∧ Z.Warmed39 U.vm ∧ U.heap = h0) (fun _ _ _ _ _ => True) (fun _ U o U' => ∃ v L, o = .returned v ∧ QT (t + (1 : Int64)) h0 n0 v U'.heap L ∧ FrameEnd U o U' L ({ frames := 0, cells := 0, slots := 0, locals := 0 } : Room).cells ({ frames := 0, cells := 0, slots := 0, locals := 0 } : Room).slots) := by
  refine MetFree.of_bodySF (plainFor_of_name pn2) hisR ?_
  intro p e s m args below meth c s₁ Bd hml0 hP hK
  obtain ⟨rfl, hZ, hh⟩ := hP
  have hx := Bd.exec
  have hby := Bd.bytes
  have hml : c.maxLocals = 9 := hml0
  have hown : s.vm.findClass "com/example/tick60/tick60/Ticks" = some m.cls := findClass_of_methodNamed Bd.named
  have hnm := (name_of_methodNamed Bd.named Bd.method).1
  have X0 : Stand p l e ({ frames := 0, cells := 0, slots := 0, locals := 0 } : Room) s m #[(.ref a1), (.long nn)] below meth c s₁ [] 0 0 := Stand.of_body Bd
  have e0 : s₁.heap = h0 := by rw [← hh, Bd.state]; rfl
  have N0 := Fr.nil n0
  have pre0 : ∀ t, Steps p.tables e below (s₁.setTop (mkF m 0 #[.val (.ref a1), .val (.long nn), .second, .unset, .unset, .unset, .unset, .unset, .unset] [])) t → Steps p.tables e below (s₁.setTop (entryFrame m #[(.ref a1), (.long nn)] 9)) t := fun t k => castTop (ef3 m a1 nn) k
  obtain ⟨T1, X1, e1, st1⟩ := getF X0 hx hZ hown (host := "") (Or.inl (hw _ (List.mem_of_getElem? (i := 15) rfl))) Via.refl e0 F_ticksPerNano (g := (mkF m 26 #[.val (.ref a1), .val (.long nn), .second, .val (.double u), .second, .unset, .unset, .unset, .unset] [(.ref a1), (.double u)])) rfl rfl (hb hby d8_26)
  obtain ⟨T2, X2, e2, st2⟩ := getF X1 hx hZ hown (host := "") (Or.inl (hw _ (List.mem_of_getElem? (i := 13) rfl))) Via.refl e1 F_tickNanos (g := (mkF m 37 #[.val (.ref a1), .val (.long nn), .second, .val (.double u), .second, .val (.long t), .second, .unset, .unset] [(.ref a1), (.long t), (.long nn)])) rfl rfl (hb hby d8_37)
  obtain ⟨T3, X3, e3, st3⟩ := getF X2 hx hZ hown (host := "") (Or.inl (hw _ (List.mem_of_getElem? (i := 13) rfl))) Via.refl e2 F_tickNanos (g := (mkF m 63 #[.val (.ref a1), .val (.long nn), .second, .val (.double u), .second, .val (.long t), .second, .val (.long (nn - (t * tk))), .second] [(.ref a1), (.long (nn - (t * tk)))])) rfl rfl (hb hby d8_63)
  obtain ⟨fs, hr, hrun, hended, hW, hsame⟩ := X3.leave (v := some (.long (t + (1 : Int64)))) (fun h => by rw [Bd.returns] at h; cases h)
  refine ⟨_, _, pre0 _ ?_, hrun, hended, _, _, rfl, ?_, ⟨_, rfl⟩, hW, hsame.mono (by decide) (by decide)⟩
  · show Steps p.tables e below (s₁.setTop (mkF m 0 #[.val (.ref a1), .val (.long nn), .second, .unset, .unset, .unset, .unset, .unset, .unset] [])) _
    refine XS.lloadN X0.here hx rfl (hb hby d8_0) rfl ?_
    show Steps p.tables e below (s₁.setTop (mkF m 1 #[.val (.ref a1), .val (.long nn), .second, .unset, .unset, .unset, .unset, .unset, .unset] [(.long nn)])) _
    refine XS.lconst X0.here hx rfl (hb hby d8_1) ?_
    show Steps p.tables e below (s₁.setTop (mkF m 2 #[.val (.ref a1), .val (.long nn), .second, .unset, .unset, .unset, .unset, .unset, .unset] [(.long (0 : Int64)), (.long nn)])) _
    refine XS.lcmp X0.here hx rfl (hb hby d8_2) rfl ?_
    show Steps p.tables e below (s₁.setTop (mkF m 3 #[.val (.ref a1), .val (.long nn), .second, .unset, .unset, .unset, .unset, .unset, .unset] [(.int (lcmpW nn (0 : Int64)))])) _
    refine XS.ifNo X0.here hx rfl (hb hby d8_3) rfl ((if0 _ _).trans (flt hs).1) ?_
    show Steps p.tables e below (s₁.setTop (mkF m 6 #[.val (.ref a1), .val (.long nn), .second, .unset, .unset, .unset, .unset, .unset, .unset] [])) _
    refine XS.lloadN X0.here hx rfl (hb hby d8_6) rfl ?_
    show Steps p.tables e below (s₁.setTop (mkF m 7 #[.val (.ref a1), .val (.long nn), .second, .unset, .unset, .unset, .unset, .unset, .unset] [(.long nn)])) _
    refine XS.l2dS X0.here hx rfl (v := u) (hb hby d8_7) rfl hv7 ?_
    show Steps p.tables e below (s₁.setTop (mkF m 8 #[.val (.ref a1), .val (.long nn), .second, .unset, .unset, .unset, .unset, .unset, .unset] [(.double u)])) _
    refine XS.goto X0.here hx rfl (pc0 := 8) (pc' := 23) rfl (hb hby d8_8) (by decide) (by decide) ?_
    show Steps p.tables e below (s₁.setTop (mkF m 23 #[.val (.ref a1), .val (.long nn), .second, .unset, .unset, .unset, .unset, .unset, .unset] [(.double u)])) _
    refine XS.dstoreN X0.here hx rfl (hb hby d8_23) rfl (l' := #[.val (.ref a1), .val (.long nn), .second, .val (.double u), .second, .unset, .unset, .unset, .unset]) rfl ?_
    show Steps p.tables e below (s₁.setTop (mkF m 24 #[.val (.ref a1), .val (.long nn), .second, .val (.double u), .second, .unset, .unset, .unset, .unset] [])) _
    refine XS.dloadN X0.here hx rfl (hb hby d8_24) rfl ?_
    show Steps p.tables e below (s₁.setTop (mkF m 25 #[.val (.ref a1), .val (.long nn), .second, .val (.double u), .second, .unset, .unset, .unset, .unset] [(.double u)])) _
    refine XS.aloadN X0.here hx rfl (hb hby d8_25) rfl rfl ?_
    show Steps p.tables e below (s₁.setTop (mkF m 26 #[.val (.ref a1), .val (.long nn), .second, .val (.double u), .second, .unset, .unset, .unset, .unset] [(.ref a1), (.double u)])) _
    refine st1 _ ?_
    show Steps p.tables e below (T1.setTop (mkF m 29 #[.val (.ref a1), .val (.long nn), .second, .val (.double u), .second, .unset, .unset, .unset, .unset] [(.double r), (.double u)])) _
    refine XS.dmulS X1.here hx rfl (v := (FP.dmul u r)) (hb hby d8_29) rfl hn29 rfl ?_
    show Steps p.tables e below (T1.setTop (mkF m 30 #[.val (.ref a1), .val (.long nn), .second, .val (.double u), .second, .unset, .unset, .unset, .unset] [(.double (FP.dmul u r))])) _
    refine XS.d2lS X1.here hx rfl (v := t) (hb hby d8_30) rfl hv30 ?_
    show Steps p.tables e below (T1.setTop (mkF m 31 #[.val (.ref a1), .val (.long nn), .second, .val (.double u), .second, .unset, .unset, .unset, .unset] [(.long t)])) _
    refine XS.lstore X1.here hx rfl (hb hby d8_31) rfl (l' := #[.val (.ref a1), .val (.long nn), .second, .val (.double u), .second, .val (.long t), .second, .unset, .unset]) rfl ?_
    show Steps p.tables e below (T1.setTop (mkF m 33 #[.val (.ref a1), .val (.long nn), .second, .val (.double u), .second, .val (.long t), .second, .unset, .unset] [])) _
    refine XS.lloadN X1.here hx rfl (hb hby d8_33) rfl ?_
    show Steps p.tables e below (T1.setTop (mkF m 34 #[.val (.ref a1), .val (.long nn), .second, .val (.double u), .second, .val (.long t), .second, .unset, .unset] [(.long nn)])) _
    refine XS.lload X1.here hx rfl (hb hby d8_34) rfl ?_
    show Steps p.tables e below (T1.setTop (mkF m 36 #[.val (.ref a1), .val (.long nn), .second, .val (.double u), .second, .val (.long t), .second, .unset, .unset] [(.long t), (.long nn)])) _
    refine XS.aloadN X1.here hx rfl (hb hby d8_36) rfl rfl ?_
    show Steps p.tables e below (T1.setTop (mkF m 37 #[.val (.ref a1), .val (.long nn), .second, .val (.double u), .second, .val (.long t), .second, .unset, .unset] [(.ref a1), (.long t), (.long nn)])) _
    refine st2 _ ?_
    show Steps p.tables e below (T2.setTop (mkF m 40 #[.val (.ref a1), .val (.long nn), .second, .val (.double u), .second, .val (.long t), .second, .unset, .unset] [(.long tk), (.long t), (.long nn)])) _
    refine XS.lmul X2.here hx rfl (hb hby d8_40) rfl ?_
    show Steps p.tables e below (T2.setTop (mkF m 41 #[.val (.ref a1), .val (.long nn), .second, .val (.double u), .second, .val (.long t), .second, .unset, .unset] [(.long (t * tk)), (.long nn)])) _
    refine XS.lsub X2.here hx rfl (hb hby d8_41) rfl ?_
    show Steps p.tables e below (T2.setTop (mkF m 42 #[.val (.ref a1), .val (.long nn), .second, .val (.double u), .second, .val (.long t), .second, .unset, .unset] [(.long (nn - (t * tk)))])) _
    refine XS.lstore X2.here hx rfl (hb hby d8_42) rfl (l' := #[.val (.ref a1), .val (.long nn), .second, .val (.double u), .second, .val (.long t), .second, .val (.long (nn - (t * tk))), .second]) rfl ?_
    show Steps p.tables e below (T2.setTop (mkF m 44 #[.val (.ref a1), .val (.long nn), .second, .val (.double u), .second, .val (.long t), .second, .val (.long (nn - (t * tk))), .second] [])) _
    refine XS.lload X2.here hx rfl (hb hby d8_44) rfl ?_
    show Steps p.tables e below (T2.setTop (mkF m 46 #[.val (.ref a1), .val (.long nn), .second, .val (.double u), .second, .val (.long t), .second, .val (.long (nn - (t * tk))), .second] [(.long (nn - (t * tk)))])) _
    refine XS.lconst X2.here hx rfl (hb hby d8_46) ?_
    show Steps p.tables e below (T2.setTop (mkF m 47 #[.val (.ref a1), .val (.long nn), .second, .val (.double u), .second, .val (.long t), .second, .val (.long (nn - (t * tk))), .second] [(.long (0 : Int64)), (.long (nn - (t * tk)))])) _
    refine XS.lcmp X2.here hx rfl (hb hby d8_47) rfl ?_
    show Steps p.tables e below (T2.setTop (mkF m 48 #[.val (.ref a1), .val (.long nn), .second, .val (.double u), .second, .val (.long t), .second, .val (.long (nn - (t * tk))), .second] [(.int (lcmpW (nn - (t * tk)) (0 : Int64)))])) _
    refine XS.ifYes X2.here hx rfl (pc0 := 48) (pc' := 60) rfl (hb hby d8_48) rfl ((if0 _ _).trans (flt h48).2.1) (by decide) (by decide) ?_
    show Steps p.tables e below (T2.setTop (mkF m 60 #[.val (.ref a1), .val (.long nn), .second, .val (.double u), .second, .val (.long t), .second, .val (.long (nn - (t * tk))), .second] [])) _
    refine XS.lload X2.here hx rfl (hb hby d8_60) rfl ?_
    show Steps p.tables e below (T2.setTop (mkF m 62 #[.val (.ref a1), .val (.long nn), .second, .val (.double u), .second, .val (.long t), .second, .val (.long (nn - (t * tk))), .second] [(.long (nn - (t * tk)))])) _
    refine XS.aloadN X2.here hx rfl (hb hby d8_62) rfl rfl ?_
    show Steps p.tables e below (T2.setTop (mkF m 63 #[.val (.ref a1), .val (.long nn), .second, .val (.double u), .second, .val (.long t), .second, .val (.long (nn - (t * tk))), .second] [(.ref a1), (.long (nn - (t * tk)))])) _
    refine st3 _ ?_
    show Steps p.tables e below (T3.setTop (mkF m 66 #[.val (.ref a1), .val (.long nn), .second, .val (.double u), .second, .val (.long t), .second, .val (.long (nn - (t * tk))), .second] [(.long tk), (.long (nn - (t * tk)))])) _
    refine XS.lcmp X3.here hx rfl (hb hby d8_66) rfl ?_
    show Steps p.tables e below (T3.setTop (mkF m 67 #[.val (.ref a1), .val (.long nn), .second, .val (.double u), .second, .val (.long t), .second, .val (.long (nn - (t * tk))), .second] [(.int (lcmpW (nn - (t * tk)) tk))])) _
    refine XS.ifNo X3.here hx rfl (hb hby d8_67) rfl ((if0 _ _).trans (flt h67).1) ?_
    show Steps p.tables e below (T3.setTop (mkF m 70 #[.val (.ref a1), .val (.long nn), .second, .val (.double u), .second, .val (.long t), .second, .val (.long (nn - (t * tk))), .second] [])) _
    refine XS.lload X3.here hx rfl (hb hby d8_70) rfl ?_
    show Steps p.tables e below (T3.setTop (mkF m 72 #[.val (.ref a1), .val (.long nn), .second, .val (.double u), .second, .val (.long t), .second, .val (.long (nn - (t * tk))), .second] [(.long t)])) _
    refine XS.lconst X3.here hx rfl (hb hby d8_72) ?_
    show Steps p.tables e below (T3.setTop (mkF m 73 #[.val (.ref a1), .val (.long nn), .second, .val (.double u), .second, .val (.long t), .second, .val (.long (nn - (t * tk))), .second] [(.long (1 : Int64)), (.long t)])) _
    refine XS.ladd X3.here hx rfl (hb hby d8_73) rfl ?_
    show Steps p.tables e below (T3.setTop (mkF m 74 #[.val (.ref a1), .val (.long nn), .second, .val (.double u), .second, .val (.long t), .second, .val (.long (nn - (t * tk))), .second] [(.long (t + (1 : Int64)))])) _
    refine XS.lstore X3.here hx rfl (hb hby d8_74) rfl (l' := #[.val (.ref a1), .val (.long nn), .second, .val (.double u), .second, .val (.long (t + (1 : Int64))), .second, .val (.long (nn - (t * tk))), .second]) rfl ?_
    show Steps p.tables e below (T3.setTop (mkF m 76 #[.val (.ref a1), .val (.long nn), .second, .val (.double u), .second, .val (.long (t + (1 : Int64))), .second, .val (.long (nn - (t * tk))), .second] [])) _
    refine XS.lload X3.here hx rfl (hb hby d8_76) rfl ?_
    show Steps p.tables e below (T3.setTop (mkF m 78 #[.val (.ref a1), .val (.long nn), .second, .val (.double u), .second, .val (.long (t + (1 : Int64))), .second, .val (.long (nn - (t * tk))), .second] [(.long (t + (1 : Int64)))])) _
    exact retOut X3 hx Bd.returns rfl (Or.inr (Or.inl ⟨rfl, rfl, _, rfl⟩)) (hb hby d8_78) hr
  · show QT (t + (1 : Int64)) h0 n0 _ T3.heap _
    rw [e3]
    exact ⟨rfl, N0, rfl⟩
set_option maxRecDepth 65536 in
set_option maxHeartbeats 40000000 in
theorem rmT_nm (l : Launch) (Z : State) (a0 : Array Value) (hw : ∀ d ∈ tables_1, d.before a0 Z = true) (ws : List Jvm.Cond) (a1 : Addr) (nn tk : Int64) (r u : UInt64) (t : Int64) (h0 : Heap) (n0 : Nat) (Z0 : n0 ≤ h0.size) (F_tickNanos : Fld Z h0 a1 "com/example/tick60/tick60/Ticks" "tickNanos" "J" (.long tk)) (F_ticksPerNano : Fld Z h0 a1 "com/example/tick60/tick60/Ticks" "ticksPerNano" "D" (.double r)) (hs : lcmpW nn (0 : Int64) < 0) (hn22 : NoNaN64 (FP.dmul (FP.l2d (((nn.toUInt64 >>> ((1 : Int32) &&& 0x3f).toInt64.toUInt64).toInt64) ||| (nn &&& (1 : Int64)))) (4611686018427387904 : UInt64))) (hv22 : FP.dmul (FP.l2d (((nn.toUInt64 >>> ((1 : Int32) &&& 0x3f).toInt64.toUInt64).toInt64) ||| (nn &&& (1 : Int64)))) (4611686018427387904 : UInt64) = u) (hn29 : NoNaN64 (FP.dmul u r)) (hv30 : FP.d2l (FP.dmul u r) = t) (h48 : lcmpW (nn - (t * tk)) (0 : Int64) < 0) :
    MetFree l (⟨"com/example/tick60/tick60/Ticks", "ticksIn", "(J)J"⟩ : MethodName) (head1 (Jvm.Cond.code (⟨"com/example/tick60/tick60/Ticks", "ticksIn", "(J)J"⟩ : MethodName) prog_4_method_5_code 9 (some .long) :: ws) ({ frames := 0, cells := 0, slots := 0, locals := 0 } : Room)) (fun a U => a = #[(.ref a1), (.long nn)] ∧ Z.Warmed39 U.vm ∧ U.heap = h0) (fun _ _ _ _ _ => True) (fun _ U o U' => ∃ v L, o = .returned v ∧ QT (t - (1 : Int64)) h0 n0 v U'.heap L ∧ FrameEnd U o U' L ({ frames := 0, cells := 0, slots := 0, locals := 0 } : Room).cells ({ frames := 0, cells := 0, slots := 0, locals := 0 } : Room).slots) := by
  refine MetFree.of_bodySF (plainFor_of_name pn2) hisR ?_
  intro p e s m args below meth c s₁ Bd hml0 hP hK
  obtain ⟨rfl, hZ, hh⟩ := hP
  have hx := Bd.exec
  have hby := Bd.bytes
  have hml : c.maxLocals = 9 := hml0
  have hown : s.vm.findClass "com/example/tick60/tick60/Ticks" = some m.cls := findClass_of_methodNamed Bd.named
  have hnm := (name_of_methodNamed Bd.named Bd.method).1
  have X0 : Stand p l e ({ frames := 0, cells := 0, slots := 0, locals := 0 } : Room) s m #[(.ref a1), (.long nn)] below meth c s₁ [] 0 0 := Stand.of_body Bd
  have e0 : s₁.heap = h0 := by rw [← hh, Bd.state]; rfl
  have N0 := Fr.nil n0
  have pre0 : ∀ t, Steps p.tables e below (s₁.setTop (mkF m 0 #[.val (.ref a1), .val (.long nn), .second, .unset, .unset, .unset, .unset, .unset, .unset] [])) t → Steps p.tables e below (s₁.setTop (entryFrame m #[(.ref a1), (.long nn)] 9)) t := fun t k => castTop (ef3 m a1 nn) k
  obtain ⟨T1, X1, e1, st1⟩ := getF X0 hx hZ hown (host := "") (Or.inl (hw _ (List.mem_of_getElem? (i := 15) rfl))) Via.refl e0 F_ticksPerNano (g := (mkF m 26 #[.val (.ref a1), .val (.long nn), .second, .val (.double u), .second, .unset, .unset, .unset, .unset] [(.ref a1), (.double u)])) rfl rfl (hb hby d8_26)
  obtain ⟨T2, X2, e2, st2⟩ := getF X1 hx hZ hown (host := "") (Or.inl (hw _ (List.mem_of_getElem? (i := 13) rfl))) Via.refl e1 F_tickNanos (g := (mkF m 37 #[.val (.ref a1), .val (.long nn), .second, .val (.double u), .second, .val (.long t), .second, .unset, .unset] [(.ref a1), (.long t), (.long nn)])) rfl rfl (hb hby d8_37)
  obtain ⟨fs, hr, hrun, hended, hW, hsame⟩ := X2.leave (v := some (.long (t - (1 : Int64)))) (fun h => by rw [Bd.returns] at h; cases h)
  refine ⟨_, _, pre0 _ ?_, hrun, hended, _, _, rfl, ?_, ⟨_, rfl⟩, hW, hsame.mono (by decide) (by decide)⟩
  · show Steps p.tables e below (s₁.setTop (mkF m 0 #[.val (.ref a1), .val (.long nn), .second, .unset, .unset, .unset, .unset, .unset, .unset] [])) _
    refine XS.lloadN X0.here hx rfl (hb hby d8_0) rfl ?_
    show Steps p.tables e below (s₁.setTop (mkF m 1 #[.val (.ref a1), .val (.long nn), .second, .unset, .unset, .unset, .unset, .unset, .unset] [(.long nn)])) _
    refine XS.lconst X0.here hx rfl (hb hby d8_1) ?_
    show Steps p.tables e below (s₁.setTop (mkF m 2 #[.val (.ref a1), .val (.long nn), .second, .unset, .unset, .unset, .unset, .unset, .unset] [(.long (0 : Int64)), (.long nn)])) _
    refine XS.lcmp X0.here hx rfl (hb hby d8_2) rfl ?_
    show Steps p.tables e below (s₁.setTop (mkF m 3 #[.val (.ref a1), .val (.long nn), .second, .unset, .unset, .unset, .unset, .unset, .unset] [(.int (lcmpW nn (0 : Int64)))])) _
    refine XS.ifYes X0.here hx rfl (pc0 := 3) (pc' := 11) rfl (hb hby d8_3) rfl ((if0 _ _).trans (tlt hs).1) (by decide) (by decide) ?_
    show Steps p.tables e below (s₁.setTop (mkF m 11 #[.val (.ref a1), .val (.long nn), .second, .unset, .unset, .unset, .unset, .unset, .unset] [])) _
    refine XS.lloadN X0.here hx rfl (hb hby d8_11) rfl ?_
    show Steps p.tables e below (s₁.setTop (mkF m 12 #[.val (.ref a1), .val (.long nn), .second, .unset, .unset, .unset, .unset, .unset, .unset] [(.long nn)])) _
    refine XS.iconst X0.here hx rfl (hb hby d8_12) ?_
    show Steps p.tables e below (s₁.setTop (mkF m 13 #[.val (.ref a1), .val (.long nn), .second, .unset, .unset, .unset, .unset, .unset, .unset] [(.int (1 : Int32)), (.long nn)])) _
    refine XS.lushr X0.here hx rfl (hb hby d8_13) rfl ?_
    show Steps p.tables e below (s₁.setTop (mkF m 14 #[.val (.ref a1), .val (.long nn), .second, .unset, .unset, .unset, .unset, .unset, .unset] [(.long ((nn.toUInt64 >>> ((1 : Int32) &&& 0x3f).toInt64.toUInt64).toInt64))])) _
    refine XS.lloadN X0.here hx rfl (hb hby d8_14) rfl ?_
    show Steps p.tables e below (s₁.setTop (mkF m 15 #[.val (.ref a1), .val (.long nn), .second, .unset, .unset, .unset, .unset, .unset, .unset] [(.long nn), (.long ((nn.toUInt64 >>> ((1 : Int32) &&& 0x3f).toInt64.toUInt64).toInt64))])) _
    refine XS.lconst X0.here hx rfl (hb hby d8_15) ?_
    show Steps p.tables e below (s₁.setTop (mkF m 16 #[.val (.ref a1), .val (.long nn), .second, .unset, .unset, .unset, .unset, .unset, .unset] [(.long (1 : Int64)), (.long nn), (.long ((nn.toUInt64 >>> ((1 : Int32) &&& 0x3f).toInt64.toUInt64).toInt64))])) _
    refine XS.land X0.here hx rfl (hb hby d8_16) rfl ?_
    show Steps p.tables e below (s₁.setTop (mkF m 17 #[.val (.ref a1), .val (.long nn), .second, .unset, .unset, .unset, .unset, .unset, .unset] [(.long (nn &&& (1 : Int64))), (.long ((nn.toUInt64 >>> ((1 : Int32) &&& 0x3f).toInt64.toUInt64).toInt64))])) _
    refine XS.lor X0.here hx rfl (hb hby d8_17) rfl ?_
    show Steps p.tables e below (s₁.setTop (mkF m 18 #[.val (.ref a1), .val (.long nn), .second, .unset, .unset, .unset, .unset, .unset, .unset] [(.long (((nn.toUInt64 >>> ((1 : Int32) &&& 0x3f).toInt64.toUInt64).toInt64) ||| (nn &&& (1 : Int64))))])) _
    refine XS.l2dS X0.here hx rfl (v := (FP.l2d (((nn.toUInt64 >>> ((1 : Int32) &&& 0x3f).toInt64.toUInt64).toInt64) ||| (nn &&& (1 : Int64))))) (hb hby d8_18) rfl rfl ?_
    show Steps p.tables e below (s₁.setTop (mkF m 19 #[.val (.ref a1), .val (.long nn), .second, .unset, .unset, .unset, .unset, .unset, .unset] [(.double (FP.l2d (((nn.toUInt64 >>> ((1 : Int32) &&& 0x3f).toInt64.toUInt64).toInt64) ||| (nn &&& (1 : Int64)))))])) _
    refine X0.ldc2DoubleC hx hown (mvT hZ (hw _ (List.mem_of_getElem? (i := 39) rfl))) (g := (mkF m 19 #[.val (.ref a1), .val (.long nn), .second, .unset, .unset, .unset, .unset, .unset, .unset] [(.double (FP.l2d (((nn.toUInt64 >>> ((1 : Int32) &&& 0x3f).toInt64.toUInt64).toInt64) ||| (nn &&& (1 : Int64)))))])) rfl (hb hby d8_19) _ ?_
    show Steps p.tables e below (s₁.setTop (mkF m 22 #[.val (.ref a1), .val (.long nn), .second, .unset, .unset, .unset, .unset, .unset, .unset] [(.double (4611686018427387904 : UInt64)), (.double (FP.l2d (((nn.toUInt64 >>> ((1 : Int32) &&& 0x3f).toInt64.toUInt64).toInt64) ||| (nn &&& (1 : Int64)))))])) _
    refine XS.dmulS X0.here hx rfl (v := u) (hb hby d8_22) rfl hn22 hv22 ?_
    show Steps p.tables e below (s₁.setTop (mkF m 23 #[.val (.ref a1), .val (.long nn), .second, .unset, .unset, .unset, .unset, .unset, .unset] [(.double u)])) _
    refine XS.dstoreN X0.here hx rfl (hb hby d8_23) rfl (l' := #[.val (.ref a1), .val (.long nn), .second, .val (.double u), .second, .unset, .unset, .unset, .unset]) rfl ?_
    show Steps p.tables e below (s₁.setTop (mkF m 24 #[.val (.ref a1), .val (.long nn), .second, .val (.double u), .second, .unset, .unset, .unset, .unset] [])) _
    refine XS.dloadN X0.here hx rfl (hb hby d8_24) rfl ?_
    show Steps p.tables e below (s₁.setTop (mkF m 25 #[.val (.ref a1), .val (.long nn), .second, .val (.double u), .second, .unset, .unset, .unset, .unset] [(.double u)])) _
    refine XS.aloadN X0.here hx rfl (hb hby d8_25) rfl rfl ?_
    show Steps p.tables e below (s₁.setTop (mkF m 26 #[.val (.ref a1), .val (.long nn), .second, .val (.double u), .second, .unset, .unset, .unset, .unset] [(.ref a1), (.double u)])) _
    refine st1 _ ?_
    show Steps p.tables e below (T1.setTop (mkF m 29 #[.val (.ref a1), .val (.long nn), .second, .val (.double u), .second, .unset, .unset, .unset, .unset] [(.double r), (.double u)])) _
    refine XS.dmulS X1.here hx rfl (v := (FP.dmul u r)) (hb hby d8_29) rfl hn29 rfl ?_
    show Steps p.tables e below (T1.setTop (mkF m 30 #[.val (.ref a1), .val (.long nn), .second, .val (.double u), .second, .unset, .unset, .unset, .unset] [(.double (FP.dmul u r))])) _
    refine XS.d2lS X1.here hx rfl (v := t) (hb hby d8_30) rfl hv30 ?_
    show Steps p.tables e below (T1.setTop (mkF m 31 #[.val (.ref a1), .val (.long nn), .second, .val (.double u), .second, .unset, .unset, .unset, .unset] [(.long t)])) _
    refine XS.lstore X1.here hx rfl (hb hby d8_31) rfl (l' := #[.val (.ref a1), .val (.long nn), .second, .val (.double u), .second, .val (.long t), .second, .unset, .unset]) rfl ?_
    show Steps p.tables e below (T1.setTop (mkF m 33 #[.val (.ref a1), .val (.long nn), .second, .val (.double u), .second, .val (.long t), .second, .unset, .unset] [])) _
    refine XS.lloadN X1.here hx rfl (hb hby d8_33) rfl ?_
    show Steps p.tables e below (T1.setTop (mkF m 34 #[.val (.ref a1), .val (.long nn), .second, .val (.double u), .second, .val (.long t), .second, .unset, .unset] [(.long nn)])) _
    refine XS.lload X1.here hx rfl (hb hby d8_34) rfl ?_
    show Steps p.tables e below (T1.setTop (mkF m 36 #[.val (.ref a1), .val (.long nn), .second, .val (.double u), .second, .val (.long t), .second, .unset, .unset] [(.long t), (.long nn)])) _
    refine XS.aloadN X1.here hx rfl (hb hby d8_36) rfl rfl ?_
    show Steps p.tables e below (T1.setTop (mkF m 37 #[.val (.ref a1), .val (.long nn), .second, .val (.double u), .second, .val (.long t), .second, .unset, .unset] [(.ref a1), (.long t), (.long nn)])) _
    refine st2 _ ?_
    show Steps p.tables e below (T2.setTop (mkF m 40 #[.val (.ref a1), .val (.long nn), .second, .val (.double u), .second, .val (.long t), .second, .unset, .unset] [(.long tk), (.long t), (.long nn)])) _
    refine XS.lmul X2.here hx rfl (hb hby d8_40) rfl ?_
    show Steps p.tables e below (T2.setTop (mkF m 41 #[.val (.ref a1), .val (.long nn), .second, .val (.double u), .second, .val (.long t), .second, .unset, .unset] [(.long (t * tk)), (.long nn)])) _
    refine XS.lsub X2.here hx rfl (hb hby d8_41) rfl ?_
    show Steps p.tables e below (T2.setTop (mkF m 42 #[.val (.ref a1), .val (.long nn), .second, .val (.double u), .second, .val (.long t), .second, .unset, .unset] [(.long (nn - (t * tk)))])) _
    refine XS.lstore X2.here hx rfl (hb hby d8_42) rfl (l' := #[.val (.ref a1), .val (.long nn), .second, .val (.double u), .second, .val (.long t), .second, .val (.long (nn - (t * tk))), .second]) rfl ?_
    show Steps p.tables e below (T2.setTop (mkF m 44 #[.val (.ref a1), .val (.long nn), .second, .val (.double u), .second, .val (.long t), .second, .val (.long (nn - (t * tk))), .second] [])) _
    refine XS.lload X2.here hx rfl (hb hby d8_44) rfl ?_
    show Steps p.tables e below (T2.setTop (mkF m 46 #[.val (.ref a1), .val (.long nn), .second, .val (.double u), .second, .val (.long t), .second, .val (.long (nn - (t * tk))), .second] [(.long (nn - (t * tk)))])) _
    refine XS.lconst X2.here hx rfl (hb hby d8_46) ?_
    show Steps p.tables e below (T2.setTop (mkF m 47 #[.val (.ref a1), .val (.long nn), .second, .val (.double u), .second, .val (.long t), .second, .val (.long (nn - (t * tk))), .second] [(.long (0 : Int64)), (.long (nn - (t * tk)))])) _
    refine XS.lcmp X2.here hx rfl (hb hby d8_47) rfl ?_
    show Steps p.tables e below (T2.setTop (mkF m 48 #[.val (.ref a1), .val (.long nn), .second, .val (.double u), .second, .val (.long t), .second, .val (.long (nn - (t * tk))), .second] [(.int (lcmpW (nn - (t * tk)) (0 : Int64)))])) _
    refine XS.ifNo X2.here hx rfl (hb hby d8_48) rfl ((if0 _ _).trans (tlt h48).2.1) ?_
    show Steps p.tables e below (T2.setTop (mkF m 51 #[.val (.ref a1), .val (.long nn), .second, .val (.double u), .second, .val (.long t), .second, .val (.long (nn - (t * tk))), .second] [])) _
    refine XS.lload X2.here hx rfl (hb hby d8_51) rfl ?_
    show Steps p.tables e below (T2.setTop (mkF m 53 #[.val (.ref a1), .val (.long nn), .second, .val (.double u), .second, .val (.long t), .second, .val (.long (nn - (t * tk))), .second] [(.long t)])) _
    refine XS.lconst X2.here hx rfl (hb hby d8_53) ?_
    show Steps p.tables e below (T2.setTop (mkF m 54 #[.val (.ref a1), .val (.long nn), .second, .val (.double u), .second, .val (.long t), .second, .val (.long (nn - (t * tk))), .second] [(.long (1 : Int64)), (.long t)])) _
    refine XS.lsub X2.here hx rfl (hb hby d8_54) rfl ?_
    show Steps p.tables e below (T2.setTop (mkF m 55 #[.val (.ref a1), .val (.long nn), .second, .val (.double u), .second, .val (.long t), .second, .val (.long (nn - (t * tk))), .second] [(.long (t - (1 : Int64)))])) _
    refine XS.lstore X2.here hx rfl (hb hby d8_55) rfl (l' := #[.val (.ref a1), .val (.long nn), .second, .val (.double u), .second, .val (.long (t - (1 : Int64))), .second, .val (.long (nn - (t * tk))), .second]) rfl ?_
    show Steps p.tables e below (T2.setTop (mkF m 57 #[.val (.ref a1), .val (.long nn), .second, .val (.double u), .second, .val (.long (t - (1 : Int64))), .second, .val (.long (nn - (t * tk))), .second] [])) _
    refine XS.goto X2.here hx rfl (pc0 := 57) (pc' := 76) rfl (hb hby d8_57) (by decide) (by decide) ?_
    show Steps p.tables e below (T2.setTop (mkF m 76 #[.val (.ref a1), .val (.long nn), .second, .val (.double u), .second, .val (.long (t - (1 : Int64))), .second, .val (.long (nn - (t * tk))), .second] [])) _
    refine XS.lload X2.here hx rfl (hb hby d8_76) rfl ?_
    show Steps p.tables e below (T2.setTop (mkF m 78 #[.val (.ref a1), .val (.long nn), .second, .val (.double u), .second, .val (.long (t - (1 : Int64))), .second, .val (.long (nn - (t * tk))), .second] [(.long (t - (1 : Int64)))])) _
    exact retOut X2 hx Bd.returns rfl (Or.inr (Or.inl ⟨rfl, rfl, _, rfl⟩)) (hb hby d8_78) hr
  · show QT (t - (1 : Int64)) h0 n0 _ T2.heap _
    rw [e2]
    exact ⟨rfl, N0, rfl⟩
set_option maxRecDepth 65536 in
set_option maxHeartbeats 40000000 in
theorem rmT_nk (l : Launch) (Z : State) (a0 : Array Value) (hw : ∀ d ∈ tables_1, d.before a0 Z = true) (ws : List Jvm.Cond) (a1 : Addr) (nn tk : Int64) (r u : UInt64) (t : Int64) (h0 : Heap) (n0 : Nat) (Z0 : n0 ≤ h0.size) (F_tickNanos : Fld Z h0 a1 "com/example/tick60/tick60/Ticks" "tickNanos" "J" (.long tk)) (F_ticksPerNano : Fld Z h0 a1 "com/example/tick60/tick60/Ticks" "ticksPerNano" "D" (.double r)) (hs : lcmpW nn (0 : Int64) < 0) (hn22 : NoNaN64 (FP.dmul (FP.l2d (((nn.toUInt64 >>> ((1 : Int32) &&& 0x3f).toInt64.toUInt64).toInt64) ||| (nn &&& (1 : Int64)))) (4611686018427387904 : UInt64))) (hv22 : FP.dmul (FP.l2d (((nn.toUInt64 >>> ((1 : Int32) &&& 0x3f).toInt64.toUInt64).toInt64) ||| (nn &&& (1 : Int64)))) (4611686018427387904 : UInt64) = u) (hn29 : NoNaN64 (FP.dmul u r)) (hv30 : FP.d2l (FP.dmul u r) = t) (h48 : ¬ (lcmpW (nn - (t * tk)) (0 : Int64) < 0)) (h67 : lcmpW (nn - (t * tk)) tk < 0) :
    MetFree l (⟨"com/example/tick60/tick60/Ticks", "ticksIn", "(J)J"⟩ : MethodName) (head1 (Jvm.Cond.code (⟨"com/example/tick60/tick60/Ticks", "ticksIn", "(J)J"⟩ : MethodName) prog_4_method_5_code 9 (some .long) :: ws) ({ frames := 0, cells := 0, slots := 0, locals := 0 } : Room)) (fun a U => a = #[(.ref a1), (.long nn)] ∧ Z.Warmed39 U.vm ∧ U.heap = h0) (fun _ _ _ _ _ => True) (fun _ U o U' => ∃ v L, o = .returned v ∧ QT t h0 n0 v U'.heap L ∧ FrameEnd U o U' L ({ frames := 0, cells := 0, slots := 0, locals := 0 } : Room).cells ({ frames := 0, cells := 0, slots := 0, locals := 0 } : Room).slots) := by
  refine MetFree.of_bodySF (plainFor_of_name pn2) hisR ?_
  intro p e s m args below meth c s₁ Bd hml0 hP hK
  obtain ⟨rfl, hZ, hh⟩ := hP
  have hx := Bd.exec
  have hby := Bd.bytes
  have hml : c.maxLocals = 9 := hml0
  have hown : s.vm.findClass "com/example/tick60/tick60/Ticks" = some m.cls := findClass_of_methodNamed Bd.named
  have hnm := (name_of_methodNamed Bd.named Bd.method).1
  have X0 : Stand p l e ({ frames := 0, cells := 0, slots := 0, locals := 0 } : Room) s m #[(.ref a1), (.long nn)] below meth c s₁ [] 0 0 := Stand.of_body Bd
  have e0 : s₁.heap = h0 := by rw [← hh, Bd.state]; rfl
  have N0 := Fr.nil n0
  have pre0 : ∀ t, Steps p.tables e below (s₁.setTop (mkF m 0 #[.val (.ref a1), .val (.long nn), .second, .unset, .unset, .unset, .unset, .unset, .unset] [])) t → Steps p.tables e below (s₁.setTop (entryFrame m #[(.ref a1), (.long nn)] 9)) t := fun t k => castTop (ef3 m a1 nn) k
  obtain ⟨T1, X1, e1, st1⟩ := getF X0 hx hZ hown (host := "") (Or.inl (hw _ (List.mem_of_getElem? (i := 15) rfl))) Via.refl e0 F_ticksPerNano (g := (mkF m 26 #[.val (.ref a1), .val (.long nn), .second, .val (.double u), .second, .unset, .unset, .unset, .unset] [(.ref a1), (.double u)])) rfl rfl (hb hby d8_26)
  obtain ⟨T2, X2, e2, st2⟩ := getF X1 hx hZ hown (host := "") (Or.inl (hw _ (List.mem_of_getElem? (i := 13) rfl))) Via.refl e1 F_tickNanos (g := (mkF m 37 #[.val (.ref a1), .val (.long nn), .second, .val (.double u), .second, .val (.long t), .second, .unset, .unset] [(.ref a1), (.long t), (.long nn)])) rfl rfl (hb hby d8_37)
  obtain ⟨T3, X3, e3, st3⟩ := getF X2 hx hZ hown (host := "") (Or.inl (hw _ (List.mem_of_getElem? (i := 13) rfl))) Via.refl e2 F_tickNanos (g := (mkF m 63 #[.val (.ref a1), .val (.long nn), .second, .val (.double u), .second, .val (.long t), .second, .val (.long (nn - (t * tk))), .second] [(.ref a1), (.long (nn - (t * tk)))])) rfl rfl (hb hby d8_63)
  obtain ⟨fs, hr, hrun, hended, hW, hsame⟩ := X3.leave (v := some (.long t)) (fun h => by rw [Bd.returns] at h; cases h)
  refine ⟨_, _, pre0 _ ?_, hrun, hended, _, _, rfl, ?_, ⟨_, rfl⟩, hW, hsame.mono (by decide) (by decide)⟩
  · show Steps p.tables e below (s₁.setTop (mkF m 0 #[.val (.ref a1), .val (.long nn), .second, .unset, .unset, .unset, .unset, .unset, .unset] [])) _
    refine XS.lloadN X0.here hx rfl (hb hby d8_0) rfl ?_
    show Steps p.tables e below (s₁.setTop (mkF m 1 #[.val (.ref a1), .val (.long nn), .second, .unset, .unset, .unset, .unset, .unset, .unset] [(.long nn)])) _
    refine XS.lconst X0.here hx rfl (hb hby d8_1) ?_
    show Steps p.tables e below (s₁.setTop (mkF m 2 #[.val (.ref a1), .val (.long nn), .second, .unset, .unset, .unset, .unset, .unset, .unset] [(.long (0 : Int64)), (.long nn)])) _
    refine XS.lcmp X0.here hx rfl (hb hby d8_2) rfl ?_
    show Steps p.tables e below (s₁.setTop (mkF m 3 #[.val (.ref a1), .val (.long nn), .second, .unset, .unset, .unset, .unset, .unset, .unset] [(.int (lcmpW nn (0 : Int64)))])) _
    refine XS.ifYes X0.here hx rfl (pc0 := 3) (pc' := 11) rfl (hb hby d8_3) rfl ((if0 _ _).trans (tlt hs).1) (by decide) (by decide) ?_
    show Steps p.tables e below (s₁.setTop (mkF m 11 #[.val (.ref a1), .val (.long nn), .second, .unset, .unset, .unset, .unset, .unset, .unset] [])) _
    refine XS.lloadN X0.here hx rfl (hb hby d8_11) rfl ?_
    show Steps p.tables e below (s₁.setTop (mkF m 12 #[.val (.ref a1), .val (.long nn), .second, .unset, .unset, .unset, .unset, .unset, .unset] [(.long nn)])) _
    refine XS.iconst X0.here hx rfl (hb hby d8_12) ?_
    show Steps p.tables e below (s₁.setTop (mkF m 13 #[.val (.ref a1), .val (.long nn), .second, .unset, .unset, .unset, .unset, .unset, .unset] [(.int (1 : Int32)), (.long nn)])) _
    refine XS.lushr X0.here hx rfl (hb hby d8_13) rfl ?_
    show Steps p.tables e below (s₁.setTop (mkF m 14 #[.val (.ref a1), .val (.long nn), .second, .unset, .unset, .unset, .unset, .unset, .unset] [(.long ((nn.toUInt64 >>> ((1 : Int32) &&& 0x3f).toInt64.toUInt64).toInt64))])) _
    refine XS.lloadN X0.here hx rfl (hb hby d8_14) rfl ?_
    show Steps p.tables e below (s₁.setTop (mkF m 15 #[.val (.ref a1), .val (.long nn), .second, .unset, .unset, .unset, .unset, .unset, .unset] [(.long nn), (.long ((nn.toUInt64 >>> ((1 : Int32) &&& 0x3f).toInt64.toUInt64).toInt64))])) _
    refine XS.lconst X0.here hx rfl (hb hby d8_15) ?_
    show Steps p.tables e below (s₁.setTop (mkF m 16 #[.val (.ref a1), .val (.long nn), .second, .unset, .unset, .unset, .unset, .unset, .unset] [(.long (1 : Int64)), (.long nn), (.long ((nn.toUInt64 >>> ((1 : Int32) &&& 0x3f).toInt64.toUInt64).toInt64))])) _
    refine XS.land X0.here hx rfl (hb hby d8_16) rfl ?_
    show Steps p.tables e below (s₁.setTop (mkF m 17 #[.val (.ref a1), .val (.long nn), .second, .unset, .unset, .unset, .unset, .unset, .unset] [(.long (nn &&& (1 : Int64))), (.long ((nn.toUInt64 >>> ((1 : Int32) &&& 0x3f).toInt64.toUInt64).toInt64))])) _
    refine XS.lor X0.here hx rfl (hb hby d8_17) rfl ?_
    show Steps p.tables e below (s₁.setTop (mkF m 18 #[.val (.ref a1), .val (.long nn), .second, .unset, .unset, .unset, .unset, .unset, .unset] [(.long (((nn.toUInt64 >>> ((1 : Int32) &&& 0x3f).toInt64.toUInt64).toInt64) ||| (nn &&& (1 : Int64))))])) _
    refine XS.l2dS X0.here hx rfl (v := (FP.l2d (((nn.toUInt64 >>> ((1 : Int32) &&& 0x3f).toInt64.toUInt64).toInt64) ||| (nn &&& (1 : Int64))))) (hb hby d8_18) rfl rfl ?_
    show Steps p.tables e below (s₁.setTop (mkF m 19 #[.val (.ref a1), .val (.long nn), .second, .unset, .unset, .unset, .unset, .unset, .unset] [(.double (FP.l2d (((nn.toUInt64 >>> ((1 : Int32) &&& 0x3f).toInt64.toUInt64).toInt64) ||| (nn &&& (1 : Int64)))))])) _
    refine X0.ldc2DoubleC hx hown (mvT hZ (hw _ (List.mem_of_getElem? (i := 39) rfl))) (g := (mkF m 19 #[.val (.ref a1), .val (.long nn), .second, .unset, .unset, .unset, .unset, .unset, .unset] [(.double (FP.l2d (((nn.toUInt64 >>> ((1 : Int32) &&& 0x3f).toInt64.toUInt64).toInt64) ||| (nn &&& (1 : Int64)))))])) rfl (hb hby d8_19) _ ?_
    show Steps p.tables e below (s₁.setTop (mkF m 22 #[.val (.ref a1), .val (.long nn), .second, .unset, .unset, .unset, .unset, .unset, .unset] [(.double (4611686018427387904 : UInt64)), (.double (FP.l2d (((nn.toUInt64 >>> ((1 : Int32) &&& 0x3f).toInt64.toUInt64).toInt64) ||| (nn &&& (1 : Int64)))))])) _
    refine XS.dmulS X0.here hx rfl (v := u) (hb hby d8_22) rfl hn22 hv22 ?_
    show Steps p.tables e below (s₁.setTop (mkF m 23 #[.val (.ref a1), .val (.long nn), .second, .unset, .unset, .unset, .unset, .unset, .unset] [(.double u)])) _
    refine XS.dstoreN X0.here hx rfl (hb hby d8_23) rfl (l' := #[.val (.ref a1), .val (.long nn), .second, .val (.double u), .second, .unset, .unset, .unset, .unset]) rfl ?_
    show Steps p.tables e below (s₁.setTop (mkF m 24 #[.val (.ref a1), .val (.long nn), .second, .val (.double u), .second, .unset, .unset, .unset, .unset] [])) _
    refine XS.dloadN X0.here hx rfl (hb hby d8_24) rfl ?_
    show Steps p.tables e below (s₁.setTop (mkF m 25 #[.val (.ref a1), .val (.long nn), .second, .val (.double u), .second, .unset, .unset, .unset, .unset] [(.double u)])) _
    refine XS.aloadN X0.here hx rfl (hb hby d8_25) rfl rfl ?_
    show Steps p.tables e below (s₁.setTop (mkF m 26 #[.val (.ref a1), .val (.long nn), .second, .val (.double u), .second, .unset, .unset, .unset, .unset] [(.ref a1), (.double u)])) _
    refine st1 _ ?_
    show Steps p.tables e below (T1.setTop (mkF m 29 #[.val (.ref a1), .val (.long nn), .second, .val (.double u), .second, .unset, .unset, .unset, .unset] [(.double r), (.double u)])) _
    refine XS.dmulS X1.here hx rfl (v := (FP.dmul u r)) (hb hby d8_29) rfl hn29 rfl ?_
    show Steps p.tables e below (T1.setTop (mkF m 30 #[.val (.ref a1), .val (.long nn), .second, .val (.double u), .second, .unset, .unset, .unset, .unset] [(.double (FP.dmul u r))])) _
    refine XS.d2lS X1.here hx rfl (v := t) (hb hby d8_30) rfl hv30 ?_
    show Steps p.tables e below (T1.setTop (mkF m 31 #[.val (.ref a1), .val (.long nn), .second, .val (.double u), .second, .unset, .unset, .unset, .unset] [(.long t)])) _
    refine XS.lstore X1.here hx rfl (hb hby d8_31) rfl (l' := #[.val (.ref a1), .val (.long nn), .second, .val (.double u), .second, .val (.long t), .second, .unset, .unset]) rfl ?_
    show Steps p.tables e below (T1.setTop (mkF m 33 #[.val (.ref a1), .val (.long nn), .second, .val (.double u), .second, .val (.long t), .second, .unset, .unset] [])) _
    refine XS.lloadN X1.here hx rfl (hb hby d8_33) rfl ?_
    show Steps p.tables e below (T1.setTop (mkF m 34 #[.val (.ref a1), .val (.long nn), .second, .val (.double u), .second, .val (.long t), .second, .unset, .unset] [(.long nn)])) _
    refine XS.lload X1.here hx rfl (hb hby d8_34) rfl ?_
    show Steps p.tables e below (T1.setTop (mkF m 36 #[.val (.ref a1), .val (.long nn), .second, .val (.double u), .second, .val (.long t), .second, .unset, .unset] [(.long t), (.long nn)])) _
    refine XS.aloadN X1.here hx rfl (hb hby d8_36) rfl rfl ?_
    show Steps p.tables e below (T1.setTop (mkF m 37 #[.val (.ref a1), .val (.long nn), .second, .val (.double u), .second, .val (.long t), .second, .unset, .unset] [(.ref a1), (.long t), (.long nn)])) _
    refine st2 _ ?_
    show Steps p.tables e below (T2.setTop (mkF m 40 #[.val (.ref a1), .val (.long nn), .second, .val (.double u), .second, .val (.long t), .second, .unset, .unset] [(.long tk), (.long t), (.long nn)])) _
    refine XS.lmul X2.here hx rfl (hb hby d8_40) rfl ?_
    show Steps p.tables e below (T2.setTop (mkF m 41 #[.val (.ref a1), .val (.long nn), .second, .val (.double u), .second, .val (.long t), .second, .unset, .unset] [(.long (t * tk)), (.long nn)])) _
    refine XS.lsub X2.here hx rfl (hb hby d8_41) rfl ?_
    show Steps p.tables e below (T2.setTop (mkF m 42 #[.val (.ref a1), .val (.long nn), .second, .val (.double u), .second, .val (.long t), .second, .unset, .unset] [(.long (nn - (t * tk)))])) _
    refine XS.lstore X2.here hx rfl (hb hby d8_42) rfl (l' := #[.val (.ref a1), .val (.long nn), .second, .val (.double u), .second, .val (.long t), .second, .val (.long (nn - (t * tk))), .second]) rfl ?_
    show Steps p.tables e below (T2.setTop (mkF m 44 #[.val (.ref a1), .val (.long nn), .second, .val (.double u), .second, .val (.long t), .second, .val (.long (nn - (t * tk))), .second] [])) _
    refine XS.lload X2.here hx rfl (hb hby d8_44) rfl ?_
    show Steps p.tables e below (T2.setTop (mkF m 46 #[.val (.ref a1), .val (.long nn), .second, .val (.double u), .second, .val (.long t), .second, .val (.long (nn - (t * tk))), .second] [(.long (nn - (t * tk)))])) _
    refine XS.lconst X2.here hx rfl (hb hby d8_46) ?_
    show Steps p.tables e below (T2.setTop (mkF m 47 #[.val (.ref a1), .val (.long nn), .second, .val (.double u), .second, .val (.long t), .second, .val (.long (nn - (t * tk))), .second] [(.long (0 : Int64)), (.long (nn - (t * tk)))])) _
    refine XS.lcmp X2.here hx rfl (hb hby d8_47) rfl ?_
    show Steps p.tables e below (T2.setTop (mkF m 48 #[.val (.ref a1), .val (.long nn), .second, .val (.double u), .second, .val (.long t), .second, .val (.long (nn - (t * tk))), .second] [(.int (lcmpW (nn - (t * tk)) (0 : Int64)))])) _
    refine XS.ifYes X2.here hx rfl (pc0 := 48) (pc' := 60) rfl (hb hby d8_48) rfl ((if0 _ _).trans (flt h48).2.1) (by decide) (by decide) ?_
    show Steps p.tables e below (T2.setTop (mkF m 60 #[.val (.ref a1), .val (.long nn), .second, .val (.double u), .second, .val (.long t), .second, .val (.long (nn - (t * tk))), .second] [])) _
    refine XS.lload X2.here hx rfl (hb hby d8_60) rfl ?_
    show Steps p.tables e below (T2.setTop (mkF m 62 #[.val (.ref a1), .val (.long nn), .second, .val (.double u), .second, .val (.long t), .second, .val (.long (nn - (t * tk))), .second] [(.long (nn - (t * tk)))])) _
    refine XS.aloadN X2.here hx rfl (hb hby d8_62) rfl rfl ?_
    show Steps p.tables e below (T2.setTop (mkF m 63 #[.val (.ref a1), .val (.long nn), .second, .val (.double u), .second, .val (.long t), .second, .val (.long (nn - (t * tk))), .second] [(.ref a1), (.long (nn - (t * tk)))])) _
    refine st3 _ ?_
    show Steps p.tables e below (T3.setTop (mkF m 66 #[.val (.ref a1), .val (.long nn), .second, .val (.double u), .second, .val (.long t), .second, .val (.long (nn - (t * tk))), .second] [(.long tk), (.long (nn - (t * tk)))])) _
    refine XS.lcmp X3.here hx rfl (hb hby d8_66) rfl ?_
    show Steps p.tables e below (T3.setTop (mkF m 67 #[.val (.ref a1), .val (.long nn), .second, .val (.double u), .second, .val (.long t), .second, .val (.long (nn - (t * tk))), .second] [(.int (lcmpW (nn - (t * tk)) tk))])) _
    refine XS.ifYes X3.here hx rfl (pc0 := 67) (pc' := 76) rfl (hb hby d8_67) rfl ((if0 _ _).trans (tlt h67).1) (by decide) (by decide) ?_
    show Steps p.tables e below (T3.setTop (mkF m 76 #[.val (.ref a1), .val (.long nn), .second, .val (.double u), .second, .val (.long t), .second, .val (.long (nn - (t * tk))), .second] [])) _
    refine XS.lload X3.here hx rfl (hb hby d8_76) rfl ?_
    show Steps p.tables e below (T3.setTop (mkF m 78 #[.val (.ref a1), .val (.long nn), .second, .val (.double u), .second, .val (.long t), .second, .val (.long (nn - (t * tk))), .second] [(.long t)])) _
    exact retOut X3 hx Bd.returns rfl (Or.inr (Or.inl ⟨rfl, rfl, _, rfl⟩)) (hb hby d8_78) hr
  · show QT t h0 n0 _ T3.heap _
    rw [e3]
    exact ⟨rfl, N0, rfl⟩
set_option maxRecDepth 65536 in
set_option maxHeartbeats 40000000 in
theorem rmT_nq (l : Launch) (Z : State) (a0 : Array Value) (hw : ∀ d ∈ tables_1, d.before a0 Z = true) (ws : List Jvm.Cond) (a1 : Addr) (nn tk : Int64) (r u : UInt64) (t : Int64) (h0 : Heap) (n0 : Nat) (Z0 : n0 ≤ h0.size) (F_tickNanos : Fld Z h0 a1 "com/example/tick60/tick60/Ticks" "tickNanos" "J" (.long tk)) (F_ticksPerNano : Fld Z h0 a1 "com/example/tick60/tick60/Ticks" "ticksPerNano" "D" (.double r)) (hs : lcmpW nn (0 : Int64) < 0) (hn22 : NoNaN64 (FP.dmul (FP.l2d (((nn.toUInt64 >>> ((1 : Int32) &&& 0x3f).toInt64.toUInt64).toInt64) ||| (nn &&& (1 : Int64)))) (4611686018427387904 : UInt64))) (hv22 : FP.dmul (FP.l2d (((nn.toUInt64 >>> ((1 : Int32) &&& 0x3f).toInt64.toUInt64).toInt64) ||| (nn &&& (1 : Int64)))) (4611686018427387904 : UInt64) = u) (hn29 : NoNaN64 (FP.dmul u r)) (hv30 : FP.d2l (FP.dmul u r) = t) (h48 : ¬ (lcmpW (nn - (t * tk)) (0 : Int64) < 0)) (h67 : ¬ (lcmpW (nn - (t * tk)) tk < 0)) :
    MetFree l (⟨"com/example/tick60/tick60/Ticks", "ticksIn", "(J)J"⟩ : MethodName) (head1 (Jvm.Cond.code (⟨"com/example/tick60/tick60/Ticks", "ticksIn", "(J)J"⟩ : MethodName) prog_4_method_5_code 9 (some .long) :: ws) ({ frames := 0, cells := 0, slots := 0, locals := 0 } : Room)) (fun a U => a = #[(.ref a1), (.long nn)] ∧ Z.Warmed39 U.vm ∧ U.heap = h0) (fun _ _ _ _ _ => True) (fun _ U o U' => ∃ v L, o = .returned v ∧ QT (t + (1 : Int64)) h0 n0 v U'.heap L ∧ FrameEnd U o U' L ({ frames := 0, cells := 0, slots := 0, locals := 0 } : Room).cells ({ frames := 0, cells := 0, slots := 0, locals := 0 } : Room).slots) := by
  refine MetFree.of_bodySF (plainFor_of_name pn2) hisR ?_
  intro p e s m args below meth c s₁ Bd hml0 hP hK
  obtain ⟨rfl, hZ, hh⟩ := hP
  have hx := Bd.exec
  have hby := Bd.bytes
  have hml : c.maxLocals = 9 := hml0
  have hown : s.vm.findClass "com/example/tick60/tick60/Ticks" = some m.cls := findClass_of_methodNamed Bd.named
  have hnm := (name_of_methodNamed Bd.named Bd.method).1
  have X0 : Stand p l e ({ frames := 0, cells := 0, slots := 0, locals := 0 } : Room) s m #[(.ref a1), (.long nn)] below meth c s₁ [] 0 0 := Stand.of_body Bd
  have e0 : s₁.heap = h0 := by rw [← hh, Bd.state]; rfl
  have N0 := Fr.nil n0
  have pre0 : ∀ t, Steps p.tables e below (s₁.setTop (mkF m 0 #[.val (.ref a1), .val (.long nn), .second, .unset, .unset, .unset, .unset, .unset, .unset] [])) t → Steps p.tables e below (s₁.setTop (entryFrame m #[(.ref a1), (.long nn)] 9)) t := fun t k => castTop (ef3 m a1 nn) k
  obtain ⟨T1, X1, e1, st1⟩ := getF X0 hx hZ hown (host := "") (Or.inl (hw _ (List.mem_of_getElem? (i := 15) rfl))) Via.refl e0 F_ticksPerNano (g := (mkF m 26 #[.val (.ref a1), .val (.long nn), .second, .val (.double u), .second, .unset, .unset, .unset, .unset] [(.ref a1), (.double u)])) rfl rfl (hb hby d8_26)
  obtain ⟨T2, X2, e2, st2⟩ := getF X1 hx hZ hown (host := "") (Or.inl (hw _ (List.mem_of_getElem? (i := 13) rfl))) Via.refl e1 F_tickNanos (g := (mkF m 37 #[.val (.ref a1), .val (.long nn), .second, .val (.double u), .second, .val (.long t), .second, .unset, .unset] [(.ref a1), (.long t), (.long nn)])) rfl rfl (hb hby d8_37)
  obtain ⟨T3, X3, e3, st3⟩ := getF X2 hx hZ hown (host := "") (Or.inl (hw _ (List.mem_of_getElem? (i := 13) rfl))) Via.refl e2 F_tickNanos (g := (mkF m 63 #[.val (.ref a1), .val (.long nn), .second, .val (.double u), .second, .val (.long t), .second, .val (.long (nn - (t * tk))), .second] [(.ref a1), (.long (nn - (t * tk)))])) rfl rfl (hb hby d8_63)
  obtain ⟨fs, hr, hrun, hended, hW, hsame⟩ := X3.leave (v := some (.long (t + (1 : Int64)))) (fun h => by rw [Bd.returns] at h; cases h)
  refine ⟨_, _, pre0 _ ?_, hrun, hended, _, _, rfl, ?_, ⟨_, rfl⟩, hW, hsame.mono (by decide) (by decide)⟩
  · show Steps p.tables e below (s₁.setTop (mkF m 0 #[.val (.ref a1), .val (.long nn), .second, .unset, .unset, .unset, .unset, .unset, .unset] [])) _
    refine XS.lloadN X0.here hx rfl (hb hby d8_0) rfl ?_
    show Steps p.tables e below (s₁.setTop (mkF m 1 #[.val (.ref a1), .val (.long nn), .second, .unset, .unset, .unset, .unset, .unset, .unset] [(.long nn)])) _
    refine XS.lconst X0.here hx rfl (hb hby d8_1) ?_
    show Steps p.tables e below (s₁.setTop (mkF m 2 #[.val (.ref a1), .val (.long nn), .second, .unset, .unset, .unset, .unset, .unset, .unset] [(.long (0 : Int64)), (.long nn)])) _
    refine XS.lcmp X0.here hx rfl (hb hby d8_2) rfl ?_
    show Steps p.tables e below (s₁.setTop (mkF m 3 #[.val (.ref a1), .val (.long nn), .second, .unset, .unset, .unset, .unset, .unset, .unset] [(.int (lcmpW nn (0 : Int64)))])) _
    refine XS.ifYes X0.here hx rfl (pc0 := 3) (pc' := 11) rfl (hb hby d8_3) rfl ((if0 _ _).trans (tlt hs).1) (by decide) (by decide) ?_
    show Steps p.tables e below (s₁.setTop (mkF m 11 #[.val (.ref a1), .val (.long nn), .second, .unset, .unset, .unset, .unset, .unset, .unset] [])) _
    refine XS.lloadN X0.here hx rfl (hb hby d8_11) rfl ?_
    show Steps p.tables e below (s₁.setTop (mkF m 12 #[.val (.ref a1), .val (.long nn), .second, .unset, .unset, .unset, .unset, .unset, .unset] [(.long nn)])) _
    refine XS.iconst X0.here hx rfl (hb hby d8_12) ?_
    show Steps p.tables e below (s₁.setTop (mkF m 13 #[.val (.ref a1), .val (.long nn), .second, .unset, .unset, .unset, .unset, .unset, .unset] [(.int (1 : Int32)), (.long nn)])) _
    refine XS.lushr X0.here hx rfl (hb hby d8_13) rfl ?_
    show Steps p.tables e below (s₁.setTop (mkF m 14 #[.val (.ref a1), .val (.long nn), .second, .unset, .unset, .unset, .unset, .unset, .unset] [(.long ((nn.toUInt64 >>> ((1 : Int32) &&& 0x3f).toInt64.toUInt64).toInt64))])) _
    refine XS.lloadN X0.here hx rfl (hb hby d8_14) rfl ?_
    show Steps p.tables e below (s₁.setTop (mkF m 15 #[.val (.ref a1), .val (.long nn), .second, .unset, .unset, .unset, .unset, .unset, .unset] [(.long nn), (.long ((nn.toUInt64 >>> ((1 : Int32) &&& 0x3f).toInt64.toUInt64).toInt64))])) _
    refine XS.lconst X0.here hx rfl (hb hby d8_15) ?_
    show Steps p.tables e below (s₁.setTop (mkF m 16 #[.val (.ref a1), .val (.long nn), .second, .unset, .unset, .unset, .unset, .unset, .unset] [(.long (1 : Int64)), (.long nn), (.long ((nn.toUInt64 >>> ((1 : Int32) &&& 0x3f).toInt64.toUInt64).toInt64))])) _
    refine XS.land X0.here hx rfl (hb hby d8_16) rfl ?_
    show Steps p.tables e below (s₁.setTop (mkF m 17 #[.val (.ref a1), .val (.long nn), .second, .unset, .unset, .unset, .unset, .unset, .unset] [(.long (nn &&& (1 : Int64))), (.long ((nn.toUInt64 >>> ((1 : Int32) &&& 0x3f).toInt64.toUInt64).toInt64))])) _
    refine XS.lor X0.here hx rfl (hb hby d8_17) rfl ?_
    show Steps p.tables e below (s₁.setTop (mkF m 18 #[.val (.ref a1), .val (.long nn), .second, .unset, .unset, .unset, .unset, .unset, .unset] [(.long (((nn.toUInt64 >>> ((1 : Int32) &&& 0x3f).toInt64.toUInt64).toInt64) ||| (nn &&& (1 : Int64))))])) _
    refine XS.l2dS X0.here hx rfl (v := (FP.l2d (((nn.toUInt64 >>> ((1 : Int32) &&& 0x3f).toInt64.toUInt64).toInt64) ||| (nn &&& (1 : Int64))))) (hb hby d8_18) rfl rfl ?_
    show Steps p.tables e below (s₁.setTop (mkF m 19 #[.val (.ref a1), .val (.long nn), .second, .unset, .unset, .unset, .unset, .unset, .unset] [(.double (FP.l2d (((nn.toUInt64 >>> ((1 : Int32) &&& 0x3f).toInt64.toUInt64).toInt64) ||| (nn &&& (1 : Int64)))))])) _
    refine X0.ldc2DoubleC hx hown (mvT hZ (hw _ (List.mem_of_getElem? (i := 39) rfl))) (g := (mkF m 19 #[.val (.ref a1), .val (.long nn), .second, .unset, .unset, .unset, .unset, .unset, .unset] [(.double (FP.l2d (((nn.toUInt64 >>> ((1 : Int32) &&& 0x3f).toInt64.toUInt64).toInt64) ||| (nn &&& (1 : Int64)))))])) rfl (hb hby d8_19) _ ?_
    show Steps p.tables e below (s₁.setTop (mkF m 22 #[.val (.ref a1), .val (.long nn), .second, .unset, .unset, .unset, .unset, .unset, .unset] [(.double (4611686018427387904 : UInt64)), (.double (FP.l2d (((nn.toUInt64 >>> ((1 : Int32) &&& 0x3f).toInt64.toUInt64).toInt64) ||| (nn &&& (1 : Int64)))))])) _
    refine XS.dmulS X0.here hx rfl (v := u) (hb hby d8_22) rfl hn22 hv22 ?_
    show Steps p.tables e below (s₁.setTop (mkF m 23 #[.val (.ref a1), .val (.long nn), .second, .unset, .unset, .unset, .unset, .unset, .unset] [(.double u)])) _
    refine XS.dstoreN X0.here hx rfl (hb hby d8_23) rfl (l' := #[.val (.ref a1), .val (.long nn), .second, .val (.double u), .second, .unset, .unset, .unset, .unset]) rfl ?_
    show Steps p.tables e below (s₁.setTop (mkF m 24 #[.val (.ref a1), .val (.long nn), .second, .val (.double u), .second, .unset, .unset, .unset, .unset] [])) _
    refine XS.dloadN X0.here hx rfl (hb hby d8_24) rfl ?_
    show Steps p.tables e below (s₁.setTop (mkF m 25 #[.val (.ref a1), .val (.long nn), .second, .val (.double u), .second, .unset, .unset, .unset, .unset] [(.double u)])) _
    refine XS.aloadN X0.here hx rfl (hb hby d8_25) rfl rfl ?_
    show Steps p.tables e below (s₁.setTop (mkF m 26 #[.val (.ref a1), .val (.long nn), .second, .val (.double u), .second, .unset, .unset, .unset, .unset] [(.ref a1), (.double u)])) _
    refine st1 _ ?_
    show Steps p.tables e below (T1.setTop (mkF m 29 #[.val (.ref a1), .val (.long nn), .second, .val (.double u), .second, .unset, .unset, .unset, .unset] [(.double r), (.double u)])) _
    refine XS.dmulS X1.here hx rfl (v := (FP.dmul u r)) (hb hby d8_29) rfl hn29 rfl ?_
    show Steps p.tables e below (T1.setTop (mkF m 30 #[.val (.ref a1), .val (.long nn), .second, .val (.double u), .second, .unset, .unset, .unset, .unset] [(.double (FP.dmul u r))])) _
    refine XS.d2lS X1.here hx rfl (v := t) (hb hby d8_30) rfl hv30 ?_
    show Steps p.tables e below (T1.setTop (mkF m 31 #[.val (.ref a1), .val (.long nn), .second, .val (.double u), .second, .unset, .unset, .unset, .unset] [(.long t)])) _
    refine XS.lstore X1.here hx rfl (hb hby d8_31) rfl (l' := #[.val (.ref a1), .val (.long nn), .second, .val (.double u), .second, .val (.long t), .second, .unset, .unset]) rfl ?_
    show Steps p.tables e below (T1.setTop (mkF m 33 #[.val (.ref a1), .val (.long nn), .second, .val (.double u), .second, .val (.long t), .second, .unset, .unset] [])) _
    refine XS.lloadN X1.here hx rfl (hb hby d8_33) rfl ?_
    show Steps p.tables e below (T1.setTop (mkF m 34 #[.val (.ref a1), .val (.long nn), .second, .val (.double u), .second, .val (.long t), .second, .unset, .unset] [(.long nn)])) _
    refine XS.lload X1.here hx rfl (hb hby d8_34) rfl ?_
    show Steps p.tables e below (T1.setTop (mkF m 36 #[.val (.ref a1), .val (.long nn), .second, .val (.double u), .second, .val (.long t), .second, .unset, .unset] [(.long t), (.long nn)])) _
    refine XS.aloadN X1.here hx rfl (hb hby d8_36) rfl rfl ?_
    show Steps p.tables e below (T1.setTop (mkF m 37 #[.val (.ref a1), .val (.long nn), .second, .val (.double u), .second, .val (.long t), .second, .unset, .unset] [(.ref a1), (.long t), (.long nn)])) _
    refine st2 _ ?_
    show Steps p.tables e below (T2.setTop (mkF m 40 #[.val (.ref a1), .val (.long nn), .second, .val (.double u), .second, .val (.long t), .second, .unset, .unset] [(.long tk), (.long t), (.long nn)])) _
    refine XS.lmul X2.here hx rfl (hb hby d8_40) rfl ?_
    show Steps p.tables e below (T2.setTop (mkF m 41 #[.val (.ref a1), .val (.long nn), .second, .val (.double u), .second, .val (.long t), .second, .unset, .unset] [(.long (t * tk)), (.long nn)])) _
    refine XS.lsub X2.here hx rfl (hb hby d8_41) rfl ?_
    show Steps p.tables e below (T2.setTop (mkF m 42 #[.val (.ref a1), .val (.long nn), .second, .val (.double u), .second, .val (.long t), .second, .unset, .unset] [(.long (nn - (t * tk)))])) _
    refine XS.lstore X2.here hx rfl (hb hby d8_42) rfl (l' := #[.val (.ref a1), .val (.long nn), .second, .val (.double u), .second, .val (.long t), .second, .val (.long (nn - (t * tk))), .second]) rfl ?_
    show Steps p.tables e below (T2.setTop (mkF m 44 #[.val (.ref a1), .val (.long nn), .second, .val (.double u), .second, .val (.long t), .second, .val (.long (nn - (t * tk))), .second] [])) _
    refine XS.lload X2.here hx rfl (hb hby d8_44) rfl ?_
    show Steps p.tables e below (T2.setTop (mkF m 46 #[.val (.ref a1), .val (.long nn), .second, .val (.double u), .second, .val (.long t), .second, .val (.long (nn - (t * tk))), .second] [(.long (nn - (t * tk)))])) _
    refine XS.lconst X2.here hx rfl (hb hby d8_46) ?_
    show Steps p.tables e below (T2.setTop (mkF m 47 #[.val (.ref a1), .val (.long nn), .second, .val (.double u), .second, .val (.long t), .second, .val (.long (nn - (t * tk))), .second] [(.long (0 : Int64)), (.long (nn - (t * tk)))])) _
    refine XS.lcmp X2.here hx rfl (hb hby d8_47) rfl ?_
    show Steps p.tables e below (T2.setTop (mkF m 48 #[.val (.ref a1), .val (.long nn), .second, .val (.double u), .second, .val (.long t), .second, .val (.long (nn - (t * tk))), .second] [(.int (lcmpW (nn - (t * tk)) (0 : Int64)))])) _
    refine XS.ifYes X2.here hx rfl (pc0 := 48) (pc' := 60) rfl (hb hby d8_48) rfl ((if0 _ _).trans (flt h48).2.1) (by decide) (by decide) ?_
    show Steps p.tables e below (T2.setTop (mkF m 60 #[.val (.ref a1), .val (.long nn), .second, .val (.double u), .second, .val (.long t), .second, .val (.long (nn - (t * tk))), .second] [])) _
    refine XS.lload X2.here hx rfl (hb hby d8_60) rfl ?_
    show Steps p.tables e below (T2.setTop (mkF m 62 #[.val (.ref a1), .val (.long nn), .second, .val (.double u), .second, .val (.long t), .second, .val (.long (nn - (t * tk))), .second] [(.long (nn - (t * tk)))])) _
    refine XS.aloadN X2.here hx rfl (hb hby d8_62) rfl rfl ?_
    show Steps p.tables e below (T2.setTop (mkF m 63 #[.val (.ref a1), .val (.long nn), .second, .val (.double u), .second, .val (.long t), .second, .val (.long (nn - (t * tk))), .second] [(.ref a1), (.long (nn - (t * tk)))])) _
    refine st3 _ ?_
    show Steps p.tables e below (T3.setTop (mkF m 66 #[.val (.ref a1), .val (.long nn), .second, .val (.double u), .second, .val (.long t), .second, .val (.long (nn - (t * tk))), .second] [(.long tk), (.long (nn - (t * tk)))])) _
    refine XS.lcmp X3.here hx rfl (hb hby d8_66) rfl ?_
    show Steps p.tables e below (T3.setTop (mkF m 67 #[.val (.ref a1), .val (.long nn), .second, .val (.double u), .second, .val (.long t), .second, .val (.long (nn - (t * tk))), .second] [(.int (lcmpW (nn - (t * tk)) tk))])) _
    refine XS.ifNo X3.here hx rfl (hb hby d8_67) rfl ((if0 _ _).trans (flt h67).1) ?_
    show Steps p.tables e below (T3.setTop (mkF m 70 #[.val (.ref a1), .val (.long nn), .second, .val (.double u), .second, .val (.long t), .second, .val (.long (nn - (t * tk))), .second] [])) _
    refine XS.lload X3.here hx rfl (hb hby d8_70) rfl ?_
    show Steps p.tables e below (T3.setTop (mkF m 72 #[.val (.ref a1), .val (.long nn), .second, .val (.double u), .second, .val (.long t), .second, .val (.long (nn - (t * tk))), .second] [(.long t)])) _
    refine XS.lconst X3.here hx rfl (hb hby d8_72) ?_
    show Steps p.tables e below (T3.setTop (mkF m 73 #[.val (.ref a1), .val (.long nn), .second, .val (.double u), .second, .val (.long t), .second, .val (.long (nn - (t * tk))), .second] [(.long (1 : Int64)), (.long t)])) _
    refine XS.ladd X3.here hx rfl (hb hby d8_73) rfl ?_
    show Steps p.tables e below (T3.setTop (mkF m 74 #[.val (.ref a1), .val (.long nn), .second, .val (.double u), .second, .val (.long t), .second, .val (.long (nn - (t * tk))), .second] [(.long (t + (1 : Int64)))])) _
    refine XS.lstore X3.here hx rfl (hb hby d8_74) rfl (l' := #[.val (.ref a1), .val (.long nn), .second, .val (.double u), .second, .val (.long (t + (1 : Int64))), .second, .val (.long (nn - (t * tk))), .second]) rfl ?_
    show Steps p.tables e below (T3.setTop (mkF m 76 #[.val (.ref a1), .val (.long nn), .second, .val (.double u), .second, .val (.long (t + (1 : Int64))), .second, .val (.long (nn - (t * tk))), .second] [])) _
    refine XS.lload X3.here hx rfl (hb hby d8_76) rfl ?_
    show Steps p.tables e below (T3.setTop (mkF m 78 #[.val (.ref a1), .val (.long nn), .second, .val (.double u), .second, .val (.long (t + (1 : Int64))), .second, .val (.long (nn - (t * tk))), .second] [(.long (t + (1 : Int64)))])) _
    exact retOut X3 hx Bd.returns rfl (Or.inr (Or.inl ⟨rfl, rfl, _, rfl⟩)) (hb hby d8_78) hr
  · show QT (t + (1 : Int64)) h0 n0 _ T3.heap _
    rw [e3]
    exact ⟨rfl, N0, rfl⟩
def own_fix (nn tk t : Int64) : Int64 := if nn - t * tk < 0 then t - 1 else if nn - t * tk < tk then t else t + 1
def own_U (nn : Int64) : UInt64 := if nn < 0 then FP.dmul (FP.l2d (((nn.toUInt64 >>> ((1 : Int32) &&& 0x3f).toInt64.toUInt64).toInt64) ||| (nn &&& (1 : Int64)))) (4611686018427387904 : UInt64) else FP.l2d nn
def own_okT (nn : Int64) (r : UInt64) (t : Int64) : Prop := NoNaN64 (own_U nn) ∧ NoNaN64 (FP.dmul (own_U nn) r) ∧ FP.d2l (FP.dmul (own_U nn) r) = t
theorem own_lc {x y : Int64} : (lcmpW x y < 0) ↔ x < y := by rw [lcW]; exact lc_lt x y
theorem rmT (l : Launch) (Z : State) (a0 : Array Value) (hw : ∀ d ∈ tables_1, d.before a0 Z = true) (ws : List Jvm.Cond) (a1 : Addr) (nn tk : Int64) (r : UInt64) (t : Int64) (h0 : Heap) (n0 : Nat) (Z0 : n0 ≤ h0.size) (F_tickNanos : Fld Z h0 a1 "com/example/tick60/tick60/Ticks" "tickNanos" "J" (.long tk)) (F_ticksPerNano : Fld Z h0 a1 "com/example/tick60/tick60/Ticks" "ticksPerNano" "D" (.double r)) (ok : own_okT nn r t) :
    MetFree l (⟨"com/example/tick60/tick60/Ticks", "ticksIn", "(J)J"⟩ : MethodName) (head1 (Jvm.Cond.code (⟨"com/example/tick60/tick60/Ticks", "ticksIn", "(J)J"⟩ : MethodName) prog_4_method_5_code 9 (some .long) :: ws) ({ frames := 0, cells := 0, slots := 0, locals := 0 } : Room)) (fun a U => a = #[(.ref a1), (.long nn)] ∧ Z.Warmed39 U.vm ∧ U.heap = h0) (fun _ _ _ _ _ => True) (fun _ U o U' => ∃ v L, o = .returned v ∧ QT (own_fix nn tk t) h0 n0 v U'.heap L ∧ FrameEnd U o U' L ({ frames := 0, cells := 0, slots := 0, locals := 0 } : Room).cells ({ frames := 0, cells := 0, slots := 0, locals := 0 } : Room).slots) := by
  obtain ⟨k1, k2, k3⟩ := ok
  by_cases hs : nn < 0
  · have e : own_U nn = FP.dmul (FP.l2d (((nn.toUInt64 >>> ((1 : Int32) &&& 0x3f).toInt64.toUInt64).toInt64) ||| (nn &&& (1 : Int64)))) (4611686018427387904 : UInt64) := if_pos hs
    have hs' := own_lc.mpr hs
    by_cases h1 : nn - t * tk < 0
    · rw [show own_fix nn tk t = t - 1 from if_pos h1]
      exact rmT_nm l Z a0 hw ws a1 nn tk r _ t h0 n0 Z0 F_tickNanos F_ticksPerNano hs' (e ▸ k1) e.symm k2 k3 (own_lc.mpr h1)
    · by_cases h2 : nn - t * tk < tk
      · rw [show own_fix nn tk t = t from (if_neg h1).trans (if_pos h2)]
        exact rmT_nk l Z a0 hw ws a1 nn tk r _ t h0 n0 Z0 F_tickNanos F_ticksPerNano hs' (e ▸ k1) e.symm k2 k3 (fun q => h1 (own_lc.mp q)) (own_lc.mpr h2)
      · rw [show own_fix nn tk t = t + 1 from (if_neg h1).trans (if_neg h2)]
        exact rmT_nq l Z a0 hw ws a1 nn tk r _ t h0 n0 Z0 F_tickNanos F_ticksPerNano hs' (e ▸ k1) e.symm k2 k3 (fun q => h1 (own_lc.mp q)) (fun q => h2 (own_lc.mp q))
  · have e : own_U nn = FP.l2d nn := if_neg hs
    have hs' : ¬ (lcmpW nn (0 : Int64) < 0) := fun q => hs (own_lc.mp q)
    by_cases h1 : nn - t * tk < 0
    · rw [show own_fix nn tk t = t - 1 from if_pos h1]
      exact rmT_pm l Z a0 hw ws a1 nn tk r _ t h0 n0 Z0 F_tickNanos F_ticksPerNano hs' e.symm k2 k3 (own_lc.mpr h1)
    · by_cases h2 : nn - t * tk < tk
      · rw [show own_fix nn tk t = t from (if_neg h1).trans (if_pos h2)]
        exact rmT_pk l Z a0 hw ws a1 nn tk r _ t h0 n0 Z0 F_tickNanos F_ticksPerNano hs' e.symm k2 k3 (fun q => h1 (own_lc.mp q)) (own_lc.mpr h2)
      · rw [show own_fix nn tk t = t + 1 from (if_neg h1).trans (if_neg h2)]
        exact rmT_pq l Z a0 hw ws a1 nn tk r _ t h0 n0 Z0 F_tickNanos F_ticksPerNano hs' e.symm k2 k3 (fun q => h1 (own_lc.mp q)) (fun q => h2 (own_lc.mp q))
set_option maxRecDepth 65536 in
set_option maxHeartbeats 40000000 in
theorem rmB_0 (l : Launch) (Z : State) (a0 : Array Value) (hw : ∀ d ∈ tables_1, d.before a0 Z = true) (ws : List Jvm.Cond) (a1 : Addr) (st tk dl : Int64) (r : UInt64) (h0 : Heap) (n0 : Nat) (Z0 : n0 ≤ h0.size) (F_start : Fld Z h0 a1 "com/example/tick60/tick60/Ticks" "start" "J" (.long st)) (F_tickNanos : Fld Z h0 a1 "com/example/tick60/tick60/Ticks" "tickNanos" "J" (.long tk)) (F_ticksPerNano : Fld Z h0 a1 "com/example/tick60/tick60/Ticks" "ticksPerNano" "D" (.double r)) (E_a1 : Exa Z h0 a1 "com/example/tick60/tick60/Ticks") (hc : ¬ (0 < lcmpW dl st)) :
    MetFree l (⟨"com/example/tick60/tick60/Ticks", "boundaryOf", "(J)J"⟩ : MethodName) (head1 (Jvm.Cond.code (⟨"com/example/tick60/tick60/Ticks", "boundaryOf", "(J)J"⟩ : MethodName) prog_4_method_3_code 3 (some .long) :: ws) ({ frames := 0, cells := 0, slots := 0, locals := 0 } : Room)) (fun a U => a = #[(.ref a1), (.long dl)] ∧ Z.Warmed39 U.vm ∧ U.heap = h0) (fun _ _ _ _ _ => True) (fun _ U o U' => ∃ v L, o = .returned v ∧ QT (0 : Int64) h0 n0 v U'.heap L ∧ FrameEnd U o U' L ({ frames := 0, cells := 0, slots := 0, locals := 0 } : Room).cells ({ frames := 0, cells := 0, slots := 0, locals := 0 } : Room).slots) := by
  refine MetFree.of_bodySF (plainFor_of_name pn2) hisR ?_
  intro p e s m args below meth c s₁ Bd hml0 hP hK
  obtain ⟨rfl, hZ, hh⟩ := hP
  have hx := Bd.exec
  have hby := Bd.bytes
  have hml : c.maxLocals = 3 := hml0
  have hown : s.vm.findClass "com/example/tick60/tick60/Ticks" = some m.cls := findClass_of_methodNamed Bd.named
  have hnm := (name_of_methodNamed Bd.named Bd.method).1
  have X0 : Stand p l e ({ frames := 0, cells := 0, slots := 0, locals := 0 } : Room) s m #[(.ref a1), (.long dl)] below meth c s₁ [] 0 0 := Stand.of_body Bd
  have e0 : s₁.heap = h0 := by rw [← hh, Bd.state]; rfl
  have N0 := Fr.nil n0
  have pre0 : ∀ t, Steps p.tables e below (s₁.setTop (mkF m 0 #[.val (.ref a1), .val (.long dl), .second] [])) t → Steps p.tables e below (s₁.setTop (entryFrame m #[(.ref a1), (.long dl)] 3)) t := fun t k => castTop (ef4 m a1 dl) k
  obtain ⟨T1, X1, e1, st1⟩ := getF X0 hx hZ hown (host := "") (Or.inl (hw _ (List.mem_of_getElem? (i := 11) rfl))) Via.refl e0 F_start (g := (mkF m 2 #[.val (.ref a1), .val (.long dl), .second] [(.ref a1), (.long dl)])) rfl rfl (hb hby d10_2)
  obtain ⟨fs, hr, hrun, hended, hW, hsame⟩ := X1.leave (v := some (.long (0 : Int64))) (fun h => by rw [Bd.returns] at h; cases h)
  refine ⟨_, _, pre0 _ ?_, hrun, hended, _, _, rfl, ?_, ⟨_, rfl⟩, hW, hsame.mono (by decide) (by decide)⟩
  · show Steps p.tables e below (s₁.setTop (mkF m 0 #[.val (.ref a1), .val (.long dl), .second] [])) _
    refine XS.lloadN X0.here hx rfl (hb hby d10_0) rfl ?_
    show Steps p.tables e below (s₁.setTop (mkF m 1 #[.val (.ref a1), .val (.long dl), .second] [(.long dl)])) _
    refine XS.aloadN X0.here hx rfl (hb hby d10_1) rfl rfl ?_
    show Steps p.tables e below (s₁.setTop (mkF m 2 #[.val (.ref a1), .val (.long dl), .second] [(.ref a1), (.long dl)])) _
    refine st1 _ ?_
    show Steps p.tables e below (T1.setTop (mkF m 5 #[.val (.ref a1), .val (.long dl), .second] [(.long st), (.long dl)])) _
    refine XS.lcmp X1.here hx rfl (hb hby d10_5) rfl ?_
    show Steps p.tables e below (T1.setTop (mkF m 6 #[.val (.ref a1), .val (.long dl), .second] [(.int (lcmpW dl st))])) _
    refine XS.ifNo X1.here hx rfl (hb hby d10_6) rfl ((if0 _ _).trans (flt hc).2.2.1) ?_
    show Steps p.tables e below (T1.setTop (mkF m 9 #[.val (.ref a1), .val (.long dl), .second] [])) _
    refine XS.lconst X1.here hx rfl (hb hby d10_9) ?_
    show Steps p.tables e below (T1.setTop (mkF m 10 #[.val (.ref a1), .val (.long dl), .second] [(.long (0 : Int64))])) _
    refine XS.goto X1.here hx rfl (pc0 := 10) (pc' := 27) rfl (hb hby d10_10) (by decide) (by decide) ?_
    show Steps p.tables e below (T1.setTop (mkF m 27 #[.val (.ref a1), .val (.long dl), .second] [(.long (0 : Int64))])) _
    exact retOut X1 hx Bd.returns rfl (Or.inr (Or.inl ⟨rfl, rfl, _, rfl⟩)) (hb hby d10_27) hr
  · show QT (0 : Int64) h0 n0 _ T1.heap _
    rw [e1]
    exact ⟨rfl, N0, rfl⟩
set_option maxRecDepth 65536 in
set_option maxHeartbeats 40000000 in
theorem rmB_1 (l : Launch) (Z : State) (a0 : Array Value) (hw : ∀ d ∈ tables_1, d.before a0 Z = true) (ws : List Jvm.Cond) (a1 : Addr) (st tk dl : Int64) (r : UInt64) (t : Int64) (h0 : Heap) (n0 : Nat) (Z0 : n0 ≤ h0.size) (F_start : Fld Z h0 a1 "com/example/tick60/tick60/Ticks" "start" "J" (.long st)) (F_tickNanos : Fld Z h0 a1 "com/example/tick60/tick60/Ticks" "tickNanos" "J" (.long tk)) (F_ticksPerNano : Fld Z h0 a1 "com/example/tick60/tick60/Ticks" "ticksPerNano" "D" (.double r)) (E_a1 : Exa Z h0 a1 "com/example/tick60/tick60/Ticks") (hc : 0 < lcmpW dl st) (ok : own_okT ((dl - st) - (1 : Int64)) r t) :
    MetFree l (⟨"com/example/tick60/tick60/Ticks", "boundaryOf", "(J)J"⟩ : MethodName) (head1 (Jvm.Cond.code (⟨"com/example/tick60/tick60/Ticks", "boundaryOf", "(J)J"⟩ : MethodName) prog_4_method_3_code 3 (some .long) :: ws) ({ frames := 1, cells := 0, slots := 0, locals := 20 } : Room)) (fun a U => a = #[(.ref a1), (.long dl)] ∧ Z.Warmed39 U.vm ∧ U.heap = h0) (fun _ _ _ _ _ => True) (fun _ U o U' => ∃ v L, o = .returned v ∧ QT ((own_fix ((dl - st) - (1 : Int64)) tk t) + (1 : Int64)) h0 n0 v U'.heap L ∧ FrameEnd U o U' L ({ frames := 1, cells := 0, slots := 0, locals := 20 } : Room).cells ({ frames := 1, cells := 0, slots := 0, locals := 20 } : Room).slots) := by
  refine MetFree.of_bodySF (plainFor_of_name pn2) hisR ?_
  intro p e s m args below meth c s₁ Bd hml0 hP hK
  obtain ⟨rfl, hZ, hh⟩ := hP
  have hx := Bd.exec
  have hby := Bd.bytes
  have hml : c.maxLocals = 3 := hml0
  have hown : s.vm.findClass "com/example/tick60/tick60/Ticks" = some m.cls := findClass_of_methodNamed Bd.named
  have hnm := (name_of_methodNamed Bd.named Bd.method).1
  have X0 : Stand p l e ({ frames := 1, cells := 0, slots := 0, locals := 20 } : Room) s m #[(.ref a1), (.long dl)] below meth c s₁ [] 0 0 := Stand.of_body Bd
  have e0 : s₁.heap = h0 := by rw [← hh, Bd.state]; rfl
  have N0 := Fr.nil n0
  have pre0 : ∀ t, Steps p.tables e below (s₁.setTop (mkF m 0 #[.val (.ref a1), .val (.long dl), .second] [])) t → Steps p.tables e below (s₁.setTop (entryFrame m #[(.ref a1), (.long dl)] 3)) t := fun t k => castTop (ef4 m a1 dl) k
  obtain ⟨T1, X1, e1, st1⟩ := getF X0 hx hZ hown (host := "") (Or.inl (hw _ (List.mem_of_getElem? (i := 11) rfl))) Via.refl e0 F_start (g := (mkF m 2 #[.val (.ref a1), .val (.long dl), .second] [(.ref a1), (.long dl)])) rfl rfl (hb hby d10_2)
  obtain ⟨T2, X2, e2, st2⟩ := getF X1 hx hZ hown (host := "") (Or.inl (hw _ (List.mem_of_getElem? (i := 11) rfl))) Via.refl e1 F_start (g := (mkF m 16 #[.val (.ref a1), .val (.long dl), .second] [(.ref a1), (.long dl), (.ref a1)])) rfl rfl (hb hby d10_16)
  obtain ⟨cq3, qa3, qb3⟩ := E_a1.cell
  obtain ⟨_, _, ⟨T3, L3, k3, n3⟩, -, X3, ⟨Lc3, hQ3, l3, y3, z3⟩, st3⟩ := X2.privateBack hx (y := (⟨"com/example/tick60/tick60/Ticks", "ticksIn", "(J)J"⟩ : MethodName)) hown (mvT hZ (hw _ (List.mem_of_getElem? (i := 30) rfl))) (mvT hZ (hw _ (List.mem_of_getElem? (i := 31) rfl))) (own_selP (y := (⟨"com/example/tick60/tick60/Ticks", "ticksIn", "(J)J"⟩ : MethodName)) (y' := (⟨"com/example/tick60/tick60/Ticks", "boundaryOf", "(J)J"⟩ : MethodName)) rfl (mvT hZ (hw _ (List.mem_of_getElem? (i := 28) rfl))) (Cond.privateMethod_at (mvP hZ (hw _ (List.mem_of_getElem? (i := 32) rfl)) (args := #[]))) (mvT hZ (hw _ (List.mem_of_getElem? (i := 31) rfl))) (by decide)) (Cond.privateMethod_at (mvP hZ (hw _ (List.mem_of_getElem? (i := 32) rfl)) (args := #[]))) (mvT hZ (hw _ (List.mem_of_getElem? (i := 33) rfl))) (by decide) (backOf (W := 0) (rmT l Z a0 hw [] a1 ((dl - st) - (1 : Int64)) tk r t h0 n0 Z0 F_tickNanos F_ticksPerNano ok) hZ (hw _ (List.mem_of_getElem? (i := 33) rfl)) (hw _ (List.mem_of_getElem? (i := 4) rfl)) (by decide) (by decide)) (g := (mkF m 22 #[.val (.ref a1), .val (.long dl), .second] [(.long ((dl - st) - (1 : Int64))), (.ref a1)])) rfl (by rw [hml]; rfl) (Steps.refl _) (a := a1) (by rw [e2]; exact qa3) qb3 (argsL := [(.long ((dl - st) - (1 : Int64)))]) (rest := []) (lenOf pd2 rfl) rfl (by show 2 * 0 + _ ≤ _; exact Nat.le_of_eq rfl) (hb hby d10_22) (fun _ _ => ⟨rfl, e2, (by decide : 0 + 0 ≤ _), (by decide : 0 + 0 ≤ _)⟩)
  dsimp only [Pt.U, Pt.locs, Pt.cells, Pt.slots] at X3 l3 y3 z3 st3 hQ3
  subst l3 y3 z3
  obtain ⟨rfl, Nc3, ec3⟩ := hQ3
  have N3 := Fr.app N0 Nc3
  obtain ⟨fs, hr, hrun, hended, hW, hsame⟩ := X3.leave (v := some (.long ((own_fix ((dl - st) - (1 : Int64)) tk t) + (1 : Int64)))) (fun h => by rw [Bd.returns] at h; cases h)
  refine ⟨_, _, pre0 _ ?_, hrun, hended, _, _, rfl, ?_, ⟨_, rfl⟩, hW, hsame.mono (by decide) (by decide)⟩
  · show Steps p.tables e below (s₁.setTop (mkF m 0 #[.val (.ref a1), .val (.long dl), .second] [])) _
    refine XS.lloadN X0.here hx rfl (hb hby d10_0) rfl ?_
    show Steps p.tables e below (s₁.setTop (mkF m 1 #[.val (.ref a1), .val (.long dl), .second] [(.long dl)])) _
    refine XS.aloadN X0.here hx rfl (hb hby d10_1) rfl rfl ?_
    show Steps p.tables e below (s₁.setTop (mkF m 2 #[.val (.ref a1), .val (.long dl), .second] [(.ref a1), (.long dl)])) _
    refine st1 _ ?_
    show Steps p.tables e below (T1.setTop (mkF m 5 #[.val (.ref a1), .val (.long dl), .second] [(.long st), (.long dl)])) _
    refine XS.lcmp X1.here hx rfl (hb hby d10_5) rfl ?_
    show Steps p.tables e below (T1.setTop (mkF m 6 #[.val (.ref a1), .val (.long dl), .second] [(.int (lcmpW dl st))])) _
    refine XS.ifYes X1.here hx rfl (pc0 := 6) (pc' := 13) rfl (hb hby d10_6) rfl ((if0 _ _).trans (tlt hc).2.2.1) (by decide) (by decide) ?_
    show Steps p.tables e below (T1.setTop (mkF m 13 #[.val (.ref a1), .val (.long dl), .second] [])) _
    refine XS.aloadN X1.here hx rfl (hb hby d10_13) rfl rfl ?_
    show Steps p.tables e below (T1.setTop (mkF m 14 #[.val (.ref a1), .val (.long dl), .second] [(.ref a1)])) _
    refine XS.lloadN X1.here hx rfl (hb hby d10_14) rfl ?_
    show Steps p.tables e below (T1.setTop (mkF m 15 #[.val (.ref a1), .val (.long dl), .second] [(.long dl), (.ref a1)])) _
    refine XS.aloadN X1.here hx rfl (hb hby d10_15) rfl rfl ?_
    show Steps p.tables e below (T1.setTop (mkF m 16 #[.val (.ref a1), .val (.long dl), .second] [(.ref a1), (.long dl), (.ref a1)])) _
    refine st2 _ ?_
    show Steps p.tables e below (T2.setTop (mkF m 19 #[.val (.ref a1), .val (.long dl), .second] [(.long st), (.long dl), (.ref a1)])) _
    refine XS.lsub X2.here hx rfl (hb hby d10_19) rfl ?_
    show Steps p.tables e below (T2.setTop (mkF m 20 #[.val (.ref a1), .val (.long dl), .second] [(.long (dl - st)), (.ref a1)])) _
    refine XS.lconst X2.here hx rfl (hb hby d10_20) ?_
    show Steps p.tables e below (T2.setTop (mkF m 21 #[.val (.ref a1), .val (.long dl), .second] [(.long (1 : Int64)), (.long (dl - st)), (.ref a1)])) _
    refine XS.lsub X2.here hx rfl (hb hby d10_21) rfl ?_
    show Steps p.tables e below (T2.setTop (mkF m 22 #[.val (.ref a1), .val (.long dl), .second] [(.long ((dl - st) - (1 : Int64))), (.ref a1)])) _
    refine st3.trans ?_
    show Steps p.tables e below (T3.setTop (mkF m 25 #[.val (.ref a1), .val (.long dl), .second] [(.long (own_fix ((dl - st) - (1 : Int64)) tk t))])) _
    refine XS.lconst X3.here hx rfl (hb hby d10_25) ?_
    show Steps p.tables e below (T3.setTop (mkF m 26 #[.val (.ref a1), .val (.long dl), .second] [(.long (1 : Int64)), (.long (own_fix ((dl - st) - (1 : Int64)) tk t))])) _
    refine XS.ladd X3.here hx rfl (hb hby d10_26) rfl ?_
    show Steps p.tables e below (T3.setTop (mkF m 27 #[.val (.ref a1), .val (.long dl), .second] [(.long ((own_fix ((dl - st) - (1 : Int64)) tk t) + (1 : Int64)))])) _
    exact retOut X3 hx Bd.returns rfl (Or.inr (Or.inl ⟨rfl, rfl, _, rfl⟩)) (hb hby d10_27) hr
  · show QT ((own_fix ((dl - st) - (1 : Int64)) tk t) + (1 : Int64)) h0 n0 _ T3.heap _
    rw [ec3]
    exact ⟨rfl, N3, rfl⟩
set_option maxRecDepth 65536 in
set_option maxHeartbeats 40000000 in
theorem rmU_p (l : Launch) (Z : State) (a0 : Array Value) (hw : ∀ d ∈ tables_1, d.before a0 Z = true) (ws : List Jvm.Cond) (n d : Int64) (h0 : Heap) (n0 : Nat) (Z0 : n0 ≤ h0.size) (hz : d ≠ 0) (hs : ¬ (lcmpW n (0 : Int64) < 0)) :
    MetFree l (⟨"com/example/tick60/tick60/TicksBoundaryOfPinLaw", "udiv", "(JJ)J"⟩ : MethodName) (head1 (Jvm.Cond.code (⟨"com/example/tick60/tick60/TicksBoundaryOfPinLaw", "udiv", "(JJ)J"⟩ : MethodName) method_2_code 8 (some .long) :: ws) ({ frames := 0, cells := 0, slots := 0, locals := 0 } : Room)) (fun a U => a = #[(.long n), (.long d)] ∧ Z.Warmed39 U.vm ∧ U.heap = h0) (fun _ _ _ _ _ => True) (fun _ U o U' => ∃ v L, o = .returned v ∧ QT (n / d) h0 n0 v U'.heap L ∧ FrameEnd U o U' L ({ frames := 0, cells := 0, slots := 0, locals := 0 } : Room).cells ({ frames := 0, cells := 0, slots := 0, locals := 0 } : Room).slots) := by
  refine MetFree.of_bodySF (plainFor_of_name pn3) hisR ?_
  intro p e s m args below meth c s₁ Bd hml0 hP hK
  obtain ⟨rfl, hZ, hh⟩ := hP
  have hx := Bd.exec
  have hby := Bd.bytes
  have hml : c.maxLocals = 8 := hml0
  have hown : s.vm.findClass "com/example/tick60/tick60/TicksBoundaryOfPinLaw" = some m.cls := findClass_of_methodNamed Bd.named
  have hnm := (name_of_methodNamed Bd.named Bd.method).1
  have X0 : Stand p l e ({ frames := 0, cells := 0, slots := 0, locals := 0 } : Room) s m #[(.long n), (.long d)] below meth c s₁ [] 0 0 := Stand.of_body Bd
  have e0 : s₁.heap = h0 := by rw [← hh, Bd.state]; rfl
  have N0 := Fr.nil n0
  have pre0 : ∀ t, Steps p.tables e below (s₁.setTop (mkF m 0 #[.val (.long n), .second, .val (.long d), .second, .unset, .unset, .unset, .unset] [])) t → Steps p.tables e below (s₁.setTop (entryFrame m #[(.long n), (.long d)] 8)) t := fun t k => castTop (ef1 m n d) k
  obtain ⟨fs, hr, hrun, hended, hW, hsame⟩ := X0.leave (v := some (.long (n / d))) (fun h => by rw [Bd.returns] at h; cases h)
  refine ⟨_, _, pre0 _ ?_, hrun, hended, _, _, rfl, ?_, ⟨_, rfl⟩, hW, hsame.mono (by decide) (by decide)⟩
  · show Steps p.tables e below (s₁.setTop (mkF m 0 #[.val (.long n), .second, .val (.long d), .second, .unset, .unset, .unset, .unset] [])) _
    refine XS.lloadN X0.here hx rfl (hb hby d13_0) rfl ?_
    show Steps p.tables e below (s₁.setTop (mkF m 1 #[.val (.long n), .second, .val (.long d), .second, .unset, .unset, .unset, .unset] [(.long n)])) _
    refine XS.lconst X0.here hx rfl (hb hby d13_1) ?_
    show Steps p.tables e below (s₁.setTop (mkF m 2 #[.val (.long n), .second, .val (.long d), .second, .unset, .unset, .unset, .unset] [(.long (0 : Int64)), (.long n)])) _
    refine XS.lcmp X0.here hx rfl (hb hby d13_2) rfl ?_
    show Steps p.tables e below (s₁.setTop (mkF m 3 #[.val (.long n), .second, .val (.long d), .second, .unset, .unset, .unset, .unset] [(.int (lcmpW n (0 : Int64)))])) _
    refine XS.ifNo X0.here hx rfl (hb hby d13_3) rfl ((if0 _ _).trans (flt hs).1) ?_
    show Steps p.tables e below (s₁.setTop (mkF m 6 #[.val (.long n), .second, .val (.long d), .second, .unset, .unset, .unset, .unset] [])) _
    refine XS.lloadN X0.here hx rfl (hb hby d13_6) rfl ?_
    show Steps p.tables e below (s₁.setTop (mkF m 7 #[.val (.long n), .second, .val (.long d), .second, .unset, .unset, .unset, .unset] [(.long n)])) _
    refine XS.lloadN X0.here hx rfl (hb hby d13_7) rfl ?_
    show Steps p.tables e below (s₁.setTop (mkF m 8 #[.val (.long n), .second, .val (.long d), .second, .unset, .unset, .unset, .unset] [(.long d), (.long n)])) _
    refine XS.ldiv X0.here hx rfl (hb hby d13_8) rfl hz ?_
    show Steps p.tables e below (s₁.setTop (mkF m 9 #[.val (.long n), .second, .val (.long d), .second, .unset, .unset, .unset, .unset] [(.long (n / d))])) _
    exact retOut X0 hx Bd.returns rfl (Or.inr (Or.inl ⟨rfl, rfl, _, rfl⟩)) (hb hby d13_9) hr
  · show QT (n / d) h0 n0 _ s₁.heap _
    rw [e0]
    exact ⟨rfl, N0, rfl⟩
set_option maxRecDepth 65536 in
set_option maxHeartbeats 40000000 in
theorem rmU_k (l : Launch) (Z : State) (a0 : Array Value) (hw : ∀ d ∈ tables_1, d.before a0 Z = true) (ws : List Jvm.Cond) (n d : Int64) (h0 : Heap) (n0 : Nat) (Z0 : n0 ≤ h0.size) (hz : d ≠ 0) (hs : lcmpW n (0 : Int64) < 0) (hrr : lcmpW (n - (((((n.toUInt64 >>> ((1 : Int32) &&& 0x3f).toInt64.toUInt64).toInt64) / d) <<< ((1 : Int32) &&& 0x3f).toInt64) * d)) d < 0) :
    MetFree l (⟨"com/example/tick60/tick60/TicksBoundaryOfPinLaw", "udiv", "(JJ)J"⟩ : MethodName) (head1 (Jvm.Cond.code (⟨"com/example/tick60/tick60/TicksBoundaryOfPinLaw", "udiv", "(JJ)J"⟩ : MethodName) method_2_code 8 (some .long) :: ws) ({ frames := 0, cells := 0, slots := 0, locals := 0 } : Room)) (fun a U => a = #[(.long n), (.long d)] ∧ Z.Warmed39 U.vm ∧ U.heap = h0) (fun _ _ _ _ _ => True) (fun _ U o U' => ∃ v L, o = .returned v ∧ QT ((((n.toUInt64 >>> ((1 : Int32) &&& 0x3f).toInt64.toUInt64).toInt64) / d) <<< ((1 : Int32) &&& 0x3f).toInt64) h0 n0 v U'.heap L ∧ FrameEnd U o U' L ({ frames := 0, cells := 0, slots := 0, locals := 0 } : Room).cells ({ frames := 0, cells := 0, slots := 0, locals := 0 } : Room).slots) := by
  refine MetFree.of_bodySF (plainFor_of_name pn3) hisR ?_
  intro p e s m args below meth c s₁ Bd hml0 hP hK
  obtain ⟨rfl, hZ, hh⟩ := hP
  have hx := Bd.exec
  have hby := Bd.bytes
  have hml : c.maxLocals = 8 := hml0
  have hown : s.vm.findClass "com/example/tick60/tick60/TicksBoundaryOfPinLaw" = some m.cls := findClass_of_methodNamed Bd.named
  have hnm := (name_of_methodNamed Bd.named Bd.method).1
  have X0 : Stand p l e ({ frames := 0, cells := 0, slots := 0, locals := 0 } : Room) s m #[(.long n), (.long d)] below meth c s₁ [] 0 0 := Stand.of_body Bd
  have e0 : s₁.heap = h0 := by rw [← hh, Bd.state]; rfl
  have N0 := Fr.nil n0
  have pre0 : ∀ t, Steps p.tables e below (s₁.setTop (mkF m 0 #[.val (.long n), .second, .val (.long d), .second, .unset, .unset, .unset, .unset] [])) t → Steps p.tables e below (s₁.setTop (entryFrame m #[(.long n), (.long d)] 8)) t := fun t k => castTop (ef1 m n d) k
  obtain ⟨fs, hr, hrun, hended, hW, hsame⟩ := X0.leave (v := some (.long ((((n.toUInt64 >>> ((1 : Int32) &&& 0x3f).toInt64.toUInt64).toInt64) / d) <<< ((1 : Int32) &&& 0x3f).toInt64))) (fun h => by rw [Bd.returns] at h; cases h)
  refine ⟨_, _, pre0 _ ?_, hrun, hended, _, _, rfl, ?_, ⟨_, rfl⟩, hW, hsame.mono (by decide) (by decide)⟩
  · show Steps p.tables e below (s₁.setTop (mkF m 0 #[.val (.long n), .second, .val (.long d), .second, .unset, .unset, .unset, .unset] [])) _
    refine XS.lloadN X0.here hx rfl (hb hby d13_0) rfl ?_
    show Steps p.tables e below (s₁.setTop (mkF m 1 #[.val (.long n), .second, .val (.long d), .second, .unset, .unset, .unset, .unset] [(.long n)])) _
    refine XS.lconst X0.here hx rfl (hb hby d13_1) ?_
    show Steps p.tables e below (s₁.setTop (mkF m 2 #[.val (.long n), .second, .val (.long d), .second, .unset, .unset, .unset, .unset] [(.long (0 : Int64)), (.long n)])) _
    refine XS.lcmp X0.here hx rfl (hb hby d13_2) rfl ?_
    show Steps p.tables e below (s₁.setTop (mkF m 3 #[.val (.long n), .second, .val (.long d), .second, .unset, .unset, .unset, .unset] [(.int (lcmpW n (0 : Int64)))])) _
    refine XS.ifYes X0.here hx rfl (pc0 := 3) (pc' := 10) rfl (hb hby d13_3) rfl ((if0 _ _).trans (tlt hs).1) (by decide) (by decide) ?_
    show Steps p.tables e below (s₁.setTop (mkF m 10 #[.val (.long n), .second, .val (.long d), .second, .unset, .unset, .unset, .unset] [])) _
    refine XS.lloadN X0.here hx rfl (hb hby d13_10) rfl ?_
    show Steps p.tables e below (s₁.setTop (mkF m 11 #[.val (.long n), .second, .val (.long d), .second, .unset, .unset, .unset, .unset] [(.long n)])) _
    refine XS.iconst X0.here hx rfl (hb hby d13_11) ?_
    show Steps p.tables e below (s₁.setTop (mkF m 12 #[.val (.long n), .second, .val (.long d), .second, .unset, .unset, .unset, .unset] [(.int (1 : Int32)), (.long n)])) _
    refine XS.lushr X0.here hx rfl (hb hby d13_12) rfl ?_
    show Steps p.tables e below (s₁.setTop (mkF m 13 #[.val (.long n), .second, .val (.long d), .second, .unset, .unset, .unset, .unset] [(.long ((n.toUInt64 >>> ((1 : Int32) &&& 0x3f).toInt64.toUInt64).toInt64))])) _
    refine XS.lloadN X0.here hx rfl (hb hby d13_13) rfl ?_
    show Steps p.tables e below (s₁.setTop (mkF m 14 #[.val (.long n), .second, .val (.long d), .second, .unset, .unset, .unset, .unset] [(.long d), (.long ((n.toUInt64 >>> ((1 : Int32) &&& 0x3f).toInt64.toUInt64).toInt64))])) _
    refine XS.ldiv X0.here hx rfl (hb hby d13_14) rfl hz ?_
    show Steps p.tables e below (s₁.setTop (mkF m 15 #[.val (.long n), .second, .val (.long d), .second, .unset, .unset, .unset, .unset] [(.long (((n.toUInt64 >>> ((1 : Int32) &&& 0x3f).toInt64.toUInt64).toInt64) / d))])) _
    refine XS.iconst X0.here hx rfl (hb hby d13_15) ?_
    show Steps p.tables e below (s₁.setTop (mkF m 16 #[.val (.long n), .second, .val (.long d), .second, .unset, .unset, .unset, .unset] [(.int (1 : Int32)), (.long (((n.toUInt64 >>> ((1 : Int32) &&& 0x3f).toInt64.toUInt64).toInt64) / d))])) _
    refine XS.lshl X0.here hx rfl (hb hby d13_16) rfl ?_
    show Steps p.tables e below (s₁.setTop (mkF m 17 #[.val (.long n), .second, .val (.long d), .second, .unset, .unset, .unset, .unset] [(.long ((((n.toUInt64 >>> ((1 : Int32) &&& 0x3f).toInt64.toUInt64).toInt64) / d) <<< ((1 : Int32) &&& 0x3f).toInt64))])) _
    refine XS.lstore X0.here hx rfl (hb hby d13_17) rfl (l' := #[.val (.long n), .second, .val (.long d), .second, .val (.long ((((n.toUInt64 >>> ((1 : Int32) &&& 0x3f).toInt64.toUInt64).toInt64) / d) <<< ((1 : Int32) &&& 0x3f).toInt64)), .second, .unset, .unset]) rfl ?_
    show Steps p.tables e below (s₁.setTop (mkF m 19 #[.val (.long n), .second, .val (.long d), .second, .val (.long ((((n.toUInt64 >>> ((1 : Int32) &&& 0x3f).toInt64.toUInt64).toInt64) / d) <<< ((1 : Int32) &&& 0x3f).toInt64)), .second, .unset, .unset] [])) _
    refine XS.lloadN X0.here hx rfl (hb hby d13_19) rfl ?_
    show Steps p.tables e below (s₁.setTop (mkF m 20 #[.val (.long n), .second, .val (.long d), .second, .val (.long ((((n.toUInt64 >>> ((1 : Int32) &&& 0x3f).toInt64.toUInt64).toInt64) / d) <<< ((1 : Int32) &&& 0x3f).toInt64)), .second, .unset, .unset] [(.long n)])) _
    refine XS.lload X0.here hx rfl (hb hby d13_20) rfl ?_
    show Steps p.tables e below (s₁.setTop (mkF m 22 #[.val (.long n), .second, .val (.long d), .second, .val (.long ((((n.toUInt64 >>> ((1 : Int32) &&& 0x3f).toInt64.toUInt64).toInt64) / d) <<< ((1 : Int32) &&& 0x3f).toInt64)), .second, .unset, .unset] [(.long ((((n.toUInt64 >>> ((1 : Int32) &&& 0x3f).toInt64.toUInt64).toInt64) / d) <<< ((1 : Int32) &&& 0x3f).toInt64)), (.long n)])) _
    refine XS.lloadN X0.here hx rfl (hb hby d13_22) rfl ?_
    show Steps p.tables e below (s₁.setTop (mkF m 23 #[.val (.long n), .second, .val (.long d), .second, .val (.long ((((n.toUInt64 >>> ((1 : Int32) &&& 0x3f).toInt64.toUInt64).toInt64) / d) <<< ((1 : Int32) &&& 0x3f).toInt64)), .second, .unset, .unset] [(.long d), (.long ((((n.toUInt64 >>> ((1 : Int32) &&& 0x3f).toInt64.toUInt64).toInt64) / d) <<< ((1 : Int32) &&& 0x3f).toInt64)), (.long n)])) _
    refine XS.lmul X0.here hx rfl (hb hby d13_23) rfl ?_
    show Steps p.tables e below (s₁.setTop (mkF m 24 #[.val (.long n), .second, .val (.long d), .second, .val (.long ((((n.toUInt64 >>> ((1 : Int32) &&& 0x3f).toInt64.toUInt64).toInt64) / d) <<< ((1 : Int32) &&& 0x3f).toInt64)), .second, .unset, .unset] [(.long (((((n.toUInt64 >>> ((1 : Int32) &&& 0x3f).toInt64.toUInt64).toInt64) / d) <<< ((1 : Int32) &&& 0x3f).toInt64) * d)), (.long n)])) _
    refine XS.lsub X0.here hx rfl (hb hby d13_24) rfl ?_
    show Steps p.tables e below (s₁.setTop (mkF m 25 #[.val (.long n), .second, .val (.long d), .second, .val (.long ((((n.toUInt64 >>> ((1 : Int32) &&& 0x3f).toInt64.toUInt64).toInt64) / d) <<< ((1 : Int32) &&& 0x3f).toInt64)), .second, .unset, .unset] [(.long (n - (((((n.toUInt64 >>> ((1 : Int32) &&& 0x3f).toInt64.toUInt64).toInt64) / d) <<< ((1 : Int32) &&& 0x3f).toInt64) * d)))])) _
    refine XS.lstore X0.here hx rfl (hb hby d13_25) rfl (l' := #[.val (.long n), .second, .val (.long d), .second, .val (.long ((((n.toUInt64 >>> ((1 : Int32) &&& 0x3f).toInt64.toUInt64).toInt64) / d) <<< ((1 : Int32) &&& 0x3f).toInt64)), .second, .val (.long (n - (((((n.toUInt64 >>> ((1 : Int32) &&& 0x3f).toInt64.toUInt64).toInt64) / d) <<< ((1 : Int32) &&& 0x3f).toInt64) * d))), .second]) rfl ?_
    show Steps p.tables e below (s₁.setTop (mkF m 27 #[.val (.long n), .second, .val (.long d), .second, .val (.long ((((n.toUInt64 >>> ((1 : Int32) &&& 0x3f).toInt64.toUInt64).toInt64) / d) <<< ((1 : Int32) &&& 0x3f).toInt64)), .second, .val (.long (n - (((((n.toUInt64 >>> ((1 : Int32) &&& 0x3f).toInt64.toUInt64).toInt64) / d) <<< ((1 : Int32) &&& 0x3f).toInt64) * d))), .second] [])) _
    refine XS.lload X0.here hx rfl (hb hby d13_27) rfl ?_
    show Steps p.tables e below (s₁.setTop (mkF m 29 #[.val (.long n), .second, .val (.long d), .second, .val (.long ((((n.toUInt64 >>> ((1 : Int32) &&& 0x3f).toInt64.toUInt64).toInt64) / d) <<< ((1 : Int32) &&& 0x3f).toInt64)), .second, .val (.long (n - (((((n.toUInt64 >>> ((1 : Int32) &&& 0x3f).toInt64.toUInt64).toInt64) / d) <<< ((1 : Int32) &&& 0x3f).toInt64) * d))), .second] [(.long (n - (((((n.toUInt64 >>> ((1 : Int32) &&& 0x3f).toInt64.toUInt64).toInt64) / d) <<< ((1 : Int32) &&& 0x3f).toInt64) * d)))])) _
    refine XS.lloadN X0.here hx rfl (hb hby d13_29) rfl ?_
    show Steps p.tables e below (s₁.setTop (mkF m 30 #[.val (.long n), .second, .val (.long d), .second, .val (.long ((((n.toUInt64 >>> ((1 : Int32) &&& 0x3f).toInt64.toUInt64).toInt64) / d) <<< ((1 : Int32) &&& 0x3f).toInt64)), .second, .val (.long (n - (((((n.toUInt64 >>> ((1 : Int32) &&& 0x3f).toInt64.toUInt64).toInt64) / d) <<< ((1 : Int32) &&& 0x3f).toInt64) * d))), .second] [(.long d), (.long (n - (((((n.toUInt64 >>> ((1 : Int32) &&& 0x3f).toInt64.toUInt64).toInt64) / d) <<< ((1 : Int32) &&& 0x3f).toInt64) * d)))])) _
    refine XS.lcmp X0.here hx rfl (hb hby d13_30) rfl ?_
    show Steps p.tables e below (s₁.setTop (mkF m 31 #[.val (.long n), .second, .val (.long d), .second, .val (.long ((((n.toUInt64 >>> ((1 : Int32) &&& 0x3f).toInt64.toUInt64).toInt64) / d) <<< ((1 : Int32) &&& 0x3f).toInt64)), .second, .val (.long (n - (((((n.toUInt64 >>> ((1 : Int32) &&& 0x3f).toInt64.toUInt64).toInt64) / d) <<< ((1 : Int32) &&& 0x3f).toInt64) * d))), .second] [(.int (lcmpW (n - (((((n.toUInt64 >>> ((1 : Int32) &&& 0x3f).toInt64.toUInt64).toInt64) / d) <<< ((1 : Int32) &&& 0x3f).toInt64) * d)) d))])) _
    refine XS.ifYes X0.here hx rfl (pc0 := 31) (pc' := 41) rfl (hb hby d13_31) rfl ((if0 _ _).trans (tlt hrr).1) (by decide) (by decide) ?_
    show Steps p.tables e below (s₁.setTop (mkF m 41 #[.val (.long n), .second, .val (.long d), .second, .val (.long ((((n.toUInt64 >>> ((1 : Int32) &&& 0x3f).toInt64.toUInt64).toInt64) / d) <<< ((1 : Int32) &&& 0x3f).toInt64)), .second, .val (.long (n - (((((n.toUInt64 >>> ((1 : Int32) &&& 0x3f).toInt64.toUInt64).toInt64) / d) <<< ((1 : Int32) &&& 0x3f).toInt64) * d))), .second] [])) _
    refine XS.lload X0.here hx rfl (hb hby d13_41) rfl ?_
    show Steps p.tables e below (s₁.setTop (mkF m 43 #[.val (.long n), .second, .val (.long d), .second, .val (.long ((((n.toUInt64 >>> ((1 : Int32) &&& 0x3f).toInt64.toUInt64).toInt64) / d) <<< ((1 : Int32) &&& 0x3f).toInt64)), .second, .val (.long (n - (((((n.toUInt64 >>> ((1 : Int32) &&& 0x3f).toInt64.toUInt64).toInt64) / d) <<< ((1 : Int32) &&& 0x3f).toInt64) * d))), .second] [(.long ((((n.toUInt64 >>> ((1 : Int32) &&& 0x3f).toInt64.toUInt64).toInt64) / d) <<< ((1 : Int32) &&& 0x3f).toInt64))])) _
    exact retOut X0 hx Bd.returns rfl (Or.inr (Or.inl ⟨rfl, rfl, _, rfl⟩)) (hb hby d13_43) hr
  · show QT ((((n.toUInt64 >>> ((1 : Int32) &&& 0x3f).toInt64.toUInt64).toInt64) / d) <<< ((1 : Int32) &&& 0x3f).toInt64) h0 n0 _ s₁.heap _
    rw [e0]
    exact ⟨rfl, N0, rfl⟩
set_option maxRecDepth 65536 in
set_option maxHeartbeats 40000000 in
theorem rmU_q (l : Launch) (Z : State) (a0 : Array Value) (hw : ∀ d ∈ tables_1, d.before a0 Z = true) (ws : List Jvm.Cond) (n d : Int64) (h0 : Heap) (n0 : Nat) (Z0 : n0 ≤ h0.size) (hz : d ≠ 0) (hs : lcmpW n (0 : Int64) < 0) (hrr : ¬ (lcmpW (n - (((((n.toUInt64 >>> ((1 : Int32) &&& 0x3f).toInt64.toUInt64).toInt64) / d) <<< ((1 : Int32) &&& 0x3f).toInt64) * d)) d < 0)) :
    MetFree l (⟨"com/example/tick60/tick60/TicksBoundaryOfPinLaw", "udiv", "(JJ)J"⟩ : MethodName) (head1 (Jvm.Cond.code (⟨"com/example/tick60/tick60/TicksBoundaryOfPinLaw", "udiv", "(JJ)J"⟩ : MethodName) method_2_code 8 (some .long) :: ws) ({ frames := 0, cells := 0, slots := 0, locals := 0 } : Room)) (fun a U => a = #[(.long n), (.long d)] ∧ Z.Warmed39 U.vm ∧ U.heap = h0) (fun _ _ _ _ _ => True) (fun _ U o U' => ∃ v L, o = .returned v ∧ QT (((((n.toUInt64 >>> ((1 : Int32) &&& 0x3f).toInt64.toUInt64).toInt64) / d) <<< ((1 : Int32) &&& 0x3f).toInt64) + (1 : Int64)) h0 n0 v U'.heap L ∧ FrameEnd U o U' L ({ frames := 0, cells := 0, slots := 0, locals := 0 } : Room).cells ({ frames := 0, cells := 0, slots := 0, locals := 0 } : Room).slots) := by
  refine MetFree.of_bodySF (plainFor_of_name pn3) hisR ?_
  intro p e s m args below meth c s₁ Bd hml0 hP hK
  obtain ⟨rfl, hZ, hh⟩ := hP
  have hx := Bd.exec
  have hby := Bd.bytes
  have hml : c.maxLocals = 8 := hml0
  have hown : s.vm.findClass "com/example/tick60/tick60/TicksBoundaryOfPinLaw" = some m.cls := findClass_of_methodNamed Bd.named
  have hnm := (name_of_methodNamed Bd.named Bd.method).1
  have X0 : Stand p l e ({ frames := 0, cells := 0, slots := 0, locals := 0 } : Room) s m #[(.long n), (.long d)] below meth c s₁ [] 0 0 := Stand.of_body Bd
  have e0 : s₁.heap = h0 := by rw [← hh, Bd.state]; rfl
  have N0 := Fr.nil n0
  have pre0 : ∀ t, Steps p.tables e below (s₁.setTop (mkF m 0 #[.val (.long n), .second, .val (.long d), .second, .unset, .unset, .unset, .unset] [])) t → Steps p.tables e below (s₁.setTop (entryFrame m #[(.long n), (.long d)] 8)) t := fun t k => castTop (ef1 m n d) k
  obtain ⟨fs, hr, hrun, hended, hW, hsame⟩ := X0.leave (v := some (.long (((((n.toUInt64 >>> ((1 : Int32) &&& 0x3f).toInt64.toUInt64).toInt64) / d) <<< ((1 : Int32) &&& 0x3f).toInt64) + (1 : Int64)))) (fun h => by rw [Bd.returns] at h; cases h)
  refine ⟨_, _, pre0 _ ?_, hrun, hended, _, _, rfl, ?_, ⟨_, rfl⟩, hW, hsame.mono (by decide) (by decide)⟩
  · show Steps p.tables e below (s₁.setTop (mkF m 0 #[.val (.long n), .second, .val (.long d), .second, .unset, .unset, .unset, .unset] [])) _
    refine XS.lloadN X0.here hx rfl (hb hby d13_0) rfl ?_
    show Steps p.tables e below (s₁.setTop (mkF m 1 #[.val (.long n), .second, .val (.long d), .second, .unset, .unset, .unset, .unset] [(.long n)])) _
    refine XS.lconst X0.here hx rfl (hb hby d13_1) ?_
    show Steps p.tables e below (s₁.setTop (mkF m 2 #[.val (.long n), .second, .val (.long d), .second, .unset, .unset, .unset, .unset] [(.long (0 : Int64)), (.long n)])) _
    refine XS.lcmp X0.here hx rfl (hb hby d13_2) rfl ?_
    show Steps p.tables e below (s₁.setTop (mkF m 3 #[.val (.long n), .second, .val (.long d), .second, .unset, .unset, .unset, .unset] [(.int (lcmpW n (0 : Int64)))])) _
    refine XS.ifYes X0.here hx rfl (pc0 := 3) (pc' := 10) rfl (hb hby d13_3) rfl ((if0 _ _).trans (tlt hs).1) (by decide) (by decide) ?_
    show Steps p.tables e below (s₁.setTop (mkF m 10 #[.val (.long n), .second, .val (.long d), .second, .unset, .unset, .unset, .unset] [])) _
    refine XS.lloadN X0.here hx rfl (hb hby d13_10) rfl ?_
    show Steps p.tables e below (s₁.setTop (mkF m 11 #[.val (.long n), .second, .val (.long d), .second, .unset, .unset, .unset, .unset] [(.long n)])) _
    refine XS.iconst X0.here hx rfl (hb hby d13_11) ?_
    show Steps p.tables e below (s₁.setTop (mkF m 12 #[.val (.long n), .second, .val (.long d), .second, .unset, .unset, .unset, .unset] [(.int (1 : Int32)), (.long n)])) _
    refine XS.lushr X0.here hx rfl (hb hby d13_12) rfl ?_
    show Steps p.tables e below (s₁.setTop (mkF m 13 #[.val (.long n), .second, .val (.long d), .second, .unset, .unset, .unset, .unset] [(.long ((n.toUInt64 >>> ((1 : Int32) &&& 0x3f).toInt64.toUInt64).toInt64))])) _
    refine XS.lloadN X0.here hx rfl (hb hby d13_13) rfl ?_
    show Steps p.tables e below (s₁.setTop (mkF m 14 #[.val (.long n), .second, .val (.long d), .second, .unset, .unset, .unset, .unset] [(.long d), (.long ((n.toUInt64 >>> ((1 : Int32) &&& 0x3f).toInt64.toUInt64).toInt64))])) _
    refine XS.ldiv X0.here hx rfl (hb hby d13_14) rfl hz ?_
    show Steps p.tables e below (s₁.setTop (mkF m 15 #[.val (.long n), .second, .val (.long d), .second, .unset, .unset, .unset, .unset] [(.long (((n.toUInt64 >>> ((1 : Int32) &&& 0x3f).toInt64.toUInt64).toInt64) / d))])) _
    refine XS.iconst X0.here hx rfl (hb hby d13_15) ?_
    show Steps p.tables e below (s₁.setTop (mkF m 16 #[.val (.long n), .second, .val (.long d), .second, .unset, .unset, .unset, .unset] [(.int (1 : Int32)), (.long (((n.toUInt64 >>> ((1 : Int32) &&& 0x3f).toInt64.toUInt64).toInt64) / d))])) _
    refine XS.lshl X0.here hx rfl (hb hby d13_16) rfl ?_
    show Steps p.tables e below (s₁.setTop (mkF m 17 #[.val (.long n), .second, .val (.long d), .second, .unset, .unset, .unset, .unset] [(.long ((((n.toUInt64 >>> ((1 : Int32) &&& 0x3f).toInt64.toUInt64).toInt64) / d) <<< ((1 : Int32) &&& 0x3f).toInt64))])) _
    refine XS.lstore X0.here hx rfl (hb hby d13_17) rfl (l' := #[.val (.long n), .second, .val (.long d), .second, .val (.long ((((n.toUInt64 >>> ((1 : Int32) &&& 0x3f).toInt64.toUInt64).toInt64) / d) <<< ((1 : Int32) &&& 0x3f).toInt64)), .second, .unset, .unset]) rfl ?_
    show Steps p.tables e below (s₁.setTop (mkF m 19 #[.val (.long n), .second, .val (.long d), .second, .val (.long ((((n.toUInt64 >>> ((1 : Int32) &&& 0x3f).toInt64.toUInt64).toInt64) / d) <<< ((1 : Int32) &&& 0x3f).toInt64)), .second, .unset, .unset] [])) _
    refine XS.lloadN X0.here hx rfl (hb hby d13_19) rfl ?_
    show Steps p.tables e below (s₁.setTop (mkF m 20 #[.val (.long n), .second, .val (.long d), .second, .val (.long ((((n.toUInt64 >>> ((1 : Int32) &&& 0x3f).toInt64.toUInt64).toInt64) / d) <<< ((1 : Int32) &&& 0x3f).toInt64)), .second, .unset, .unset] [(.long n)])) _
    refine XS.lload X0.here hx rfl (hb hby d13_20) rfl ?_
    show Steps p.tables e below (s₁.setTop (mkF m 22 #[.val (.long n), .second, .val (.long d), .second, .val (.long ((((n.toUInt64 >>> ((1 : Int32) &&& 0x3f).toInt64.toUInt64).toInt64) / d) <<< ((1 : Int32) &&& 0x3f).toInt64)), .second, .unset, .unset] [(.long ((((n.toUInt64 >>> ((1 : Int32) &&& 0x3f).toInt64.toUInt64).toInt64) / d) <<< ((1 : Int32) &&& 0x3f).toInt64)), (.long n)])) _
    refine XS.lloadN X0.here hx rfl (hb hby d13_22) rfl ?_
    show Steps p.tables e below (s₁.setTop (mkF m 23 #[.val (.long n), .second, .val (.long d), .second, .val (.long ((((n.toUInt64 >>> ((1 : Int32) &&& 0x3f).toInt64.toUInt64).toInt64) / d) <<< ((1 : Int32) &&& 0x3f).toInt64)), .second, .unset, .unset] [(.long d), (.long ((((n.toUInt64 >>> ((1 : Int32) &&& 0x3f).toInt64.toUInt64).toInt64) / d) <<< ((1 : Int32) &&& 0x3f).toInt64)), (.long n)])) _
    refine XS.lmul X0.here hx rfl (hb hby d13_23) rfl ?_
    show Steps p.tables e below (s₁.setTop (mkF m 24 #[.val (.long n), .second, .val (.long d), .second, .val (.long ((((n.toUInt64 >>> ((1 : Int32) &&& 0x3f).toInt64.toUInt64).toInt64) / d) <<< ((1 : Int32) &&& 0x3f).toInt64)), .second, .unset, .unset] [(.long (((((n.toUInt64 >>> ((1 : Int32) &&& 0x3f).toInt64.toUInt64).toInt64) / d) <<< ((1 : Int32) &&& 0x3f).toInt64) * d)), (.long n)])) _
    refine XS.lsub X0.here hx rfl (hb hby d13_24) rfl ?_
    show Steps p.tables e below (s₁.setTop (mkF m 25 #[.val (.long n), .second, .val (.long d), .second, .val (.long ((((n.toUInt64 >>> ((1 : Int32) &&& 0x3f).toInt64.toUInt64).toInt64) / d) <<< ((1 : Int32) &&& 0x3f).toInt64)), .second, .unset, .unset] [(.long (n - (((((n.toUInt64 >>> ((1 : Int32) &&& 0x3f).toInt64.toUInt64).toInt64) / d) <<< ((1 : Int32) &&& 0x3f).toInt64) * d)))])) _
    refine XS.lstore X0.here hx rfl (hb hby d13_25) rfl (l' := #[.val (.long n), .second, .val (.long d), .second, .val (.long ((((n.toUInt64 >>> ((1 : Int32) &&& 0x3f).toInt64.toUInt64).toInt64) / d) <<< ((1 : Int32) &&& 0x3f).toInt64)), .second, .val (.long (n - (((((n.toUInt64 >>> ((1 : Int32) &&& 0x3f).toInt64.toUInt64).toInt64) / d) <<< ((1 : Int32) &&& 0x3f).toInt64) * d))), .second]) rfl ?_
    show Steps p.tables e below (s₁.setTop (mkF m 27 #[.val (.long n), .second, .val (.long d), .second, .val (.long ((((n.toUInt64 >>> ((1 : Int32) &&& 0x3f).toInt64.toUInt64).toInt64) / d) <<< ((1 : Int32) &&& 0x3f).toInt64)), .second, .val (.long (n - (((((n.toUInt64 >>> ((1 : Int32) &&& 0x3f).toInt64.toUInt64).toInt64) / d) <<< ((1 : Int32) &&& 0x3f).toInt64) * d))), .second] [])) _
    refine XS.lload X0.here hx rfl (hb hby d13_27) rfl ?_
    show Steps p.tables e below (s₁.setTop (mkF m 29 #[.val (.long n), .second, .val (.long d), .second, .val (.long ((((n.toUInt64 >>> ((1 : Int32) &&& 0x3f).toInt64.toUInt64).toInt64) / d) <<< ((1 : Int32) &&& 0x3f).toInt64)), .second, .val (.long (n - (((((n.toUInt64 >>> ((1 : Int32) &&& 0x3f).toInt64.toUInt64).toInt64) / d) <<< ((1 : Int32) &&& 0x3f).toInt64) * d))), .second] [(.long (n - (((((n.toUInt64 >>> ((1 : Int32) &&& 0x3f).toInt64.toUInt64).toInt64) / d) <<< ((1 : Int32) &&& 0x3f).toInt64) * d)))])) _
    refine XS.lloadN X0.here hx rfl (hb hby d13_29) rfl ?_
    show Steps p.tables e below (s₁.setTop (mkF m 30 #[.val (.long n), .second, .val (.long d), .second, .val (.long ((((n.toUInt64 >>> ((1 : Int32) &&& 0x3f).toInt64.toUInt64).toInt64) / d) <<< ((1 : Int32) &&& 0x3f).toInt64)), .second, .val (.long (n - (((((n.toUInt64 >>> ((1 : Int32) &&& 0x3f).toInt64.toUInt64).toInt64) / d) <<< ((1 : Int32) &&& 0x3f).toInt64) * d))), .second] [(.long d), (.long (n - (((((n.toUInt64 >>> ((1 : Int32) &&& 0x3f).toInt64.toUInt64).toInt64) / d) <<< ((1 : Int32) &&& 0x3f).toInt64) * d)))])) _
    refine XS.lcmp X0.here hx rfl (hb hby d13_30) rfl ?_
    show Steps p.tables e below (s₁.setTop (mkF m 31 #[.val (.long n), .second, .val (.long d), .second, .val (.long ((((n.toUInt64 >>> ((1 : Int32) &&& 0x3f).toInt64.toUInt64).toInt64) / d) <<< ((1 : Int32) &&& 0x3f).toInt64)), .second, .val (.long (n - (((((n.toUInt64 >>> ((1 : Int32) &&& 0x3f).toInt64.toUInt64).toInt64) / d) <<< ((1 : Int32) &&& 0x3f).toInt64) * d))), .second] [(.int (lcmpW (n - (((((n.toUInt64 >>> ((1 : Int32) &&& 0x3f).toInt64.toUInt64).toInt64) / d) <<< ((1 : Int32) &&& 0x3f).toInt64) * d)) d))])) _
    refine XS.ifNo X0.here hx rfl (hb hby d13_31) rfl ((if0 _ _).trans (flt hrr).1) ?_
    show Steps p.tables e below (s₁.setTop (mkF m 34 #[.val (.long n), .second, .val (.long d), .second, .val (.long ((((n.toUInt64 >>> ((1 : Int32) &&& 0x3f).toInt64.toUInt64).toInt64) / d) <<< ((1 : Int32) &&& 0x3f).toInt64)), .second, .val (.long (n - (((((n.toUInt64 >>> ((1 : Int32) &&& 0x3f).toInt64.toUInt64).toInt64) / d) <<< ((1 : Int32) &&& 0x3f).toInt64) * d))), .second] [])) _
    refine XS.lload X0.here hx rfl (hb hby d13_34) rfl ?_
    show Steps p.tables e below (s₁.setTop (mkF m 36 #[.val (.long n), .second, .val (.long d), .second, .val (.long ((((n.toUInt64 >>> ((1 : Int32) &&& 0x3f).toInt64.toUInt64).toInt64) / d) <<< ((1 : Int32) &&& 0x3f).toInt64)), .second, .val (.long (n - (((((n.toUInt64 >>> ((1 : Int32) &&& 0x3f).toInt64.toUInt64).toInt64) / d) <<< ((1 : Int32) &&& 0x3f).toInt64) * d))), .second] [(.long ((((n.toUInt64 >>> ((1 : Int32) &&& 0x3f).toInt64.toUInt64).toInt64) / d) <<< ((1 : Int32) &&& 0x3f).toInt64))])) _
    refine XS.lconst X0.here hx rfl (hb hby d13_36) ?_
    show Steps p.tables e below (s₁.setTop (mkF m 37 #[.val (.long n), .second, .val (.long d), .second, .val (.long ((((n.toUInt64 >>> ((1 : Int32) &&& 0x3f).toInt64.toUInt64).toInt64) / d) <<< ((1 : Int32) &&& 0x3f).toInt64)), .second, .val (.long (n - (((((n.toUInt64 >>> ((1 : Int32) &&& 0x3f).toInt64.toUInt64).toInt64) / d) <<< ((1 : Int32) &&& 0x3f).toInt64) * d))), .second] [(.long (1 : Int64)), (.long ((((n.toUInt64 >>> ((1 : Int32) &&& 0x3f).toInt64.toUInt64).toInt64) / d) <<< ((1 : Int32) &&& 0x3f).toInt64))])) _
    refine XS.ladd X0.here hx rfl (hb hby d13_37) rfl ?_
    show Steps p.tables e below (s₁.setTop (mkF m 38 #[.val (.long n), .second, .val (.long d), .second, .val (.long ((((n.toUInt64 >>> ((1 : Int32) &&& 0x3f).toInt64.toUInt64).toInt64) / d) <<< ((1 : Int32) &&& 0x3f).toInt64)), .second, .val (.long (n - (((((n.toUInt64 >>> ((1 : Int32) &&& 0x3f).toInt64.toUInt64).toInt64) / d) <<< ((1 : Int32) &&& 0x3f).toInt64) * d))), .second] [(.long (((((n.toUInt64 >>> ((1 : Int32) &&& 0x3f).toInt64.toUInt64).toInt64) / d) <<< ((1 : Int32) &&& 0x3f).toInt64) + (1 : Int64)))])) _
    refine XS.goto X0.here hx rfl (pc0 := 38) (pc' := 43) rfl (hb hby d13_38) (by decide) (by decide) ?_
    show Steps p.tables e below (s₁.setTop (mkF m 43 #[.val (.long n), .second, .val (.long d), .second, .val (.long ((((n.toUInt64 >>> ((1 : Int32) &&& 0x3f).toInt64.toUInt64).toInt64) / d) <<< ((1 : Int32) &&& 0x3f).toInt64)), .second, .val (.long (n - (((((n.toUInt64 >>> ((1 : Int32) &&& 0x3f).toInt64.toUInt64).toInt64) / d) <<< ((1 : Int32) &&& 0x3f).toInt64) * d))), .second] [(.long (((((n.toUInt64 >>> ((1 : Int32) &&& 0x3f).toInt64.toUInt64).toInt64) / d) <<< ((1 : Int32) &&& 0x3f).toInt64) + (1 : Int64)))])) _
    exact retOut X0 hx Bd.returns rfl (Or.inr (Or.inl ⟨rfl, rfl, _, rfl⟩)) (hb hby d13_43) hr
  · show QT (((((n.toUInt64 >>> ((1 : Int32) &&& 0x3f).toInt64.toUInt64).toInt64) / d) <<< ((1 : Int32) &&& 0x3f).toInt64) + (1 : Int64)) h0 n0 _ s₁.heap _
    rw [e0]
    exact ⟨rfl, N0, rfl⟩
def own_q2 (n d : Int64) : Int64 := ((((n.toUInt64 >>> ((1 : Int32) &&& 0x3f).toInt64.toUInt64).toInt64) / d) <<< ((1 : Int32) &&& 0x3f).toInt64)
def own_udiv (n d : Int64) : Int64 := if n < 0 then (if n - own_q2 n d * d < d then own_q2 n d else own_q2 n d + 1) else n / d
theorem rmU (l : Launch) (Z : State) (a0 : Array Value) (hw : ∀ d ∈ tables_1, d.before a0 Z = true) (ws : List Jvm.Cond) (n d : Int64) (h0 : Heap) (n0 : Nat) (Z0 : n0 ≤ h0.size) (hz : d ≠ 0) :
    MetFree l (⟨"com/example/tick60/tick60/TicksBoundaryOfPinLaw", "udiv", "(JJ)J"⟩ : MethodName) (head1 (Jvm.Cond.code (⟨"com/example/tick60/tick60/TicksBoundaryOfPinLaw", "udiv", "(JJ)J"⟩ : MethodName) method_2_code 8 (some .long) :: ws) ({ frames := 0, cells := 0, slots := 0, locals := 0 } : Room)) (fun a U => a = #[(.long n), (.long d)] ∧ Z.Warmed39 U.vm ∧ U.heap = h0) (fun _ _ _ _ _ => True) (fun _ U o U' => ∃ v L, o = .returned v ∧ QT (own_udiv n d) h0 n0 v U'.heap L ∧ FrameEnd U o U' L ({ frames := 0, cells := 0, slots := 0, locals := 0 } : Room).cells ({ frames := 0, cells := 0, slots := 0, locals := 0 } : Room).slots) := by
  by_cases hs : n < 0
  · by_cases hr : n - own_q2 n d * d < d
    · rw [show own_udiv n d = own_q2 n d from (if_pos hs).trans (if_pos hr)]
      exact rmU_k l Z a0 hw ws n d h0 n0 Z0 hz (own_lc.mpr hs) (own_lc.mpr hr)
    · rw [show own_udiv n d = own_q2 n d + 1 from (if_pos hs).trans (if_neg hr)]
      exact rmU_q l Z a0 hw ws n d h0 n0 Z0 hz (own_lc.mpr hs) (fun q => hr (own_lc.mp q))
  · rw [show own_udiv n d = n / d from if_neg hs]
    exact rmU_p l Z a0 hw ws n d h0 n0 Z0 hz (fun q => hs (own_lc.mp q))
def Q0 (n0 : Nat) (v : Option Value) (L : List Loc) : Prop := v = some (.int 1) ∧ Fr n0 L
def own_tk (q3 : Int64) : Int64 := ((65536 : Int64) + (q3 &&& (2305843009213693951 : Int64)))
def own_dl (q1 q2 tk : Int64) (p4 : Int32) : Int64 := if p4 &&& (1 : Int32) = 0 then q2 else ((q1 + ((q2 &&& (281474976710655 : Int64)) * tk)) + ((Int32.toInt64 (((p4.toUInt32 >>> ((1 : Int32) &&& 31).toUInt32).toInt32) % (3 : Int32))) - (1 : Int64)))
set_option maxRecDepth 65536 in
set_option maxHeartbeats 40000000 in
theorem rm0_00 (l : Launch) (Z : State) (a0 : Array Value) (hw : ∀ d ∈ tables_1, d.before a0 Z = true) (ws : List Jvm.Cond) (q1 q2 q3 : Int64) (p4 : Int32) (r : UInt64) (h0 : Heap) (n0 : Nat) (Z0 : n0 ≤ h0.size) (hm : p4 &&& (1 : Int32) = (0 : Int32)) (hd : ¬ (lcmpW ((65536 : Int64) + (q3 &&& (2305843009213693951 : Int64))) (0 : Int64) < 0)) (hz : ((65536 : Int64) + (q3 &&& (2305843009213693951 : Int64))) ≠ 0) (hn : NoNaN64 (FP.ddiv FP.dconst1 (FP.l2d ((65536 : Int64) + (q3 &&& (2305843009213693951 : Int64)))))) (hv : FP.ddiv FP.dconst1 (FP.l2d ((65536 : Int64) + (q3 &&& (2305843009213693951 : Int64)))) = r) (hc : ¬ (0 < lcmpW q2 q1)) :
    MetFree l x (head1 (Jvm.Cond.code x code maxLocals ret :: ws) room_1) (fun a U => a = #[(.long q1), (.long q2), (.long q3), (.int p4)] ∧ Z.Warmed39 U.vm ∧ U.heap = h0) (fun _ _ _ _ _ => True) (fun _ U o U' => ∃ v L, o = .returned v ∧ Q0 n0 v L ∧ FrameEnd U o U' L 1 4) := by
  refine MetFree.of_bodySF (plainFor_of_name pn3) hisR ?_
  intro p e s m args below meth c s₁ Bd hml0 hP hK
  obtain ⟨rfl, hZ, hh⟩ := hP
  have hx := Bd.exec
  have hby := Bd.bytes
  have hml : c.maxLocals = 16 := hml0
  have hown : s.vm.findClass "com/example/tick60/tick60/TicksBoundaryOfPinLaw" = some m.cls := findClass_of_methodNamed Bd.named
  have hnm := (name_of_methodNamed Bd.named Bd.method).1
  have X0 : Stand p l e room_1 s m #[(.long q1), (.long q2), (.long q3), (.int p4)] below meth c s₁ [] 0 0 := Stand.of_body Bd
  have e0 : s₁.heap = h0 := by rw [← hh, Bd.state]; rfl
  have N0 := Fr.nil n0
  have pre0 : ∀ t, Steps p.tables e below (s₁.setTop (mkF m 0 #[.val (.long q1), .second, .val (.long q2), .second, .val (.long q3), .second, .val (.int p4), .unset, .unset, .unset, .unset, .unset, .unset, .unset, .unset, .unset] [])) t → Steps p.tables e below (s₁.setTop (entryFrame m #[(.long q1), (.long q2), (.long q3), (.int p4)] maxLocals)) t := fun t k => castTop (ef5 m q1 q2 q3 p4) k
  obtain ⟨T1, h1, X1, e1, E1, A1, D1, -, st1⟩ := newO X0 hx hZ hown (hw _ (List.mem_of_getElem? (i := 2) rfl)) (hw _ (List.mem_of_getElem? (i := 3) rfl)) (hw _ (List.mem_of_getElem? (i := 4) rfl)) e0 (g := (mkF m 55 #[.val (.long q1), .second, .val (.long q2), .second, .val (.long q3), .second, .val (.int p4), .val (.long ((65536 : Int64) + (q3 &&& (2305843009213693951 : Int64)))), .second, .val (.long q2), .second, .unset, .unset, .unset, .unset, .unset] [])) rfl (hb hby at_55) (by decide) (by decide)
  obtain ⟨b1, g1⟩ : ∃ z, z = h0.size := ⟨_, rfl⟩
  rw [← g1] at A1 D1 st1
  have g_b1 : n0 ≤ b1 := Nat.le_trans Z0 (Nat.le_of_eq g1.symm)
  have sz_b1 : h0.size ≤ b1 := Nat.le_trans (Keep.refl h0 []).1 (Nat.le_of_eq g1.symm)
  have K2 : Keep h0 h1 [] := Keep.ext (Keep.refl h0 []) E1
  have Zc2 : n0 ≤ h1.size := Nat.le_trans Z0 E1.1
  have F1_start : Fld Z h1 b1 "com/example/tick60/tick60/Ticks" "start" "J" (.long (0 : Int64)) := D1 (Or.inr (hw _ (List.mem_of_getElem? (i := 12) rfl))) (ty := .long) (by decide)
  have F1_tickNanos : Fld Z h1 b1 "com/example/tick60/tick60/Ticks" "tickNanos" "J" (.long (0 : Int64)) := D1 (Or.inr (hw _ (List.mem_of_getElem? (i := 14) rfl))) (ty := .long) (by decide)
  have F1_ticksPerNano : Fld Z h1 b1 "com/example/tick60/tick60/Ticks" "ticksPerNano" "D" (.double 0) := D1 (Or.inr (hw _ (List.mem_of_getElem? (i := 16) rfl))) (ty := .double) (by decide)
  have F1_lastTick : Fld Z h1 b1 "com/example/tick60/tick60/Ticks" "lastTick" "J" (.long (0 : Int64)) := D1 (Or.inr (hw _ (List.mem_of_getElem? (i := 24) rfl))) (ty := .long) (by decide)
  obtain ⟨_, _, ⟨T3, L3, k3, n3⟩, -, X3, ⟨Lc3, hQ3, l3, y3, z3⟩, st3⟩ := X1.specialBack hx (y := (⟨"com/example/tick60/tick60/Ticks", "<init>", "(JJ)V"⟩ : MethodName)) rfl hown (mvT hZ (hw _ (List.mem_of_getElem? (i := 5) rfl))) (mvT hZ (hw _ (List.mem_of_getElem? (i := 6) rfl))) (mvT hZ (hw _ (List.mem_of_getElem? (i := 7) rfl))) (by decide) (backOf (W := 1) (rmI l Z a0 hw [] b1 q1 ((65536 : Int64) + (q3 &&& (2305843009213693951 : Int64))) r h1 n0 Zc2 F1_start F1_tickNanos F1_ticksPerNano F1_lastTick A1 g_b1 hd hz hn hv) hZ (hw _ (List.mem_of_getElem? (i := 7) rfl)) (hw _ (List.mem_of_getElem? (i := 4) rfl)) (by decide) (by decide)) (g := (mkF m 62 #[.val (.long q1), .second, .val (.long q2), .second, .val (.long q3), .second, .val (.int p4), .val (.long ((65536 : Int64) + (q3 &&& (2305843009213693951 : Int64)))), .second, .val (.long q2), .second, .unset, .unset, .unset, .unset, .unset] [(.long ((65536 : Int64) + (q3 &&& (2305843009213693951 : Int64)))), (.long q1), (.ref b1), (.ref b1)])) rfl (by rw [hml]; rfl) (Steps.refl _) (a := b1) (argsL := [(.long q1), (.long ((65536 : Int64) + (q3 &&& (2305843009213693951 : Int64))))]) (rest := [(.ref b1)]) (lenOf pd3 rfl) rfl (by show 2 * 0 + _ ≤ _; exact Nat.le_of_eq rfl) (hb hby at_62) (fun _ _ => ⟨rfl, e1, (by decide : 1 + 0 ≤ _), (by decide : 4 + 0 ≤ _)⟩)
  dsimp only [Pt.U, Pt.locs, Pt.cells, Pt.slots] at X3 l3 y3 z3 st3 hQ3
  subst l3 y3 z3
  obtain ⟨rfl, Nc3, Kc3, fc3_0, fc3_1, fc3_2⟩ := hQ3
  have N3 := Fr.app N0 Nc3
  have K3 : Keep h0 T3.heap [] := Keep.trans K2 Kc3 (allS (Or.inr sz_b1) all0)
  have Zc3 : n0 ≤ T3.heap.size := Nat.le_trans Zc2 Kc3.1
  have f5 : Exa Z T3.heap b1 "com/example/tick60/tick60/Ticks" := (Exa.keep A1 Kc3)
  obtain ⟨cq4, kq4, qa4, qb4, qc4⟩ := isOf hZ rfl f5
  obtain ⟨_, _, ⟨T4, L4, k4, n4⟩, -, X4, ⟨Lc4, hQ4, l4, y4, z4⟩, st4⟩ := X3.virtualBack hx (y := (⟨"com/example/tick60/tick60/Ticks", "boundaryOf", "(J)J"⟩ : MethodName)) (z := (⟨"com/example/tick60/tick60/Ticks", "boundaryOf", "(J)J"⟩ : MethodName)) hown (mvT hZ (hw _ (List.mem_of_getElem? (i := 25) rfl))) (mvT hZ (hw _ (List.mem_of_getElem? (i := 26) rfl))) (notFace_of_selects (args := #[]) (mvT hZ (hw _ (List.mem_of_getElem? (i := 28) rfl)))) (mvT hZ (hw _ (List.mem_of_getElem? (i := 28) rfl))) (mvT hZ (hw _ (List.mem_of_getElem? (i := 27) rfl))) (by decide) (backOf (W := 0) (rmB_0 l Z a0 hw [] b1 q1 ((65536 : Int64) + (q3 &&& (2305843009213693951 : Int64))) q2 r T3.heap n0 Zc3 fc3_0 fc3_1 fc3_2 f5 hc) hZ (hw _ (List.mem_of_getElem? (i := 29) rfl)) (hw _ (List.mem_of_getElem? (i := 4) rfl)) (by decide) (by decide)) qa4 qc4 (g := (mkF m 71 #[.val (.long q1), .second, .val (.long q2), .second, .val (.long q3), .second, .val (.int p4), .val (.long ((65536 : Int64) + (q3 &&& (2305843009213693951 : Int64)))), .second, .val (.long q2), .second, .val (.ref b1), .unset, .unset, .unset, .unset] [(.long q2), (.ref b1)])) rfl (by rw [hml]; rfl) (Steps.refl _) (argsL := [(.long q2)]) (rest := []) (lenOf pd2 rfl) rfl (by show 2 * 0 + _ ≤ _; exact Nat.le_of_eq rfl) (hb hby at_71) (fun _ _ => ⟨rfl, rfl, (by decide : 1 + 0 ≤ _), (by decide : 4 + 0 ≤ _)⟩)
  dsimp only [Pt.U, Pt.locs, Pt.cells, Pt.slots] at X4 l4 y4 z4 st4 hQ4
  subst l4 y4 z4
  obtain ⟨rfl, Nc4, ec4⟩ := hQ4
  have N4 := Fr.app N3 Nc4
  obtain ⟨fs, hr, hrun, hended, hW, hsame⟩ := X4.leave (v := some (.int (1 : Int32))) (fun h => by rw [Bd.returns] at h; cases h)
  refine ⟨_, _, pre0 _ ?_, hrun, hended, _, _, rfl, ?_, ⟨_, rfl⟩, hW, hsame.mono (by decide) (by decide)⟩
  · show Steps p.tables e below (s₁.setTop (mkF m 0 #[.val (.long q1), .second, .val (.long q2), .second, .val (.long q3), .second, .val (.int p4), .unset, .unset, .unset, .unset, .unset, .unset, .unset, .unset, .unset] [])) _
    refine X0.ldc2Long hx hown (mvT hZ (hw _ (List.mem_of_getElem? (i := 0) rfl))) (g := (mkF m 0 #[.val (.long q1), .second, .val (.long q2), .second, .val (.long q3), .second, .val (.int p4), .unset, .unset, .unset, .unset, .unset, .unset, .unset, .unset, .unset] [])) rfl (hb hby at_0) _ ?_
    show Steps p.tables e below (s₁.setTop (mkF m 3 #[.val (.long q1), .second, .val (.long q2), .second, .val (.long q3), .second, .val (.int p4), .unset, .unset, .unset, .unset, .unset, .unset, .unset, .unset, .unset] [(.long (65536 : Int64))])) _
    refine XS.lload X0.here hx rfl (hb hby at_3) rfl ?_
    show Steps p.tables e below (s₁.setTop (mkF m 5 #[.val (.long q1), .second, .val (.long q2), .second, .val (.long q3), .second, .val (.int p4), .unset, .unset, .unset, .unset, .unset, .unset, .unset, .unset, .unset] [(.long q3), (.long (65536 : Int64))])) _
    refine X0.ldc2Long hx hown (mvT hZ (hw _ (List.mem_of_getElem? (i := 1) rfl))) (g := (mkF m 5 #[.val (.long q1), .second, .val (.long q2), .second, .val (.long q3), .second, .val (.int p4), .unset, .unset, .unset, .unset, .unset, .unset, .unset, .unset, .unset] [(.long q3), (.long (65536 : Int64))])) rfl (hb hby at_5) _ ?_
    show Steps p.tables e below (s₁.setTop (mkF m 8 #[.val (.long q1), .second, .val (.long q2), .second, .val (.long q3), .second, .val (.int p4), .unset, .unset, .unset, .unset, .unset, .unset, .unset, .unset, .unset] [(.long (2305843009213693951 : Int64)), (.long q3), (.long (65536 : Int64))])) _
    refine XS.land X0.here hx rfl (hb hby at_8) rfl ?_
    show Steps p.tables e below (s₁.setTop (mkF m 9 #[.val (.long q1), .second, .val (.long q2), .second, .val (.long q3), .second, .val (.int p4), .unset, .unset, .unset, .unset, .unset, .unset, .unset, .unset, .unset] [(.long (q3 &&& (2305843009213693951 : Int64))), (.long (65536 : Int64))])) _
    refine XS.ladd X0.here hx rfl (hb hby at_9) rfl ?_
    show Steps p.tables e below (s₁.setTop (mkF m 10 #[.val (.long q1), .second, .val (.long q2), .second, .val (.long q3), .second, .val (.int p4), .unset, .unset, .unset, .unset, .unset, .unset, .unset, .unset, .unset] [(.long ((65536 : Int64) + (q3 &&& (2305843009213693951 : Int64))))])) _
    refine XS.lstore X0.here hx rfl (hb hby at_10) rfl (l' := #[.val (.long q1), .second, .val (.long q2), .second, .val (.long q3), .second, .val (.int p4), .val (.long ((65536 : Int64) + (q3 &&& (2305843009213693951 : Int64)))), .second, .unset, .unset, .unset, .unset, .unset, .unset, .unset]) rfl ?_
    show Steps p.tables e below (s₁.setTop (mkF m 12 #[.val (.long q1), .second, .val (.long q2), .second, .val (.long q3), .second, .val (.int p4), .val (.long ((65536 : Int64) + (q3 &&& (2305843009213693951 : Int64)))), .second, .unset, .unset, .unset, .unset, .unset, .unset, .unset] [])) _
    refine XS.iload X0.here hx rfl (hb hby at_12) rfl ?_
    show Steps p.tables e below (s₁.setTop (mkF m 14 #[.val (.long q1), .second, .val (.long q2), .second, .val (.long q3), .second, .val (.int p4), .val (.long ((65536 : Int64) + (q3 &&& (2305843009213693951 : Int64)))), .second, .unset, .unset, .unset, .unset, .unset, .unset, .unset] [(.int p4)])) _
    refine XS.iconst X0.here hx rfl (hb hby at_14) ?_
    show Steps p.tables e below (s₁.setTop (mkF m 15 #[.val (.long q1), .second, .val (.long q2), .second, .val (.long q3), .second, .val (.int p4), .val (.long ((65536 : Int64) + (q3 &&& (2305843009213693951 : Int64)))), .second, .unset, .unset, .unset, .unset, .unset, .unset, .unset] [(.int (1 : Int32)), (.int p4)])) _
    refine XS.iand X0.here hx rfl (hb hby at_15) rfl ?_
    show Steps p.tables e below (s₁.setTop (mkF m 16 #[.val (.long q1), .second, .val (.long q2), .second, .val (.long q3), .second, .val (.int p4), .val (.long ((65536 : Int64) + (q3 &&& (2305843009213693951 : Int64)))), .second, .unset, .unset, .unset, .unset, .unset, .unset, .unset] [(.int (p4 &&& (1 : Int32)))])) _
    refine XS.ifYes X0.here hx rfl (pc0 := 16) (pc' := 52) rfl (hb hby at_16) rfl ((if0 _ _).trans (teq hm).1) (by decide) (by decide) ?_
    show Steps p.tables e below (s₁.setTop (mkF m 52 #[.val (.long q1), .second, .val (.long q2), .second, .val (.long q3), .second, .val (.int p4), .val (.long ((65536 : Int64) + (q3 &&& (2305843009213693951 : Int64)))), .second, .unset, .unset, .unset, .unset, .unset, .unset, .unset] [])) _
    refine XS.lloadN X0.here hx rfl (hb hby at_52) rfl ?_
    show Steps p.tables e below (s₁.setTop (mkF m 53 #[.val (.long q1), .second, .val (.long q2), .second, .val (.long q3), .second, .val (.int p4), .val (.long ((65536 : Int64) + (q3 &&& (2305843009213693951 : Int64)))), .second, .unset, .unset, .unset, .unset, .unset, .unset, .unset] [(.long q2)])) _
    refine XS.lstore X0.here hx rfl (hb hby at_53) rfl (l' := #[.val (.long q1), .second, .val (.long q2), .second, .val (.long q3), .second, .val (.int p4), .val (.long ((65536 : Int64) + (q3 &&& (2305843009213693951 : Int64)))), .second, .val (.long q2), .second, .unset, .unset, .unset, .unset, .unset]) rfl ?_
    show Steps p.tables e below (s₁.setTop (mkF m 55 #[.val (.long q1), .second, .val (.long q2), .second, .val (.long q3), .second, .val (.int p4), .val (.long ((65536 : Int64) + (q3 &&& (2305843009213693951 : Int64)))), .second, .val (.long q2), .second, .unset, .unset, .unset, .unset, .unset] [])) _
    refine st1 _ ?_
    show Steps p.tables e below (T1.setTop (mkF m 58 #[.val (.long q1), .second, .val (.long q2), .second, .val (.long q3), .second, .val (.int p4), .val (.long ((65536 : Int64) + (q3 &&& (2305843009213693951 : Int64)))), .second, .val (.long q2), .second, .unset, .unset, .unset, .unset, .unset] [(.ref b1)])) _
    refine XS.dup X1.here hx rfl (hb hby at_58) rfl rfl ?_
    show Steps p.tables e below (T1.setTop (mkF m 59 #[.val (.long q1), .second, .val (.long q2), .second, .val (.long q3), .second, .val (.int p4), .val (.long ((65536 : Int64) + (q3 &&& (2305843009213693951 : Int64)))), .second, .val (.long q2), .second, .unset, .unset, .unset, .unset, .unset] [(.ref b1), (.ref b1)])) _
    refine XS.lloadN X1.here hx rfl (hb hby at_59) rfl ?_
    show Steps p.tables e below (T1.setTop (mkF m 60 #[.val (.long q1), .second, .val (.long q2), .second, .val (.long q3), .second, .val (.int p4), .val (.long ((65536 : Int64) + (q3 &&& (2305843009213693951 : Int64)))), .second, .val (.long q2), .second, .unset, .unset, .unset, .unset, .unset] [(.long q1), (.ref b1), (.ref b1)])) _
    refine XS.lload X1.here hx rfl (hb hby at_60) rfl ?_
    show Steps p.tables e below (T1.setTop (mkF m 62 #[.val (.long q1), .second, .val (.long q2), .second, .val (.long q3), .second, .val (.int p4), .val (.long ((65536 : Int64) + (q3 &&& (2305843009213693951 : Int64)))), .second, .val (.long q2), .second, .unset, .unset, .unset, .unset, .unset] [(.long ((65536 : Int64) + (q3 &&& (2305843009213693951 : Int64)))), (.long q1), (.ref b1), (.ref b1)])) _
    refine st3.trans ?_
    show Steps p.tables e below (T3.setTop (mkF m 65 #[.val (.long q1), .second, .val (.long q2), .second, .val (.long q3), .second, .val (.int p4), .val (.long ((65536 : Int64) + (q3 &&& (2305843009213693951 : Int64)))), .second, .val (.long q2), .second, .unset, .unset, .unset, .unset, .unset] [(.ref b1)])) _
    refine XS.astore X3.here hx rfl (hb hby at_65) rfl rfl (l' := #[.val (.long q1), .second, .val (.long q2), .second, .val (.long q3), .second, .val (.int p4), .val (.long ((65536 : Int64) + (q3 &&& (2305843009213693951 : Int64)))), .second, .val (.long q2), .second, .val (.ref b1), .unset, .unset, .unset, .unset]) rfl ?_
    show Steps p.tables e below (T3.setTop (mkF m 67 #[.val (.long q1), .second, .val (.long q2), .second, .val (.long q3), .second, .val (.int p4), .val (.long ((65536 : Int64) + (q3 &&& (2305843009213693951 : Int64)))), .second, .val (.long q2), .second, .val (.ref b1), .unset, .unset, .unset, .unset] [])) _
    refine XS.aload X3.here hx rfl (hb hby at_67) rfl rfl ?_
    show Steps p.tables e below (T3.setTop (mkF m 69 #[.val (.long q1), .second, .val (.long q2), .second, .val (.long q3), .second, .val (.int p4), .val (.long ((65536 : Int64) + (q3 &&& (2305843009213693951 : Int64)))), .second, .val (.long q2), .second, .val (.ref b1), .unset, .unset, .unset, .unset] [(.ref b1)])) _
    refine XS.lload X3.here hx rfl (hb hby at_69) rfl ?_
    show Steps p.tables e below (T3.setTop (mkF m 71 #[.val (.long q1), .second, .val (.long q2), .second, .val (.long q3), .second, .val (.int p4), .val (.long ((65536 : Int64) + (q3 &&& (2305843009213693951 : Int64)))), .second, .val (.long q2), .second, .val (.ref b1), .unset, .unset, .unset, .unset] [(.long q2), (.ref b1)])) _
    refine st4.trans ?_
    show Steps p.tables e below (T4.setTop (mkF m 74 #[.val (.long q1), .second, .val (.long q2), .second, .val (.long q3), .second, .val (.int p4), .val (.long ((65536 : Int64) + (q3 &&& (2305843009213693951 : Int64)))), .second, .val (.long q2), .second, .val (.ref b1), .unset, .unset, .unset, .unset] [(.long (0 : Int64))])) _
    refine XS.lstore X4.here hx rfl (hb hby at_74) rfl (l' := #[.val (.long q1), .second, .val (.long q2), .second, .val (.long q3), .second, .val (.int p4), .val (.long ((65536 : Int64) + (q3 &&& (2305843009213693951 : Int64)))), .second, .val (.long q2), .second, .val (.ref b1), .val (.long (0 : Int64)), .second, .unset, .unset]) rfl ?_
    show Steps p.tables e below (T4.setTop (mkF m 76 #[.val (.long q1), .second, .val (.long q2), .second, .val (.long q3), .second, .val (.int p4), .val (.long ((65536 : Int64) + (q3 &&& (2305843009213693951 : Int64)))), .second, .val (.long q2), .second, .val (.ref b1), .val (.long (0 : Int64)), .second, .unset, .unset] [])) _
    refine XS.lload X4.here hx rfl (hb hby at_76) rfl ?_
    show Steps p.tables e below (T4.setTop (mkF m 78 #[.val (.long q1), .second, .val (.long q2), .second, .val (.long q3), .second, .val (.int p4), .val (.long ((65536 : Int64) + (q3 &&& (2305843009213693951 : Int64)))), .second, .val (.long q2), .second, .val (.ref b1), .val (.long (0 : Int64)), .second, .unset, .unset] [(.long q2)])) _
    refine XS.lloadN X4.here hx rfl (hb hby at_78) rfl ?_
    show Steps p.tables e below (T4.setTop (mkF m 79 #[.val (.long q1), .second, .val (.long q2), .second, .val (.long q3), .second, .val (.int p4), .val (.long ((65536 : Int64) + (q3 &&& (2305843009213693951 : Int64)))), .second, .val (.long q2), .second, .val (.ref b1), .val (.long (0 : Int64)), .second, .unset, .unset] [(.long q1), (.long q2)])) _
    refine XS.lcmp X4.here hx rfl (hb hby at_79) rfl ?_
    show Steps p.tables e below (T4.setTop (mkF m 80 #[.val (.long q1), .second, .val (.long q2), .second, .val (.long q3), .second, .val (.int p4), .val (.long ((65536 : Int64) + (q3 &&& (2305843009213693951 : Int64)))), .second, .val (.long q2), .second, .val (.ref b1), .val (.long (0 : Int64)), .second, .unset, .unset] [(.int (lcmpW q2 q1))])) _
    refine XS.ifNo X4.here hx rfl (hb hby at_80) rfl ((if0 _ _).trans (flt hc).2.2.1) ?_
    show Steps p.tables e below (T4.setTop (mkF m 83 #[.val (.long q1), .second, .val (.long q2), .second, .val (.long q3), .second, .val (.int p4), .val (.long ((65536 : Int64) + (q3 &&& (2305843009213693951 : Int64)))), .second, .val (.long q2), .second, .val (.ref b1), .val (.long (0 : Int64)), .second, .unset, .unset] [])) _
    refine XS.lconst X4.here hx rfl (hb hby at_83) ?_
    show Steps p.tables e below (T4.setTop (mkF m 84 #[.val (.long q1), .second, .val (.long q2), .second, .val (.long q3), .second, .val (.int p4), .val (.long ((65536 : Int64) + (q3 &&& (2305843009213693951 : Int64)))), .second, .val (.long q2), .second, .val (.ref b1), .val (.long (0 : Int64)), .second, .unset, .unset] [(.long (0 : Int64))])) _
    refine XS.lstore X4.here hx rfl (hb hby at_84) rfl (l' := #[.val (.long q1), .second, .val (.long q2), .second, .val (.long q3), .second, .val (.int p4), .val (.long ((65536 : Int64) + (q3 &&& (2305843009213693951 : Int64)))), .second, .val (.long q2), .second, .val (.ref b1), .val (.long (0 : Int64)), .second, .val (.long (0 : Int64)), .second]) rfl ?_
    show Steps p.tables e below (T4.setTop (mkF m 86 #[.val (.long q1), .second, .val (.long q2), .second, .val (.long q3), .second, .val (.int p4), .val (.long ((65536 : Int64) + (q3 &&& (2305843009213693951 : Int64)))), .second, .val (.long q2), .second, .val (.ref b1), .val (.long (0 : Int64)), .second, .val (.long (0 : Int64)), .second] [])) _
    refine XS.goto X4.here hx rfl (pc0 := 86) (pc' := 104) rfl (hb hby at_86) (by decide) (by decide) ?_
    show Steps p.tables e below (T4.setTop (mkF m 104 #[.val (.long q1), .second, .val (.long q2), .second, .val (.long q3), .second, .val (.int p4), .val (.long ((65536 : Int64) + (q3 &&& (2305843009213693951 : Int64)))), .second, .val (.long q2), .second, .val (.ref b1), .val (.long (0 : Int64)), .second, .val (.long (0 : Int64)), .second] [])) _
    refine XS.lload X4.here hx rfl (hb hby at_104) rfl ?_
    show Steps p.tables e below (T4.setTop (mkF m 106 #[.val (.long q1), .second, .val (.long q2), .second, .val (.long q3), .second, .val (.int p4), .val (.long ((65536 : Int64) + (q3 &&& (2305843009213693951 : Int64)))), .second, .val (.long q2), .second, .val (.ref b1), .val (.long (0 : Int64)), .second, .val (.long (0 : Int64)), .second] [(.long (0 : Int64))])) _
    refine XS.lload X4.here hx rfl (hb hby at_106) rfl ?_
    show Steps p.tables e below (T4.setTop (mkF m 108 #[.val (.long q1), .second, .val (.long q2), .second, .val (.long q3), .second, .val (.int p4), .val (.long ((65536 : Int64) + (q3 &&& (2305843009213693951 : Int64)))), .second, .val (.long q2), .second, .val (.ref b1), .val (.long (0 : Int64)), .second, .val (.long (0 : Int64)), .second] [(.long (0 : Int64)), (.long (0 : Int64))])) _
    refine XS.lcmp X4.here hx rfl (hb hby at_108) rfl ?_
    show Steps p.tables e below (T4.setTop (mkF m 109 #[.val (.long q1), .second, .val (.long q2), .second, .val (.long q3), .second, .val (.int p4), .val (.long ((65536 : Int64) + (q3 &&& (2305843009213693951 : Int64)))), .second, .val (.long q2), .second, .val (.ref b1), .val (.long (0 : Int64)), .second, .val (.long (0 : Int64)), .second] [(.int (lcmpW (0 : Int64) (0 : Int64)))])) _
    refine XS.ifNo X4.here hx rfl (hb hby at_109) rfl ((if0 _ _).trans (teq ((lcW _ _).trans ((lc_eq _ _).mpr rfl))).2) ?_
    show Steps p.tables e below (T4.setTop (mkF m 112 #[.val (.long q1), .second, .val (.long q2), .second, .val (.long q3), .second, .val (.int p4), .val (.long ((65536 : Int64) + (q3 &&& (2305843009213693951 : Int64)))), .second, .val (.long q2), .second, .val (.ref b1), .val (.long (0 : Int64)), .second, .val (.long (0 : Int64)), .second] [])) _
    refine XS.iconst X4.here hx rfl (hb hby at_112) ?_
    show Steps p.tables e below (T4.setTop (mkF m 113 #[.val (.long q1), .second, .val (.long q2), .second, .val (.long q3), .second, .val (.int p4), .val (.long ((65536 : Int64) + (q3 &&& (2305843009213693951 : Int64)))), .second, .val (.long q2), .second, .val (.ref b1), .val (.long (0 : Int64)), .second, .val (.long (0 : Int64)), .second] [(.int (1 : Int32))])) _
    refine XS.goto X4.here hx rfl (pc0 := 113) (pc' := 117) rfl (hb hby at_113) (by decide) (by decide) ?_
    show Steps p.tables e below (T4.setTop (mkF m 117 #[.val (.long q1), .second, .val (.long q2), .second, .val (.long q3), .second, .val (.int p4), .val (.long ((65536 : Int64) + (q3 &&& (2305843009213693951 : Int64)))), .second, .val (.long q2), .second, .val (.ref b1), .val (.long (0 : Int64)), .second, .val (.long (0 : Int64)), .second] [(.int (1 : Int32))])) _
    exact retN X4 hx (t := .boolean) Bd.returns (by simp) (hb hby at_117) hr
  · show Q0 n0 _ _
    exact ⟨rfl, N4⟩
set_option maxRecDepth 65536 in
set_option maxHeartbeats 40000000 in
theorem rm0_01 (l : Launch) (Z : State) (a0 : Array Value) (hw : ∀ d ∈ tables_1, d.before a0 Z = true) (ws : List Jvm.Cond) (q1 q2 q3 : Int64) (p4 : Int32) (r : UInt64) (t : Int64) (h0 : Heap) (n0 : Nat) (Z0 : n0 ≤ h0.size) (hm : p4 &&& (1 : Int32) = (0 : Int32)) (hd : ¬ (lcmpW ((65536 : Int64) + (q3 &&& (2305843009213693951 : Int64))) (0 : Int64) < 0)) (hz : ((65536 : Int64) + (q3 &&& (2305843009213693951 : Int64))) ≠ 0) (hn : NoNaN64 (FP.ddiv FP.dconst1 (FP.l2d ((65536 : Int64) + (q3 &&& (2305843009213693951 : Int64)))))) (hv : FP.ddiv FP.dconst1 (FP.l2d ((65536 : Int64) + (q3 &&& (2305843009213693951 : Int64)))) = r) (hc : 0 < lcmpW q2 q1) (ok : own_okT ((q2 - q1) - (1 : Int64)) r t) (heq : (own_fix ((q2 - q1) - (1 : Int64)) ((65536 : Int64) + (q3 &&& (2305843009213693951 : Int64))) t) + (1 : Int64) = (own_udiv ((q2 - q1) - (1 : Int64)) ((65536 : Int64) + (q3 &&& (2305843009213693951 : Int64)))) + (1 : Int64)) :
    MetFree l x (head1 (Jvm.Cond.code x code maxLocals ret :: ws) room_1) (fun a U => a = #[(.long q1), (.long q2), (.long q3), (.int p4)] ∧ Z.Warmed39 U.vm ∧ U.heap = h0) (fun _ _ _ _ _ => True) (fun _ U o U' => ∃ v L, o = .returned v ∧ Q0 n0 v L ∧ FrameEnd U o U' L 1 4) := by
  refine MetFree.of_bodySF (plainFor_of_name pn3) hisR ?_
  intro p e s m args below meth c s₁ Bd hml0 hP hK
  obtain ⟨rfl, hZ, hh⟩ := hP
  have hx := Bd.exec
  have hby := Bd.bytes
  have hml : c.maxLocals = 16 := hml0
  have hown : s.vm.findClass "com/example/tick60/tick60/TicksBoundaryOfPinLaw" = some m.cls := findClass_of_methodNamed Bd.named
  have hnm := (name_of_methodNamed Bd.named Bd.method).1
  have X0 : Stand p l e room_1 s m #[(.long q1), (.long q2), (.long q3), (.int p4)] below meth c s₁ [] 0 0 := Stand.of_body Bd
  have e0 : s₁.heap = h0 := by rw [← hh, Bd.state]; rfl
  have N0 := Fr.nil n0
  have pre0 : ∀ t, Steps p.tables e below (s₁.setTop (mkF m 0 #[.val (.long q1), .second, .val (.long q2), .second, .val (.long q3), .second, .val (.int p4), .unset, .unset, .unset, .unset, .unset, .unset, .unset, .unset, .unset] [])) t → Steps p.tables e below (s₁.setTop (entryFrame m #[(.long q1), (.long q2), (.long q3), (.int p4)] maxLocals)) t := fun t k => castTop (ef5 m q1 q2 q3 p4) k
  obtain ⟨T1, h1, X1, e1, E1, A1, D1, -, st1⟩ := newO X0 hx hZ hown (hw _ (List.mem_of_getElem? (i := 2) rfl)) (hw _ (List.mem_of_getElem? (i := 3) rfl)) (hw _ (List.mem_of_getElem? (i := 4) rfl)) e0 (g := (mkF m 55 #[.val (.long q1), .second, .val (.long q2), .second, .val (.long q3), .second, .val (.int p4), .val (.long ((65536 : Int64) + (q3 &&& (2305843009213693951 : Int64)))), .second, .val (.long q2), .second, .unset, .unset, .unset, .unset, .unset] [])) rfl (hb hby at_55) (by decide) (by decide)
  obtain ⟨b1, g1⟩ : ∃ z, z = h0.size := ⟨_, rfl⟩
  rw [← g1] at A1 D1 st1
  have g_b1 : n0 ≤ b1 := Nat.le_trans Z0 (Nat.le_of_eq g1.symm)
  have sz_b1 : h0.size ≤ b1 := Nat.le_trans (Keep.refl h0 []).1 (Nat.le_of_eq g1.symm)
  have K2 : Keep h0 h1 [] := Keep.ext (Keep.refl h0 []) E1
  have Zc2 : n0 ≤ h1.size := Nat.le_trans Z0 E1.1
  have F1_start : Fld Z h1 b1 "com/example/tick60/tick60/Ticks" "start" "J" (.long (0 : Int64)) := D1 (Or.inr (hw _ (List.mem_of_getElem? (i := 12) rfl))) (ty := .long) (by decide)
  have F1_tickNanos : Fld Z h1 b1 "com/example/tick60/tick60/Ticks" "tickNanos" "J" (.long (0 : Int64)) := D1 (Or.inr (hw _ (List.mem_of_getElem? (i := 14) rfl))) (ty := .long) (by decide)
  have F1_ticksPerNano : Fld Z h1 b1 "com/example/tick60/tick60/Ticks" "ticksPerNano" "D" (.double 0) := D1 (Or.inr (hw _ (List.mem_of_getElem? (i := 16) rfl))) (ty := .double) (by decide)
  have F1_lastTick : Fld Z h1 b1 "com/example/tick60/tick60/Ticks" "lastTick" "J" (.long (0 : Int64)) := D1 (Or.inr (hw _ (List.mem_of_getElem? (i := 24) rfl))) (ty := .long) (by decide)
  obtain ⟨_, _, ⟨T3, L3, k3, n3⟩, -, X3, ⟨Lc3, hQ3, l3, y3, z3⟩, st3⟩ := X1.specialBack hx (y := (⟨"com/example/tick60/tick60/Ticks", "<init>", "(JJ)V"⟩ : MethodName)) rfl hown (mvT hZ (hw _ (List.mem_of_getElem? (i := 5) rfl))) (mvT hZ (hw _ (List.mem_of_getElem? (i := 6) rfl))) (mvT hZ (hw _ (List.mem_of_getElem? (i := 7) rfl))) (by decide) (backOf (W := 1) (rmI l Z a0 hw [] b1 q1 ((65536 : Int64) + (q3 &&& (2305843009213693951 : Int64))) r h1 n0 Zc2 F1_start F1_tickNanos F1_ticksPerNano F1_lastTick A1 g_b1 hd hz hn hv) hZ (hw _ (List.mem_of_getElem? (i := 7) rfl)) (hw _ (List.mem_of_getElem? (i := 4) rfl)) (by decide) (by decide)) (g := (mkF m 62 #[.val (.long q1), .second, .val (.long q2), .second, .val (.long q3), .second, .val (.int p4), .val (.long ((65536 : Int64) + (q3 &&& (2305843009213693951 : Int64)))), .second, .val (.long q2), .second, .unset, .unset, .unset, .unset, .unset] [(.long ((65536 : Int64) + (q3 &&& (2305843009213693951 : Int64)))), (.long q1), (.ref b1), (.ref b1)])) rfl (by rw [hml]; rfl) (Steps.refl _) (a := b1) (argsL := [(.long q1), (.long ((65536 : Int64) + (q3 &&& (2305843009213693951 : Int64))))]) (rest := [(.ref b1)]) (lenOf pd3 rfl) rfl (by show 2 * 0 + _ ≤ _; exact Nat.le_of_eq rfl) (hb hby at_62) (fun _ _ => ⟨rfl, e1, (by decide : 1 + 0 ≤ _), (by decide : 4 + 0 ≤ _)⟩)
  dsimp only [Pt.U, Pt.locs, Pt.cells, Pt.slots] at X3 l3 y3 z3 st3 hQ3
  subst l3 y3 z3
  obtain ⟨rfl, Nc3, Kc3, fc3_0, fc3_1, fc3_2⟩ := hQ3
  have N3 := Fr.app N0 Nc3
  have K3 : Keep h0 T3.heap [] := Keep.trans K2 Kc3 (allS (Or.inr sz_b1) all0)
  have Zc3 : n0 ≤ T3.heap.size := Nat.le_trans Zc2 Kc3.1
  have f5 : Exa Z T3.heap b1 "com/example/tick60/tick60/Ticks" := (Exa.keep A1 Kc3)
  obtain ⟨cq4, kq4, qa4, qb4, qc4⟩ := isOf hZ rfl f5
  obtain ⟨_, _, ⟨T4, L4, k4, n4⟩, -, X4, ⟨Lc4, hQ4, l4, y4, z4⟩, st4⟩ := X3.virtualBack hx (y := (⟨"com/example/tick60/tick60/Ticks", "boundaryOf", "(J)J"⟩ : MethodName)) (z := (⟨"com/example/tick60/tick60/Ticks", "boundaryOf", "(J)J"⟩ : MethodName)) hown (mvT hZ (hw _ (List.mem_of_getElem? (i := 25) rfl))) (mvT hZ (hw _ (List.mem_of_getElem? (i := 26) rfl))) (notFace_of_selects (args := #[]) (mvT hZ (hw _ (List.mem_of_getElem? (i := 28) rfl)))) (mvT hZ (hw _ (List.mem_of_getElem? (i := 28) rfl))) (mvT hZ (hw _ (List.mem_of_getElem? (i := 27) rfl))) (by decide) (backOf (W := 0) (rmB_1 l Z a0 hw [] b1 q1 ((65536 : Int64) + (q3 &&& (2305843009213693951 : Int64))) q2 r t T3.heap n0 Zc3 fc3_0 fc3_1 fc3_2 f5 hc ok) hZ (hw _ (List.mem_of_getElem? (i := 29) rfl)) (hw _ (List.mem_of_getElem? (i := 4) rfl)) (by decide) (by decide)) qa4 qc4 (g := (mkF m 71 #[.val (.long q1), .second, .val (.long q2), .second, .val (.long q3), .second, .val (.int p4), .val (.long ((65536 : Int64) + (q3 &&& (2305843009213693951 : Int64)))), .second, .val (.long q2), .second, .val (.ref b1), .unset, .unset, .unset, .unset] [(.long q2), (.ref b1)])) rfl (by rw [hml]; rfl) (Steps.refl _) (argsL := [(.long q2)]) (rest := []) (lenOf pd2 rfl) rfl (by show 2 * 0 + _ ≤ _; exact Nat.le_of_eq rfl) (hb hby at_71) (fun _ _ => ⟨rfl, rfl, (by decide : 1 + 0 ≤ _), (by decide : 4 + 0 ≤ _)⟩)
  dsimp only [Pt.U, Pt.locs, Pt.cells, Pt.slots] at X4 l4 y4 z4 st4 hQ4
  subst l4 y4 z4
  obtain ⟨rfl, Nc4, ec4⟩ := hQ4
  have N4 := Fr.app N3 Nc4
  obtain ⟨_, _, ⟨T6, L6, k6, n6⟩, -, X6, ⟨Lc6, hQ6, l6, y6, z6⟩, st6⟩ := Jvm.LawKit.callS X4 hx (y := (⟨"com/example/tick60/tick60/TicksBoundaryOfPinLaw", "udiv", "(JJ)J"⟩ : MethodName)) hown (mvT hZ (hw _ (List.mem_of_getElem? (i := 34) rfl))) (mvT hZ (hw _ (List.mem_of_getElem? (i := 35) rfl))) (mvT hZ (hw _ (List.mem_of_getElem? (i := 36) rfl))) (mvT hZ (hw _ (List.mem_of_getElem? (i := 37) rfl))) (by decide) (backOf (W := 0) (rmU l Z a0 hw [] ((q2 - q1) - (1 : Int64)) ((65536 : Int64) + (q3 &&& (2305843009213693951 : Int64))) T3.heap n0 Zc3 hz) hZ (hw _ (List.mem_of_getElem? (i := 37) rfl)) (hw _ (List.mem_of_getElem? (i := 36) rfl)) (by decide) (by decide)) (g := (mkF m 97 #[.val (.long q1), .second, .val (.long q2), .second, .val (.long q3), .second, .val (.int p4), .val (.long ((65536 : Int64) + (q3 &&& (2305843009213693951 : Int64)))), .second, .val (.long q2), .second, .val (.ref b1), .val (.long ((own_fix ((q2 - q1) - (1 : Int64)) ((65536 : Int64) + (q3 &&& (2305843009213693951 : Int64))) t) + (1 : Int64))), .second, .unset, .unset] [(.long ((65536 : Int64) + (q3 &&& (2305843009213693951 : Int64)))), (.long ((q2 - q1) - (1 : Int64)))])) rfl (by rw [hml]; rfl) (argsL := [(.long ((q2 - q1) - (1 : Int64))), (.long ((65536 : Int64) + (q3 &&& (2305843009213693951 : Int64))))]) (rest := []) (lenOf pd1 rfl) rfl (by show 2 * 0 + _ ≤ _; exact Nat.le_of_eq rfl) (hb hby at_97) (fun _ _ => ⟨rfl, ec4, (by decide : 1 + 0 ≤ _), (by decide : 4 + 0 ≤ _)⟩)
  dsimp only [Pt.U, Pt.locs, Pt.cells, Pt.slots] at X6 l6 y6 z6 st6 hQ6
  subst l6 y6 z6
  obtain ⟨rfl, Nc6, ec6⟩ := hQ6
  have N6 := Fr.app N4 Nc6
  obtain ⟨fs, hr, hrun, hended, hW, hsame⟩ := X6.leave (v := some (.int (1 : Int32))) (fun h => by rw [Bd.returns] at h; cases h)
  refine ⟨_, _, pre0 _ ?_, hrun, hended, _, _, rfl, ?_, ⟨_, rfl⟩, hW, hsame.mono (by decide) (by decide)⟩
  · show Steps p.tables e below (s₁.setTop (mkF m 0 #[.val (.long q1), .second, .val (.long q2), .second, .val (.long q3), .second, .val (.int p4), .unset, .unset, .unset, .unset, .unset, .unset, .unset, .unset, .unset] [])) _
    refine X0.ldc2Long hx hown (mvT hZ (hw _ (List.mem_of_getElem? (i := 0) rfl))) (g := (mkF m 0 #[.val (.long q1), .second, .val (.long q2), .second, .val (.long q3), .second, .val (.int p4), .unset, .unset, .unset, .unset, .unset, .unset, .unset, .unset, .unset] [])) rfl (hb hby at_0) _ ?_
    show Steps p.tables e below (s₁.setTop (mkF m 3 #[.val (.long q1), .second, .val (.long q2), .second, .val (.long q3), .second, .val (.int p4), .unset, .unset, .unset, .unset, .unset, .unset, .unset, .unset, .unset] [(.long (65536 : Int64))])) _
    refine XS.lload X0.here hx rfl (hb hby at_3) rfl ?_
    show Steps p.tables e below (s₁.setTop (mkF m 5 #[.val (.long q1), .second, .val (.long q2), .second, .val (.long q3), .second, .val (.int p4), .unset, .unset, .unset, .unset, .unset, .unset, .unset, .unset, .unset] [(.long q3), (.long (65536 : Int64))])) _
    refine X0.ldc2Long hx hown (mvT hZ (hw _ (List.mem_of_getElem? (i := 1) rfl))) (g := (mkF m 5 #[.val (.long q1), .second, .val (.long q2), .second, .val (.long q3), .second, .val (.int p4), .unset, .unset, .unset, .unset, .unset, .unset, .unset, .unset, .unset] [(.long q3), (.long (65536 : Int64))])) rfl (hb hby at_5) _ ?_
    show Steps p.tables e below (s₁.setTop (mkF m 8 #[.val (.long q1), .second, .val (.long q2), .second, .val (.long q3), .second, .val (.int p4), .unset, .unset, .unset, .unset, .unset, .unset, .unset, .unset, .unset] [(.long (2305843009213693951 : Int64)), (.long q3), (.long (65536 : Int64))])) _
    refine XS.land X0.here hx rfl (hb hby at_8) rfl ?_
    show Steps p.tables e below (s₁.setTop (mkF m 9 #[.val (.long q1), .second, .val (.long q2), .second, .val (.long q3), .second, .val (.int p4), .unset, .unset, .unset, .unset, .unset, .unset, .unset, .unset, .unset] [(.long (q3 &&& (2305843009213693951 : Int64))), (.long (65536 : Int64))])) _
    refine XS.ladd X0.here hx rfl (hb hby at_9) rfl ?_
    show Steps p.tables e below (s₁.setTop (mkF m 10 #[.val (.long q1), .second, .val (.long q2), .second, .val (.long q3), .second, .val (.int p4), .unset, .unset, .unset, .unset, .unset, .unset, .unset, .unset, .unset] [(.long ((65536 : Int64) + (q3 &&& (2305843009213693951 : Int64))))])) _
    refine XS.lstore X0.here hx rfl (hb hby at_10) rfl (l' := #[.val (.long q1), .second, .val (.long q2), .second, .val (.long q3), .second, .val (.int p4), .val (.long ((65536 : Int64) + (q3 &&& (2305843009213693951 : Int64)))), .second, .unset, .unset, .unset, .unset, .unset, .unset, .unset]) rfl ?_
    show Steps p.tables e below (s₁.setTop (mkF m 12 #[.val (.long q1), .second, .val (.long q2), .second, .val (.long q3), .second, .val (.int p4), .val (.long ((65536 : Int64) + (q3 &&& (2305843009213693951 : Int64)))), .second, .unset, .unset, .unset, .unset, .unset, .unset, .unset] [])) _
    refine XS.iload X0.here hx rfl (hb hby at_12) rfl ?_
    show Steps p.tables e below (s₁.setTop (mkF m 14 #[.val (.long q1), .second, .val (.long q2), .second, .val (.long q3), .second, .val (.int p4), .val (.long ((65536 : Int64) + (q3 &&& (2305843009213693951 : Int64)))), .second, .unset, .unset, .unset, .unset, .unset, .unset, .unset] [(.int p4)])) _
    refine XS.iconst X0.here hx rfl (hb hby at_14) ?_
    show Steps p.tables e below (s₁.setTop (mkF m 15 #[.val (.long q1), .second, .val (.long q2), .second, .val (.long q3), .second, .val (.int p4), .val (.long ((65536 : Int64) + (q3 &&& (2305843009213693951 : Int64)))), .second, .unset, .unset, .unset, .unset, .unset, .unset, .unset] [(.int (1 : Int32)), (.int p4)])) _
    refine XS.iand X0.here hx rfl (hb hby at_15) rfl ?_
    show Steps p.tables e below (s₁.setTop (mkF m 16 #[.val (.long q1), .second, .val (.long q2), .second, .val (.long q3), .second, .val (.int p4), .val (.long ((65536 : Int64) + (q3 &&& (2305843009213693951 : Int64)))), .second, .unset, .unset, .unset, .unset, .unset, .unset, .unset] [(.int (p4 &&& (1 : Int32)))])) _
    refine XS.ifYes X0.here hx rfl (pc0 := 16) (pc' := 52) rfl (hb hby at_16) rfl ((if0 _ _).trans (teq hm).1) (by decide) (by decide) ?_
    show Steps p.tables e below (s₁.setTop (mkF m 52 #[.val (.long q1), .second, .val (.long q2), .second, .val (.long q3), .second, .val (.int p4), .val (.long ((65536 : Int64) + (q3 &&& (2305843009213693951 : Int64)))), .second, .unset, .unset, .unset, .unset, .unset, .unset, .unset] [])) _
    refine XS.lloadN X0.here hx rfl (hb hby at_52) rfl ?_
    show Steps p.tables e below (s₁.setTop (mkF m 53 #[.val (.long q1), .second, .val (.long q2), .second, .val (.long q3), .second, .val (.int p4), .val (.long ((65536 : Int64) + (q3 &&& (2305843009213693951 : Int64)))), .second, .unset, .unset, .unset, .unset, .unset, .unset, .unset] [(.long q2)])) _
    refine XS.lstore X0.here hx rfl (hb hby at_53) rfl (l' := #[.val (.long q1), .second, .val (.long q2), .second, .val (.long q3), .second, .val (.int p4), .val (.long ((65536 : Int64) + (q3 &&& (2305843009213693951 : Int64)))), .second, .val (.long q2), .second, .unset, .unset, .unset, .unset, .unset]) rfl ?_
    show Steps p.tables e below (s₁.setTop (mkF m 55 #[.val (.long q1), .second, .val (.long q2), .second, .val (.long q3), .second, .val (.int p4), .val (.long ((65536 : Int64) + (q3 &&& (2305843009213693951 : Int64)))), .second, .val (.long q2), .second, .unset, .unset, .unset, .unset, .unset] [])) _
    refine st1 _ ?_
    show Steps p.tables e below (T1.setTop (mkF m 58 #[.val (.long q1), .second, .val (.long q2), .second, .val (.long q3), .second, .val (.int p4), .val (.long ((65536 : Int64) + (q3 &&& (2305843009213693951 : Int64)))), .second, .val (.long q2), .second, .unset, .unset, .unset, .unset, .unset] [(.ref b1)])) _
    refine XS.dup X1.here hx rfl (hb hby at_58) rfl rfl ?_
    show Steps p.tables e below (T1.setTop (mkF m 59 #[.val (.long q1), .second, .val (.long q2), .second, .val (.long q3), .second, .val (.int p4), .val (.long ((65536 : Int64) + (q3 &&& (2305843009213693951 : Int64)))), .second, .val (.long q2), .second, .unset, .unset, .unset, .unset, .unset] [(.ref b1), (.ref b1)])) _
    refine XS.lloadN X1.here hx rfl (hb hby at_59) rfl ?_
    show Steps p.tables e below (T1.setTop (mkF m 60 #[.val (.long q1), .second, .val (.long q2), .second, .val (.long q3), .second, .val (.int p4), .val (.long ((65536 : Int64) + (q3 &&& (2305843009213693951 : Int64)))), .second, .val (.long q2), .second, .unset, .unset, .unset, .unset, .unset] [(.long q1), (.ref b1), (.ref b1)])) _
    refine XS.lload X1.here hx rfl (hb hby at_60) rfl ?_
    show Steps p.tables e below (T1.setTop (mkF m 62 #[.val (.long q1), .second, .val (.long q2), .second, .val (.long q3), .second, .val (.int p4), .val (.long ((65536 : Int64) + (q3 &&& (2305843009213693951 : Int64)))), .second, .val (.long q2), .second, .unset, .unset, .unset, .unset, .unset] [(.long ((65536 : Int64) + (q3 &&& (2305843009213693951 : Int64)))), (.long q1), (.ref b1), (.ref b1)])) _
    refine st3.trans ?_
    show Steps p.tables e below (T3.setTop (mkF m 65 #[.val (.long q1), .second, .val (.long q2), .second, .val (.long q3), .second, .val (.int p4), .val (.long ((65536 : Int64) + (q3 &&& (2305843009213693951 : Int64)))), .second, .val (.long q2), .second, .unset, .unset, .unset, .unset, .unset] [(.ref b1)])) _
    refine XS.astore X3.here hx rfl (hb hby at_65) rfl rfl (l' := #[.val (.long q1), .second, .val (.long q2), .second, .val (.long q3), .second, .val (.int p4), .val (.long ((65536 : Int64) + (q3 &&& (2305843009213693951 : Int64)))), .second, .val (.long q2), .second, .val (.ref b1), .unset, .unset, .unset, .unset]) rfl ?_
    show Steps p.tables e below (T3.setTop (mkF m 67 #[.val (.long q1), .second, .val (.long q2), .second, .val (.long q3), .second, .val (.int p4), .val (.long ((65536 : Int64) + (q3 &&& (2305843009213693951 : Int64)))), .second, .val (.long q2), .second, .val (.ref b1), .unset, .unset, .unset, .unset] [])) _
    refine XS.aload X3.here hx rfl (hb hby at_67) rfl rfl ?_
    show Steps p.tables e below (T3.setTop (mkF m 69 #[.val (.long q1), .second, .val (.long q2), .second, .val (.long q3), .second, .val (.int p4), .val (.long ((65536 : Int64) + (q3 &&& (2305843009213693951 : Int64)))), .second, .val (.long q2), .second, .val (.ref b1), .unset, .unset, .unset, .unset] [(.ref b1)])) _
    refine XS.lload X3.here hx rfl (hb hby at_69) rfl ?_
    show Steps p.tables e below (T3.setTop (mkF m 71 #[.val (.long q1), .second, .val (.long q2), .second, .val (.long q3), .second, .val (.int p4), .val (.long ((65536 : Int64) + (q3 &&& (2305843009213693951 : Int64)))), .second, .val (.long q2), .second, .val (.ref b1), .unset, .unset, .unset, .unset] [(.long q2), (.ref b1)])) _
    refine st4.trans ?_
    show Steps p.tables e below (T4.setTop (mkF m 74 #[.val (.long q1), .second, .val (.long q2), .second, .val (.long q3), .second, .val (.int p4), .val (.long ((65536 : Int64) + (q3 &&& (2305843009213693951 : Int64)))), .second, .val (.long q2), .second, .val (.ref b1), .unset, .unset, .unset, .unset] [(.long ((own_fix ((q2 - q1) - (1 : Int64)) ((65536 : Int64) + (q3 &&& (2305843009213693951 : Int64))) t) + (1 : Int64)))])) _
    refine XS.lstore X4.here hx rfl (hb hby at_74) rfl (l' := #[.val (.long q1), .second, .val (.long q2), .second, .val (.long q3), .second, .val (.int p4), .val (.long ((65536 : Int64) + (q3 &&& (2305843009213693951 : Int64)))), .second, .val (.long q2), .second, .val (.ref b1), .val (.long ((own_fix ((q2 - q1) - (1 : Int64)) ((65536 : Int64) + (q3 &&& (2305843009213693951 : Int64))) t) + (1 : Int64))), .second, .unset, .unset]) rfl ?_
    show Steps p.tables e below (T4.setTop (mkF m 76 #[.val (.long q1), .second, .val (.long q2), .second, .val (.long q3), .second, .val (.int p4), .val (.long ((65536 : Int64) + (q3 &&& (2305843009213693951 : Int64)))), .second, .val (.long q2), .second, .val (.ref b1), .val (.long ((own_fix ((q2 - q1) - (1 : Int64)) ((65536 : Int64) + (q3 &&& (2305843009213693951 : Int64))) t) + (1 : Int64))), .second, .unset, .unset] [])) _
    refine XS.lload X4.here hx rfl (hb hby at_76) rfl ?_
    show Steps p.tables e below (T4.setTop (mkF m 78 #[.val (.long q1), .second, .val (.long q2), .second, .val (.long q3), .second, .val (.int p4), .val (.long ((65536 : Int64) + (q3 &&& (2305843009213693951 : Int64)))), .second, .val (.long q2), .second, .val (.ref b1), .val (.long ((own_fix ((q2 - q1) - (1 : Int64)) ((65536 : Int64) + (q3 &&& (2305843009213693951 : Int64))) t) + (1 : Int64))), .second, .unset, .unset] [(.long q2)])) _
    refine XS.lloadN X4.here hx rfl (hb hby at_78) rfl ?_
    show Steps p.tables e below (T4.setTop (mkF m 79 #[.val (.long q1), .second, .val (.long q2), .second, .val (.long q3), .second, .val (.int p4), .val (.long ((65536 : Int64) + (q3 &&& (2305843009213693951 : Int64)))), .second, .val (.long q2), .second, .val (.ref b1), .val (.long ((own_fix ((q2 - q1) - (1 : Int64)) ((65536 : Int64) + (q3 &&& (2305843009213693951 : Int64))) t) + (1 : Int64))), .second, .unset, .unset] [(.long q1), (.long q2)])) _
    refine XS.lcmp X4.here hx rfl (hb hby at_79) rfl ?_
    show Steps p.tables e below (T4.setTop (mkF m 80 #[.val (.long q1), .second, .val (.long q2), .second, .val (.long q3), .second, .val (.int p4), .val (.long ((65536 : Int64) + (q3 &&& (2305843009213693951 : Int64)))), .second, .val (.long q2), .second, .val (.ref b1), .val (.long ((own_fix ((q2 - q1) - (1 : Int64)) ((65536 : Int64) + (q3 &&& (2305843009213693951 : Int64))) t) + (1 : Int64))), .second, .unset, .unset] [(.int (lcmpW q2 q1))])) _
    refine XS.ifYes X4.here hx rfl (pc0 := 80) (pc' := 89) rfl (hb hby at_80) rfl ((if0 _ _).trans (tlt hc).2.2.1) (by decide) (by decide) ?_
    show Steps p.tables e below (T4.setTop (mkF m 89 #[.val (.long q1), .second, .val (.long q2), .second, .val (.long q3), .second, .val (.int p4), .val (.long ((65536 : Int64) + (q3 &&& (2305843009213693951 : Int64)))), .second, .val (.long q2), .second, .val (.ref b1), .val (.long ((own_fix ((q2 - q1) - (1 : Int64)) ((65536 : Int64) + (q3 &&& (2305843009213693951 : Int64))) t) + (1 : Int64))), .second, .unset, .unset] [])) _
    refine XS.lload X4.here hx rfl (hb hby at_89) rfl ?_
    show Steps p.tables e below (T4.setTop (mkF m 91 #[.val (.long q1), .second, .val (.long q2), .second, .val (.long q3), .second, .val (.int p4), .val (.long ((65536 : Int64) + (q3 &&& (2305843009213693951 : Int64)))), .second, .val (.long q2), .second, .val (.ref b1), .val (.long ((own_fix ((q2 - q1) - (1 : Int64)) ((65536 : Int64) + (q3 &&& (2305843009213693951 : Int64))) t) + (1 : Int64))), .second, .unset, .unset] [(.long q2)])) _
    refine XS.lloadN X4.here hx rfl (hb hby at_91) rfl ?_
    show Steps p.tables e below (T4.setTop (mkF m 92 #[.val (.long q1), .second, .val (.long q2), .second, .val (.long q3), .second, .val (.int p4), .val (.long ((65536 : Int64) + (q3 &&& (2305843009213693951 : Int64)))), .second, .val (.long q2), .second, .val (.ref b1), .val (.long ((own_fix ((q2 - q1) - (1 : Int64)) ((65536 : Int64) + (q3 &&& (2305843009213693951 : Int64))) t) + (1 : Int64))), .second, .unset, .unset] [(.long q1), (.long q2)])) _
    refine XS.lsub X4.here hx rfl (hb hby at_92) rfl ?_
    show Steps p.tables e below (T4.setTop (mkF m 93 #[.val (.long q1), .second, .val (.long q2), .second, .val (.long q3), .second, .val (.int p4), .val (.long ((65536 : Int64) + (q3 &&& (2305843009213693951 : Int64)))), .second, .val (.long q2), .second, .val (.ref b1), .val (.long ((own_fix ((q2 - q1) - (1 : Int64)) ((65536 : Int64) + (q3 &&& (2305843009213693951 : Int64))) t) + (1 : Int64))), .second, .unset, .unset] [(.long (q2 - q1))])) _
    refine XS.lconst X4.here hx rfl (hb hby at_93) ?_
    show Steps p.tables e below (T4.setTop (mkF m 94 #[.val (.long q1), .second, .val (.long q2), .second, .val (.long q3), .second, .val (.int p4), .val (.long ((65536 : Int64) + (q3 &&& (2305843009213693951 : Int64)))), .second, .val (.long q2), .second, .val (.ref b1), .val (.long ((own_fix ((q2 - q1) - (1 : Int64)) ((65536 : Int64) + (q3 &&& (2305843009213693951 : Int64))) t) + (1 : Int64))), .second, .unset, .unset] [(.long (1 : Int64)), (.long (q2 - q1))])) _
    refine XS.lsub X4.here hx rfl (hb hby at_94) rfl ?_
    show Steps p.tables e below (T4.setTop (mkF m 95 #[.val (.long q1), .second, .val (.long q2), .second, .val (.long q3), .second, .val (.int p4), .val (.long ((65536 : Int64) + (q3 &&& (2305843009213693951 : Int64)))), .second, .val (.long q2), .second, .val (.ref b1), .val (.long ((own_fix ((q2 - q1) - (1 : Int64)) ((65536 : Int64) + (q3 &&& (2305843009213693951 : Int64))) t) + (1 : Int64))), .second, .unset, .unset] [(.long ((q2 - q1) - (1 : Int64)))])) _
    refine XS.lload X4.here hx rfl (hb hby at_95) rfl ?_
    show Steps p.tables e below (T4.setTop (mkF m 97 #[.val (.long q1), .second, .val (.long q2), .second, .val (.long q3), .second, .val (.int p4), .val (.long ((65536 : Int64) + (q3 &&& (2305843009213693951 : Int64)))), .second, .val (.long q2), .second, .val (.ref b1), .val (.long ((own_fix ((q2 - q1) - (1 : Int64)) ((65536 : Int64) + (q3 &&& (2305843009213693951 : Int64))) t) + (1 : Int64))), .second, .unset, .unset] [(.long ((65536 : Int64) + (q3 &&& (2305843009213693951 : Int64)))), (.long ((q2 - q1) - (1 : Int64)))])) _
    refine st6 _ ?_
    show Steps p.tables e below (T6.setTop (mkF m 100 #[.val (.long q1), .second, .val (.long q2), .second, .val (.long q3), .second, .val (.int p4), .val (.long ((65536 : Int64) + (q3 &&& (2305843009213693951 : Int64)))), .second, .val (.long q2), .second, .val (.ref b1), .val (.long ((own_fix ((q2 - q1) - (1 : Int64)) ((65536 : Int64) + (q3 &&& (2305843009213693951 : Int64))) t) + (1 : Int64))), .second, .unset, .unset] [(.long (own_udiv ((q2 - q1) - (1 : Int64)) ((65536 : Int64) + (q3 &&& (2305843009213693951 : Int64)))))])) _
    refine XS.lconst X6.here hx rfl (hb hby at_100) ?_
    show Steps p.tables e below (T6.setTop (mkF m 101 #[.val (.long q1), .second, .val (.long q2), .second, .val (.long q3), .second, .val (.int p4), .val (.long ((65536 : Int64) + (q3 &&& (2305843009213693951 : Int64)))), .second, .val (.long q2), .second, .val (.ref b1), .val (.long ((own_fix ((q2 - q1) - (1 : Int64)) ((65536 : Int64) + (q3 &&& (2305843009213693951 : Int64))) t) + (1 : Int64))), .second, .unset, .unset] [(.long (1 : Int64)), (.long (own_udiv ((q2 - q1) - (1 : Int64)) ((65536 : Int64) + (q3 &&& (2305843009213693951 : Int64)))))])) _
    refine XS.ladd X6.here hx rfl (hb hby at_101) rfl ?_
    show Steps p.tables e below (T6.setTop (mkF m 102 #[.val (.long q1), .second, .val (.long q2), .second, .val (.long q3), .second, .val (.int p4), .val (.long ((65536 : Int64) + (q3 &&& (2305843009213693951 : Int64)))), .second, .val (.long q2), .second, .val (.ref b1), .val (.long ((own_fix ((q2 - q1) - (1 : Int64)) ((65536 : Int64) + (q3 &&& (2305843009213693951 : Int64))) t) + (1 : Int64))), .second, .unset, .unset] [(.long ((own_udiv ((q2 - q1) - (1 : Int64)) ((65536 : Int64) + (q3 &&& (2305843009213693951 : Int64)))) + (1 : Int64)))])) _
    refine XS.lstore X6.here hx rfl (hb hby at_102) rfl (l' := #[.val (.long q1), .second, .val (.long q2), .second, .val (.long q3), .second, .val (.int p4), .val (.long ((65536 : Int64) + (q3 &&& (2305843009213693951 : Int64)))), .second, .val (.long q2), .second, .val (.ref b1), .val (.long ((own_fix ((q2 - q1) - (1 : Int64)) ((65536 : Int64) + (q3 &&& (2305843009213693951 : Int64))) t) + (1 : Int64))), .second, .val (.long ((own_udiv ((q2 - q1) - (1 : Int64)) ((65536 : Int64) + (q3 &&& (2305843009213693951 : Int64)))) + (1 : Int64))), .second]) rfl ?_
    show Steps p.tables e below (T6.setTop (mkF m 104 #[.val (.long q1), .second, .val (.long q2), .second, .val (.long q3), .second, .val (.int p4), .val (.long ((65536 : Int64) + (q3 &&& (2305843009213693951 : Int64)))), .second, .val (.long q2), .second, .val (.ref b1), .val (.long ((own_fix ((q2 - q1) - (1 : Int64)) ((65536 : Int64) + (q3 &&& (2305843009213693951 : Int64))) t) + (1 : Int64))), .second, .val (.long ((own_udiv ((q2 - q1) - (1 : Int64)) ((65536 : Int64) + (q3 &&& (2305843009213693951 : Int64)))) + (1 : Int64))), .second] [])) _
    refine XS.lload X6.here hx rfl (hb hby at_104) rfl ?_
    show Steps p.tables e below (T6.setTop (mkF m 106 #[.val (.long q1), .second, .val (.long q2), .second, .val (.long q3), .second, .val (.int p4), .val (.long ((65536 : Int64) + (q3 &&& (2305843009213693951 : Int64)))), .second, .val (.long q2), .second, .val (.ref b1), .val (.long ((own_fix ((q2 - q1) - (1 : Int64)) ((65536 : Int64) + (q3 &&& (2305843009213693951 : Int64))) t) + (1 : Int64))), .second, .val (.long ((own_udiv ((q2 - q1) - (1 : Int64)) ((65536 : Int64) + (q3 &&& (2305843009213693951 : Int64)))) + (1 : Int64))), .second] [(.long ((own_fix ((q2 - q1) - (1 : Int64)) ((65536 : Int64) + (q3 &&& (2305843009213693951 : Int64))) t) + (1 : Int64)))])) _
    refine XS.lload X6.here hx rfl (hb hby at_106) rfl ?_
    show Steps p.tables e below (T6.setTop (mkF m 108 #[.val (.long q1), .second, .val (.long q2), .second, .val (.long q3), .second, .val (.int p4), .val (.long ((65536 : Int64) + (q3 &&& (2305843009213693951 : Int64)))), .second, .val (.long q2), .second, .val (.ref b1), .val (.long ((own_fix ((q2 - q1) - (1 : Int64)) ((65536 : Int64) + (q3 &&& (2305843009213693951 : Int64))) t) + (1 : Int64))), .second, .val (.long ((own_udiv ((q2 - q1) - (1 : Int64)) ((65536 : Int64) + (q3 &&& (2305843009213693951 : Int64)))) + (1 : Int64))), .second] [(.long ((own_udiv ((q2 - q1) - (1 : Int64)) ((65536 : Int64) + (q3 &&& (2305843009213693951 : Int64)))) + (1 : Int64))), (.long ((own_fix ((q2 - q1) - (1 : Int64)) ((65536 : Int64) + (q3 &&& (2305843009213693951 : Int64))) t) + (1 : Int64)))])) _
    refine XS.lcmp X6.here hx rfl (hb hby at_108) rfl ?_
    show Steps p.tables e below (T6.setTop (mkF m 109 #[.val (.long q1), .second, .val (.long q2), .second, .val (.long q3), .second, .val (.int p4), .val (.long ((65536 : Int64) + (q3 &&& (2305843009213693951 : Int64)))), .second, .val (.long q2), .second, .val (.ref b1), .val (.long ((own_fix ((q2 - q1) - (1 : Int64)) ((65536 : Int64) + (q3 &&& (2305843009213693951 : Int64))) t) + (1 : Int64))), .second, .val (.long ((own_udiv ((q2 - q1) - (1 : Int64)) ((65536 : Int64) + (q3 &&& (2305843009213693951 : Int64)))) + (1 : Int64))), .second] [(.int (lcmpW ((own_fix ((q2 - q1) - (1 : Int64)) ((65536 : Int64) + (q3 &&& (2305843009213693951 : Int64))) t) + (1 : Int64)) ((own_udiv ((q2 - q1) - (1 : Int64)) ((65536 : Int64) + (q3 &&& (2305843009213693951 : Int64)))) + (1 : Int64))))])) _
    refine XS.ifNo X6.here hx rfl (hb hby at_109) rfl ((if0 _ _).trans (teq ((lcW _ _).trans ((lc_eq _ _).mpr heq))).2) ?_
    show Steps p.tables e below (T6.setTop (mkF m 112 #[.val (.long q1), .second, .val (.long q2), .second, .val (.long q3), .second, .val (.int p4), .val (.long ((65536 : Int64) + (q3 &&& (2305843009213693951 : Int64)))), .second, .val (.long q2), .second, .val (.ref b1), .val (.long ((own_fix ((q2 - q1) - (1 : Int64)) ((65536 : Int64) + (q3 &&& (2305843009213693951 : Int64))) t) + (1 : Int64))), .second, .val (.long ((own_udiv ((q2 - q1) - (1 : Int64)) ((65536 : Int64) + (q3 &&& (2305843009213693951 : Int64)))) + (1 : Int64))), .second] [])) _
    refine XS.iconst X6.here hx rfl (hb hby at_112) ?_
    show Steps p.tables e below (T6.setTop (mkF m 113 #[.val (.long q1), .second, .val (.long q2), .second, .val (.long q3), .second, .val (.int p4), .val (.long ((65536 : Int64) + (q3 &&& (2305843009213693951 : Int64)))), .second, .val (.long q2), .second, .val (.ref b1), .val (.long ((own_fix ((q2 - q1) - (1 : Int64)) ((65536 : Int64) + (q3 &&& (2305843009213693951 : Int64))) t) + (1 : Int64))), .second, .val (.long ((own_udiv ((q2 - q1) - (1 : Int64)) ((65536 : Int64) + (q3 &&& (2305843009213693951 : Int64)))) + (1 : Int64))), .second] [(.int (1 : Int32))])) _
    refine XS.goto X6.here hx rfl (pc0 := 113) (pc' := 117) rfl (hb hby at_113) (by decide) (by decide) ?_
    show Steps p.tables e below (T6.setTop (mkF m 117 #[.val (.long q1), .second, .val (.long q2), .second, .val (.long q3), .second, .val (.int p4), .val (.long ((65536 : Int64) + (q3 &&& (2305843009213693951 : Int64)))), .second, .val (.long q2), .second, .val (.ref b1), .val (.long ((own_fix ((q2 - q1) - (1 : Int64)) ((65536 : Int64) + (q3 &&& (2305843009213693951 : Int64))) t) + (1 : Int64))), .second, .val (.long ((own_udiv ((q2 - q1) - (1 : Int64)) ((65536 : Int64) + (q3 &&& (2305843009213693951 : Int64)))) + (1 : Int64))), .second] [(.int (1 : Int32))])) _
    exact retN X6 hx (t := .boolean) Bd.returns (by simp) (hb hby at_117) hr
  · show Q0 n0 _ _
    exact ⟨rfl, N6⟩
set_option maxRecDepth 65536 in
set_option maxHeartbeats 40000000 in
theorem rm0_10 (l : Launch) (Z : State) (a0 : Array Value) (hw : ∀ d ∈ tables_1, d.before a0 Z = true) (ws : List Jvm.Cond) (q1 q2 q3 : Int64) (p4 : Int32) (r : UInt64) (h0 : Heap) (n0 : Nat) (Z0 : n0 ≤ h0.size) (hm : ¬ (p4 &&& (1 : Int32) = (0 : Int32))) (hd : ¬ (lcmpW ((65536 : Int64) + (q3 &&& (2305843009213693951 : Int64))) (0 : Int64) < 0)) (hz : ((65536 : Int64) + (q3 &&& (2305843009213693951 : Int64))) ≠ 0) (hn : NoNaN64 (FP.ddiv FP.dconst1 (FP.l2d ((65536 : Int64) + (q3 &&& (2305843009213693951 : Int64)))))) (hv : FP.ddiv FP.dconst1 (FP.l2d ((65536 : Int64) + (q3 &&& (2305843009213693951 : Int64)))) = r) (hc : ¬ (0 < lcmpW ((q1 + ((q2 &&& (281474976710655 : Int64)) * ((65536 : Int64) + (q3 &&& (2305843009213693951 : Int64))))) + ((Int32.toInt64 (((p4.toUInt32 >>> ((1 : Int32) &&& 31).toUInt32).toInt32) % (3 : Int32))) - (1 : Int64))) q1)) :
    MetFree l x (head1 (Jvm.Cond.code x code maxLocals ret :: ws) room_1) (fun a U => a = #[(.long q1), (.long q2), (.long q3), (.int p4)] ∧ Z.Warmed39 U.vm ∧ U.heap = h0) (fun _ _ _ _ _ => True) (fun _ U o U' => ∃ v L, o = .returned v ∧ Q0 n0 v L ∧ FrameEnd U o U' L 1 4) := by
  refine MetFree.of_bodySF (plainFor_of_name pn3) hisR ?_
  intro p e s m args below meth c s₁ Bd hml0 hP hK
  obtain ⟨rfl, hZ, hh⟩ := hP
  have hx := Bd.exec
  have hby := Bd.bytes
  have hml : c.maxLocals = 16 := hml0
  have hown : s.vm.findClass "com/example/tick60/tick60/TicksBoundaryOfPinLaw" = some m.cls := findClass_of_methodNamed Bd.named
  have hnm := (name_of_methodNamed Bd.named Bd.method).1
  have X0 : Stand p l e room_1 s m #[(.long q1), (.long q2), (.long q3), (.int p4)] below meth c s₁ [] 0 0 := Stand.of_body Bd
  have e0 : s₁.heap = h0 := by rw [← hh, Bd.state]; rfl
  have N0 := Fr.nil n0
  have pre0 : ∀ t, Steps p.tables e below (s₁.setTop (mkF m 0 #[.val (.long q1), .second, .val (.long q2), .second, .val (.long q3), .second, .val (.int p4), .unset, .unset, .unset, .unset, .unset, .unset, .unset, .unset, .unset] [])) t → Steps p.tables e below (s₁.setTop (entryFrame m #[(.long q1), (.long q2), (.long q3), (.int p4)] maxLocals)) t := fun t k => castTop (ef5 m q1 q2 q3 p4) k
  obtain ⟨T1, h1, X1, e1, E1, A1, D1, -, st1⟩ := newO X0 hx hZ hown (hw _ (List.mem_of_getElem? (i := 2) rfl)) (hw _ (List.mem_of_getElem? (i := 3) rfl)) (hw _ (List.mem_of_getElem? (i := 4) rfl)) e0 (g := (mkF m 55 #[.val (.long q1), .second, .val (.long q2), .second, .val (.long q3), .second, .val (.int p4), .val (.long ((65536 : Int64) + (q3 &&& (2305843009213693951 : Int64)))), .second, .val (.long ((q1 + ((q2 &&& (281474976710655 : Int64)) * ((65536 : Int64) + (q3 &&& (2305843009213693951 : Int64))))) + ((Int32.toInt64 (((p4.toUInt32 >>> ((1 : Int32) &&& 31).toUInt32).toInt32) % (3 : Int32))) - (1 : Int64)))), .second, .val (.long (q2 &&& (281474976710655 : Int64))), .second, .val (.long ((Int32.toInt64 (((p4.toUInt32 >>> ((1 : Int32) &&& 31).toUInt32).toInt32) % (3 : Int32))) - (1 : Int64))), .second, .unset] [])) rfl (hb hby at_55) (by decide) (by decide)
  obtain ⟨b1, g1⟩ : ∃ z, z = h0.size := ⟨_, rfl⟩
  rw [← g1] at A1 D1 st1
  have g_b1 : n0 ≤ b1 := Nat.le_trans Z0 (Nat.le_of_eq g1.symm)
  have sz_b1 : h0.size ≤ b1 := Nat.le_trans (Keep.refl h0 []).1 (Nat.le_of_eq g1.symm)
  have K2 : Keep h0 h1 [] := Keep.ext (Keep.refl h0 []) E1
  have Zc2 : n0 ≤ h1.size := Nat.le_trans Z0 E1.1
  have F1_start : Fld Z h1 b1 "com/example/tick60/tick60/Ticks" "start" "J" (.long (0 : Int64)) := D1 (Or.inr (hw _ (List.mem_of_getElem? (i := 12) rfl))) (ty := .long) (by decide)
  have F1_tickNanos : Fld Z h1 b1 "com/example/tick60/tick60/Ticks" "tickNanos" "J" (.long (0 : Int64)) := D1 (Or.inr (hw _ (List.mem_of_getElem? (i := 14) rfl))) (ty := .long) (by decide)
  have F1_ticksPerNano : Fld Z h1 b1 "com/example/tick60/tick60/Ticks" "ticksPerNano" "D" (.double 0) := D1 (Or.inr (hw _ (List.mem_of_getElem? (i := 16) rfl))) (ty := .double) (by decide)
  have F1_lastTick : Fld Z h1 b1 "com/example/tick60/tick60/Ticks" "lastTick" "J" (.long (0 : Int64)) := D1 (Or.inr (hw _ (List.mem_of_getElem? (i := 24) rfl))) (ty := .long) (by decide)
  obtain ⟨_, _, ⟨T3, L3, k3, n3⟩, -, X3, ⟨Lc3, hQ3, l3, y3, z3⟩, st3⟩ := X1.specialBack hx (y := (⟨"com/example/tick60/tick60/Ticks", "<init>", "(JJ)V"⟩ : MethodName)) rfl hown (mvT hZ (hw _ (List.mem_of_getElem? (i := 5) rfl))) (mvT hZ (hw _ (List.mem_of_getElem? (i := 6) rfl))) (mvT hZ (hw _ (List.mem_of_getElem? (i := 7) rfl))) (by decide) (backOf (W := 1) (rmI l Z a0 hw [] b1 q1 ((65536 : Int64) + (q3 &&& (2305843009213693951 : Int64))) r h1 n0 Zc2 F1_start F1_tickNanos F1_ticksPerNano F1_lastTick A1 g_b1 hd hz hn hv) hZ (hw _ (List.mem_of_getElem? (i := 7) rfl)) (hw _ (List.mem_of_getElem? (i := 4) rfl)) (by decide) (by decide)) (g := (mkF m 62 #[.val (.long q1), .second, .val (.long q2), .second, .val (.long q3), .second, .val (.int p4), .val (.long ((65536 : Int64) + (q3 &&& (2305843009213693951 : Int64)))), .second, .val (.long ((q1 + ((q2 &&& (281474976710655 : Int64)) * ((65536 : Int64) + (q3 &&& (2305843009213693951 : Int64))))) + ((Int32.toInt64 (((p4.toUInt32 >>> ((1 : Int32) &&& 31).toUInt32).toInt32) % (3 : Int32))) - (1 : Int64)))), .second, .val (.long (q2 &&& (281474976710655 : Int64))), .second, .val (.long ((Int32.toInt64 (((p4.toUInt32 >>> ((1 : Int32) &&& 31).toUInt32).toInt32) % (3 : Int32))) - (1 : Int64))), .second, .unset] [(.long ((65536 : Int64) + (q3 &&& (2305843009213693951 : Int64)))), (.long q1), (.ref b1), (.ref b1)])) rfl (by rw [hml]; rfl) (Steps.refl _) (a := b1) (argsL := [(.long q1), (.long ((65536 : Int64) + (q3 &&& (2305843009213693951 : Int64))))]) (rest := [(.ref b1)]) (lenOf pd3 rfl) rfl (by show 2 * 0 + _ ≤ _; exact Nat.le_of_eq rfl) (hb hby at_62) (fun _ _ => ⟨rfl, e1, (by decide : 1 + 0 ≤ _), (by decide : 4 + 0 ≤ _)⟩)
  dsimp only [Pt.U, Pt.locs, Pt.cells, Pt.slots] at X3 l3 y3 z3 st3 hQ3
  subst l3 y3 z3
  obtain ⟨rfl, Nc3, Kc3, fc3_0, fc3_1, fc3_2⟩ := hQ3
  have N3 := Fr.app N0 Nc3
  have K3 : Keep h0 T3.heap [] := Keep.trans K2 Kc3 (allS (Or.inr sz_b1) all0)
  have Zc3 : n0 ≤ T3.heap.size := Nat.le_trans Zc2 Kc3.1
  have f5 : Exa Z T3.heap b1 "com/example/tick60/tick60/Ticks" := (Exa.keep A1 Kc3)
  obtain ⟨cq4, kq4, qa4, qb4, qc4⟩ := isOf hZ rfl f5
  obtain ⟨_, _, ⟨T4, L4, k4, n4⟩, -, X4, ⟨Lc4, hQ4, l4, y4, z4⟩, st4⟩ := X3.virtualBack hx (y := (⟨"com/example/tick60/tick60/Ticks", "boundaryOf", "(J)J"⟩ : MethodName)) (z := (⟨"com/example/tick60/tick60/Ticks", "boundaryOf", "(J)J"⟩ : MethodName)) hown (mvT hZ (hw _ (List.mem_of_getElem? (i := 25) rfl))) (mvT hZ (hw _ (List.mem_of_getElem? (i := 26) rfl))) (notFace_of_selects (args := #[]) (mvT hZ (hw _ (List.mem_of_getElem? (i := 28) rfl)))) (mvT hZ (hw _ (List.mem_of_getElem? (i := 28) rfl))) (mvT hZ (hw _ (List.mem_of_getElem? (i := 27) rfl))) (by decide) (backOf (W := 0) (rmB_0 l Z a0 hw [] b1 q1 ((65536 : Int64) + (q3 &&& (2305843009213693951 : Int64))) ((q1 + ((q2 &&& (281474976710655 : Int64)) * ((65536 : Int64) + (q3 &&& (2305843009213693951 : Int64))))) + ((Int32.toInt64 (((p4.toUInt32 >>> ((1 : Int32) &&& 31).toUInt32).toInt32) % (3 : Int32))) - (1 : Int64))) r T3.heap n0 Zc3 fc3_0 fc3_1 fc3_2 f5 hc) hZ (hw _ (List.mem_of_getElem? (i := 29) rfl)) (hw _ (List.mem_of_getElem? (i := 4) rfl)) (by decide) (by decide)) qa4 qc4 (g := (mkF m 71 #[.val (.long q1), .second, .val (.long q2), .second, .val (.long q3), .second, .val (.int p4), .val (.long ((65536 : Int64) + (q3 &&& (2305843009213693951 : Int64)))), .second, .val (.long ((q1 + ((q2 &&& (281474976710655 : Int64)) * ((65536 : Int64) + (q3 &&& (2305843009213693951 : Int64))))) + ((Int32.toInt64 (((p4.toUInt32 >>> ((1 : Int32) &&& 31).toUInt32).toInt32) % (3 : Int32))) - (1 : Int64)))), .second, .val (.ref b1), .unset, .val (.long ((Int32.toInt64 (((p4.toUInt32 >>> ((1 : Int32) &&& 31).toUInt32).toInt32) % (3 : Int32))) - (1 : Int64))), .second, .unset] [(.long ((q1 + ((q2 &&& (281474976710655 : Int64)) * ((65536 : Int64) + (q3 &&& (2305843009213693951 : Int64))))) + ((Int32.toInt64 (((p4.toUInt32 >>> ((1 : Int32) &&& 31).toUInt32).toInt32) % (3 : Int32))) - (1 : Int64)))), (.ref b1)])) rfl (by rw [hml]; rfl) (Steps.refl _) (argsL := [(.long ((q1 + ((q2 &&& (281474976710655 : Int64)) * ((65536 : Int64) + (q3 &&& (2305843009213693951 : Int64))))) + ((Int32.toInt64 (((p4.toUInt32 >>> ((1 : Int32) &&& 31).toUInt32).toInt32) % (3 : Int32))) - (1 : Int64))))]) (rest := []) (lenOf pd2 rfl) rfl (by show 2 * 0 + _ ≤ _; exact Nat.le_of_eq rfl) (hb hby at_71) (fun _ _ => ⟨rfl, rfl, (by decide : 1 + 0 ≤ _), (by decide : 4 + 0 ≤ _)⟩)
  dsimp only [Pt.U, Pt.locs, Pt.cells, Pt.slots] at X4 l4 y4 z4 st4 hQ4
  subst l4 y4 z4
  obtain ⟨rfl, Nc4, ec4⟩ := hQ4
  have N4 := Fr.app N3 Nc4
  obtain ⟨fs, hr, hrun, hended, hW, hsame⟩ := X4.leave (v := some (.int (1 : Int32))) (fun h => by rw [Bd.returns] at h; cases h)
  refine ⟨_, _, pre0 _ ?_, hrun, hended, _, _, rfl, ?_, ⟨_, rfl⟩, hW, hsame.mono (by decide) (by decide)⟩
  · show Steps p.tables e below (s₁.setTop (mkF m 0 #[.val (.long q1), .second, .val (.long q2), .second, .val (.long q3), .second, .val (.int p4), .unset, .unset, .unset, .unset, .unset, .unset, .unset, .unset, .unset] [])) _
    refine X0.ldc2Long hx hown (mvT hZ (hw _ (List.mem_of_getElem? (i := 0) rfl))) (g := (mkF m 0 #[.val (.long q1), .second, .val (.long q2), .second, .val (.long q3), .second, .val (.int p4), .unset, .unset, .unset, .unset, .unset, .unset, .unset, .unset, .unset] [])) rfl (hb hby at_0) _ ?_
    show Steps p.tables e below (s₁.setTop (mkF m 3 #[.val (.long q1), .second, .val (.long q2), .second, .val (.long q3), .second, .val (.int p4), .unset, .unset, .unset, .unset, .unset, .unset, .unset, .unset, .unset] [(.long (65536 : Int64))])) _
    refine XS.lload X0.here hx rfl (hb hby at_3) rfl ?_
    show Steps p.tables e below (s₁.setTop (mkF m 5 #[.val (.long q1), .second, .val (.long q2), .second, .val (.long q3), .second, .val (.int p4), .unset, .unset, .unset, .unset, .unset, .unset, .unset, .unset, .unset] [(.long q3), (.long (65536 : Int64))])) _
    refine X0.ldc2Long hx hown (mvT hZ (hw _ (List.mem_of_getElem? (i := 1) rfl))) (g := (mkF m 5 #[.val (.long q1), .second, .val (.long q2), .second, .val (.long q3), .second, .val (.int p4), .unset, .unset, .unset, .unset, .unset, .unset, .unset, .unset, .unset] [(.long q3), (.long (65536 : Int64))])) rfl (hb hby at_5) _ ?_
    show Steps p.tables e below (s₁.setTop (mkF m 8 #[.val (.long q1), .second, .val (.long q2), .second, .val (.long q3), .second, .val (.int p4), .unset, .unset, .unset, .unset, .unset, .unset, .unset, .unset, .unset] [(.long (2305843009213693951 : Int64)), (.long q3), (.long (65536 : Int64))])) _
    refine XS.land X0.here hx rfl (hb hby at_8) rfl ?_
    show Steps p.tables e below (s₁.setTop (mkF m 9 #[.val (.long q1), .second, .val (.long q2), .second, .val (.long q3), .second, .val (.int p4), .unset, .unset, .unset, .unset, .unset, .unset, .unset, .unset, .unset] [(.long (q3 &&& (2305843009213693951 : Int64))), (.long (65536 : Int64))])) _
    refine XS.ladd X0.here hx rfl (hb hby at_9) rfl ?_
    show Steps p.tables e below (s₁.setTop (mkF m 10 #[.val (.long q1), .second, .val (.long q2), .second, .val (.long q3), .second, .val (.int p4), .unset, .unset, .unset, .unset, .unset, .unset, .unset, .unset, .unset] [(.long ((65536 : Int64) + (q3 &&& (2305843009213693951 : Int64))))])) _
    refine XS.lstore X0.here hx rfl (hb hby at_10) rfl (l' := #[.val (.long q1), .second, .val (.long q2), .second, .val (.long q3), .second, .val (.int p4), .val (.long ((65536 : Int64) + (q3 &&& (2305843009213693951 : Int64)))), .second, .unset, .unset, .unset, .unset, .unset, .unset, .unset]) rfl ?_
    show Steps p.tables e below (s₁.setTop (mkF m 12 #[.val (.long q1), .second, .val (.long q2), .second, .val (.long q3), .second, .val (.int p4), .val (.long ((65536 : Int64) + (q3 &&& (2305843009213693951 : Int64)))), .second, .unset, .unset, .unset, .unset, .unset, .unset, .unset] [])) _
    refine XS.iload X0.here hx rfl (hb hby at_12) rfl ?_
    show Steps p.tables e below (s₁.setTop (mkF m 14 #[.val (.long q1), .second, .val (.long q2), .second, .val (.long q3), .second, .val (.int p4), .val (.long ((65536 : Int64) + (q3 &&& (2305843009213693951 : Int64)))), .second, .unset, .unset, .unset, .unset, .unset, .unset, .unset] [(.int p4)])) _
    refine XS.iconst X0.here hx rfl (hb hby at_14) ?_
    show Steps p.tables e below (s₁.setTop (mkF m 15 #[.val (.long q1), .second, .val (.long q2), .second, .val (.long q3), .second, .val (.int p4), .val (.long ((65536 : Int64) + (q3 &&& (2305843009213693951 : Int64)))), .second, .unset, .unset, .unset, .unset, .unset, .unset, .unset] [(.int (1 : Int32)), (.int p4)])) _
    refine XS.iand X0.here hx rfl (hb hby at_15) rfl ?_
    show Steps p.tables e below (s₁.setTop (mkF m 16 #[.val (.long q1), .second, .val (.long q2), .second, .val (.long q3), .second, .val (.int p4), .val (.long ((65536 : Int64) + (q3 &&& (2305843009213693951 : Int64)))), .second, .unset, .unset, .unset, .unset, .unset, .unset, .unset] [(.int (p4 &&& (1 : Int32)))])) _
    refine XS.ifNo X0.here hx rfl (hb hby at_16) rfl ((if0 _ _).trans (feq hm).1) ?_
    show Steps p.tables e below (s₁.setTop (mkF m 19 #[.val (.long q1), .second, .val (.long q2), .second, .val (.long q3), .second, .val (.int p4), .val (.long ((65536 : Int64) + (q3 &&& (2305843009213693951 : Int64)))), .second, .unset, .unset, .unset, .unset, .unset, .unset, .unset] [])) _
    refine XS.lloadN X0.here hx rfl (hb hby at_19) rfl ?_
    show Steps p.tables e below (s₁.setTop (mkF m 20 #[.val (.long q1), .second, .val (.long q2), .second, .val (.long q3), .second, .val (.int p4), .val (.long ((65536 : Int64) + (q3 &&& (2305843009213693951 : Int64)))), .second, .unset, .unset, .unset, .unset, .unset, .unset, .unset] [(.long q2)])) _
    refine X0.ldc2Long hx hown (mvT hZ (hw _ (List.mem_of_getElem? (i := 38) rfl))) (g := (mkF m 20 #[.val (.long q1), .second, .val (.long q2), .second, .val (.long q3), .second, .val (.int p4), .val (.long ((65536 : Int64) + (q3 &&& (2305843009213693951 : Int64)))), .second, .unset, .unset, .unset, .unset, .unset, .unset, .unset] [(.long q2)])) rfl (hb hby at_20) _ ?_
    show Steps p.tables e below (s₁.setTop (mkF m 23 #[.val (.long q1), .second, .val (.long q2), .second, .val (.long q3), .second, .val (.int p4), .val (.long ((65536 : Int64) + (q3 &&& (2305843009213693951 : Int64)))), .second, .unset, .unset, .unset, .unset, .unset, .unset, .unset] [(.long (281474976710655 : Int64)), (.long q2)])) _
    refine XS.land X0.here hx rfl (hb hby at_23) rfl ?_
    show Steps p.tables e below (s₁.setTop (mkF m 24 #[.val (.long q1), .second, .val (.long q2), .second, .val (.long q3), .second, .val (.int p4), .val (.long ((65536 : Int64) + (q3 &&& (2305843009213693951 : Int64)))), .second, .unset, .unset, .unset, .unset, .unset, .unset, .unset] [(.long (q2 &&& (281474976710655 : Int64)))])) _
    refine XS.lstore X0.here hx rfl (hb hby at_24) rfl (l' := #[.val (.long q1), .second, .val (.long q2), .second, .val (.long q3), .second, .val (.int p4), .val (.long ((65536 : Int64) + (q3 &&& (2305843009213693951 : Int64)))), .second, .unset, .unset, .val (.long (q2 &&& (281474976710655 : Int64))), .second, .unset, .unset, .unset]) rfl ?_
    show Steps p.tables e below (s₁.setTop (mkF m 26 #[.val (.long q1), .second, .val (.long q2), .second, .val (.long q3), .second, .val (.int p4), .val (.long ((65536 : Int64) + (q3 &&& (2305843009213693951 : Int64)))), .second, .unset, .unset, .val (.long (q2 &&& (281474976710655 : Int64))), .second, .unset, .unset, .unset] [])) _
    refine XS.iload X0.here hx rfl (hb hby at_26) rfl ?_
    show Steps p.tables e below (s₁.setTop (mkF m 28 #[.val (.long q1), .second, .val (.long q2), .second, .val (.long q3), .second, .val (.int p4), .val (.long ((65536 : Int64) + (q3 &&& (2305843009213693951 : Int64)))), .second, .unset, .unset, .val (.long (q2 &&& (281474976710655 : Int64))), .second, .unset, .unset, .unset] [(.int p4)])) _
    refine XS.iconst X0.here hx rfl (hb hby at_28) ?_
    show Steps p.tables e below (s₁.setTop (mkF m 29 #[.val (.long q1), .second, .val (.long q2), .second, .val (.long q3), .second, .val (.int p4), .val (.long ((65536 : Int64) + (q3 &&& (2305843009213693951 : Int64)))), .second, .unset, .unset, .val (.long (q2 &&& (281474976710655 : Int64))), .second, .unset, .unset, .unset] [(.int (1 : Int32)), (.int p4)])) _
    refine XS.iushr X0.here hx rfl (hb hby at_29) rfl ?_
    show Steps p.tables e below (s₁.setTop (mkF m 30 #[.val (.long q1), .second, .val (.long q2), .second, .val (.long q3), .second, .val (.int p4), .val (.long ((65536 : Int64) + (q3 &&& (2305843009213693951 : Int64)))), .second, .unset, .unset, .val (.long (q2 &&& (281474976710655 : Int64))), .second, .unset, .unset, .unset] [(.int ((p4.toUInt32 >>> ((1 : Int32) &&& 31).toUInt32).toInt32))])) _
    refine XS.iconst X0.here hx rfl (hb hby at_30) ?_
    show Steps p.tables e below (s₁.setTop (mkF m 31 #[.val (.long q1), .second, .val (.long q2), .second, .val (.long q3), .second, .val (.int p4), .val (.long ((65536 : Int64) + (q3 &&& (2305843009213693951 : Int64)))), .second, .unset, .unset, .val (.long (q2 &&& (281474976710655 : Int64))), .second, .unset, .unset, .unset] [(.int (3 : Int32)), (.int ((p4.toUInt32 >>> ((1 : Int32) &&& 31).toUInt32).toInt32))])) _
    refine iremM X0 hx rfl (hb hby at_31) rfl (by decide) ?_
    show Steps p.tables e below (s₁.setTop (mkF m 32 #[.val (.long q1), .second, .val (.long q2), .second, .val (.long q3), .second, .val (.int p4), .val (.long ((65536 : Int64) + (q3 &&& (2305843009213693951 : Int64)))), .second, .unset, .unset, .val (.long (q2 &&& (281474976710655 : Int64))), .second, .unset, .unset, .unset] [(.int (((p4.toUInt32 >>> ((1 : Int32) &&& 31).toUInt32).toInt32) % (3 : Int32)))])) _
    refine XS.i2l X0.here hx rfl (hb hby at_32) rfl ?_
    show Steps p.tables e below (s₁.setTop (mkF m 33 #[.val (.long q1), .second, .val (.long q2), .second, .val (.long q3), .second, .val (.int p4), .val (.long ((65536 : Int64) + (q3 &&& (2305843009213693951 : Int64)))), .second, .unset, .unset, .val (.long (q2 &&& (281474976710655 : Int64))), .second, .unset, .unset, .unset] [(.long (Int32.toInt64 (((p4.toUInt32 >>> ((1 : Int32) &&& 31).toUInt32).toInt32) % (3 : Int32))))])) _
    refine XS.lconst X0.here hx rfl (hb hby at_33) ?_
    show Steps p.tables e below (s₁.setTop (mkF m 34 #[.val (.long q1), .second, .val (.long q2), .second, .val (.long q3), .second, .val (.int p4), .val (.long ((65536 : Int64) + (q3 &&& (2305843009213693951 : Int64)))), .second, .unset, .unset, .val (.long (q2 &&& (281474976710655 : Int64))), .second, .unset, .unset, .unset] [(.long (1 : Int64)), (.long (Int32.toInt64 (((p4.toUInt32 >>> ((1 : Int32) &&& 31).toUInt32).toInt32) % (3 : Int32))))])) _
    refine XS.lsub X0.here hx rfl (hb hby at_34) rfl ?_
    show Steps p.tables e below (s₁.setTop (mkF m 35 #[.val (.long q1), .second, .val (.long q2), .second, .val (.long q3), .second, .val (.int p4), .val (.long ((65536 : Int64) + (q3 &&& (2305843009213693951 : Int64)))), .second, .unset, .unset, .val (.long (q2 &&& (281474976710655 : Int64))), .second, .unset, .unset, .unset] [(.long ((Int32.toInt64 (((p4.toUInt32 >>> ((1 : Int32) &&& 31).toUInt32).toInt32) % (3 : Int32))) - (1 : Int64)))])) _
    refine XS.lstore X0.here hx rfl (hb hby at_35) rfl (l' := #[.val (.long q1), .second, .val (.long q2), .second, .val (.long q3), .second, .val (.int p4), .val (.long ((65536 : Int64) + (q3 &&& (2305843009213693951 : Int64)))), .second, .unset, .unset, .val (.long (q2 &&& (281474976710655 : Int64))), .second, .val (.long ((Int32.toInt64 (((p4.toUInt32 >>> ((1 : Int32) &&& 31).toUInt32).toInt32) % (3 : Int32))) - (1 : Int64))), .second, .unset]) rfl ?_
    show Steps p.tables e below (s₁.setTop (mkF m 37 #[.val (.long q1), .second, .val (.long q2), .second, .val (.long q3), .second, .val (.int p4), .val (.long ((65536 : Int64) + (q3 &&& (2305843009213693951 : Int64)))), .second, .unset, .unset, .val (.long (q2 &&& (281474976710655 : Int64))), .second, .val (.long ((Int32.toInt64 (((p4.toUInt32 >>> ((1 : Int32) &&& 31).toUInt32).toInt32) % (3 : Int32))) - (1 : Int64))), .second, .unset] [])) _
    refine XS.lloadN X0.here hx rfl (hb hby at_37) rfl ?_
    show Steps p.tables e below (s₁.setTop (mkF m 38 #[.val (.long q1), .second, .val (.long q2), .second, .val (.long q3), .second, .val (.int p4), .val (.long ((65536 : Int64) + (q3 &&& (2305843009213693951 : Int64)))), .second, .unset, .unset, .val (.long (q2 &&& (281474976710655 : Int64))), .second, .val (.long ((Int32.toInt64 (((p4.toUInt32 >>> ((1 : Int32) &&& 31).toUInt32).toInt32) % (3 : Int32))) - (1 : Int64))), .second, .unset] [(.long q1)])) _
    refine XS.lload X0.here hx rfl (hb hby at_38) rfl ?_
    show Steps p.tables e below (s₁.setTop (mkF m 40 #[.val (.long q1), .second, .val (.long q2), .second, .val (.long q3), .second, .val (.int p4), .val (.long ((65536 : Int64) + (q3 &&& (2305843009213693951 : Int64)))), .second, .unset, .unset, .val (.long (q2 &&& (281474976710655 : Int64))), .second, .val (.long ((Int32.toInt64 (((p4.toUInt32 >>> ((1 : Int32) &&& 31).toUInt32).toInt32) % (3 : Int32))) - (1 : Int64))), .second, .unset] [(.long (q2 &&& (281474976710655 : Int64))), (.long q1)])) _
    refine XS.lload X0.here hx rfl (hb hby at_40) rfl ?_
    show Steps p.tables e below (s₁.setTop (mkF m 42 #[.val (.long q1), .second, .val (.long q2), .second, .val (.long q3), .second, .val (.int p4), .val (.long ((65536 : Int64) + (q3 &&& (2305843009213693951 : Int64)))), .second, .unset, .unset, .val (.long (q2 &&& (281474976710655 : Int64))), .second, .val (.long ((Int32.toInt64 (((p4.toUInt32 >>> ((1 : Int32) &&& 31).toUInt32).toInt32) % (3 : Int32))) - (1 : Int64))), .second, .unset] [(.long ((65536 : Int64) + (q3 &&& (2305843009213693951 : Int64)))), (.long (q2 &&& (281474976710655 : Int64))), (.long q1)])) _
    refine XS.lmul X0.here hx rfl (hb hby at_42) rfl ?_
    show Steps p.tables e below (s₁.setTop (mkF m 43 #[.val (.long q1), .second, .val (.long q2), .second, .val (.long q3), .second, .val (.int p4), .val (.long ((65536 : Int64) + (q3 &&& (2305843009213693951 : Int64)))), .second, .unset, .unset, .val (.long (q2 &&& (281474976710655 : Int64))), .second, .val (.long ((Int32.toInt64 (((p4.toUInt32 >>> ((1 : Int32) &&& 31).toUInt32).toInt32) % (3 : Int32))) - (1 : Int64))), .second, .unset] [(.long ((q2 &&& (281474976710655 : Int64)) * ((65536 : Int64) + (q3 &&& (2305843009213693951 : Int64))))), (.long q1)])) _
    refine XS.ladd X0.here hx rfl (hb hby at_43) rfl ?_
    show Steps p.tables e below (s₁.setTop (mkF m 44 #[.val (.long q1), .second, .val (.long q2), .second, .val (.long q3), .second, .val (.int p4), .val (.long ((65536 : Int64) + (q3 &&& (2305843009213693951 : Int64)))), .second, .unset, .unset, .val (.long (q2 &&& (281474976710655 : Int64))), .second, .val (.long ((Int32.toInt64 (((p4.toUInt32 >>> ((1 : Int32) &&& 31).toUInt32).toInt32) % (3 : Int32))) - (1 : Int64))), .second, .unset] [(.long (q1 + ((q2 &&& (281474976710655 : Int64)) * ((65536 : Int64) + (q3 &&& (2305843009213693951 : Int64))))))])) _
    refine XS.lload X0.here hx rfl (hb hby at_44) rfl ?_
    show Steps p.tables e below (s₁.setTop (mkF m 46 #[.val (.long q1), .second, .val (.long q2), .second, .val (.long q3), .second, .val (.int p4), .val (.long ((65536 : Int64) + (q3 &&& (2305843009213693951 : Int64)))), .second, .unset, .unset, .val (.long (q2 &&& (281474976710655 : Int64))), .second, .val (.long ((Int32.toInt64 (((p4.toUInt32 >>> ((1 : Int32) &&& 31).toUInt32).toInt32) % (3 : Int32))) - (1 : Int64))), .second, .unset] [(.long ((Int32.toInt64 (((p4.toUInt32 >>> ((1 : Int32) &&& 31).toUInt32).toInt32) % (3 : Int32))) - (1 : Int64))), (.long (q1 + ((q2 &&& (281474976710655 : Int64)) * ((65536 : Int64) + (q3 &&& (2305843009213693951 : Int64))))))])) _
    refine XS.ladd X0.here hx rfl (hb hby at_46) rfl ?_
    show Steps p.tables e below (s₁.setTop (mkF m 47 #[.val (.long q1), .second, .val (.long q2), .second, .val (.long q3), .second, .val (.int p4), .val (.long ((65536 : Int64) + (q3 &&& (2305843009213693951 : Int64)))), .second, .unset, .unset, .val (.long (q2 &&& (281474976710655 : Int64))), .second, .val (.long ((Int32.toInt64 (((p4.toUInt32 >>> ((1 : Int32) &&& 31).toUInt32).toInt32) % (3 : Int32))) - (1 : Int64))), .second, .unset] [(.long ((q1 + ((q2 &&& (281474976710655 : Int64)) * ((65536 : Int64) + (q3 &&& (2305843009213693951 : Int64))))) + ((Int32.toInt64 (((p4.toUInt32 >>> ((1 : Int32) &&& 31).toUInt32).toInt32) % (3 : Int32))) - (1 : Int64))))])) _
    refine XS.lstore X0.here hx rfl (hb hby at_47) rfl (l' := #[.val (.long q1), .second, .val (.long q2), .second, .val (.long q3), .second, .val (.int p4), .val (.long ((65536 : Int64) + (q3 &&& (2305843009213693951 : Int64)))), .second, .val (.long ((q1 + ((q2 &&& (281474976710655 : Int64)) * ((65536 : Int64) + (q3 &&& (2305843009213693951 : Int64))))) + ((Int32.toInt64 (((p4.toUInt32 >>> ((1 : Int32) &&& 31).toUInt32).toInt32) % (3 : Int32))) - (1 : Int64)))), .second, .val (.long (q2 &&& (281474976710655 : Int64))), .second, .val (.long ((Int32.toInt64 (((p4.toUInt32 >>> ((1 : Int32) &&& 31).toUInt32).toInt32) % (3 : Int32))) - (1 : Int64))), .second, .unset]) rfl ?_
    show Steps p.tables e below (s₁.setTop (mkF m 49 #[.val (.long q1), .second, .val (.long q2), .second, .val (.long q3), .second, .val (.int p4), .val (.long ((65536 : Int64) + (q3 &&& (2305843009213693951 : Int64)))), .second, .val (.long ((q1 + ((q2 &&& (281474976710655 : Int64)) * ((65536 : Int64) + (q3 &&& (2305843009213693951 : Int64))))) + ((Int32.toInt64 (((p4.toUInt32 >>> ((1 : Int32) &&& 31).toUInt32).toInt32) % (3 : Int32))) - (1 : Int64)))), .second, .val (.long (q2 &&& (281474976710655 : Int64))), .second, .val (.long ((Int32.toInt64 (((p4.toUInt32 >>> ((1 : Int32) &&& 31).toUInt32).toInt32) % (3 : Int32))) - (1 : Int64))), .second, .unset] [])) _
    refine XS.goto X0.here hx rfl (pc0 := 49) (pc' := 55) rfl (hb hby at_49) (by decide) (by decide) ?_
    show Steps p.tables e below (s₁.setTop (mkF m 55 #[.val (.long q1), .second, .val (.long q2), .second, .val (.long q3), .second, .val (.int p4), .val (.long ((65536 : Int64) + (q3 &&& (2305843009213693951 : Int64)))), .second, .val (.long ((q1 + ((q2 &&& (281474976710655 : Int64)) * ((65536 : Int64) + (q3 &&& (2305843009213693951 : Int64))))) + ((Int32.toInt64 (((p4.toUInt32 >>> ((1 : Int32) &&& 31).toUInt32).toInt32) % (3 : Int32))) - (1 : Int64)))), .second, .val (.long (q2 &&& (281474976710655 : Int64))), .second, .val (.long ((Int32.toInt64 (((p4.toUInt32 >>> ((1 : Int32) &&& 31).toUInt32).toInt32) % (3 : Int32))) - (1 : Int64))), .second, .unset] [])) _
    refine st1 _ ?_
    show Steps p.tables e below (T1.setTop (mkF m 58 #[.val (.long q1), .second, .val (.long q2), .second, .val (.long q3), .second, .val (.int p4), .val (.long ((65536 : Int64) + (q3 &&& (2305843009213693951 : Int64)))), .second, .val (.long ((q1 + ((q2 &&& (281474976710655 : Int64)) * ((65536 : Int64) + (q3 &&& (2305843009213693951 : Int64))))) + ((Int32.toInt64 (((p4.toUInt32 >>> ((1 : Int32) &&& 31).toUInt32).toInt32) % (3 : Int32))) - (1 : Int64)))), .second, .val (.long (q2 &&& (281474976710655 : Int64))), .second, .val (.long ((Int32.toInt64 (((p4.toUInt32 >>> ((1 : Int32) &&& 31).toUInt32).toInt32) % (3 : Int32))) - (1 : Int64))), .second, .unset] [(.ref b1)])) _
    refine XS.dup X1.here hx rfl (hb hby at_58) rfl rfl ?_
    show Steps p.tables e below (T1.setTop (mkF m 59 #[.val (.long q1), .second, .val (.long q2), .second, .val (.long q3), .second, .val (.int p4), .val (.long ((65536 : Int64) + (q3 &&& (2305843009213693951 : Int64)))), .second, .val (.long ((q1 + ((q2 &&& (281474976710655 : Int64)) * ((65536 : Int64) + (q3 &&& (2305843009213693951 : Int64))))) + ((Int32.toInt64 (((p4.toUInt32 >>> ((1 : Int32) &&& 31).toUInt32).toInt32) % (3 : Int32))) - (1 : Int64)))), .second, .val (.long (q2 &&& (281474976710655 : Int64))), .second, .val (.long ((Int32.toInt64 (((p4.toUInt32 >>> ((1 : Int32) &&& 31).toUInt32).toInt32) % (3 : Int32))) - (1 : Int64))), .second, .unset] [(.ref b1), (.ref b1)])) _
    refine XS.lloadN X1.here hx rfl (hb hby at_59) rfl ?_
    show Steps p.tables e below (T1.setTop (mkF m 60 #[.val (.long q1), .second, .val (.long q2), .second, .val (.long q3), .second, .val (.int p4), .val (.long ((65536 : Int64) + (q3 &&& (2305843009213693951 : Int64)))), .second, .val (.long ((q1 + ((q2 &&& (281474976710655 : Int64)) * ((65536 : Int64) + (q3 &&& (2305843009213693951 : Int64))))) + ((Int32.toInt64 (((p4.toUInt32 >>> ((1 : Int32) &&& 31).toUInt32).toInt32) % (3 : Int32))) - (1 : Int64)))), .second, .val (.long (q2 &&& (281474976710655 : Int64))), .second, .val (.long ((Int32.toInt64 (((p4.toUInt32 >>> ((1 : Int32) &&& 31).toUInt32).toInt32) % (3 : Int32))) - (1 : Int64))), .second, .unset] [(.long q1), (.ref b1), (.ref b1)])) _
    refine XS.lload X1.here hx rfl (hb hby at_60) rfl ?_
    show Steps p.tables e below (T1.setTop (mkF m 62 #[.val (.long q1), .second, .val (.long q2), .second, .val (.long q3), .second, .val (.int p4), .val (.long ((65536 : Int64) + (q3 &&& (2305843009213693951 : Int64)))), .second, .val (.long ((q1 + ((q2 &&& (281474976710655 : Int64)) * ((65536 : Int64) + (q3 &&& (2305843009213693951 : Int64))))) + ((Int32.toInt64 (((p4.toUInt32 >>> ((1 : Int32) &&& 31).toUInt32).toInt32) % (3 : Int32))) - (1 : Int64)))), .second, .val (.long (q2 &&& (281474976710655 : Int64))), .second, .val (.long ((Int32.toInt64 (((p4.toUInt32 >>> ((1 : Int32) &&& 31).toUInt32).toInt32) % (3 : Int32))) - (1 : Int64))), .second, .unset] [(.long ((65536 : Int64) + (q3 &&& (2305843009213693951 : Int64)))), (.long q1), (.ref b1), (.ref b1)])) _
    refine st3.trans ?_
    show Steps p.tables e below (T3.setTop (mkF m 65 #[.val (.long q1), .second, .val (.long q2), .second, .val (.long q3), .second, .val (.int p4), .val (.long ((65536 : Int64) + (q3 &&& (2305843009213693951 : Int64)))), .second, .val (.long ((q1 + ((q2 &&& (281474976710655 : Int64)) * ((65536 : Int64) + (q3 &&& (2305843009213693951 : Int64))))) + ((Int32.toInt64 (((p4.toUInt32 >>> ((1 : Int32) &&& 31).toUInt32).toInt32) % (3 : Int32))) - (1 : Int64)))), .second, .val (.long (q2 &&& (281474976710655 : Int64))), .second, .val (.long ((Int32.toInt64 (((p4.toUInt32 >>> ((1 : Int32) &&& 31).toUInt32).toInt32) % (3 : Int32))) - (1 : Int64))), .second, .unset] [(.ref b1)])) _
    refine XS.astore X3.here hx rfl (hb hby at_65) rfl rfl (l' := #[.val (.long q1), .second, .val (.long q2), .second, .val (.long q3), .second, .val (.int p4), .val (.long ((65536 : Int64) + (q3 &&& (2305843009213693951 : Int64)))), .second, .val (.long ((q1 + ((q2 &&& (281474976710655 : Int64)) * ((65536 : Int64) + (q3 &&& (2305843009213693951 : Int64))))) + ((Int32.toInt64 (((p4.toUInt32 >>> ((1 : Int32) &&& 31).toUInt32).toInt32) % (3 : Int32))) - (1 : Int64)))), .second, .val (.ref b1), .unset, .val (.long ((Int32.toInt64 (((p4.toUInt32 >>> ((1 : Int32) &&& 31).toUInt32).toInt32) % (3 : Int32))) - (1 : Int64))), .second, .unset]) rfl ?_
    show Steps p.tables e below (T3.setTop (mkF m 67 #[.val (.long q1), .second, .val (.long q2), .second, .val (.long q3), .second, .val (.int p4), .val (.long ((65536 : Int64) + (q3 &&& (2305843009213693951 : Int64)))), .second, .val (.long ((q1 + ((q2 &&& (281474976710655 : Int64)) * ((65536 : Int64) + (q3 &&& (2305843009213693951 : Int64))))) + ((Int32.toInt64 (((p4.toUInt32 >>> ((1 : Int32) &&& 31).toUInt32).toInt32) % (3 : Int32))) - (1 : Int64)))), .second, .val (.ref b1), .unset, .val (.long ((Int32.toInt64 (((p4.toUInt32 >>> ((1 : Int32) &&& 31).toUInt32).toInt32) % (3 : Int32))) - (1 : Int64))), .second, .unset] [])) _
    refine XS.aload X3.here hx rfl (hb hby at_67) rfl rfl ?_
    show Steps p.tables e below (T3.setTop (mkF m 69 #[.val (.long q1), .second, .val (.long q2), .second, .val (.long q3), .second, .val (.int p4), .val (.long ((65536 : Int64) + (q3 &&& (2305843009213693951 : Int64)))), .second, .val (.long ((q1 + ((q2 &&& (281474976710655 : Int64)) * ((65536 : Int64) + (q3 &&& (2305843009213693951 : Int64))))) + ((Int32.toInt64 (((p4.toUInt32 >>> ((1 : Int32) &&& 31).toUInt32).toInt32) % (3 : Int32))) - (1 : Int64)))), .second, .val (.ref b1), .unset, .val (.long ((Int32.toInt64 (((p4.toUInt32 >>> ((1 : Int32) &&& 31).toUInt32).toInt32) % (3 : Int32))) - (1 : Int64))), .second, .unset] [(.ref b1)])) _
    refine XS.lload X3.here hx rfl (hb hby at_69) rfl ?_
    show Steps p.tables e below (T3.setTop (mkF m 71 #[.val (.long q1), .second, .val (.long q2), .second, .val (.long q3), .second, .val (.int p4), .val (.long ((65536 : Int64) + (q3 &&& (2305843009213693951 : Int64)))), .second, .val (.long ((q1 + ((q2 &&& (281474976710655 : Int64)) * ((65536 : Int64) + (q3 &&& (2305843009213693951 : Int64))))) + ((Int32.toInt64 (((p4.toUInt32 >>> ((1 : Int32) &&& 31).toUInt32).toInt32) % (3 : Int32))) - (1 : Int64)))), .second, .val (.ref b1), .unset, .val (.long ((Int32.toInt64 (((p4.toUInt32 >>> ((1 : Int32) &&& 31).toUInt32).toInt32) % (3 : Int32))) - (1 : Int64))), .second, .unset] [(.long ((q1 + ((q2 &&& (281474976710655 : Int64)) * ((65536 : Int64) + (q3 &&& (2305843009213693951 : Int64))))) + ((Int32.toInt64 (((p4.toUInt32 >>> ((1 : Int32) &&& 31).toUInt32).toInt32) % (3 : Int32))) - (1 : Int64)))), (.ref b1)])) _
    refine st4.trans ?_
    show Steps p.tables e below (T4.setTop (mkF m 74 #[.val (.long q1), .second, .val (.long q2), .second, .val (.long q3), .second, .val (.int p4), .val (.long ((65536 : Int64) + (q3 &&& (2305843009213693951 : Int64)))), .second, .val (.long ((q1 + ((q2 &&& (281474976710655 : Int64)) * ((65536 : Int64) + (q3 &&& (2305843009213693951 : Int64))))) + ((Int32.toInt64 (((p4.toUInt32 >>> ((1 : Int32) &&& 31).toUInt32).toInt32) % (3 : Int32))) - (1 : Int64)))), .second, .val (.ref b1), .unset, .val (.long ((Int32.toInt64 (((p4.toUInt32 >>> ((1 : Int32) &&& 31).toUInt32).toInt32) % (3 : Int32))) - (1 : Int64))), .second, .unset] [(.long (0 : Int64))])) _
    refine XS.lstore X4.here hx rfl (hb hby at_74) rfl (l' := #[.val (.long q1), .second, .val (.long q2), .second, .val (.long q3), .second, .val (.int p4), .val (.long ((65536 : Int64) + (q3 &&& (2305843009213693951 : Int64)))), .second, .val (.long ((q1 + ((q2 &&& (281474976710655 : Int64)) * ((65536 : Int64) + (q3 &&& (2305843009213693951 : Int64))))) + ((Int32.toInt64 (((p4.toUInt32 >>> ((1 : Int32) &&& 31).toUInt32).toInt32) % (3 : Int32))) - (1 : Int64)))), .second, .val (.ref b1), .val (.long (0 : Int64)), .second, .unset, .unset]) rfl ?_
    show Steps p.tables e below (T4.setTop (mkF m 76 #[.val (.long q1), .second, .val (.long q2), .second, .val (.long q3), .second, .val (.int p4), .val (.long ((65536 : Int64) + (q3 &&& (2305843009213693951 : Int64)))), .second, .val (.long ((q1 + ((q2 &&& (281474976710655 : Int64)) * ((65536 : Int64) + (q3 &&& (2305843009213693951 : Int64))))) + ((Int32.toInt64 (((p4.toUInt32 >>> ((1 : Int32) &&& 31).toUInt32).toInt32) % (3 : Int32))) - (1 : Int64)))), .second, .val (.ref b1), .val (.long (0 : Int64)), .second, .unset, .unset] [])) _
    refine XS.lload X4.here hx rfl (hb hby at_76) rfl ?_
    show Steps p.tables e below (T4.setTop (mkF m 78 #[.val (.long q1), .second, .val (.long q2), .second, .val (.long q3), .second, .val (.int p4), .val (.long ((65536 : Int64) + (q3 &&& (2305843009213693951 : Int64)))), .second, .val (.long ((q1 + ((q2 &&& (281474976710655 : Int64)) * ((65536 : Int64) + (q3 &&& (2305843009213693951 : Int64))))) + ((Int32.toInt64 (((p4.toUInt32 >>> ((1 : Int32) &&& 31).toUInt32).toInt32) % (3 : Int32))) - (1 : Int64)))), .second, .val (.ref b1), .val (.long (0 : Int64)), .second, .unset, .unset] [(.long ((q1 + ((q2 &&& (281474976710655 : Int64)) * ((65536 : Int64) + (q3 &&& (2305843009213693951 : Int64))))) + ((Int32.toInt64 (((p4.toUInt32 >>> ((1 : Int32) &&& 31).toUInt32).toInt32) % (3 : Int32))) - (1 : Int64))))])) _
    refine XS.lloadN X4.here hx rfl (hb hby at_78) rfl ?_
    show Steps p.tables e below (T4.setTop (mkF m 79 #[.val (.long q1), .second, .val (.long q2), .second, .val (.long q3), .second, .val (.int p4), .val (.long ((65536 : Int64) + (q3 &&& (2305843009213693951 : Int64)))), .second, .val (.long ((q1 + ((q2 &&& (281474976710655 : Int64)) * ((65536 : Int64) + (q3 &&& (2305843009213693951 : Int64))))) + ((Int32.toInt64 (((p4.toUInt32 >>> ((1 : Int32) &&& 31).toUInt32).toInt32) % (3 : Int32))) - (1 : Int64)))), .second, .val (.ref b1), .val (.long (0 : Int64)), .second, .unset, .unset] [(.long q1), (.long ((q1 + ((q2 &&& (281474976710655 : Int64)) * ((65536 : Int64) + (q3 &&& (2305843009213693951 : Int64))))) + ((Int32.toInt64 (((p4.toUInt32 >>> ((1 : Int32) &&& 31).toUInt32).toInt32) % (3 : Int32))) - (1 : Int64))))])) _
    refine XS.lcmp X4.here hx rfl (hb hby at_79) rfl ?_
    show Steps p.tables e below (T4.setTop (mkF m 80 #[.val (.long q1), .second, .val (.long q2), .second, .val (.long q3), .second, .val (.int p4), .val (.long ((65536 : Int64) + (q3 &&& (2305843009213693951 : Int64)))), .second, .val (.long ((q1 + ((q2 &&& (281474976710655 : Int64)) * ((65536 : Int64) + (q3 &&& (2305843009213693951 : Int64))))) + ((Int32.toInt64 (((p4.toUInt32 >>> ((1 : Int32) &&& 31).toUInt32).toInt32) % (3 : Int32))) - (1 : Int64)))), .second, .val (.ref b1), .val (.long (0 : Int64)), .second, .unset, .unset] [(.int (lcmpW ((q1 + ((q2 &&& (281474976710655 : Int64)) * ((65536 : Int64) + (q3 &&& (2305843009213693951 : Int64))))) + ((Int32.toInt64 (((p4.toUInt32 >>> ((1 : Int32) &&& 31).toUInt32).toInt32) % (3 : Int32))) - (1 : Int64))) q1))])) _
    refine XS.ifNo X4.here hx rfl (hb hby at_80) rfl ((if0 _ _).trans (flt hc).2.2.1) ?_
    show Steps p.tables e below (T4.setTop (mkF m 83 #[.val (.long q1), .second, .val (.long q2), .second, .val (.long q3), .second, .val (.int p4), .val (.long ((65536 : Int64) + (q3 &&& (2305843009213693951 : Int64)))), .second, .val (.long ((q1 + ((q2 &&& (281474976710655 : Int64)) * ((65536 : Int64) + (q3 &&& (2305843009213693951 : Int64))))) + ((Int32.toInt64 (((p4.toUInt32 >>> ((1 : Int32) &&& 31).toUInt32).toInt32) % (3 : Int32))) - (1 : Int64)))), .second, .val (.ref b1), .val (.long (0 : Int64)), .second, .unset, .unset] [])) _
    refine XS.lconst X4.here hx rfl (hb hby at_83) ?_
    show Steps p.tables e below (T4.setTop (mkF m 84 #[.val (.long q1), .second, .val (.long q2), .second, .val (.long q3), .second, .val (.int p4), .val (.long ((65536 : Int64) + (q3 &&& (2305843009213693951 : Int64)))), .second, .val (.long ((q1 + ((q2 &&& (281474976710655 : Int64)) * ((65536 : Int64) + (q3 &&& (2305843009213693951 : Int64))))) + ((Int32.toInt64 (((p4.toUInt32 >>> ((1 : Int32) &&& 31).toUInt32).toInt32) % (3 : Int32))) - (1 : Int64)))), .second, .val (.ref b1), .val (.long (0 : Int64)), .second, .unset, .unset] [(.long (0 : Int64))])) _
    refine XS.lstore X4.here hx rfl (hb hby at_84) rfl (l' := #[.val (.long q1), .second, .val (.long q2), .second, .val (.long q3), .second, .val (.int p4), .val (.long ((65536 : Int64) + (q3 &&& (2305843009213693951 : Int64)))), .second, .val (.long ((q1 + ((q2 &&& (281474976710655 : Int64)) * ((65536 : Int64) + (q3 &&& (2305843009213693951 : Int64))))) + ((Int32.toInt64 (((p4.toUInt32 >>> ((1 : Int32) &&& 31).toUInt32).toInt32) % (3 : Int32))) - (1 : Int64)))), .second, .val (.ref b1), .val (.long (0 : Int64)), .second, .val (.long (0 : Int64)), .second]) rfl ?_
    show Steps p.tables e below (T4.setTop (mkF m 86 #[.val (.long q1), .second, .val (.long q2), .second, .val (.long q3), .second, .val (.int p4), .val (.long ((65536 : Int64) + (q3 &&& (2305843009213693951 : Int64)))), .second, .val (.long ((q1 + ((q2 &&& (281474976710655 : Int64)) * ((65536 : Int64) + (q3 &&& (2305843009213693951 : Int64))))) + ((Int32.toInt64 (((p4.toUInt32 >>> ((1 : Int32) &&& 31).toUInt32).toInt32) % (3 : Int32))) - (1 : Int64)))), .second, .val (.ref b1), .val (.long (0 : Int64)), .second, .val (.long (0 : Int64)), .second] [])) _
    refine XS.goto X4.here hx rfl (pc0 := 86) (pc' := 104) rfl (hb hby at_86) (by decide) (by decide) ?_
    show Steps p.tables e below (T4.setTop (mkF m 104 #[.val (.long q1), .second, .val (.long q2), .second, .val (.long q3), .second, .val (.int p4), .val (.long ((65536 : Int64) + (q3 &&& (2305843009213693951 : Int64)))), .second, .val (.long ((q1 + ((q2 &&& (281474976710655 : Int64)) * ((65536 : Int64) + (q3 &&& (2305843009213693951 : Int64))))) + ((Int32.toInt64 (((p4.toUInt32 >>> ((1 : Int32) &&& 31).toUInt32).toInt32) % (3 : Int32))) - (1 : Int64)))), .second, .val (.ref b1), .val (.long (0 : Int64)), .second, .val (.long (0 : Int64)), .second] [])) _
    refine XS.lload X4.here hx rfl (hb hby at_104) rfl ?_
    show Steps p.tables e below (T4.setTop (mkF m 106 #[.val (.long q1), .second, .val (.long q2), .second, .val (.long q3), .second, .val (.int p4), .val (.long ((65536 : Int64) + (q3 &&& (2305843009213693951 : Int64)))), .second, .val (.long ((q1 + ((q2 &&& (281474976710655 : Int64)) * ((65536 : Int64) + (q3 &&& (2305843009213693951 : Int64))))) + ((Int32.toInt64 (((p4.toUInt32 >>> ((1 : Int32) &&& 31).toUInt32).toInt32) % (3 : Int32))) - (1 : Int64)))), .second, .val (.ref b1), .val (.long (0 : Int64)), .second, .val (.long (0 : Int64)), .second] [(.long (0 : Int64))])) _
    refine XS.lload X4.here hx rfl (hb hby at_106) rfl ?_
    show Steps p.tables e below (T4.setTop (mkF m 108 #[.val (.long q1), .second, .val (.long q2), .second, .val (.long q3), .second, .val (.int p4), .val (.long ((65536 : Int64) + (q3 &&& (2305843009213693951 : Int64)))), .second, .val (.long ((q1 + ((q2 &&& (281474976710655 : Int64)) * ((65536 : Int64) + (q3 &&& (2305843009213693951 : Int64))))) + ((Int32.toInt64 (((p4.toUInt32 >>> ((1 : Int32) &&& 31).toUInt32).toInt32) % (3 : Int32))) - (1 : Int64)))), .second, .val (.ref b1), .val (.long (0 : Int64)), .second, .val (.long (0 : Int64)), .second] [(.long (0 : Int64)), (.long (0 : Int64))])) _
    refine XS.lcmp X4.here hx rfl (hb hby at_108) rfl ?_
    show Steps p.tables e below (T4.setTop (mkF m 109 #[.val (.long q1), .second, .val (.long q2), .second, .val (.long q3), .second, .val (.int p4), .val (.long ((65536 : Int64) + (q3 &&& (2305843009213693951 : Int64)))), .second, .val (.long ((q1 + ((q2 &&& (281474976710655 : Int64)) * ((65536 : Int64) + (q3 &&& (2305843009213693951 : Int64))))) + ((Int32.toInt64 (((p4.toUInt32 >>> ((1 : Int32) &&& 31).toUInt32).toInt32) % (3 : Int32))) - (1 : Int64)))), .second, .val (.ref b1), .val (.long (0 : Int64)), .second, .val (.long (0 : Int64)), .second] [(.int (lcmpW (0 : Int64) (0 : Int64)))])) _
    refine XS.ifNo X4.here hx rfl (hb hby at_109) rfl ((if0 _ _).trans (teq ((lcW _ _).trans ((lc_eq _ _).mpr rfl))).2) ?_
    show Steps p.tables e below (T4.setTop (mkF m 112 #[.val (.long q1), .second, .val (.long q2), .second, .val (.long q3), .second, .val (.int p4), .val (.long ((65536 : Int64) + (q3 &&& (2305843009213693951 : Int64)))), .second, .val (.long ((q1 + ((q2 &&& (281474976710655 : Int64)) * ((65536 : Int64) + (q3 &&& (2305843009213693951 : Int64))))) + ((Int32.toInt64 (((p4.toUInt32 >>> ((1 : Int32) &&& 31).toUInt32).toInt32) % (3 : Int32))) - (1 : Int64)))), .second, .val (.ref b1), .val (.long (0 : Int64)), .second, .val (.long (0 : Int64)), .second] [])) _
    refine XS.iconst X4.here hx rfl (hb hby at_112) ?_
    show Steps p.tables e below (T4.setTop (mkF m 113 #[.val (.long q1), .second, .val (.long q2), .second, .val (.long q3), .second, .val (.int p4), .val (.long ((65536 : Int64) + (q3 &&& (2305843009213693951 : Int64)))), .second, .val (.long ((q1 + ((q2 &&& (281474976710655 : Int64)) * ((65536 : Int64) + (q3 &&& (2305843009213693951 : Int64))))) + ((Int32.toInt64 (((p4.toUInt32 >>> ((1 : Int32) &&& 31).toUInt32).toInt32) % (3 : Int32))) - (1 : Int64)))), .second, .val (.ref b1), .val (.long (0 : Int64)), .second, .val (.long (0 : Int64)), .second] [(.int (1 : Int32))])) _
    refine XS.goto X4.here hx rfl (pc0 := 113) (pc' := 117) rfl (hb hby at_113) (by decide) (by decide) ?_
    show Steps p.tables e below (T4.setTop (mkF m 117 #[.val (.long q1), .second, .val (.long q2), .second, .val (.long q3), .second, .val (.int p4), .val (.long ((65536 : Int64) + (q3 &&& (2305843009213693951 : Int64)))), .second, .val (.long ((q1 + ((q2 &&& (281474976710655 : Int64)) * ((65536 : Int64) + (q3 &&& (2305843009213693951 : Int64))))) + ((Int32.toInt64 (((p4.toUInt32 >>> ((1 : Int32) &&& 31).toUInt32).toInt32) % (3 : Int32))) - (1 : Int64)))), .second, .val (.ref b1), .val (.long (0 : Int64)), .second, .val (.long (0 : Int64)), .second] [(.int (1 : Int32))])) _
    exact retN X4 hx (t := .boolean) Bd.returns (by simp) (hb hby at_117) hr
  · show Q0 n0 _ _
    exact ⟨rfl, N4⟩
set_option maxRecDepth 65536 in
set_option maxHeartbeats 40000000 in
theorem rm0_11 (l : Launch) (Z : State) (a0 : Array Value) (hw : ∀ d ∈ tables_1, d.before a0 Z = true) (ws : List Jvm.Cond) (q1 q2 q3 : Int64) (p4 : Int32) (r : UInt64) (t : Int64) (h0 : Heap) (n0 : Nat) (Z0 : n0 ≤ h0.size) (hm : ¬ (p4 &&& (1 : Int32) = (0 : Int32))) (hd : ¬ (lcmpW ((65536 : Int64) + (q3 &&& (2305843009213693951 : Int64))) (0 : Int64) < 0)) (hz : ((65536 : Int64) + (q3 &&& (2305843009213693951 : Int64))) ≠ 0) (hn : NoNaN64 (FP.ddiv FP.dconst1 (FP.l2d ((65536 : Int64) + (q3 &&& (2305843009213693951 : Int64)))))) (hv : FP.ddiv FP.dconst1 (FP.l2d ((65536 : Int64) + (q3 &&& (2305843009213693951 : Int64)))) = r) (hc : 0 < lcmpW ((q1 + ((q2 &&& (281474976710655 : Int64)) * ((65536 : Int64) + (q3 &&& (2305843009213693951 : Int64))))) + ((Int32.toInt64 (((p4.toUInt32 >>> ((1 : Int32) &&& 31).toUInt32).toInt32) % (3 : Int32))) - (1 : Int64))) q1) (ok : own_okT ((((q1 + ((q2 &&& (281474976710655 : Int64)) * ((65536 : Int64) + (q3 &&& (2305843009213693951 : Int64))))) + ((Int32.toInt64 (((p4.toUInt32 >>> ((1 : Int32) &&& 31).toUInt32).toInt32) % (3 : Int32))) - (1 : Int64))) - q1) - (1 : Int64)) r t) (heq : (own_fix ((((q1 + ((q2 &&& (281474976710655 : Int64)) * ((65536 : Int64) + (q3 &&& (2305843009213693951 : Int64))))) + ((Int32.toInt64 (((p4.toUInt32 >>> ((1 : Int32) &&& 31).toUInt32).toInt32) % (3 : Int32))) - (1 : Int64))) - q1) - (1 : Int64)) ((65536 : Int64) + (q3 &&& (2305843009213693951 : Int64))) t) + (1 : Int64) = (own_udiv ((((q1 + ((q2 &&& (281474976710655 : Int64)) * ((65536 : Int64) + (q3 &&& (2305843009213693951 : Int64))))) + ((Int32.toInt64 (((p4.toUInt32 >>> ((1 : Int32) &&& 31).toUInt32).toInt32) % (3 : Int32))) - (1 : Int64))) - q1) - (1 : Int64)) ((65536 : Int64) + (q3 &&& (2305843009213693951 : Int64)))) + (1 : Int64)) :
    MetFree l x (head1 (Jvm.Cond.code x code maxLocals ret :: ws) room_1) (fun a U => a = #[(.long q1), (.long q2), (.long q3), (.int p4)] ∧ Z.Warmed39 U.vm ∧ U.heap = h0) (fun _ _ _ _ _ => True) (fun _ U o U' => ∃ v L, o = .returned v ∧ Q0 n0 v L ∧ FrameEnd U o U' L 1 4) := by
  refine MetFree.of_bodySF (plainFor_of_name pn3) hisR ?_
  intro p e s m args below meth c s₁ Bd hml0 hP hK
  obtain ⟨rfl, hZ, hh⟩ := hP
  have hx := Bd.exec
  have hby := Bd.bytes
  have hml : c.maxLocals = 16 := hml0
  have hown : s.vm.findClass "com/example/tick60/tick60/TicksBoundaryOfPinLaw" = some m.cls := findClass_of_methodNamed Bd.named
  have hnm := (name_of_methodNamed Bd.named Bd.method).1
  have X0 : Stand p l e room_1 s m #[(.long q1), (.long q2), (.long q3), (.int p4)] below meth c s₁ [] 0 0 := Stand.of_body Bd
  have e0 : s₁.heap = h0 := by rw [← hh, Bd.state]; rfl
  have N0 := Fr.nil n0
  have pre0 : ∀ t, Steps p.tables e below (s₁.setTop (mkF m 0 #[.val (.long q1), .second, .val (.long q2), .second, .val (.long q3), .second, .val (.int p4), .unset, .unset, .unset, .unset, .unset, .unset, .unset, .unset, .unset] [])) t → Steps p.tables e below (s₁.setTop (entryFrame m #[(.long q1), (.long q2), (.long q3), (.int p4)] maxLocals)) t := fun t k => castTop (ef5 m q1 q2 q3 p4) k
  obtain ⟨T1, h1, X1, e1, E1, A1, D1, -, st1⟩ := newO X0 hx hZ hown (hw _ (List.mem_of_getElem? (i := 2) rfl)) (hw _ (List.mem_of_getElem? (i := 3) rfl)) (hw _ (List.mem_of_getElem? (i := 4) rfl)) e0 (g := (mkF m 55 #[.val (.long q1), .second, .val (.long q2), .second, .val (.long q3), .second, .val (.int p4), .val (.long ((65536 : Int64) + (q3 &&& (2305843009213693951 : Int64)))), .second, .val (.long ((q1 + ((q2 &&& (281474976710655 : Int64)) * ((65536 : Int64) + (q3 &&& (2305843009213693951 : Int64))))) + ((Int32.toInt64 (((p4.toUInt32 >>> ((1 : Int32) &&& 31).toUInt32).toInt32) % (3 : Int32))) - (1 : Int64)))), .second, .val (.long (q2 &&& (281474976710655 : Int64))), .second, .val (.long ((Int32.toInt64 (((p4.toUInt32 >>> ((1 : Int32) &&& 31).toUInt32).toInt32) % (3 : Int32))) - (1 : Int64))), .second, .unset] [])) rfl (hb hby at_55) (by decide) (by decide)
  obtain ⟨b1, g1⟩ : ∃ z, z = h0.size := ⟨_, rfl⟩
  rw [← g1] at A1 D1 st1
  have g_b1 : n0 ≤ b1 := Nat.le_trans Z0 (Nat.le_of_eq g1.symm)
  have sz_b1 : h0.size ≤ b1 := Nat.le_trans (Keep.refl h0 []).1 (Nat.le_of_eq g1.symm)
  have K2 : Keep h0 h1 [] := Keep.ext (Keep.refl h0 []) E1
  have Zc2 : n0 ≤ h1.size := Nat.le_trans Z0 E1.1
  have F1_start : Fld Z h1 b1 "com/example/tick60/tick60/Ticks" "start" "J" (.long (0 : Int64)) := D1 (Or.inr (hw _ (List.mem_of_getElem? (i := 12) rfl))) (ty := .long) (by decide)
  have F1_tickNanos : Fld Z h1 b1 "com/example/tick60/tick60/Ticks" "tickNanos" "J" (.long (0 : Int64)) := D1 (Or.inr (hw _ (List.mem_of_getElem? (i := 14) rfl))) (ty := .long) (by decide)
  have F1_ticksPerNano : Fld Z h1 b1 "com/example/tick60/tick60/Ticks" "ticksPerNano" "D" (.double 0) := D1 (Or.inr (hw _ (List.mem_of_getElem? (i := 16) rfl))) (ty := .double) (by decide)
  have F1_lastTick : Fld Z h1 b1 "com/example/tick60/tick60/Ticks" "lastTick" "J" (.long (0 : Int64)) := D1 (Or.inr (hw _ (List.mem_of_getElem? (i := 24) rfl))) (ty := .long) (by decide)
  obtain ⟨_, _, ⟨T3, L3, k3, n3⟩, -, X3, ⟨Lc3, hQ3, l3, y3, z3⟩, st3⟩ := X1.specialBack hx (y := (⟨"com/example/tick60/tick60/Ticks", "<init>", "(JJ)V"⟩ : MethodName)) rfl hown (mvT hZ (hw _ (List.mem_of_getElem? (i := 5) rfl))) (mvT hZ (hw _ (List.mem_of_getElem? (i := 6) rfl))) (mvT hZ (hw _ (List.mem_of_getElem? (i := 7) rfl))) (by decide) (backOf (W := 1) (rmI l Z a0 hw [] b1 q1 ((65536 : Int64) + (q3 &&& (2305843009213693951 : Int64))) r h1 n0 Zc2 F1_start F1_tickNanos F1_ticksPerNano F1_lastTick A1 g_b1 hd hz hn hv) hZ (hw _ (List.mem_of_getElem? (i := 7) rfl)) (hw _ (List.mem_of_getElem? (i := 4) rfl)) (by decide) (by decide)) (g := (mkF m 62 #[.val (.long q1), .second, .val (.long q2), .second, .val (.long q3), .second, .val (.int p4), .val (.long ((65536 : Int64) + (q3 &&& (2305843009213693951 : Int64)))), .second, .val (.long ((q1 + ((q2 &&& (281474976710655 : Int64)) * ((65536 : Int64) + (q3 &&& (2305843009213693951 : Int64))))) + ((Int32.toInt64 (((p4.toUInt32 >>> ((1 : Int32) &&& 31).toUInt32).toInt32) % (3 : Int32))) - (1 : Int64)))), .second, .val (.long (q2 &&& (281474976710655 : Int64))), .second, .val (.long ((Int32.toInt64 (((p4.toUInt32 >>> ((1 : Int32) &&& 31).toUInt32).toInt32) % (3 : Int32))) - (1 : Int64))), .second, .unset] [(.long ((65536 : Int64) + (q3 &&& (2305843009213693951 : Int64)))), (.long q1), (.ref b1), (.ref b1)])) rfl (by rw [hml]; rfl) (Steps.refl _) (a := b1) (argsL := [(.long q1), (.long ((65536 : Int64) + (q3 &&& (2305843009213693951 : Int64))))]) (rest := [(.ref b1)]) (lenOf pd3 rfl) rfl (by show 2 * 0 + _ ≤ _; exact Nat.le_of_eq rfl) (hb hby at_62) (fun _ _ => ⟨rfl, e1, (by decide : 1 + 0 ≤ _), (by decide : 4 + 0 ≤ _)⟩)
  dsimp only [Pt.U, Pt.locs, Pt.cells, Pt.slots] at X3 l3 y3 z3 st3 hQ3
  subst l3 y3 z3
  obtain ⟨rfl, Nc3, Kc3, fc3_0, fc3_1, fc3_2⟩ := hQ3
  have N3 := Fr.app N0 Nc3
  have K3 : Keep h0 T3.heap [] := Keep.trans K2 Kc3 (allS (Or.inr sz_b1) all0)
  have Zc3 : n0 ≤ T3.heap.size := Nat.le_trans Zc2 Kc3.1
  have f5 : Exa Z T3.heap b1 "com/example/tick60/tick60/Ticks" := (Exa.keep A1 Kc3)
  obtain ⟨cq4, kq4, qa4, qb4, qc4⟩ := isOf hZ rfl f5
  obtain ⟨_, _, ⟨T4, L4, k4, n4⟩, -, X4, ⟨Lc4, hQ4, l4, y4, z4⟩, st4⟩ := X3.virtualBack hx (y := (⟨"com/example/tick60/tick60/Ticks", "boundaryOf", "(J)J"⟩ : MethodName)) (z := (⟨"com/example/tick60/tick60/Ticks", "boundaryOf", "(J)J"⟩ : MethodName)) hown (mvT hZ (hw _ (List.mem_of_getElem? (i := 25) rfl))) (mvT hZ (hw _ (List.mem_of_getElem? (i := 26) rfl))) (notFace_of_selects (args := #[]) (mvT hZ (hw _ (List.mem_of_getElem? (i := 28) rfl)))) (mvT hZ (hw _ (List.mem_of_getElem? (i := 28) rfl))) (mvT hZ (hw _ (List.mem_of_getElem? (i := 27) rfl))) (by decide) (backOf (W := 0) (rmB_1 l Z a0 hw [] b1 q1 ((65536 : Int64) + (q3 &&& (2305843009213693951 : Int64))) ((q1 + ((q2 &&& (281474976710655 : Int64)) * ((65536 : Int64) + (q3 &&& (2305843009213693951 : Int64))))) + ((Int32.toInt64 (((p4.toUInt32 >>> ((1 : Int32) &&& 31).toUInt32).toInt32) % (3 : Int32))) - (1 : Int64))) r t T3.heap n0 Zc3 fc3_0 fc3_1 fc3_2 f5 hc ok) hZ (hw _ (List.mem_of_getElem? (i := 29) rfl)) (hw _ (List.mem_of_getElem? (i := 4) rfl)) (by decide) (by decide)) qa4 qc4 (g := (mkF m 71 #[.val (.long q1), .second, .val (.long q2), .second, .val (.long q3), .second, .val (.int p4), .val (.long ((65536 : Int64) + (q3 &&& (2305843009213693951 : Int64)))), .second, .val (.long ((q1 + ((q2 &&& (281474976710655 : Int64)) * ((65536 : Int64) + (q3 &&& (2305843009213693951 : Int64))))) + ((Int32.toInt64 (((p4.toUInt32 >>> ((1 : Int32) &&& 31).toUInt32).toInt32) % (3 : Int32))) - (1 : Int64)))), .second, .val (.ref b1), .unset, .val (.long ((Int32.toInt64 (((p4.toUInt32 >>> ((1 : Int32) &&& 31).toUInt32).toInt32) % (3 : Int32))) - (1 : Int64))), .second, .unset] [(.long ((q1 + ((q2 &&& (281474976710655 : Int64)) * ((65536 : Int64) + (q3 &&& (2305843009213693951 : Int64))))) + ((Int32.toInt64 (((p4.toUInt32 >>> ((1 : Int32) &&& 31).toUInt32).toInt32) % (3 : Int32))) - (1 : Int64)))), (.ref b1)])) rfl (by rw [hml]; rfl) (Steps.refl _) (argsL := [(.long ((q1 + ((q2 &&& (281474976710655 : Int64)) * ((65536 : Int64) + (q3 &&& (2305843009213693951 : Int64))))) + ((Int32.toInt64 (((p4.toUInt32 >>> ((1 : Int32) &&& 31).toUInt32).toInt32) % (3 : Int32))) - (1 : Int64))))]) (rest := []) (lenOf pd2 rfl) rfl (by show 2 * 0 + _ ≤ _; exact Nat.le_of_eq rfl) (hb hby at_71) (fun _ _ => ⟨rfl, rfl, (by decide : 1 + 0 ≤ _), (by decide : 4 + 0 ≤ _)⟩)
  dsimp only [Pt.U, Pt.locs, Pt.cells, Pt.slots] at X4 l4 y4 z4 st4 hQ4
  subst l4 y4 z4
  obtain ⟨rfl, Nc4, ec4⟩ := hQ4
  have N4 := Fr.app N3 Nc4
  obtain ⟨_, _, ⟨T6, L6, k6, n6⟩, -, X6, ⟨Lc6, hQ6, l6, y6, z6⟩, st6⟩ := Jvm.LawKit.callS X4 hx (y := (⟨"com/example/tick60/tick60/TicksBoundaryOfPinLaw", "udiv", "(JJ)J"⟩ : MethodName)) hown (mvT hZ (hw _ (List.mem_of_getElem? (i := 34) rfl))) (mvT hZ (hw _ (List.mem_of_getElem? (i := 35) rfl))) (mvT hZ (hw _ (List.mem_of_getElem? (i := 36) rfl))) (mvT hZ (hw _ (List.mem_of_getElem? (i := 37) rfl))) (by decide) (backOf (W := 0) (rmU l Z a0 hw [] ((((q1 + ((q2 &&& (281474976710655 : Int64)) * ((65536 : Int64) + (q3 &&& (2305843009213693951 : Int64))))) + ((Int32.toInt64 (((p4.toUInt32 >>> ((1 : Int32) &&& 31).toUInt32).toInt32) % (3 : Int32))) - (1 : Int64))) - q1) - (1 : Int64)) ((65536 : Int64) + (q3 &&& (2305843009213693951 : Int64))) T3.heap n0 Zc3 hz) hZ (hw _ (List.mem_of_getElem? (i := 37) rfl)) (hw _ (List.mem_of_getElem? (i := 36) rfl)) (by decide) (by decide)) (g := (mkF m 97 #[.val (.long q1), .second, .val (.long q2), .second, .val (.long q3), .second, .val (.int p4), .val (.long ((65536 : Int64) + (q3 &&& (2305843009213693951 : Int64)))), .second, .val (.long ((q1 + ((q2 &&& (281474976710655 : Int64)) * ((65536 : Int64) + (q3 &&& (2305843009213693951 : Int64))))) + ((Int32.toInt64 (((p4.toUInt32 >>> ((1 : Int32) &&& 31).toUInt32).toInt32) % (3 : Int32))) - (1 : Int64)))), .second, .val (.ref b1), .val (.long ((own_fix ((((q1 + ((q2 &&& (281474976710655 : Int64)) * ((65536 : Int64) + (q3 &&& (2305843009213693951 : Int64))))) + ((Int32.toInt64 (((p4.toUInt32 >>> ((1 : Int32) &&& 31).toUInt32).toInt32) % (3 : Int32))) - (1 : Int64))) - q1) - (1 : Int64)) ((65536 : Int64) + (q3 &&& (2305843009213693951 : Int64))) t) + (1 : Int64))), .second, .unset, .unset] [(.long ((65536 : Int64) + (q3 &&& (2305843009213693951 : Int64)))), (.long ((((q1 + ((q2 &&& (281474976710655 : Int64)) * ((65536 : Int64) + (q3 &&& (2305843009213693951 : Int64))))) + ((Int32.toInt64 (((p4.toUInt32 >>> ((1 : Int32) &&& 31).toUInt32).toInt32) % (3 : Int32))) - (1 : Int64))) - q1) - (1 : Int64)))])) rfl (by rw [hml]; rfl) (argsL := [(.long ((((q1 + ((q2 &&& (281474976710655 : Int64)) * ((65536 : Int64) + (q3 &&& (2305843009213693951 : Int64))))) + ((Int32.toInt64 (((p4.toUInt32 >>> ((1 : Int32) &&& 31).toUInt32).toInt32) % (3 : Int32))) - (1 : Int64))) - q1) - (1 : Int64))), (.long ((65536 : Int64) + (q3 &&& (2305843009213693951 : Int64))))]) (rest := []) (lenOf pd1 rfl) rfl (by show 2 * 0 + _ ≤ _; exact Nat.le_of_eq rfl) (hb hby at_97) (fun _ _ => ⟨rfl, ec4, (by decide : 1 + 0 ≤ _), (by decide : 4 + 0 ≤ _)⟩)
  dsimp only [Pt.U, Pt.locs, Pt.cells, Pt.slots] at X6 l6 y6 z6 st6 hQ6
  subst l6 y6 z6
  obtain ⟨rfl, Nc6, ec6⟩ := hQ6
  have N6 := Fr.app N4 Nc6
  obtain ⟨fs, hr, hrun, hended, hW, hsame⟩ := X6.leave (v := some (.int (1 : Int32))) (fun h => by rw [Bd.returns] at h; cases h)
  refine ⟨_, _, pre0 _ ?_, hrun, hended, _, _, rfl, ?_, ⟨_, rfl⟩, hW, hsame.mono (by decide) (by decide)⟩
  · show Steps p.tables e below (s₁.setTop (mkF m 0 #[.val (.long q1), .second, .val (.long q2), .second, .val (.long q3), .second, .val (.int p4), .unset, .unset, .unset, .unset, .unset, .unset, .unset, .unset, .unset] [])) _
    refine X0.ldc2Long hx hown (mvT hZ (hw _ (List.mem_of_getElem? (i := 0) rfl))) (g := (mkF m 0 #[.val (.long q1), .second, .val (.long q2), .second, .val (.long q3), .second, .val (.int p4), .unset, .unset, .unset, .unset, .unset, .unset, .unset, .unset, .unset] [])) rfl (hb hby at_0) _ ?_
    show Steps p.tables e below (s₁.setTop (mkF m 3 #[.val (.long q1), .second, .val (.long q2), .second, .val (.long q3), .second, .val (.int p4), .unset, .unset, .unset, .unset, .unset, .unset, .unset, .unset, .unset] [(.long (65536 : Int64))])) _
    refine XS.lload X0.here hx rfl (hb hby at_3) rfl ?_
    show Steps p.tables e below (s₁.setTop (mkF m 5 #[.val (.long q1), .second, .val (.long q2), .second, .val (.long q3), .second, .val (.int p4), .unset, .unset, .unset, .unset, .unset, .unset, .unset, .unset, .unset] [(.long q3), (.long (65536 : Int64))])) _
    refine X0.ldc2Long hx hown (mvT hZ (hw _ (List.mem_of_getElem? (i := 1) rfl))) (g := (mkF m 5 #[.val (.long q1), .second, .val (.long q2), .second, .val (.long q3), .second, .val (.int p4), .unset, .unset, .unset, .unset, .unset, .unset, .unset, .unset, .unset] [(.long q3), (.long (65536 : Int64))])) rfl (hb hby at_5) _ ?_
    show Steps p.tables e below (s₁.setTop (mkF m 8 #[.val (.long q1), .second, .val (.long q2), .second, .val (.long q3), .second, .val (.int p4), .unset, .unset, .unset, .unset, .unset, .unset, .unset, .unset, .unset] [(.long (2305843009213693951 : Int64)), (.long q3), (.long (65536 : Int64))])) _
    refine XS.land X0.here hx rfl (hb hby at_8) rfl ?_
    show Steps p.tables e below (s₁.setTop (mkF m 9 #[.val (.long q1), .second, .val (.long q2), .second, .val (.long q3), .second, .val (.int p4), .unset, .unset, .unset, .unset, .unset, .unset, .unset, .unset, .unset] [(.long (q3 &&& (2305843009213693951 : Int64))), (.long (65536 : Int64))])) _
    refine XS.ladd X0.here hx rfl (hb hby at_9) rfl ?_
    show Steps p.tables e below (s₁.setTop (mkF m 10 #[.val (.long q1), .second, .val (.long q2), .second, .val (.long q3), .second, .val (.int p4), .unset, .unset, .unset, .unset, .unset, .unset, .unset, .unset, .unset] [(.long ((65536 : Int64) + (q3 &&& (2305843009213693951 : Int64))))])) _
    refine XS.lstore X0.here hx rfl (hb hby at_10) rfl (l' := #[.val (.long q1), .second, .val (.long q2), .second, .val (.long q3), .second, .val (.int p4), .val (.long ((65536 : Int64) + (q3 &&& (2305843009213693951 : Int64)))), .second, .unset, .unset, .unset, .unset, .unset, .unset, .unset]) rfl ?_
    show Steps p.tables e below (s₁.setTop (mkF m 12 #[.val (.long q1), .second, .val (.long q2), .second, .val (.long q3), .second, .val (.int p4), .val (.long ((65536 : Int64) + (q3 &&& (2305843009213693951 : Int64)))), .second, .unset, .unset, .unset, .unset, .unset, .unset, .unset] [])) _
    refine XS.iload X0.here hx rfl (hb hby at_12) rfl ?_
    show Steps p.tables e below (s₁.setTop (mkF m 14 #[.val (.long q1), .second, .val (.long q2), .second, .val (.long q3), .second, .val (.int p4), .val (.long ((65536 : Int64) + (q3 &&& (2305843009213693951 : Int64)))), .second, .unset, .unset, .unset, .unset, .unset, .unset, .unset] [(.int p4)])) _
    refine XS.iconst X0.here hx rfl (hb hby at_14) ?_
    show Steps p.tables e below (s₁.setTop (mkF m 15 #[.val (.long q1), .second, .val (.long q2), .second, .val (.long q3), .second, .val (.int p4), .val (.long ((65536 : Int64) + (q3 &&& (2305843009213693951 : Int64)))), .second, .unset, .unset, .unset, .unset, .unset, .unset, .unset] [(.int (1 : Int32)), (.int p4)])) _
    refine XS.iand X0.here hx rfl (hb hby at_15) rfl ?_
    show Steps p.tables e below (s₁.setTop (mkF m 16 #[.val (.long q1), .second, .val (.long q2), .second, .val (.long q3), .second, .val (.int p4), .val (.long ((65536 : Int64) + (q3 &&& (2305843009213693951 : Int64)))), .second, .unset, .unset, .unset, .unset, .unset, .unset, .unset] [(.int (p4 &&& (1 : Int32)))])) _
    refine XS.ifNo X0.here hx rfl (hb hby at_16) rfl ((if0 _ _).trans (feq hm).1) ?_
    show Steps p.tables e below (s₁.setTop (mkF m 19 #[.val (.long q1), .second, .val (.long q2), .second, .val (.long q3), .second, .val (.int p4), .val (.long ((65536 : Int64) + (q3 &&& (2305843009213693951 : Int64)))), .second, .unset, .unset, .unset, .unset, .unset, .unset, .unset] [])) _
    refine XS.lloadN X0.here hx rfl (hb hby at_19) rfl ?_
    show Steps p.tables e below (s₁.setTop (mkF m 20 #[.val (.long q1), .second, .val (.long q2), .second, .val (.long q3), .second, .val (.int p4), .val (.long ((65536 : Int64) + (q3 &&& (2305843009213693951 : Int64)))), .second, .unset, .unset, .unset, .unset, .unset, .unset, .unset] [(.long q2)])) _
    refine X0.ldc2Long hx hown (mvT hZ (hw _ (List.mem_of_getElem? (i := 38) rfl))) (g := (mkF m 20 #[.val (.long q1), .second, .val (.long q2), .second, .val (.long q3), .second, .val (.int p4), .val (.long ((65536 : Int64) + (q3 &&& (2305843009213693951 : Int64)))), .second, .unset, .unset, .unset, .unset, .unset, .unset, .unset] [(.long q2)])) rfl (hb hby at_20) _ ?_
    show Steps p.tables e below (s₁.setTop (mkF m 23 #[.val (.long q1), .second, .val (.long q2), .second, .val (.long q3), .second, .val (.int p4), .val (.long ((65536 : Int64) + (q3 &&& (2305843009213693951 : Int64)))), .second, .unset, .unset, .unset, .unset, .unset, .unset, .unset] [(.long (281474976710655 : Int64)), (.long q2)])) _
    refine XS.land X0.here hx rfl (hb hby at_23) rfl ?_
    show Steps p.tables e below (s₁.setTop (mkF m 24 #[.val (.long q1), .second, .val (.long q2), .second, .val (.long q3), .second, .val (.int p4), .val (.long ((65536 : Int64) + (q3 &&& (2305843009213693951 : Int64)))), .second, .unset, .unset, .unset, .unset, .unset, .unset, .unset] [(.long (q2 &&& (281474976710655 : Int64)))])) _
    refine XS.lstore X0.here hx rfl (hb hby at_24) rfl (l' := #[.val (.long q1), .second, .val (.long q2), .second, .val (.long q3), .second, .val (.int p4), .val (.long ((65536 : Int64) + (q3 &&& (2305843009213693951 : Int64)))), .second, .unset, .unset, .val (.long (q2 &&& (281474976710655 : Int64))), .second, .unset, .unset, .unset]) rfl ?_
    show Steps p.tables e below (s₁.setTop (mkF m 26 #[.val (.long q1), .second, .val (.long q2), .second, .val (.long q3), .second, .val (.int p4), .val (.long ((65536 : Int64) + (q3 &&& (2305843009213693951 : Int64)))), .second, .unset, .unset, .val (.long (q2 &&& (281474976710655 : Int64))), .second, .unset, .unset, .unset] [])) _
    refine XS.iload X0.here hx rfl (hb hby at_26) rfl ?_
    show Steps p.tables e below (s₁.setTop (mkF m 28 #[.val (.long q1), .second, .val (.long q2), .second, .val (.long q3), .second, .val (.int p4), .val (.long ((65536 : Int64) + (q3 &&& (2305843009213693951 : Int64)))), .second, .unset, .unset, .val (.long (q2 &&& (281474976710655 : Int64))), .second, .unset, .unset, .unset] [(.int p4)])) _
    refine XS.iconst X0.here hx rfl (hb hby at_28) ?_
    show Steps p.tables e below (s₁.setTop (mkF m 29 #[.val (.long q1), .second, .val (.long q2), .second, .val (.long q3), .second, .val (.int p4), .val (.long ((65536 : Int64) + (q3 &&& (2305843009213693951 : Int64)))), .second, .unset, .unset, .val (.long (q2 &&& (281474976710655 : Int64))), .second, .unset, .unset, .unset] [(.int (1 : Int32)), (.int p4)])) _
    refine XS.iushr X0.here hx rfl (hb hby at_29) rfl ?_
    show Steps p.tables e below (s₁.setTop (mkF m 30 #[.val (.long q1), .second, .val (.long q2), .second, .val (.long q3), .second, .val (.int p4), .val (.long ((65536 : Int64) + (q3 &&& (2305843009213693951 : Int64)))), .second, .unset, .unset, .val (.long (q2 &&& (281474976710655 : Int64))), .second, .unset, .unset, .unset] [(.int ((p4.toUInt32 >>> ((1 : Int32) &&& 31).toUInt32).toInt32))])) _
    refine XS.iconst X0.here hx rfl (hb hby at_30) ?_
    show Steps p.tables e below (s₁.setTop (mkF m 31 #[.val (.long q1), .second, .val (.long q2), .second, .val (.long q3), .second, .val (.int p4), .val (.long ((65536 : Int64) + (q3 &&& (2305843009213693951 : Int64)))), .second, .unset, .unset, .val (.long (q2 &&& (281474976710655 : Int64))), .second, .unset, .unset, .unset] [(.int (3 : Int32)), (.int ((p4.toUInt32 >>> ((1 : Int32) &&& 31).toUInt32).toInt32))])) _
    refine iremM X0 hx rfl (hb hby at_31) rfl (by decide) ?_
    show Steps p.tables e below (s₁.setTop (mkF m 32 #[.val (.long q1), .second, .val (.long q2), .second, .val (.long q3), .second, .val (.int p4), .val (.long ((65536 : Int64) + (q3 &&& (2305843009213693951 : Int64)))), .second, .unset, .unset, .val (.long (q2 &&& (281474976710655 : Int64))), .second, .unset, .unset, .unset] [(.int (((p4.toUInt32 >>> ((1 : Int32) &&& 31).toUInt32).toInt32) % (3 : Int32)))])) _
    refine XS.i2l X0.here hx rfl (hb hby at_32) rfl ?_
    show Steps p.tables e below (s₁.setTop (mkF m 33 #[.val (.long q1), .second, .val (.long q2), .second, .val (.long q3), .second, .val (.int p4), .val (.long ((65536 : Int64) + (q3 &&& (2305843009213693951 : Int64)))), .second, .unset, .unset, .val (.long (q2 &&& (281474976710655 : Int64))), .second, .unset, .unset, .unset] [(.long (Int32.toInt64 (((p4.toUInt32 >>> ((1 : Int32) &&& 31).toUInt32).toInt32) % (3 : Int32))))])) _
    refine XS.lconst X0.here hx rfl (hb hby at_33) ?_
    show Steps p.tables e below (s₁.setTop (mkF m 34 #[.val (.long q1), .second, .val (.long q2), .second, .val (.long q3), .second, .val (.int p4), .val (.long ((65536 : Int64) + (q3 &&& (2305843009213693951 : Int64)))), .second, .unset, .unset, .val (.long (q2 &&& (281474976710655 : Int64))), .second, .unset, .unset, .unset] [(.long (1 : Int64)), (.long (Int32.toInt64 (((p4.toUInt32 >>> ((1 : Int32) &&& 31).toUInt32).toInt32) % (3 : Int32))))])) _
    refine XS.lsub X0.here hx rfl (hb hby at_34) rfl ?_
    show Steps p.tables e below (s₁.setTop (mkF m 35 #[.val (.long q1), .second, .val (.long q2), .second, .val (.long q3), .second, .val (.int p4), .val (.long ((65536 : Int64) + (q3 &&& (2305843009213693951 : Int64)))), .second, .unset, .unset, .val (.long (q2 &&& (281474976710655 : Int64))), .second, .unset, .unset, .unset] [(.long ((Int32.toInt64 (((p4.toUInt32 >>> ((1 : Int32) &&& 31).toUInt32).toInt32) % (3 : Int32))) - (1 : Int64)))])) _
    refine XS.lstore X0.here hx rfl (hb hby at_35) rfl (l' := #[.val (.long q1), .second, .val (.long q2), .second, .val (.long q3), .second, .val (.int p4), .val (.long ((65536 : Int64) + (q3 &&& (2305843009213693951 : Int64)))), .second, .unset, .unset, .val (.long (q2 &&& (281474976710655 : Int64))), .second, .val (.long ((Int32.toInt64 (((p4.toUInt32 >>> ((1 : Int32) &&& 31).toUInt32).toInt32) % (3 : Int32))) - (1 : Int64))), .second, .unset]) rfl ?_
    show Steps p.tables e below (s₁.setTop (mkF m 37 #[.val (.long q1), .second, .val (.long q2), .second, .val (.long q3), .second, .val (.int p4), .val (.long ((65536 : Int64) + (q3 &&& (2305843009213693951 : Int64)))), .second, .unset, .unset, .val (.long (q2 &&& (281474976710655 : Int64))), .second, .val (.long ((Int32.toInt64 (((p4.toUInt32 >>> ((1 : Int32) &&& 31).toUInt32).toInt32) % (3 : Int32))) - (1 : Int64))), .second, .unset] [])) _
    refine XS.lloadN X0.here hx rfl (hb hby at_37) rfl ?_
    show Steps p.tables e below (s₁.setTop (mkF m 38 #[.val (.long q1), .second, .val (.long q2), .second, .val (.long q3), .second, .val (.int p4), .val (.long ((65536 : Int64) + (q3 &&& (2305843009213693951 : Int64)))), .second, .unset, .unset, .val (.long (q2 &&& (281474976710655 : Int64))), .second, .val (.long ((Int32.toInt64 (((p4.toUInt32 >>> ((1 : Int32) &&& 31).toUInt32).toInt32) % (3 : Int32))) - (1 : Int64))), .second, .unset] [(.long q1)])) _
    refine XS.lload X0.here hx rfl (hb hby at_38) rfl ?_
    show Steps p.tables e below (s₁.setTop (mkF m 40 #[.val (.long q1), .second, .val (.long q2), .second, .val (.long q3), .second, .val (.int p4), .val (.long ((65536 : Int64) + (q3 &&& (2305843009213693951 : Int64)))), .second, .unset, .unset, .val (.long (q2 &&& (281474976710655 : Int64))), .second, .val (.long ((Int32.toInt64 (((p4.toUInt32 >>> ((1 : Int32) &&& 31).toUInt32).toInt32) % (3 : Int32))) - (1 : Int64))), .second, .unset] [(.long (q2 &&& (281474976710655 : Int64))), (.long q1)])) _
    refine XS.lload X0.here hx rfl (hb hby at_40) rfl ?_
    show Steps p.tables e below (s₁.setTop (mkF m 42 #[.val (.long q1), .second, .val (.long q2), .second, .val (.long q3), .second, .val (.int p4), .val (.long ((65536 : Int64) + (q3 &&& (2305843009213693951 : Int64)))), .second, .unset, .unset, .val (.long (q2 &&& (281474976710655 : Int64))), .second, .val (.long ((Int32.toInt64 (((p4.toUInt32 >>> ((1 : Int32) &&& 31).toUInt32).toInt32) % (3 : Int32))) - (1 : Int64))), .second, .unset] [(.long ((65536 : Int64) + (q3 &&& (2305843009213693951 : Int64)))), (.long (q2 &&& (281474976710655 : Int64))), (.long q1)])) _
    refine XS.lmul X0.here hx rfl (hb hby at_42) rfl ?_
    show Steps p.tables e below (s₁.setTop (mkF m 43 #[.val (.long q1), .second, .val (.long q2), .second, .val (.long q3), .second, .val (.int p4), .val (.long ((65536 : Int64) + (q3 &&& (2305843009213693951 : Int64)))), .second, .unset, .unset, .val (.long (q2 &&& (281474976710655 : Int64))), .second, .val (.long ((Int32.toInt64 (((p4.toUInt32 >>> ((1 : Int32) &&& 31).toUInt32).toInt32) % (3 : Int32))) - (1 : Int64))), .second, .unset] [(.long ((q2 &&& (281474976710655 : Int64)) * ((65536 : Int64) + (q3 &&& (2305843009213693951 : Int64))))), (.long q1)])) _
    refine XS.ladd X0.here hx rfl (hb hby at_43) rfl ?_
    show Steps p.tables e below (s₁.setTop (mkF m 44 #[.val (.long q1), .second, .val (.long q2), .second, .val (.long q3), .second, .val (.int p4), .val (.long ((65536 : Int64) + (q3 &&& (2305843009213693951 : Int64)))), .second, .unset, .unset, .val (.long (q2 &&& (281474976710655 : Int64))), .second, .val (.long ((Int32.toInt64 (((p4.toUInt32 >>> ((1 : Int32) &&& 31).toUInt32).toInt32) % (3 : Int32))) - (1 : Int64))), .second, .unset] [(.long (q1 + ((q2 &&& (281474976710655 : Int64)) * ((65536 : Int64) + (q3 &&& (2305843009213693951 : Int64))))))])) _
    refine XS.lload X0.here hx rfl (hb hby at_44) rfl ?_
    show Steps p.tables e below (s₁.setTop (mkF m 46 #[.val (.long q1), .second, .val (.long q2), .second, .val (.long q3), .second, .val (.int p4), .val (.long ((65536 : Int64) + (q3 &&& (2305843009213693951 : Int64)))), .second, .unset, .unset, .val (.long (q2 &&& (281474976710655 : Int64))), .second, .val (.long ((Int32.toInt64 (((p4.toUInt32 >>> ((1 : Int32) &&& 31).toUInt32).toInt32) % (3 : Int32))) - (1 : Int64))), .second, .unset] [(.long ((Int32.toInt64 (((p4.toUInt32 >>> ((1 : Int32) &&& 31).toUInt32).toInt32) % (3 : Int32))) - (1 : Int64))), (.long (q1 + ((q2 &&& (281474976710655 : Int64)) * ((65536 : Int64) + (q3 &&& (2305843009213693951 : Int64))))))])) _
    refine XS.ladd X0.here hx rfl (hb hby at_46) rfl ?_
    show Steps p.tables e below (s₁.setTop (mkF m 47 #[.val (.long q1), .second, .val (.long q2), .second, .val (.long q3), .second, .val (.int p4), .val (.long ((65536 : Int64) + (q3 &&& (2305843009213693951 : Int64)))), .second, .unset, .unset, .val (.long (q2 &&& (281474976710655 : Int64))), .second, .val (.long ((Int32.toInt64 (((p4.toUInt32 >>> ((1 : Int32) &&& 31).toUInt32).toInt32) % (3 : Int32))) - (1 : Int64))), .second, .unset] [(.long ((q1 + ((q2 &&& (281474976710655 : Int64)) * ((65536 : Int64) + (q3 &&& (2305843009213693951 : Int64))))) + ((Int32.toInt64 (((p4.toUInt32 >>> ((1 : Int32) &&& 31).toUInt32).toInt32) % (3 : Int32))) - (1 : Int64))))])) _
    refine XS.lstore X0.here hx rfl (hb hby at_47) rfl (l' := #[.val (.long q1), .second, .val (.long q2), .second, .val (.long q3), .second, .val (.int p4), .val (.long ((65536 : Int64) + (q3 &&& (2305843009213693951 : Int64)))), .second, .val (.long ((q1 + ((q2 &&& (281474976710655 : Int64)) * ((65536 : Int64) + (q3 &&& (2305843009213693951 : Int64))))) + ((Int32.toInt64 (((p4.toUInt32 >>> ((1 : Int32) &&& 31).toUInt32).toInt32) % (3 : Int32))) - (1 : Int64)))), .second, .val (.long (q2 &&& (281474976710655 : Int64))), .second, .val (.long ((Int32.toInt64 (((p4.toUInt32 >>> ((1 : Int32) &&& 31).toUInt32).toInt32) % (3 : Int32))) - (1 : Int64))), .second, .unset]) rfl ?_
    show Steps p.tables e below (s₁.setTop (mkF m 49 #[.val (.long q1), .second, .val (.long q2), .second, .val (.long q3), .second, .val (.int p4), .val (.long ((65536 : Int64) + (q3 &&& (2305843009213693951 : Int64)))), .second, .val (.long ((q1 + ((q2 &&& (281474976710655 : Int64)) * ((65536 : Int64) + (q3 &&& (2305843009213693951 : Int64))))) + ((Int32.toInt64 (((p4.toUInt32 >>> ((1 : Int32) &&& 31).toUInt32).toInt32) % (3 : Int32))) - (1 : Int64)))), .second, .val (.long (q2 &&& (281474976710655 : Int64))), .second, .val (.long ((Int32.toInt64 (((p4.toUInt32 >>> ((1 : Int32) &&& 31).toUInt32).toInt32) % (3 : Int32))) - (1 : Int64))), .second, .unset] [])) _
    refine XS.goto X0.here hx rfl (pc0 := 49) (pc' := 55) rfl (hb hby at_49) (by decide) (by decide) ?_
    show Steps p.tables e below (s₁.setTop (mkF m 55 #[.val (.long q1), .second, .val (.long q2), .second, .val (.long q3), .second, .val (.int p4), .val (.long ((65536 : Int64) + (q3 &&& (2305843009213693951 : Int64)))), .second, .val (.long ((q1 + ((q2 &&& (281474976710655 : Int64)) * ((65536 : Int64) + (q3 &&& (2305843009213693951 : Int64))))) + ((Int32.toInt64 (((p4.toUInt32 >>> ((1 : Int32) &&& 31).toUInt32).toInt32) % (3 : Int32))) - (1 : Int64)))), .second, .val (.long (q2 &&& (281474976710655 : Int64))), .second, .val (.long ((Int32.toInt64 (((p4.toUInt32 >>> ((1 : Int32) &&& 31).toUInt32).toInt32) % (3 : Int32))) - (1 : Int64))), .second, .unset] [])) _
    refine st1 _ ?_
    show Steps p.tables e below (T1.setTop (mkF m 58 #[.val (.long q1), .second, .val (.long q2), .second, .val (.long q3), .second, .val (.int p4), .val (.long ((65536 : Int64) + (q3 &&& (2305843009213693951 : Int64)))), .second, .val (.long ((q1 + ((q2 &&& (281474976710655 : Int64)) * ((65536 : Int64) + (q3 &&& (2305843009213693951 : Int64))))) + ((Int32.toInt64 (((p4.toUInt32 >>> ((1 : Int32) &&& 31).toUInt32).toInt32) % (3 : Int32))) - (1 : Int64)))), .second, .val (.long (q2 &&& (281474976710655 : Int64))), .second, .val (.long ((Int32.toInt64 (((p4.toUInt32 >>> ((1 : Int32) &&& 31).toUInt32).toInt32) % (3 : Int32))) - (1 : Int64))), .second, .unset] [(.ref b1)])) _
    refine XS.dup X1.here hx rfl (hb hby at_58) rfl rfl ?_
    show Steps p.tables e below (T1.setTop (mkF m 59 #[.val (.long q1), .second, .val (.long q2), .second, .val (.long q3), .second, .val (.int p4), .val (.long ((65536 : Int64) + (q3 &&& (2305843009213693951 : Int64)))), .second, .val (.long ((q1 + ((q2 &&& (281474976710655 : Int64)) * ((65536 : Int64) + (q3 &&& (2305843009213693951 : Int64))))) + ((Int32.toInt64 (((p4.toUInt32 >>> ((1 : Int32) &&& 31).toUInt32).toInt32) % (3 : Int32))) - (1 : Int64)))), .second, .val (.long (q2 &&& (281474976710655 : Int64))), .second, .val (.long ((Int32.toInt64 (((p4.toUInt32 >>> ((1 : Int32) &&& 31).toUInt32).toInt32) % (3 : Int32))) - (1 : Int64))), .second, .unset] [(.ref b1), (.ref b1)])) _
    refine XS.lloadN X1.here hx rfl (hb hby at_59) rfl ?_
    show Steps p.tables e below (T1.setTop (mkF m 60 #[.val (.long q1), .second, .val (.long q2), .second, .val (.long q3), .second, .val (.int p4), .val (.long ((65536 : Int64) + (q3 &&& (2305843009213693951 : Int64)))), .second, .val (.long ((q1 + ((q2 &&& (281474976710655 : Int64)) * ((65536 : Int64) + (q3 &&& (2305843009213693951 : Int64))))) + ((Int32.toInt64 (((p4.toUInt32 >>> ((1 : Int32) &&& 31).toUInt32).toInt32) % (3 : Int32))) - (1 : Int64)))), .second, .val (.long (q2 &&& (281474976710655 : Int64))), .second, .val (.long ((Int32.toInt64 (((p4.toUInt32 >>> ((1 : Int32) &&& 31).toUInt32).toInt32) % (3 : Int32))) - (1 : Int64))), .second, .unset] [(.long q1), (.ref b1), (.ref b1)])) _
    refine XS.lload X1.here hx rfl (hb hby at_60) rfl ?_
    show Steps p.tables e below (T1.setTop (mkF m 62 #[.val (.long q1), .second, .val (.long q2), .second, .val (.long q3), .second, .val (.int p4), .val (.long ((65536 : Int64) + (q3 &&& (2305843009213693951 : Int64)))), .second, .val (.long ((q1 + ((q2 &&& (281474976710655 : Int64)) * ((65536 : Int64) + (q3 &&& (2305843009213693951 : Int64))))) + ((Int32.toInt64 (((p4.toUInt32 >>> ((1 : Int32) &&& 31).toUInt32).toInt32) % (3 : Int32))) - (1 : Int64)))), .second, .val (.long (q2 &&& (281474976710655 : Int64))), .second, .val (.long ((Int32.toInt64 (((p4.toUInt32 >>> ((1 : Int32) &&& 31).toUInt32).toInt32) % (3 : Int32))) - (1 : Int64))), .second, .unset] [(.long ((65536 : Int64) + (q3 &&& (2305843009213693951 : Int64)))), (.long q1), (.ref b1), (.ref b1)])) _
    refine st3.trans ?_
    show Steps p.tables e below (T3.setTop (mkF m 65 #[.val (.long q1), .second, .val (.long q2), .second, .val (.long q3), .second, .val (.int p4), .val (.long ((65536 : Int64) + (q3 &&& (2305843009213693951 : Int64)))), .second, .val (.long ((q1 + ((q2 &&& (281474976710655 : Int64)) * ((65536 : Int64) + (q3 &&& (2305843009213693951 : Int64))))) + ((Int32.toInt64 (((p4.toUInt32 >>> ((1 : Int32) &&& 31).toUInt32).toInt32) % (3 : Int32))) - (1 : Int64)))), .second, .val (.long (q2 &&& (281474976710655 : Int64))), .second, .val (.long ((Int32.toInt64 (((p4.toUInt32 >>> ((1 : Int32) &&& 31).toUInt32).toInt32) % (3 : Int32))) - (1 : Int64))), .second, .unset] [(.ref b1)])) _
    refine XS.astore X3.here hx rfl (hb hby at_65) rfl rfl (l' := #[.val (.long q1), .second, .val (.long q2), .second, .val (.long q3), .second, .val (.int p4), .val (.long ((65536 : Int64) + (q3 &&& (2305843009213693951 : Int64)))), .second, .val (.long ((q1 + ((q2 &&& (281474976710655 : Int64)) * ((65536 : Int64) + (q3 &&& (2305843009213693951 : Int64))))) + ((Int32.toInt64 (((p4.toUInt32 >>> ((1 : Int32) &&& 31).toUInt32).toInt32) % (3 : Int32))) - (1 : Int64)))), .second, .val (.ref b1), .unset, .val (.long ((Int32.toInt64 (((p4.toUInt32 >>> ((1 : Int32) &&& 31).toUInt32).toInt32) % (3 : Int32))) - (1 : Int64))), .second, .unset]) rfl ?_
    show Steps p.tables e below (T3.setTop (mkF m 67 #[.val (.long q1), .second, .val (.long q2), .second, .val (.long q3), .second, .val (.int p4), .val (.long ((65536 : Int64) + (q3 &&& (2305843009213693951 : Int64)))), .second, .val (.long ((q1 + ((q2 &&& (281474976710655 : Int64)) * ((65536 : Int64) + (q3 &&& (2305843009213693951 : Int64))))) + ((Int32.toInt64 (((p4.toUInt32 >>> ((1 : Int32) &&& 31).toUInt32).toInt32) % (3 : Int32))) - (1 : Int64)))), .second, .val (.ref b1), .unset, .val (.long ((Int32.toInt64 (((p4.toUInt32 >>> ((1 : Int32) &&& 31).toUInt32).toInt32) % (3 : Int32))) - (1 : Int64))), .second, .unset] [])) _
    refine XS.aload X3.here hx rfl (hb hby at_67) rfl rfl ?_
    show Steps p.tables e below (T3.setTop (mkF m 69 #[.val (.long q1), .second, .val (.long q2), .second, .val (.long q3), .second, .val (.int p4), .val (.long ((65536 : Int64) + (q3 &&& (2305843009213693951 : Int64)))), .second, .val (.long ((q1 + ((q2 &&& (281474976710655 : Int64)) * ((65536 : Int64) + (q3 &&& (2305843009213693951 : Int64))))) + ((Int32.toInt64 (((p4.toUInt32 >>> ((1 : Int32) &&& 31).toUInt32).toInt32) % (3 : Int32))) - (1 : Int64)))), .second, .val (.ref b1), .unset, .val (.long ((Int32.toInt64 (((p4.toUInt32 >>> ((1 : Int32) &&& 31).toUInt32).toInt32) % (3 : Int32))) - (1 : Int64))), .second, .unset] [(.ref b1)])) _
    refine XS.lload X3.here hx rfl (hb hby at_69) rfl ?_
    show Steps p.tables e below (T3.setTop (mkF m 71 #[.val (.long q1), .second, .val (.long q2), .second, .val (.long q3), .second, .val (.int p4), .val (.long ((65536 : Int64) + (q3 &&& (2305843009213693951 : Int64)))), .second, .val (.long ((q1 + ((q2 &&& (281474976710655 : Int64)) * ((65536 : Int64) + (q3 &&& (2305843009213693951 : Int64))))) + ((Int32.toInt64 (((p4.toUInt32 >>> ((1 : Int32) &&& 31).toUInt32).toInt32) % (3 : Int32))) - (1 : Int64)))), .second, .val (.ref b1), .unset, .val (.long ((Int32.toInt64 (((p4.toUInt32 >>> ((1 : Int32) &&& 31).toUInt32).toInt32) % (3 : Int32))) - (1 : Int64))), .second, .unset] [(.long ((q1 + ((q2 &&& (281474976710655 : Int64)) * ((65536 : Int64) + (q3 &&& (2305843009213693951 : Int64))))) + ((Int32.toInt64 (((p4.toUInt32 >>> ((1 : Int32) &&& 31).toUInt32).toInt32) % (3 : Int32))) - (1 : Int64)))), (.ref b1)])) _
    refine st4.trans ?_
    show Steps p.tables e below (T4.setTop (mkF m 74 #[.val (.long q1), .second, .val (.long q2), .second, .val (.long q3), .second, .val (.int p4), .val (.long ((65536 : Int64) + (q3 &&& (2305843009213693951 : Int64)))), .second, .val (.long ((q1 + ((q2 &&& (281474976710655 : Int64)) * ((65536 : Int64) + (q3 &&& (2305843009213693951 : Int64))))) + ((Int32.toInt64 (((p4.toUInt32 >>> ((1 : Int32) &&& 31).toUInt32).toInt32) % (3 : Int32))) - (1 : Int64)))), .second, .val (.ref b1), .unset, .val (.long ((Int32.toInt64 (((p4.toUInt32 >>> ((1 : Int32) &&& 31).toUInt32).toInt32) % (3 : Int32))) - (1 : Int64))), .second, .unset] [(.long ((own_fix ((((q1 + ((q2 &&& (281474976710655 : Int64)) * ((65536 : Int64) + (q3 &&& (2305843009213693951 : Int64))))) + ((Int32.toInt64 (((p4.toUInt32 >>> ((1 : Int32) &&& 31).toUInt32).toInt32) % (3 : Int32))) - (1 : Int64))) - q1) - (1 : Int64)) ((65536 : Int64) + (q3 &&& (2305843009213693951 : Int64))) t) + (1 : Int64)))])) _
    refine XS.lstore X4.here hx rfl (hb hby at_74) rfl (l' := #[.val (.long q1), .second, .val (.long q2), .second, .val (.long q3), .second, .val (.int p4), .val (.long ((65536 : Int64) + (q3 &&& (2305843009213693951 : Int64)))), .second, .val (.long ((q1 + ((q2 &&& (281474976710655 : Int64)) * ((65536 : Int64) + (q3 &&& (2305843009213693951 : Int64))))) + ((Int32.toInt64 (((p4.toUInt32 >>> ((1 : Int32) &&& 31).toUInt32).toInt32) % (3 : Int32))) - (1 : Int64)))), .second, .val (.ref b1), .val (.long ((own_fix ((((q1 + ((q2 &&& (281474976710655 : Int64)) * ((65536 : Int64) + (q3 &&& (2305843009213693951 : Int64))))) + ((Int32.toInt64 (((p4.toUInt32 >>> ((1 : Int32) &&& 31).toUInt32).toInt32) % (3 : Int32))) - (1 : Int64))) - q1) - (1 : Int64)) ((65536 : Int64) + (q3 &&& (2305843009213693951 : Int64))) t) + (1 : Int64))), .second, .unset, .unset]) rfl ?_
    show Steps p.tables e below (T4.setTop (mkF m 76 #[.val (.long q1), .second, .val (.long q2), .second, .val (.long q3), .second, .val (.int p4), .val (.long ((65536 : Int64) + (q3 &&& (2305843009213693951 : Int64)))), .second, .val (.long ((q1 + ((q2 &&& (281474976710655 : Int64)) * ((65536 : Int64) + (q3 &&& (2305843009213693951 : Int64))))) + ((Int32.toInt64 (((p4.toUInt32 >>> ((1 : Int32) &&& 31).toUInt32).toInt32) % (3 : Int32))) - (1 : Int64)))), .second, .val (.ref b1), .val (.long ((own_fix ((((q1 + ((q2 &&& (281474976710655 : Int64)) * ((65536 : Int64) + (q3 &&& (2305843009213693951 : Int64))))) + ((Int32.toInt64 (((p4.toUInt32 >>> ((1 : Int32) &&& 31).toUInt32).toInt32) % (3 : Int32))) - (1 : Int64))) - q1) - (1 : Int64)) ((65536 : Int64) + (q3 &&& (2305843009213693951 : Int64))) t) + (1 : Int64))), .second, .unset, .unset] [])) _
    refine XS.lload X4.here hx rfl (hb hby at_76) rfl ?_
    show Steps p.tables e below (T4.setTop (mkF m 78 #[.val (.long q1), .second, .val (.long q2), .second, .val (.long q3), .second, .val (.int p4), .val (.long ((65536 : Int64) + (q3 &&& (2305843009213693951 : Int64)))), .second, .val (.long ((q1 + ((q2 &&& (281474976710655 : Int64)) * ((65536 : Int64) + (q3 &&& (2305843009213693951 : Int64))))) + ((Int32.toInt64 (((p4.toUInt32 >>> ((1 : Int32) &&& 31).toUInt32).toInt32) % (3 : Int32))) - (1 : Int64)))), .second, .val (.ref b1), .val (.long ((own_fix ((((q1 + ((q2 &&& (281474976710655 : Int64)) * ((65536 : Int64) + (q3 &&& (2305843009213693951 : Int64))))) + ((Int32.toInt64 (((p4.toUInt32 >>> ((1 : Int32) &&& 31).toUInt32).toInt32) % (3 : Int32))) - (1 : Int64))) - q1) - (1 : Int64)) ((65536 : Int64) + (q3 &&& (2305843009213693951 : Int64))) t) + (1 : Int64))), .second, .unset, .unset] [(.long ((q1 + ((q2 &&& (281474976710655 : Int64)) * ((65536 : Int64) + (q3 &&& (2305843009213693951 : Int64))))) + ((Int32.toInt64 (((p4.toUInt32 >>> ((1 : Int32) &&& 31).toUInt32).toInt32) % (3 : Int32))) - (1 : Int64))))])) _
    refine XS.lloadN X4.here hx rfl (hb hby at_78) rfl ?_
    show Steps p.tables e below (T4.setTop (mkF m 79 #[.val (.long q1), .second, .val (.long q2), .second, .val (.long q3), .second, .val (.int p4), .val (.long ((65536 : Int64) + (q3 &&& (2305843009213693951 : Int64)))), .second, .val (.long ((q1 + ((q2 &&& (281474976710655 : Int64)) * ((65536 : Int64) + (q3 &&& (2305843009213693951 : Int64))))) + ((Int32.toInt64 (((p4.toUInt32 >>> ((1 : Int32) &&& 31).toUInt32).toInt32) % (3 : Int32))) - (1 : Int64)))), .second, .val (.ref b1), .val (.long ((own_fix ((((q1 + ((q2 &&& (281474976710655 : Int64)) * ((65536 : Int64) + (q3 &&& (2305843009213693951 : Int64))))) + ((Int32.toInt64 (((p4.toUInt32 >>> ((1 : Int32) &&& 31).toUInt32).toInt32) % (3 : Int32))) - (1 : Int64))) - q1) - (1 : Int64)) ((65536 : Int64) + (q3 &&& (2305843009213693951 : Int64))) t) + (1 : Int64))), .second, .unset, .unset] [(.long q1), (.long ((q1 + ((q2 &&& (281474976710655 : Int64)) * ((65536 : Int64) + (q3 &&& (2305843009213693951 : Int64))))) + ((Int32.toInt64 (((p4.toUInt32 >>> ((1 : Int32) &&& 31).toUInt32).toInt32) % (3 : Int32))) - (1 : Int64))))])) _
    refine XS.lcmp X4.here hx rfl (hb hby at_79) rfl ?_
    show Steps p.tables e below (T4.setTop (mkF m 80 #[.val (.long q1), .second, .val (.long q2), .second, .val (.long q3), .second, .val (.int p4), .val (.long ((65536 : Int64) + (q3 &&& (2305843009213693951 : Int64)))), .second, .val (.long ((q1 + ((q2 &&& (281474976710655 : Int64)) * ((65536 : Int64) + (q3 &&& (2305843009213693951 : Int64))))) + ((Int32.toInt64 (((p4.toUInt32 >>> ((1 : Int32) &&& 31).toUInt32).toInt32) % (3 : Int32))) - (1 : Int64)))), .second, .val (.ref b1), .val (.long ((own_fix ((((q1 + ((q2 &&& (281474976710655 : Int64)) * ((65536 : Int64) + (q3 &&& (2305843009213693951 : Int64))))) + ((Int32.toInt64 (((p4.toUInt32 >>> ((1 : Int32) &&& 31).toUInt32).toInt32) % (3 : Int32))) - (1 : Int64))) - q1) - (1 : Int64)) ((65536 : Int64) + (q3 &&& (2305843009213693951 : Int64))) t) + (1 : Int64))), .second, .unset, .unset] [(.int (lcmpW ((q1 + ((q2 &&& (281474976710655 : Int64)) * ((65536 : Int64) + (q3 &&& (2305843009213693951 : Int64))))) + ((Int32.toInt64 (((p4.toUInt32 >>> ((1 : Int32) &&& 31).toUInt32).toInt32) % (3 : Int32))) - (1 : Int64))) q1))])) _
    refine XS.ifYes X4.here hx rfl (pc0 := 80) (pc' := 89) rfl (hb hby at_80) rfl ((if0 _ _).trans (tlt hc).2.2.1) (by decide) (by decide) ?_
    show Steps p.tables e below (T4.setTop (mkF m 89 #[.val (.long q1), .second, .val (.long q2), .second, .val (.long q3), .second, .val (.int p4), .val (.long ((65536 : Int64) + (q3 &&& (2305843009213693951 : Int64)))), .second, .val (.long ((q1 + ((q2 &&& (281474976710655 : Int64)) * ((65536 : Int64) + (q3 &&& (2305843009213693951 : Int64))))) + ((Int32.toInt64 (((p4.toUInt32 >>> ((1 : Int32) &&& 31).toUInt32).toInt32) % (3 : Int32))) - (1 : Int64)))), .second, .val (.ref b1), .val (.long ((own_fix ((((q1 + ((q2 &&& (281474976710655 : Int64)) * ((65536 : Int64) + (q3 &&& (2305843009213693951 : Int64))))) + ((Int32.toInt64 (((p4.toUInt32 >>> ((1 : Int32) &&& 31).toUInt32).toInt32) % (3 : Int32))) - (1 : Int64))) - q1) - (1 : Int64)) ((65536 : Int64) + (q3 &&& (2305843009213693951 : Int64))) t) + (1 : Int64))), .second, .unset, .unset] [])) _
    refine XS.lload X4.here hx rfl (hb hby at_89) rfl ?_
    show Steps p.tables e below (T4.setTop (mkF m 91 #[.val (.long q1), .second, .val (.long q2), .second, .val (.long q3), .second, .val (.int p4), .val (.long ((65536 : Int64) + (q3 &&& (2305843009213693951 : Int64)))), .second, .val (.long ((q1 + ((q2 &&& (281474976710655 : Int64)) * ((65536 : Int64) + (q3 &&& (2305843009213693951 : Int64))))) + ((Int32.toInt64 (((p4.toUInt32 >>> ((1 : Int32) &&& 31).toUInt32).toInt32) % (3 : Int32))) - (1 : Int64)))), .second, .val (.ref b1), .val (.long ((own_fix ((((q1 + ((q2 &&& (281474976710655 : Int64)) * ((65536 : Int64) + (q3 &&& (2305843009213693951 : Int64))))) + ((Int32.toInt64 (((p4.toUInt32 >>> ((1 : Int32) &&& 31).toUInt32).toInt32) % (3 : Int32))) - (1 : Int64))) - q1) - (1 : Int64)) ((65536 : Int64) + (q3 &&& (2305843009213693951 : Int64))) t) + (1 : Int64))), .second, .unset, .unset] [(.long ((q1 + ((q2 &&& (281474976710655 : Int64)) * ((65536 : Int64) + (q3 &&& (2305843009213693951 : Int64))))) + ((Int32.toInt64 (((p4.toUInt32 >>> ((1 : Int32) &&& 31).toUInt32).toInt32) % (3 : Int32))) - (1 : Int64))))])) _
    refine XS.lloadN X4.here hx rfl (hb hby at_91) rfl ?_
    show Steps p.tables e below (T4.setTop (mkF m 92 #[.val (.long q1), .second, .val (.long q2), .second, .val (.long q3), .second, .val (.int p4), .val (.long ((65536 : Int64) + (q3 &&& (2305843009213693951 : Int64)))), .second, .val (.long ((q1 + ((q2 &&& (281474976710655 : Int64)) * ((65536 : Int64) + (q3 &&& (2305843009213693951 : Int64))))) + ((Int32.toInt64 (((p4.toUInt32 >>> ((1 : Int32) &&& 31).toUInt32).toInt32) % (3 : Int32))) - (1 : Int64)))), .second, .val (.ref b1), .val (.long ((own_fix ((((q1 + ((q2 &&& (281474976710655 : Int64)) * ((65536 : Int64) + (q3 &&& (2305843009213693951 : Int64))))) + ((Int32.toInt64 (((p4.toUInt32 >>> ((1 : Int32) &&& 31).toUInt32).toInt32) % (3 : Int32))) - (1 : Int64))) - q1) - (1 : Int64)) ((65536 : Int64) + (q3 &&& (2305843009213693951 : Int64))) t) + (1 : Int64))), .second, .unset, .unset] [(.long q1), (.long ((q1 + ((q2 &&& (281474976710655 : Int64)) * ((65536 : Int64) + (q3 &&& (2305843009213693951 : Int64))))) + ((Int32.toInt64 (((p4.toUInt32 >>> ((1 : Int32) &&& 31).toUInt32).toInt32) % (3 : Int32))) - (1 : Int64))))])) _
    refine XS.lsub X4.here hx rfl (hb hby at_92) rfl ?_
    show Steps p.tables e below (T4.setTop (mkF m 93 #[.val (.long q1), .second, .val (.long q2), .second, .val (.long q3), .second, .val (.int p4), .val (.long ((65536 : Int64) + (q3 &&& (2305843009213693951 : Int64)))), .second, .val (.long ((q1 + ((q2 &&& (281474976710655 : Int64)) * ((65536 : Int64) + (q3 &&& (2305843009213693951 : Int64))))) + ((Int32.toInt64 (((p4.toUInt32 >>> ((1 : Int32) &&& 31).toUInt32).toInt32) % (3 : Int32))) - (1 : Int64)))), .second, .val (.ref b1), .val (.long ((own_fix ((((q1 + ((q2 &&& (281474976710655 : Int64)) * ((65536 : Int64) + (q3 &&& (2305843009213693951 : Int64))))) + ((Int32.toInt64 (((p4.toUInt32 >>> ((1 : Int32) &&& 31).toUInt32).toInt32) % (3 : Int32))) - (1 : Int64))) - q1) - (1 : Int64)) ((65536 : Int64) + (q3 &&& (2305843009213693951 : Int64))) t) + (1 : Int64))), .second, .unset, .unset] [(.long (((q1 + ((q2 &&& (281474976710655 : Int64)) * ((65536 : Int64) + (q3 &&& (2305843009213693951 : Int64))))) + ((Int32.toInt64 (((p4.toUInt32 >>> ((1 : Int32) &&& 31).toUInt32).toInt32) % (3 : Int32))) - (1 : Int64))) - q1))])) _
    refine XS.lconst X4.here hx rfl (hb hby at_93) ?_
    show Steps p.tables e below (T4.setTop (mkF m 94 #[.val (.long q1), .second, .val (.long q2), .second, .val (.long q3), .second, .val (.int p4), .val (.long ((65536 : Int64) + (q3 &&& (2305843009213693951 : Int64)))), .second, .val (.long ((q1 + ((q2 &&& (281474976710655 : Int64)) * ((65536 : Int64) + (q3 &&& (2305843009213693951 : Int64))))) + ((Int32.toInt64 (((p4.toUInt32 >>> ((1 : Int32) &&& 31).toUInt32).toInt32) % (3 : Int32))) - (1 : Int64)))), .second, .val (.ref b1), .val (.long ((own_fix ((((q1 + ((q2 &&& (281474976710655 : Int64)) * ((65536 : Int64) + (q3 &&& (2305843009213693951 : Int64))))) + ((Int32.toInt64 (((p4.toUInt32 >>> ((1 : Int32) &&& 31).toUInt32).toInt32) % (3 : Int32))) - (1 : Int64))) - q1) - (1 : Int64)) ((65536 : Int64) + (q3 &&& (2305843009213693951 : Int64))) t) + (1 : Int64))), .second, .unset, .unset] [(.long (1 : Int64)), (.long (((q1 + ((q2 &&& (281474976710655 : Int64)) * ((65536 : Int64) + (q3 &&& (2305843009213693951 : Int64))))) + ((Int32.toInt64 (((p4.toUInt32 >>> ((1 : Int32) &&& 31).toUInt32).toInt32) % (3 : Int32))) - (1 : Int64))) - q1))])) _
    refine XS.lsub X4.here hx rfl (hb hby at_94) rfl ?_
    show Steps p.tables e below (T4.setTop (mkF m 95 #[.val (.long q1), .second, .val (.long q2), .second, .val (.long q3), .second, .val (.int p4), .val (.long ((65536 : Int64) + (q3 &&& (2305843009213693951 : Int64)))), .second, .val (.long ((q1 + ((q2 &&& (281474976710655 : Int64)) * ((65536 : Int64) + (q3 &&& (2305843009213693951 : Int64))))) + ((Int32.toInt64 (((p4.toUInt32 >>> ((1 : Int32) &&& 31).toUInt32).toInt32) % (3 : Int32))) - (1 : Int64)))), .second, .val (.ref b1), .val (.long ((own_fix ((((q1 + ((q2 &&& (281474976710655 : Int64)) * ((65536 : Int64) + (q3 &&& (2305843009213693951 : Int64))))) + ((Int32.toInt64 (((p4.toUInt32 >>> ((1 : Int32) &&& 31).toUInt32).toInt32) % (3 : Int32))) - (1 : Int64))) - q1) - (1 : Int64)) ((65536 : Int64) + (q3 &&& (2305843009213693951 : Int64))) t) + (1 : Int64))), .second, .unset, .unset] [(.long ((((q1 + ((q2 &&& (281474976710655 : Int64)) * ((65536 : Int64) + (q3 &&& (2305843009213693951 : Int64))))) + ((Int32.toInt64 (((p4.toUInt32 >>> ((1 : Int32) &&& 31).toUInt32).toInt32) % (3 : Int32))) - (1 : Int64))) - q1) - (1 : Int64)))])) _
    refine XS.lload X4.here hx rfl (hb hby at_95) rfl ?_
    show Steps p.tables e below (T4.setTop (mkF m 97 #[.val (.long q1), .second, .val (.long q2), .second, .val (.long q3), .second, .val (.int p4), .val (.long ((65536 : Int64) + (q3 &&& (2305843009213693951 : Int64)))), .second, .val (.long ((q1 + ((q2 &&& (281474976710655 : Int64)) * ((65536 : Int64) + (q3 &&& (2305843009213693951 : Int64))))) + ((Int32.toInt64 (((p4.toUInt32 >>> ((1 : Int32) &&& 31).toUInt32).toInt32) % (3 : Int32))) - (1 : Int64)))), .second, .val (.ref b1), .val (.long ((own_fix ((((q1 + ((q2 &&& (281474976710655 : Int64)) * ((65536 : Int64) + (q3 &&& (2305843009213693951 : Int64))))) + ((Int32.toInt64 (((p4.toUInt32 >>> ((1 : Int32) &&& 31).toUInt32).toInt32) % (3 : Int32))) - (1 : Int64))) - q1) - (1 : Int64)) ((65536 : Int64) + (q3 &&& (2305843009213693951 : Int64))) t) + (1 : Int64))), .second, .unset, .unset] [(.long ((65536 : Int64) + (q3 &&& (2305843009213693951 : Int64)))), (.long ((((q1 + ((q2 &&& (281474976710655 : Int64)) * ((65536 : Int64) + (q3 &&& (2305843009213693951 : Int64))))) + ((Int32.toInt64 (((p4.toUInt32 >>> ((1 : Int32) &&& 31).toUInt32).toInt32) % (3 : Int32))) - (1 : Int64))) - q1) - (1 : Int64)))])) _
    refine st6 _ ?_
    show Steps p.tables e below (T6.setTop (mkF m 100 #[.val (.long q1), .second, .val (.long q2), .second, .val (.long q3), .second, .val (.int p4), .val (.long ((65536 : Int64) + (q3 &&& (2305843009213693951 : Int64)))), .second, .val (.long ((q1 + ((q2 &&& (281474976710655 : Int64)) * ((65536 : Int64) + (q3 &&& (2305843009213693951 : Int64))))) + ((Int32.toInt64 (((p4.toUInt32 >>> ((1 : Int32) &&& 31).toUInt32).toInt32) % (3 : Int32))) - (1 : Int64)))), .second, .val (.ref b1), .val (.long ((own_fix ((((q1 + ((q2 &&& (281474976710655 : Int64)) * ((65536 : Int64) + (q3 &&& (2305843009213693951 : Int64))))) + ((Int32.toInt64 (((p4.toUInt32 >>> ((1 : Int32) &&& 31).toUInt32).toInt32) % (3 : Int32))) - (1 : Int64))) - q1) - (1 : Int64)) ((65536 : Int64) + (q3 &&& (2305843009213693951 : Int64))) t) + (1 : Int64))), .second, .unset, .unset] [(.long (own_udiv ((((q1 + ((q2 &&& (281474976710655 : Int64)) * ((65536 : Int64) + (q3 &&& (2305843009213693951 : Int64))))) + ((Int32.toInt64 (((p4.toUInt32 >>> ((1 : Int32) &&& 31).toUInt32).toInt32) % (3 : Int32))) - (1 : Int64))) - q1) - (1 : Int64)) ((65536 : Int64) + (q3 &&& (2305843009213693951 : Int64)))))])) _
    refine XS.lconst X6.here hx rfl (hb hby at_100) ?_
    show Steps p.tables e below (T6.setTop (mkF m 101 #[.val (.long q1), .second, .val (.long q2), .second, .val (.long q3), .second, .val (.int p4), .val (.long ((65536 : Int64) + (q3 &&& (2305843009213693951 : Int64)))), .second, .val (.long ((q1 + ((q2 &&& (281474976710655 : Int64)) * ((65536 : Int64) + (q3 &&& (2305843009213693951 : Int64))))) + ((Int32.toInt64 (((p4.toUInt32 >>> ((1 : Int32) &&& 31).toUInt32).toInt32) % (3 : Int32))) - (1 : Int64)))), .second, .val (.ref b1), .val (.long ((own_fix ((((q1 + ((q2 &&& (281474976710655 : Int64)) * ((65536 : Int64) + (q3 &&& (2305843009213693951 : Int64))))) + ((Int32.toInt64 (((p4.toUInt32 >>> ((1 : Int32) &&& 31).toUInt32).toInt32) % (3 : Int32))) - (1 : Int64))) - q1) - (1 : Int64)) ((65536 : Int64) + (q3 &&& (2305843009213693951 : Int64))) t) + (1 : Int64))), .second, .unset, .unset] [(.long (1 : Int64)), (.long (own_udiv ((((q1 + ((q2 &&& (281474976710655 : Int64)) * ((65536 : Int64) + (q3 &&& (2305843009213693951 : Int64))))) + ((Int32.toInt64 (((p4.toUInt32 >>> ((1 : Int32) &&& 31).toUInt32).toInt32) % (3 : Int32))) - (1 : Int64))) - q1) - (1 : Int64)) ((65536 : Int64) + (q3 &&& (2305843009213693951 : Int64)))))])) _
    refine XS.ladd X6.here hx rfl (hb hby at_101) rfl ?_
    show Steps p.tables e below (T6.setTop (mkF m 102 #[.val (.long q1), .second, .val (.long q2), .second, .val (.long q3), .second, .val (.int p4), .val (.long ((65536 : Int64) + (q3 &&& (2305843009213693951 : Int64)))), .second, .val (.long ((q1 + ((q2 &&& (281474976710655 : Int64)) * ((65536 : Int64) + (q3 &&& (2305843009213693951 : Int64))))) + ((Int32.toInt64 (((p4.toUInt32 >>> ((1 : Int32) &&& 31).toUInt32).toInt32) % (3 : Int32))) - (1 : Int64)))), .second, .val (.ref b1), .val (.long ((own_fix ((((q1 + ((q2 &&& (281474976710655 : Int64)) * ((65536 : Int64) + (q3 &&& (2305843009213693951 : Int64))))) + ((Int32.toInt64 (((p4.toUInt32 >>> ((1 : Int32) &&& 31).toUInt32).toInt32) % (3 : Int32))) - (1 : Int64))) - q1) - (1 : Int64)) ((65536 : Int64) + (q3 &&& (2305843009213693951 : Int64))) t) + (1 : Int64))), .second, .unset, .unset] [(.long ((own_udiv ((((q1 + ((q2 &&& (281474976710655 : Int64)) * ((65536 : Int64) + (q3 &&& (2305843009213693951 : Int64))))) + ((Int32.toInt64 (((p4.toUInt32 >>> ((1 : Int32) &&& 31).toUInt32).toInt32) % (3 : Int32))) - (1 : Int64))) - q1) - (1 : Int64)) ((65536 : Int64) + (q3 &&& (2305843009213693951 : Int64)))) + (1 : Int64)))])) _
    refine XS.lstore X6.here hx rfl (hb hby at_102) rfl (l' := #[.val (.long q1), .second, .val (.long q2), .second, .val (.long q3), .second, .val (.int p4), .val (.long ((65536 : Int64) + (q3 &&& (2305843009213693951 : Int64)))), .second, .val (.long ((q1 + ((q2 &&& (281474976710655 : Int64)) * ((65536 : Int64) + (q3 &&& (2305843009213693951 : Int64))))) + ((Int32.toInt64 (((p4.toUInt32 >>> ((1 : Int32) &&& 31).toUInt32).toInt32) % (3 : Int32))) - (1 : Int64)))), .second, .val (.ref b1), .val (.long ((own_fix ((((q1 + ((q2 &&& (281474976710655 : Int64)) * ((65536 : Int64) + (q3 &&& (2305843009213693951 : Int64))))) + ((Int32.toInt64 (((p4.toUInt32 >>> ((1 : Int32) &&& 31).toUInt32).toInt32) % (3 : Int32))) - (1 : Int64))) - q1) - (1 : Int64)) ((65536 : Int64) + (q3 &&& (2305843009213693951 : Int64))) t) + (1 : Int64))), .second, .val (.long ((own_udiv ((((q1 + ((q2 &&& (281474976710655 : Int64)) * ((65536 : Int64) + (q3 &&& (2305843009213693951 : Int64))))) + ((Int32.toInt64 (((p4.toUInt32 >>> ((1 : Int32) &&& 31).toUInt32).toInt32) % (3 : Int32))) - (1 : Int64))) - q1) - (1 : Int64)) ((65536 : Int64) + (q3 &&& (2305843009213693951 : Int64)))) + (1 : Int64))), .second]) rfl ?_
    show Steps p.tables e below (T6.setTop (mkF m 104 #[.val (.long q1), .second, .val (.long q2), .second, .val (.long q3), .second, .val (.int p4), .val (.long ((65536 : Int64) + (q3 &&& (2305843009213693951 : Int64)))), .second, .val (.long ((q1 + ((q2 &&& (281474976710655 : Int64)) * ((65536 : Int64) + (q3 &&& (2305843009213693951 : Int64))))) + ((Int32.toInt64 (((p4.toUInt32 >>> ((1 : Int32) &&& 31).toUInt32).toInt32) % (3 : Int32))) - (1 : Int64)))), .second, .val (.ref b1), .val (.long ((own_fix ((((q1 + ((q2 &&& (281474976710655 : Int64)) * ((65536 : Int64) + (q3 &&& (2305843009213693951 : Int64))))) + ((Int32.toInt64 (((p4.toUInt32 >>> ((1 : Int32) &&& 31).toUInt32).toInt32) % (3 : Int32))) - (1 : Int64))) - q1) - (1 : Int64)) ((65536 : Int64) + (q3 &&& (2305843009213693951 : Int64))) t) + (1 : Int64))), .second, .val (.long ((own_udiv ((((q1 + ((q2 &&& (281474976710655 : Int64)) * ((65536 : Int64) + (q3 &&& (2305843009213693951 : Int64))))) + ((Int32.toInt64 (((p4.toUInt32 >>> ((1 : Int32) &&& 31).toUInt32).toInt32) % (3 : Int32))) - (1 : Int64))) - q1) - (1 : Int64)) ((65536 : Int64) + (q3 &&& (2305843009213693951 : Int64)))) + (1 : Int64))), .second] [])) _
    refine XS.lload X6.here hx rfl (hb hby at_104) rfl ?_
    show Steps p.tables e below (T6.setTop (mkF m 106 #[.val (.long q1), .second, .val (.long q2), .second, .val (.long q3), .second, .val (.int p4), .val (.long ((65536 : Int64) + (q3 &&& (2305843009213693951 : Int64)))), .second, .val (.long ((q1 + ((q2 &&& (281474976710655 : Int64)) * ((65536 : Int64) + (q3 &&& (2305843009213693951 : Int64))))) + ((Int32.toInt64 (((p4.toUInt32 >>> ((1 : Int32) &&& 31).toUInt32).toInt32) % (3 : Int32))) - (1 : Int64)))), .second, .val (.ref b1), .val (.long ((own_fix ((((q1 + ((q2 &&& (281474976710655 : Int64)) * ((65536 : Int64) + (q3 &&& (2305843009213693951 : Int64))))) + ((Int32.toInt64 (((p4.toUInt32 >>> ((1 : Int32) &&& 31).toUInt32).toInt32) % (3 : Int32))) - (1 : Int64))) - q1) - (1 : Int64)) ((65536 : Int64) + (q3 &&& (2305843009213693951 : Int64))) t) + (1 : Int64))), .second, .val (.long ((own_udiv ((((q1 + ((q2 &&& (281474976710655 : Int64)) * ((65536 : Int64) + (q3 &&& (2305843009213693951 : Int64))))) + ((Int32.toInt64 (((p4.toUInt32 >>> ((1 : Int32) &&& 31).toUInt32).toInt32) % (3 : Int32))) - (1 : Int64))) - q1) - (1 : Int64)) ((65536 : Int64) + (q3 &&& (2305843009213693951 : Int64)))) + (1 : Int64))), .second] [(.long ((own_fix ((((q1 + ((q2 &&& (281474976710655 : Int64)) * ((65536 : Int64) + (q3 &&& (2305843009213693951 : Int64))))) + ((Int32.toInt64 (((p4.toUInt32 >>> ((1 : Int32) &&& 31).toUInt32).toInt32) % (3 : Int32))) - (1 : Int64))) - q1) - (1 : Int64)) ((65536 : Int64) + (q3 &&& (2305843009213693951 : Int64))) t) + (1 : Int64)))])) _
    refine XS.lload X6.here hx rfl (hb hby at_106) rfl ?_
    show Steps p.tables e below (T6.setTop (mkF m 108 #[.val (.long q1), .second, .val (.long q2), .second, .val (.long q3), .second, .val (.int p4), .val (.long ((65536 : Int64) + (q3 &&& (2305843009213693951 : Int64)))), .second, .val (.long ((q1 + ((q2 &&& (281474976710655 : Int64)) * ((65536 : Int64) + (q3 &&& (2305843009213693951 : Int64))))) + ((Int32.toInt64 (((p4.toUInt32 >>> ((1 : Int32) &&& 31).toUInt32).toInt32) % (3 : Int32))) - (1 : Int64)))), .second, .val (.ref b1), .val (.long ((own_fix ((((q1 + ((q2 &&& (281474976710655 : Int64)) * ((65536 : Int64) + (q3 &&& (2305843009213693951 : Int64))))) + ((Int32.toInt64 (((p4.toUInt32 >>> ((1 : Int32) &&& 31).toUInt32).toInt32) % (3 : Int32))) - (1 : Int64))) - q1) - (1 : Int64)) ((65536 : Int64) + (q3 &&& (2305843009213693951 : Int64))) t) + (1 : Int64))), .second, .val (.long ((own_udiv ((((q1 + ((q2 &&& (281474976710655 : Int64)) * ((65536 : Int64) + (q3 &&& (2305843009213693951 : Int64))))) + ((Int32.toInt64 (((p4.toUInt32 >>> ((1 : Int32) &&& 31).toUInt32).toInt32) % (3 : Int32))) - (1 : Int64))) - q1) - (1 : Int64)) ((65536 : Int64) + (q3 &&& (2305843009213693951 : Int64)))) + (1 : Int64))), .second] [(.long ((own_udiv ((((q1 + ((q2 &&& (281474976710655 : Int64)) * ((65536 : Int64) + (q3 &&& (2305843009213693951 : Int64))))) + ((Int32.toInt64 (((p4.toUInt32 >>> ((1 : Int32) &&& 31).toUInt32).toInt32) % (3 : Int32))) - (1 : Int64))) - q1) - (1 : Int64)) ((65536 : Int64) + (q3 &&& (2305843009213693951 : Int64)))) + (1 : Int64))), (.long ((own_fix ((((q1 + ((q2 &&& (281474976710655 : Int64)) * ((65536 : Int64) + (q3 &&& (2305843009213693951 : Int64))))) + ((Int32.toInt64 (((p4.toUInt32 >>> ((1 : Int32) &&& 31).toUInt32).toInt32) % (3 : Int32))) - (1 : Int64))) - q1) - (1 : Int64)) ((65536 : Int64) + (q3 &&& (2305843009213693951 : Int64))) t) + (1 : Int64)))])) _
    refine XS.lcmp X6.here hx rfl (hb hby at_108) rfl ?_
    show Steps p.tables e below (T6.setTop (mkF m 109 #[.val (.long q1), .second, .val (.long q2), .second, .val (.long q3), .second, .val (.int p4), .val (.long ((65536 : Int64) + (q3 &&& (2305843009213693951 : Int64)))), .second, .val (.long ((q1 + ((q2 &&& (281474976710655 : Int64)) * ((65536 : Int64) + (q3 &&& (2305843009213693951 : Int64))))) + ((Int32.toInt64 (((p4.toUInt32 >>> ((1 : Int32) &&& 31).toUInt32).toInt32) % (3 : Int32))) - (1 : Int64)))), .second, .val (.ref b1), .val (.long ((own_fix ((((q1 + ((q2 &&& (281474976710655 : Int64)) * ((65536 : Int64) + (q3 &&& (2305843009213693951 : Int64))))) + ((Int32.toInt64 (((p4.toUInt32 >>> ((1 : Int32) &&& 31).toUInt32).toInt32) % (3 : Int32))) - (1 : Int64))) - q1) - (1 : Int64)) ((65536 : Int64) + (q3 &&& (2305843009213693951 : Int64))) t) + (1 : Int64))), .second, .val (.long ((own_udiv ((((q1 + ((q2 &&& (281474976710655 : Int64)) * ((65536 : Int64) + (q3 &&& (2305843009213693951 : Int64))))) + ((Int32.toInt64 (((p4.toUInt32 >>> ((1 : Int32) &&& 31).toUInt32).toInt32) % (3 : Int32))) - (1 : Int64))) - q1) - (1 : Int64)) ((65536 : Int64) + (q3 &&& (2305843009213693951 : Int64)))) + (1 : Int64))), .second] [(.int (lcmpW ((own_fix ((((q1 + ((q2 &&& (281474976710655 : Int64)) * ((65536 : Int64) + (q3 &&& (2305843009213693951 : Int64))))) + ((Int32.toInt64 (((p4.toUInt32 >>> ((1 : Int32) &&& 31).toUInt32).toInt32) % (3 : Int32))) - (1 : Int64))) - q1) - (1 : Int64)) ((65536 : Int64) + (q3 &&& (2305843009213693951 : Int64))) t) + (1 : Int64)) ((own_udiv ((((q1 + ((q2 &&& (281474976710655 : Int64)) * ((65536 : Int64) + (q3 &&& (2305843009213693951 : Int64))))) + ((Int32.toInt64 (((p4.toUInt32 >>> ((1 : Int32) &&& 31).toUInt32).toInt32) % (3 : Int32))) - (1 : Int64))) - q1) - (1 : Int64)) ((65536 : Int64) + (q3 &&& (2305843009213693951 : Int64)))) + (1 : Int64))))])) _
    refine XS.ifNo X6.here hx rfl (hb hby at_109) rfl ((if0 _ _).trans (teq ((lcW _ _).trans ((lc_eq _ _).mpr heq))).2) ?_
    show Steps p.tables e below (T6.setTop (mkF m 112 #[.val (.long q1), .second, .val (.long q2), .second, .val (.long q3), .second, .val (.int p4), .val (.long ((65536 : Int64) + (q3 &&& (2305843009213693951 : Int64)))), .second, .val (.long ((q1 + ((q2 &&& (281474976710655 : Int64)) * ((65536 : Int64) + (q3 &&& (2305843009213693951 : Int64))))) + ((Int32.toInt64 (((p4.toUInt32 >>> ((1 : Int32) &&& 31).toUInt32).toInt32) % (3 : Int32))) - (1 : Int64)))), .second, .val (.ref b1), .val (.long ((own_fix ((((q1 + ((q2 &&& (281474976710655 : Int64)) * ((65536 : Int64) + (q3 &&& (2305843009213693951 : Int64))))) + ((Int32.toInt64 (((p4.toUInt32 >>> ((1 : Int32) &&& 31).toUInt32).toInt32) % (3 : Int32))) - (1 : Int64))) - q1) - (1 : Int64)) ((65536 : Int64) + (q3 &&& (2305843009213693951 : Int64))) t) + (1 : Int64))), .second, .val (.long ((own_udiv ((((q1 + ((q2 &&& (281474976710655 : Int64)) * ((65536 : Int64) + (q3 &&& (2305843009213693951 : Int64))))) + ((Int32.toInt64 (((p4.toUInt32 >>> ((1 : Int32) &&& 31).toUInt32).toInt32) % (3 : Int32))) - (1 : Int64))) - q1) - (1 : Int64)) ((65536 : Int64) + (q3 &&& (2305843009213693951 : Int64)))) + (1 : Int64))), .second] [])) _
    refine XS.iconst X6.here hx rfl (hb hby at_112) ?_
    show Steps p.tables e below (T6.setTop (mkF m 113 #[.val (.long q1), .second, .val (.long q2), .second, .val (.long q3), .second, .val (.int p4), .val (.long ((65536 : Int64) + (q3 &&& (2305843009213693951 : Int64)))), .second, .val (.long ((q1 + ((q2 &&& (281474976710655 : Int64)) * ((65536 : Int64) + (q3 &&& (2305843009213693951 : Int64))))) + ((Int32.toInt64 (((p4.toUInt32 >>> ((1 : Int32) &&& 31).toUInt32).toInt32) % (3 : Int32))) - (1 : Int64)))), .second, .val (.ref b1), .val (.long ((own_fix ((((q1 + ((q2 &&& (281474976710655 : Int64)) * ((65536 : Int64) + (q3 &&& (2305843009213693951 : Int64))))) + ((Int32.toInt64 (((p4.toUInt32 >>> ((1 : Int32) &&& 31).toUInt32).toInt32) % (3 : Int32))) - (1 : Int64))) - q1) - (1 : Int64)) ((65536 : Int64) + (q3 &&& (2305843009213693951 : Int64))) t) + (1 : Int64))), .second, .val (.long ((own_udiv ((((q1 + ((q2 &&& (281474976710655 : Int64)) * ((65536 : Int64) + (q3 &&& (2305843009213693951 : Int64))))) + ((Int32.toInt64 (((p4.toUInt32 >>> ((1 : Int32) &&& 31).toUInt32).toInt32) % (3 : Int32))) - (1 : Int64))) - q1) - (1 : Int64)) ((65536 : Int64) + (q3 &&& (2305843009213693951 : Int64)))) + (1 : Int64))), .second] [(.int (1 : Int32))])) _
    refine XS.goto X6.here hx rfl (pc0 := 113) (pc' := 117) rfl (hb hby at_113) (by decide) (by decide) ?_
    show Steps p.tables e below (T6.setTop (mkF m 117 #[.val (.long q1), .second, .val (.long q2), .second, .val (.long q3), .second, .val (.int p4), .val (.long ((65536 : Int64) + (q3 &&& (2305843009213693951 : Int64)))), .second, .val (.long ((q1 + ((q2 &&& (281474976710655 : Int64)) * ((65536 : Int64) + (q3 &&& (2305843009213693951 : Int64))))) + ((Int32.toInt64 (((p4.toUInt32 >>> ((1 : Int32) &&& 31).toUInt32).toInt32) % (3 : Int32))) - (1 : Int64)))), .second, .val (.ref b1), .val (.long ((own_fix ((((q1 + ((q2 &&& (281474976710655 : Int64)) * ((65536 : Int64) + (q3 &&& (2305843009213693951 : Int64))))) + ((Int32.toInt64 (((p4.toUInt32 >>> ((1 : Int32) &&& 31).toUInt32).toInt32) % (3 : Int32))) - (1 : Int64))) - q1) - (1 : Int64)) ((65536 : Int64) + (q3 &&& (2305843009213693951 : Int64))) t) + (1 : Int64))), .second, .val (.long ((own_udiv ((((q1 + ((q2 &&& (281474976710655 : Int64)) * ((65536 : Int64) + (q3 &&& (2305843009213693951 : Int64))))) + ((Int32.toInt64 (((p4.toUInt32 >>> ((1 : Int32) &&& 31).toUInt32).toInt32) % (3 : Int32))) - (1 : Int64))) - q1) - (1 : Int64)) ((65536 : Int64) + (q3 &&& (2305843009213693951 : Int64)))) + (1 : Int64))), .second] [(.int (1 : Int32))])) _
    exact retN X6 hx (t := .boolean) Bd.returns (by simp) (hb hby at_117) hr
  · show Q0 n0 _ _
    exact ⟨rfl, N6⟩
end Jvm.Pilot.@@N@@
namespace Jvm.Pilot.@@N@@.OwnFp
open Jvm.FP.Core Jvm.Free.Fl Jvm.Op
/-! A rounding law: the rounded magnitude is off by at most one part in 2^53. -/
theorem scale {m D N Z X A B : Nat} {k1 k2 : Nat} (h1 : m * D * 2 ^ k1 = Z * B * 2 ^ k2) (h2 : N * 2 ^ k1 = A * X * 2 ^ k2)
    (hi : 9007199254740992 * (m * D) ≤ 9007199254740993 * N) (lo : 9007199254740991 * N ≤ 9007199254740992 * (m * D)) :
    9007199254740992 * (Z * B) ≤ 9007199254740993 * (A * X) ∧ 9007199254740991 * (A * X) ≤ 9007199254740992 * (Z * B) := by
  have p2 := Nat.two_pow_pos k2
  constructor
  · refine Nat.le_of_mul_le_mul_right ?_ p2
    calc 9007199254740992 * (Z * B) * 2 ^ k2 = 9007199254740992 * (Z * B * 2 ^ k2) := Nat.mul_assoc ..
      _ = 9007199254740992 * (m * D * 2 ^ k1) := by rw [h1]
      _ = 9007199254740992 * (m * D) * 2 ^ k1 := (Nat.mul_assoc ..).symm
      _ ≤ 9007199254740993 * N * 2 ^ k1 := Nat.mul_le_mul_right _ hi
      _ = 9007199254740993 * (N * 2 ^ k1) := Nat.mul_assoc ..
      _ = 9007199254740993 * (A * X * 2 ^ k2) := by rw [h2]
      _ = 9007199254740993 * (A * X) * 2 ^ k2 := (Nat.mul_assoc ..).symm
  · refine Nat.le_of_mul_le_mul_right ?_ p2
    calc 9007199254740991 * (A * X) * 2 ^ k2 = 9007199254740991 * (A * X * 2 ^ k2) := Nat.mul_assoc ..
      _ = 9007199254740991 * (N * 2 ^ k1) := by rw [h2]
      _ = 9007199254740991 * N * 2 ^ k1 := (Nat.mul_assoc ..).symm
      _ ≤ 9007199254740992 * (m * D) * 2 ^ k1 := Nat.mul_le_mul_right _ lo
      _ = 9007199254740992 * (m * D * 2 ^ k1) := Nat.mul_assoc ..
      _ = 9007199254740992 * (Z * B * 2 ^ k2) := by rw [h1]
      _ = 9007199254740992 * (Z * B) * 2 ^ k2 := (Nat.mul_assoc ..).symm
theorem ac1 (a b k : Nat) : a * (b * k) * k = a * (b * (k * k)) := by ac_rfl
theorem ac2 (a b k : Nat) : a * (b * k) = a * b * k := by ac_rfl
theorem ac3 (a b c d : Nat) : a * (b * (c * d)) = a * b * c * d := by ac_rfl
theorem ac4 (z k : Nat) : 2 * z * k = z * (2 * k) := by ac_rfl
theorem ac5 (p k q : Nat) : p * k * (q * k) = k * k * (p * q) := by ac_rfl
theorem ac6 (a y k : Nat) : a * y * k = a * (y * k) := by ac_rfl
theorem ac7 (a z t k : Nat) : a * (z * (t * k)) = a * (t * z) * k := by ac_rfl
theorem ac8 (z t p q : Nat) : t * z * (p * q) = z * q * (t * p) := by ac_rfl
theorem ac9 (z t k : Nat) : z * t * k = z * k * t := by ac_rfl
theorem ac10 (d k t : Nat) : ((d + 1) * k + k) * t = (d + 2) * t * k := by
  have : (d + 1) * k + k = (d + 2) * k := (Nat.succ_mul (d + 1) k).symm
  rw [this]; exact ac9 _ _ _
theorem ac11 (m b p k : Nat) : m * (b * p) * k = m * b * (p * k) := by ac_rfl
theorem ac12 (m b p k : Nat) : m * b * (p * k) = m * p * b * k := by ac_rfl
theorem rel {s : Bool} {A B : Nat} (hA : 0 < A) (hB : 0 < B) (hlo : B ≤ A * 2 ^ 500) (hhi : A < B * 2 ^ 400) :
    ∃ c q, roundRatio b64 s A B 0 = .fin s c q ∧ 9007199254740992 * (inUnits c q b64.qmin * B) ≤ 9007199254740993 * (A * one64) ∧ 9007199254740991 * (A * one64) ≤ 9007199254740992 * (inUnits c q b64.qmin * B) := by
  have hq1 := quantum_ge b64 A B 0
  have hqb := quantum_below (f := b64) hA hB 0
  have hmle := nearest_units_le (f := b64) hA hB 0
  have hnot : ¬ Below A B (quantum b64 A B 0 - 0 + ((b64.p : Int) - 1)) := by
    rcases quantum_not_below (f := b64) hA hB 0 with h | h
    · exfalso
      rw [h, qmin_b64] at hqb
      have e : (-1074 : Int) - 0 + (b64.p : Nat) = ((0 : Nat) : Int) - ((1021 : Nat) : Int) := by decide
      rw [e, below_iff] at hqb
      have h3 : A * 2 ^ 500 < A * 2 ^ 1021 := Nat.mul_lt_mul_of_pos_left (Nat.pow_lt_pow_right (by decide) (by decide)) hA
      rw [Nat.pow_zero, Nat.mul_one] at hqb
      omega
    · exact h
  have hup : quantum b64 A B 0 < 900 := by
    have h1 : Below A B 400 := by
      have e : (400 : Int) = ((400 : Nat) : Int) - ((0 : Nat) : Int) := by decide
      rw [e, below_iff, Nat.pow_zero, Nat.mul_one]; exact hhi
    have := lt_of_below hnot h1
    have hp : (b64.p : Int) = 53 := by decide
    omega
  generalize hQ : quantum b64 A B 0 = Q at *
  have hN := unitsDen_pos hB 0 Q
  have hge : 4503599627370496 * unitsDen B 0 Q ≤ unitsNum A 0 Q := by
    have e : Q - 0 + ((b64.p : Int) - 1) = Q - 0 + ((52 : Nat) : Int) := by have : (b64.p : Int) = 53 := by decide
                                                                            omega
    rw [e, ← units_below] at hnot
    have := Nat.le_of_not_lt hnot
    exact this
  obtain ⟨n1, n2, -⟩ := nearest_spec (unitsNum A 0 Q) (unitsDen B 0 Q) hN
  have hrr : roundRatio b64 s A B 0 = settle b64 s (nearest (unitsNum A 0 Q) (unitsDen B 0 Q)) Q := by
    show (if A = 0 then _ else roundAt b64 s A B 0 (quantum b64 A B 0)) = _
    rw [if_neg (by omega), hQ]; rfl
  have hfin : ∃ c q, roundRatio b64 s A B 0 = .fin s c q := by
    rw [hrr]
    have hm : b64.qmax = 971 := by decide
    have hbd : ∀ (c : Nat) (q : Int), q ≤ 971 → bound b64 s c q = .fin s c q := fun c q h => if_pos (by rw [hm]; exact h)
    generalize nearest (unitsNum A 0 Q) (unitsDen B 0 Q) = mm
    have hst : settle b64 s mm Q = if mm < 2 ^ b64.p then bound b64 s mm Q else bound b64 s b64.tails (Q + 1) := rfl
    rw [hst]
    by_cases hmm : mm < 2 ^ b64.p
    · rw [if_pos hmm]; exact ⟨_, _, hbd _ _ (by omega)⟩
    · rw [if_neg hmm]; exact ⟨_, _, hbd _ _ (by omega)⟩
  obtain ⟨c, q, hf⟩ := hfin
  refine ⟨c, q, hf, ?_⟩
  obtain ⟨-, hval⟩ := settle_value good_b64 hmle (hrr.symm.trans hf) hq1
  rw [hval]
  generalize nearest (unitsNum A 0 Q) (unitsDen B 0 Q) = m at *
  rw [qmin_b64] at hq1
  have i1 : 9007199254740992 * (m * unitsDen B 0 Q) ≤ 9007199254740993 * unitsNum A 0 Q := by
    rw [Nat.mul_assoc] at n2
    generalize m * unitsDen B 0 Q = x at *
    omega
  have i2 : 9007199254740991 * unitsNum A 0 Q ≤ 9007199254740992 * (m * unitsDen B 0 Q) := by
    rw [Nat.add_mul, Nat.mul_assoc] at n1
    generalize m * unitsDen B 0 Q = x at *
    omega
  refine scale (k1 := 1074) (k2 := (0 - Q).toNat) (X := one64) ?_ ?_ i1 i2
  · unfold inUnits unitsDen
    rw [qmin_b64]
    have e : (Q - 0).toNat + 1074 = (Q - (-1074)).toNat + (0 - Q).toNat := by omega
    calc m * (B * 2 ^ (Q - 0).toNat) * 2 ^ 1074 = m * B * (2 ^ ((Q - 0).toNat + 1074)) := by rw [Nat.pow_add]; exact ac11 _ _ _ _
      _ = m * B * (2 ^ ((Q - (-1074)).toNat + (0 - Q).toNat)) := by rw [e]
      _ = m * 2 ^ (Q - (-1074)).toNat * B * 2 ^ (0 - Q).toNat := by rw [Nat.pow_add]; exact ac12 _ _ _ _
  · unfold unitsNum one64
    exact ac9 _ _ _
/-- a double that isn't negative, worth z units of 2^-1074 -/
def Dv (u : UInt64) (z : Nat) : Prop := ∃ c q, val64 u = .fin false c q ∧ inUnits c q b64.qmin = z
theorem Dv.fin {u : UInt64} {z : Nat} (h : Dv u z) : DFin u := by obtain ⟨c, q, h1, -⟩ := h; exact ⟨_, c, q, h1⟩
theorem Dv.nn {u : UInt64} {z : Nat} (h : Dv u z) : NoNaN64 u := (fin64_core.mpr h.fin).noNaN
theorem Dv.l2d {n : Int64} {N : Nat} (hn : n.toInt = N) (h0 : 0 < N) : ∃ z, Dv (FP.l2d n) z ∧ 9007199254740992 * z ≤ 9007199254740993 * (N * one64) ∧ 9007199254740991 * (N * one64) ≤ 9007199254740992 * z := by
  have hlt := n.toInt_lt
  have hb : N < 2 ^ 63 := by omega
  obtain ⟨c, q, h1, h2, h3⟩ := rel (s := false) (A := N) (B := 1) h0 (by decide)
    (Nat.le_trans (by omega : 1 ≤ N) (Nat.le_mul_of_pos_right _ (Nat.two_pow_pos _))) (by rw [Nat.one_mul]; exact Nat.lt_trans hb (Nat.pow_lt_pow_right (by decide) (by decide)))
  rw [Nat.mul_one] at h2 h3
  refine ⟨_, ⟨c, q, ?_, rfl⟩, h2, h3⟩
  rw [← h1]
  have := val64_l2d n
  rw [hn] at this
  have e : ofInt (N : Int) = .fin false N 0 := by
    show Datum.fin (decide ((N : Int) < 0)) (N : Int).natAbs 0 = _
    rw [Int.natAbs_natCast, decide_eq_false (by omega)]
  rw [e] at this; exact this
theorem Dv.zero : Dv (FP.l2d 0) 0 := ⟨0, b64.qmin, by decide +kernel, by unfold inUnits; rw [Nat.zero_mul]⟩
theorem Dv.one : Dv FP.dconst1 one64 := ⟨4503599627370496, -52, by decide +kernel, by decide +kernel⟩
theorem Dv.two : Dv 4611686018427387904 (2 * one64) := ⟨4503599627370496, -51, by decide +kernel, by decide +kernel⟩
theorem Dv.div {u v : UInt64} {x y : Nat} (hu : Dv u x) (hv : Dv v y) (hx : 0 < x) (hy : 0 < y) (hlo : y ≤ x * 2 ^ 500) (hhi : x < y * 2 ^ 400) :
    ∃ z, Dv (FP.ddiv u v) z ∧ 9007199254740992 * (z * y) ≤ 9007199254740993 * (x * one64) ∧ 9007199254740991 * (x * one64) ≤ 9007199254740992 * (z * y) := by
  obtain ⟨c, q, h1, h2⟩ := hu
  obtain ⟨d, r, g1, g2⟩ := hv
  have f1 : FP.Core.fits b64 (.fin false c q) := h1 ▸ val64_fits u
  have f2 : FP.Core.fits b64 (.fin false d r) := g1 ▸ val64_fits v
  have l1 := f1.2.1
  have l2 := f2.2.1
  rw [qmin_b64] at l1 l2
  unfold inUnits at h2 g2
  rw [qmin_b64] at h2 g2
  have hd : d ≠ 0 := by rintro rfl; rw [Nat.zero_mul] at g2; omega
  obtain ⟨c', q', r1, r2, r3⟩ := rel (s := false) hx hy hlo hhi
  refine ⟨_, ⟨c', q', ?_, rfl⟩, r2, r3⟩
  rw [← r1]
  have := val64_ddiv u v
  rw [h1, g1] at this
  refine this.trans ?_
  show (if d = 0 then _ else roundRatio b64 (false != false) c d (q - r)) = _
  rw [if_neg hd]
  refine roundRatio_congr (by omega) hy ?_
  rw [← h2, ← g2]
  have e : (r - (-1074)).toNat + (q - r - 0).toNat = (q - (-1074)).toNat + (0 - (q - r)).toNat := by omega
  calc c * (d * 2 ^ (r - (-1074)).toNat) * 2 ^ (q - r - 0).toNat = c * d * 2 ^ ((r - (-1074)).toNat + (q - r - 0).toNat) := by rw [Nat.pow_add]; ac_rfl
    _ = c * d * 2 ^ ((q - (-1074)).toNat + (0 - (q - r)).toNat) := by rw [e]
    _ = c * 2 ^ (q - (-1074)).toNat * d * 2 ^ (0 - (q - r)).toNat := by rw [Nat.pow_add]; ac_rfl
theorem Dv.mul {u v : UInt64} {x y : Nat} (hu : Dv u x) (hv : Dv v y) (hx : 0 < x) (hy : 0 < y) (hlo : one64 * one64 ≤ x * y * 2 ^ 500) (hhi : x * y < one64 * one64 * 2 ^ 400) :
    ∃ z, Dv (FP.dmul u v) z ∧ 9007199254740992 * (z * one64) ≤ 9007199254740993 * (x * y) ∧ 9007199254740991 * (x * y) ≤ 9007199254740992 * (z * one64) := by
  obtain ⟨c, q, h1, h2⟩ := hu
  obtain ⟨d, r, g1, g2⟩ := hv
  have f1 : FP.Core.fits b64 (.fin false c q) := h1 ▸ val64_fits u
  have f2 : FP.Core.fits b64 (.fin false d r) := g1 ▸ val64_fits v
  obtain ⟨p1, p2, p3⟩ := product_units f1 f2
  have hK := one64_pos
  obtain ⟨c', q', r1, r2, r3⟩ := rel (s := false) (A := x * y) (B := one64 * one64) (Nat.mul_pos hx hy) (Nat.mul_pos hK hK) hlo hhi
  refine ⟨_, ⟨c', q', ?_, rfl⟩, ?_, ?_⟩
  · rw [← r1]
    have := val64_dmul u v
    rw [h1, g1, p1] at this
    refine this.trans ?_
    show roundRatio b64 (false != false) (c * d) 1 (q + r) = _
    refine roundRatio_congr (by decide) (Nat.mul_pos hK hK) ?_
    have p4 : inUnits (c * d) (q + r) (2 * b64.qmin) = x * y := by rw [p3, ← h2, ← g2]; rfl
    unfold inUnits at p4
    rw [qmin_b64] at p2 p4
    rw [← p4, show one64 * one64 = 2 ^ 2148 from by unfold one64; rw [← Nat.pow_add]]
    have e : 2148 + (q + r - 0).toNat = (q + r - 2 * (-1074)).toNat + (0 - (q + r)).toNat := by omega
    rw [Nat.mul_one, Nat.mul_assoc, ← Nat.pow_add, e, Nat.pow_add]
    exact ac2 _ _ _
  · refine Nat.le_of_mul_le_mul_right ?_ hK
    calc 9007199254740992 * (inUnits c' q' b64.qmin * one64) * one64 = 9007199254740992 * (inUnits c' q' b64.qmin * (one64 * one64)) := ac1 _ _ _
      _ ≤ 9007199254740993 * (x * y * one64) := r2
      _ = 9007199254740993 * (x * y) * one64 := ac2 _ _ _
  · refine Nat.le_of_mul_le_mul_right ?_ hK
    calc 9007199254740991 * (x * y) * one64 = 9007199254740991 * (x * y * one64) := (ac2 _ _ _).symm
      _ ≤ 9007199254740992 * (inUnits c' q' b64.qmin * (one64 * one64)) := r3
      _ = 9007199254740992 * (inUnits c' q' b64.qmin * one64) * one64 := (ac1 _ _ _).symm
theorem Dv.mul0 {u v : UInt64} {y : Nat} (hu : Dv u 0) (hv : Dv v y) : Dv (FP.dmul u v) 0 := by
  obtain ⟨c, q, h1, h2⟩ := hu
  obtain ⟨d, r, g1, g2⟩ := hv
  have hc : c = 0 := by
    unfold inUnits at h2
    rcases Nat.mul_eq_zero.mp h2 with h | h
    · exact h
    · exact absurd h (Nat.ne_of_gt (Nat.two_pow_pos _))
  subst hc
  refine ⟨0, b64.qmin, ?_, by unfold inUnits; rw [Nat.zero_mul]⟩
  have := val64_dmul u v
  rw [h1, g1] at this
  refine this.trans ?_
  show roundRatio b64 (false != false) (0 * d) 1 (q + r) = _
  rw [Nat.zero_mul]; rfl
theorem Dv.d2l {u : UInt64} {z : Nat} (h : Dv u z) (hz : z / one64 < 2 ^ 63) : (FP.d2l u).toInt = ((z / one64 : Nat) : Int) := by
  obtain ⟨c, q, h1, h2⟩ := h
  have := d2l_val (a := u) (by rw [h1]; exact fun q => nomatch q)
  rw [h1] at this
  have e : zmag b64 (.fin false c q) = z := h2
  rw [e] at this
  refine this.trans ?_
  show max _ (min _ (((z / one64 : Nat)) : Int)) = _
  generalize z / one64 = m at *
  omega
/-! The guess is off by less than one: N over T, the reciprocal of T rounded twice, the product rounded. M = 2^51. -/
theorem near {K M N T Zu ZT Zr Zp : Nat} (hK : 0 < K) (hM : M = 2251799813685248) (hT : 0 < T) (hNT : N < 281474976710656 * T)
    (u1 : M * Zu ≤ (M + 1) * (N * K)) (u2 : (M - 1) * (N * K) ≤ M * Zu) (t1 : M * ZT ≤ (M + 1) * (T * K)) (t2 : (M - 1) * (T * K) ≤ M * ZT)
    (r1 : M * (Zr * ZT) ≤ (M + 1) * (K * K)) (r2 : (M - 1) * (K * K) ≤ M * (Zr * ZT)) (p1 : M * (Zp * K) ≤ (M + 1) * (Zu * Zr)) (p2 : (M - 1) * (Zu * Zr) ≤ M * (Zp * K)) :
    Zp * T < (N + T) * K ∧ N * K < (Zp + K) * T := by
  have up : M * M * (M - 1) * (Zp * T) ≤ (M + 1) * (M + 1) * (M + 1) * (N * K) := by
    refine Nat.le_of_mul_le_mul_right (c := K * K) ?_ (Nat.mul_pos hK hK)
    calc M * M * (M - 1) * (Zp * T) * (K * K) = M * M * (Zp * K) * ((M - 1) * (T * K)) := by ac_rfl
      _ ≤ M * M * (Zp * K) * (M * ZT) := Nat.mul_le_mul_left _ t2
      _ = M * M * ZT * (M * (Zp * K)) := by ac_rfl
      _ ≤ M * M * ZT * ((M + 1) * (Zu * Zr)) := Nat.mul_le_mul_left _ p1
      _ = M * (M + 1) * Zu * (M * (Zr * ZT)) := by ac_rfl
      _ ≤ M * (M + 1) * Zu * ((M + 1) * (K * K)) := Nat.mul_le_mul_left _ r1
      _ = (M + 1) * (M + 1) * (K * K) * (M * Zu) := by ac_rfl
      _ ≤ (M + 1) * (M + 1) * (K * K) * ((M + 1) * (N * K)) := Nat.mul_le_mul_left _ u1
      _ = (M + 1) * (M + 1) * (M + 1) * (N * K) * (K * K) := by ac_rfl
  have dn : (M - 1) * (M - 1) * (M - 1) * (N * K) ≤ M * M * (M + 1) * (Zp * T) := by
    refine Nat.le_of_mul_le_mul_right (c := K * K) ?_ (Nat.mul_pos hK hK)
    calc (M - 1) * (M - 1) * (M - 1) * (N * K) * (K * K) = (M - 1) * (M - 1) * (K * K) * ((M - 1) * (N * K)) := by ac_rfl
      _ ≤ (M - 1) * (M - 1) * (K * K) * (M * Zu) := Nat.mul_le_mul_left _ u2
      _ = (M - 1) * M * Zu * ((M - 1) * (K * K)) := by ac_rfl
      _ ≤ (M - 1) * M * Zu * (M * (Zr * ZT)) := Nat.mul_le_mul_left _ r2
      _ = M * M * ZT * ((M - 1) * (Zu * Zr)) := by ac_rfl
      _ ≤ M * M * ZT * (M * (Zp * K)) := Nat.mul_le_mul_left _ p2
      _ = M * M * (Zp * K) * (M * ZT) := by ac_rfl
      _ ≤ M * M * (Zp * K) * ((M + 1) * (T * K)) := Nat.mul_le_mul_left _ t1
      _ = M * M * (M + 1) * (Zp * T) * (K * K) := by ac_rfl
  have hNK : N * K < 281474976710656 * (T * K) := by rw [← Nat.mul_assoc]; exact Nat.mul_lt_mul_of_pos_right hNT hK
  subst hM
  rw [Nat.add_mul, Nat.add_mul]
  rw [Nat.mul_comm K T]
  generalize Zp * T = a at *
  generalize N * K = b at *
  generalize T * K = d at *
  omega
theorem near' {K N T Zu ZT Zr Zp : Nat} (hK : 0 < K) (hT : 0 < T) (hNT : N < 281474976710656 * T)
    (u1 : 2251799813685248 * Zu ≤ 2251799813685249 * (N * K)) (u2 : 2251799813685247 * (N * K) ≤ 2251799813685248 * Zu) (t1 : 2251799813685248 * ZT ≤ 2251799813685249 * (T * K)) (t2 : 2251799813685247 * (T * K) ≤ 2251799813685248 * ZT)
    (r1 : 2251799813685248 * (Zr * ZT) ≤ 2251799813685249 * (K * K)) (r2 : 2251799813685247 * (K * K) ≤ 2251799813685248 * (Zr * ZT)) (p1 : 2251799813685248 * (Zp * K) ≤ 2251799813685249 * (Zu * Zr)) (p2 : 2251799813685247 * (Zu * Zr) ≤ 2251799813685248 * (Zp * K)) :
    Zp * T < (N + T) * K ∧ N * K < (Zp + K) * T := near (M := 2251799813685248) hK rfl hT hNT u1 u2 t1 t2 r1 r2 p1 p2
end Jvm.Pilot.@@N@@.OwnFp
namespace Jvm.Pilot.@@N@@
open Jvm Jvm.ClassFile Sem Op Lib Jvm.Free Jvm.Stand Jvm.LawKit Jvm.RoadKit Bundle Jvm.Free.Fl Jvm.Pilot.@@N@@.Jvm.D

theorem own_tn (x : Int64) : x.toInt = if x.toUInt64.toNat < 9223372036854775808 then (x.toUInt64.toNat : Int) else (x.toUInt64.toNat : Int) - 18446744073709551616 := by
  have e1 : x.toInt = x.toBitVec.toInt := rfl
  have e2 : x.toUInt64.toNat = x.toBitVec.toNat := rfl
  have := x.toBitVec.isLt
  rw [e1, e2, BitVec.toInt_eq_toNat_cond]
  split <;> split <;> omega
theorem own_tn_lt (x : Int64) : x.toUInt64.toNat < 18446744073709551616 := x.toUInt64.toBitVec.isLt
theorem own_half (x : Int64) : (((x.toUInt64 >>> ((1 : Int32) &&& 0x3f).toInt64.toUInt64).toInt64)).toUInt64.toNat = x.toUInt64.toNat / 2 := by
  show (x.toUInt64 >>> ((1 : Int32) &&& 0x3f).toInt64.toUInt64).toNat = _
  rw [UInt64.toNat_shiftRight, show (((1 : Int32) &&& 0x3f).toInt64.toUInt64).toNat % 64 = 1 by decide, Nat.shiftRight_eq_div_pow]
theorem own_odd (x : Int64) : (x &&& (1 : Int64)).toUInt64.toNat = x.toUInt64.toNat % 2 := by
  rw [Int64.toUInt64_and, UInt64.toNat_and, show (1 : Int64).toUInt64.toNat = 1 by decide, Nat.and_one_is_mod]
theorem own_or {a b : Nat} (hb : b < 2) : a ≤ (a ||| b) ∧ (a ||| b) ≤ a + b := by
  refine ⟨Nat.left_le_or, ?_⟩
  have h : b = 0 ∨ b = 1 := by omega
  rcases h with rfl | rfl
  · rw [Nat.or_zero]; omega
  · have h1 : (a ||| 1) = 2 * (a / 2) + 1 := by
      have q1 : (a ||| 1) / 2 = a / 2 := by
        have := Nat.or_div_two (a := a) (b := 1)
        rw [this]; simp
      have q2 : (a ||| 1) % 2 = 1 := by
        have := Nat.or_mod_two_eq_one (a := a) (b := 1)
        simp [this]
      omega
    omega
theorem own_w (x : Int64) (h : x < 0) : ∃ w : Nat, (((x.toUInt64 >>> ((1 : Int32) &&& 0x3f).toInt64.toUInt64).toInt64) ||| (x &&& (1 : Int64))).toInt = w ∧ 0 < w ∧ x.toUInt64.toNat ≤ 2 * w + 1 ∧ 2 * w ≤ x.toUInt64.toNat + 1 ∧ 9223372036854775808 ≤ x.toUInt64.toNat := by
  have h0 := own_tn x
  have h1 : x.toInt < 0 := Int64.lt_iff_toInt_lt.mp h
  have hl := own_tn_lt x
  have hN : 9223372036854775808 ≤ x.toUInt64.toNat := by
    rcases Nat.lt_or_ge x.toUInt64.toNat 9223372036854775808 with q | q
    · rw [if_pos q] at h0; omega
    · exact q
  have hv : (((x.toUInt64 >>> ((1 : Int32) &&& 0x3f).toInt64.toUInt64).toInt64) ||| (x &&& (1 : Int64))).toUInt64.toNat = (x.toUInt64.toNat / 2 ||| x.toUInt64.toNat % 2) := by
    rw [Int64.toUInt64_or, UInt64.toNat_or, own_half, own_odd]
  obtain ⟨o1, o2⟩ := own_or (a := x.toUInt64.toNat / 2) (b := x.toUInt64.toNat % 2) (by omega)
  have o3 : (x.toUInt64.toNat / 2 ||| x.toUInt64.toNat % 2) < 2 ^ 63 := Nat.or_lt_two_pow (by omega) (by omega)
  have ht := own_tn (((x.toUInt64 >>> ((1 : Int32) &&& 0x3f).toInt64.toUInt64).toInt64) ||| (x &&& (1 : Int64)))
  rw [hv, if_pos (by omega)] at ht
  exact ⟨_, ht, by omega, by omega, by omega, hN⟩
open OwnFp FP.Core in
theorem own_Uv (x : Int64) : ∃ z, Dv (own_U x) z ∧ 2251799813685248 * z ≤ 2251799813685249 * (x.toUInt64.toNat * one64) ∧ 2251799813685247 * (x.toUInt64.toNat * one64) ≤ 2251799813685248 * z := by
  have h0 := own_tn x
  by_cases hs : x < 0
  · obtain ⟨w, h1, h2, h3, h4, h5⟩ := own_w x hs
    rw [show own_U x = _ from if_pos hs]
    obtain ⟨z, d1, d2, d3⟩ := Dv.l2d h1 h2
    have hK := one64_pos
    have hw : w < 2 ^ 64 := by have := own_tn_lt x; omega
    have hwK : 1 * one64 ≤ w * one64 := Nat.mul_le_mul_right _ h2
    have hwK2 : w * one64 ≤ 2 ^ 64 * one64 := Nat.mul_le_mul_right _ (Nat.le_of_lt hw)
    have z0 : 0 < z := by omega
    have zl : one64 ≤ 2 * z := by omega
    have zh : z ≤ 2 ^ 65 * one64 := by omega
    obtain ⟨y, e1, e2, e3⟩ := d1.mul Dv.two z0 (by omega)
      (calc one64 * one64 ≤ 2 * z * one64 := Nat.mul_le_mul_right _ zl
        _ = z * (2 * one64) := ac4 _ _
        _ ≤ z * (2 * one64) * 2 ^ 500 := Nat.le_mul_of_pos_right _ (Nat.two_pow_pos _))
      (calc z * (2 * one64) ≤ 2 ^ 65 * one64 * (2 * one64) := Nat.mul_le_mul_right _ zh
        _ = one64 * one64 * (2 ^ 65 * 2) := ac5 _ _ _
        _ < one64 * one64 * 2 ^ 400 := Nat.mul_lt_mul_of_pos_left (by decide +kernel) (Nat.mul_pos hK hK))
    have e2' : 9007199254740992 * y ≤ 9007199254740993 * (2 * z) := by
      refine Nat.le_of_mul_le_mul_right (c := one64) ?_ hK
      calc 9007199254740992 * y * one64 = 9007199254740992 * (y * one64) := ac6 _ _ _
        _ ≤ 9007199254740993 * (z * (2 * one64)) := e2
        _ = 9007199254740993 * (2 * z) * one64 := ac7 _ _ _ _
    have e3' : 9007199254740991 * (2 * z) ≤ 9007199254740992 * y := by
      refine Nat.le_of_mul_le_mul_right (c := one64) ?_ hK
      calc 9007199254740991 * (2 * z) * one64 = 9007199254740991 * (z * (2 * one64)) := (ac7 _ _ _ _).symm
        _ ≤ 9007199254740992 * (y * one64) := e3
        _ = 9007199254740992 * y * one64 := (ac6 _ _ _).symm
    have a1 : x.toUInt64.toNat * one64 ≤ 2 * (w * one64) + one64 := by
      calc x.toUInt64.toNat * one64 ≤ (2 * w + 1) * one64 := Nat.mul_le_mul_right _ h3
        _ = 2 * (w * one64) + one64 := by rw [Nat.add_mul, Nat.mul_assoc, Nat.one_mul]
    have a2 : 2 * (w * one64) ≤ x.toUInt64.toNat * one64 + one64 := by
      calc 2 * (w * one64) = (2 * w) * one64 := by rw [Nat.mul_assoc]
        _ ≤ (x.toUInt64.toNat + 1) * one64 := Nat.mul_le_mul_right _ h4
        _ = x.toUInt64.toNat * one64 + one64 := by rw [Nat.add_mul, Nat.one_mul]
    have a3 : 9223372036854775808 * one64 ≤ x.toUInt64.toNat * one64 := Nat.mul_le_mul_right _ h5
    refine ⟨y, e1, ?_, ?_⟩ <;> omega
  · rw [show own_U x = _ from if_neg hs]
    have h1 : ¬ x.toInt < 0 := fun q => hs (Int64.lt_iff_toInt_lt.mpr q)
    have hl := own_tn_lt x
    have hN : x.toInt = x.toUInt64.toNat := by
      rcases Nat.lt_or_ge x.toUInt64.toNat 9223372036854775808 with q | q
      · rw [if_pos q] at h0; exact h0
      · rw [if_neg (by omega)] at h0; omega
    rcases Nat.eq_zero_or_pos x.toUInt64.toNat with q | q
    · have : x = 0 := Int64.toInt_inj.mp (by rw [hN, q]; rfl)
      refine ⟨0, ?_, by omega, ?_⟩
      · rw [this]; exact Dv.zero
      · rw [q]; omega
    · obtain ⟨z, d1, d2, d3⟩ := Dv.l2d hN q
      exact ⟨z, d1, by omega, by omega⟩
open OwnFp FP.Core in
theorem own_rv {tk : Int64} {T : Nat} (hT : tk.toInt = T) (h1 : 65536 ≤ T) (h2 : T < 4611686018427387904) : ∃ zt zr, Dv (FP.ddiv FP.dconst1 (FP.l2d tk)) zr ∧ 2251799813685248 * zt ≤ 2251799813685249 * (T * one64) ∧ 2251799813685247 * (T * one64) ≤ 2251799813685248 * zt ∧
    2251799813685248 * (zr * zt) ≤ 2251799813685249 * (one64 * one64) ∧ 2251799813685247 * (one64 * one64) ≤ 2251799813685248 * (zr * zt) ∧ one64 ≤ zt ∧ zt ≤ 2 ^ 63 * one64 := by
  obtain ⟨zt, d1, d2, d3⟩ := Dv.l2d hT (by omega)
  have hK := one64_pos
  have a1 : 65536 * one64 ≤ T * one64 := Nat.mul_le_mul_right _ h1
  have a2 : T * one64 ≤ 4611686018427387904 * one64 := Nat.mul_le_mul_right _ (Nat.le_of_lt h2)
  have b1 : one64 ≤ zt := by omega
  have b2 : zt ≤ 2 ^ 63 * one64 := by omega
  obtain ⟨zr, e1, e2, e3⟩ := Dv.one.div d1 hK (by omega)
    (Nat.le_trans b2 (by rw [Nat.mul_comm]; exact Nat.mul_le_mul_left _ (Nat.pow_le_pow_right (by decide) (by decide))))
    (Nat.lt_of_le_of_lt b1 (by
      calc zt = zt * 1 := (Nat.mul_one _).symm
        _ < zt * 2 ^ 400 := Nat.mul_lt_mul_of_pos_left (Nat.one_lt_two_pow (by decide)) (by omega)))
  have f1 : 2251799813685248 * (zr * zt) ≤ 2251799813685249 * (one64 * one64) := by
    generalize one64 * one64 = KK at *
    generalize zr * zt = y at *
    omega
  have f2 : 2251799813685247 * (one64 * one64) ≤ 2251799813685248 * (zr * zt) := by
    generalize one64 * one64 = KK at *
    generalize zr * zt = y at *
    omega
  exact ⟨zt, zr, e1, by omega, by omega, f1, f2, b1, b2⟩
open OwnFp FP.Core in
theorem own_guess (nn : Int64) {tk : Int64} {T : Nat} (hT : tk.toInt = T) (h1 : 65536 ≤ T) (h2 : T < 4611686018427387904) :
    ∃ t, own_okT nn (FP.ddiv FP.dconst1 (FP.l2d tk)) t ∧ ∃ k : Nat, t.toInt = k ∧ k * T < nn.toUInt64.toNat + T ∧ nn.toUInt64.toNat < (k + 2) * T := by
  obtain ⟨zt, zr, r0, t1, t2, r1, r2, b1, b2⟩ := own_rv hT h1 h2
  obtain ⟨zu, u0, u1, u2⟩ := own_Uv nn
  have hK := one64_pos
  have hN := own_tn_lt nn
  generalize nn.toUInt64.toNat = N at *
  have hp : ∃ zp, Dv (FP.dmul (own_U nn) (FP.ddiv FP.dconst1 (FP.l2d tk))) zp ∧ 2251799813685248 * (zp * one64) ≤ 2251799813685249 * (zu * zr) ∧ 2251799813685247 * (zu * zr) ≤ 2251799813685248 * (zp * one64) := by
    rcases Nat.eq_zero_or_pos N with q | q
    · subst q
      rw [Nat.zero_mul] at u1
      have : zu = 0 := by omega
      subst this
      refine ⟨0, u0.mul0 r0, ?_, ?_⟩
      · rw [Nat.zero_mul]; omega
      · rw [Nat.zero_mul]; omega
    · have c1 : 1 * one64 ≤ N * one64 := Nat.mul_le_mul_right _ q
      have c2 : N * one64 ≤ 18446744073709551616 * one64 := Nat.mul_le_mul_right _ (Nat.le_of_lt hN)
      have v1 : one64 ≤ 2 * zu := by omega
      have v2 : zu ≤ 2 ^ 65 * one64 := by omega
      have v3 : one64 ≤ 2 ^ 64 * zr := by
        refine Nat.le_of_mul_le_mul_right (c := one64) ?_ hK
        have q1 : zr * zt ≤ zr * (2 ^ 63 * one64) := Nat.mul_le_mul_left _ b2
        have q2 : 2 ^ 64 * zr * one64 = 2 * (zr * (2 ^ 63 * one64)) := by
          rw [show (2 : Nat) ^ 64 = 2 * 2 ^ 63 by decide]
          generalize (2 : Nat) ^ 63 = P
          generalize one64 = K
          ac_rfl
        rw [q2]
        generalize one64 * one64 = KK at *
        generalize zr * zt = y at *
        generalize zr * (2 ^ 63 * one64) = y2 at *
        omega
      have v4 : zr ≤ 2 * one64 := by
        refine Nat.le_of_mul_le_mul_right (c := one64) ?_ hK
        have q1 : zr * one64 ≤ zr * zt := Nat.mul_le_mul_left _ b1
        rw [Nat.mul_assoc]
        generalize one64 * one64 = KK at *
        generalize zr * zt = y at *
        omega
      obtain ⟨zp, p0, p1, p2⟩ := u0.mul r0 (by omega) (by omega)
        (calc one64 * one64 ≤ (2 * zu) * (2 ^ 64 * zr) := Nat.mul_le_mul v1 v3
          _ = zu * zr * (2 * 2 ^ 64) := ac8 _ _ _ _
          _ ≤ zu * zr * 2 ^ 500 := Nat.mul_le_mul_left _ (by decide +kernel))
        (calc zu * zr ≤ (2 ^ 65 * one64) * (2 * one64) := Nat.mul_le_mul v2 v4
          _ = one64 * one64 * (2 ^ 65 * 2) := ac5 _ _ _
          _ < one64 * one64 * 2 ^ 400 := Nat.mul_lt_mul_of_pos_left (by decide +kernel) (Nat.mul_pos hK hK))
      refine ⟨zp, p0, ?_, ?_⟩
      · generalize zu * zr = y at *
        generalize zp * one64 = y2 at *
        omega
      · generalize zu * zr = y at *
        generalize zp * one64 = y2 at *
        omega
  obtain ⟨zp, p0, p1, p2⟩ := hp
  obtain ⟨n1, n2⟩ := near' (K := one64) hK (by omega : 0 < T) (by omega) u1 u2 t1 t2 r1 r2 p1 p2
  have hk1 := Nat.div_mul_le_self zp one64
  have hk2 : zp < (zp / one64 + 1) * one64 := by rw [Nat.add_mul, Nat.one_mul]; have := Nat.mod_lt zp hK; have := Nat.div_add_mod zp one64; rw [Nat.mul_comm] at this; omega
  have m1 : zp / one64 * T < N + T := by
    refine Nat.lt_of_mul_lt_mul_right (a := one64) ?_
    calc zp / one64 * T * one64 = (zp / one64 * one64) * T := ac9 _ _ _
      _ ≤ zp * T := Nat.mul_le_mul_right _ hk1
      _ < (N + T) * one64 := n1
  have m2 : N < (zp / one64 + 2) * T := by
    refine Nat.lt_of_mul_lt_mul_right (a := one64) ?_
    calc N * one64 < (zp + one64) * T := n2
      _ ≤ ((zp / one64 + 1) * one64 + one64) * T := Nat.mul_le_mul_right _ (by omega)
      _ = (zp / one64 + 2) * T * one64 := ac10 _ _ _
  have m3 : zp / one64 < 2 ^ 63 := by
    rcases Nat.lt_or_ge (zp / one64) (2 ^ 63) with q | q
    · exact q
    · have : 2 ^ 63 * T ≤ zp / one64 * T := Nat.mul_le_mul_right _ q
      omega
  exact ⟨FP.d2l (FP.dmul (own_U nn) (FP.ddiv FP.dconst1 (FP.l2d tk))), ⟨u0.nn, p0.nn, rfl⟩, zp / one64, p0.d2l m3, m1, m2⟩
theorem own_rest {nn tk t : Int64} {N T k : Nat} {d : Int} (hN : nn.toUInt64.toNat = N) (hT : tk.toInt = T) (ht : t.toInt = k) (hd : (N : Int) - (k : Int) * (T : Int) = d) (d1 : -9223372036854775808 ≤ d) (d2 : d < 9223372036854775808) : (nn - t * tk).toInt = d := by
  have h0 := own_tn nn
  rw [hN] at h0
  rw [Int64.toInt_sub, Int64.toInt_mul, Int.sub_bmod_bmod, hT, ht]
  generalize (k : Int) * (T : Int) = P at *
  rw [Int.bmod_def]
  split at h0 <;> omega
theorem own_fixv {nn tk t : Int64} {N T k : Nat} (hN : nn.toUInt64.toNat = N) (hT : tk.toInt = T) (h1 : 65536 ≤ T) (h2 : T < 4611686018427387904) (ht : t.toInt = k) (k1 : k * T < N + T) (k2 : N < (k + 2) * T) : (own_fix nn tk t).toInt = ((N / T : Nat) : Int) := by
  have hl := own_tn_lt nn
  rw [hN] at hl
  have hdm := Nat.div_add_mod N T
  have hmod := Nat.mod_lt N (show 0 < T by omega)
  have hq : N / T ≤ 281474976710656 := by
    refine Nat.le_trans (Nat.div_le_div_left h1 (by decide)) ?_
    omega
  have c1 : k < N / T + 2 := by
    refine Nat.lt_of_mul_lt_mul_right (a := T) ?_
    rw [Nat.add_mul, Nat.mul_comm (N / T)]; omega
  have c2 : N / T < k + 2 := by
    refine Nat.lt_of_mul_lt_mul_right (a := T) ?_
    rw [Nat.mul_comm (N / T)]; omega
  have hb : (t - 1).toInt = k - 1 := by rw [Jvm.Kit.i64_sub (by rw [ht, Int64.toInt_one]; omega) (by rw [ht, Int64.toInt_one]; omega), ht, Int64.toInt_one]
  have ha : (t + 1).toInt = k + 1 := by rw [Jvm.Kit.i64_add (by rw [ht, Int64.toInt_one]; omega) (by rw [ht, Int64.toInt_one]; omega), ht, Int64.toInt_one]
  have h3 : k = N / T ∨ k = N / T + 1 ∨ k + 1 = N / T := by omega
  unfold own_fix
  simp only [Int64.lt_iff_toInt_lt, Int64.toInt_zero, hT]
  rcases h3 with h3 | h3 | h3
  · have e : (N : Int) - (k : Int) * (T : Int) = ((N % T : Nat) : Int) := by
      rw [h3, ← Int.natCast_mul, Nat.mul_comm]; omega
    rw [own_rest hN hT ht e (by omega) (by omega), if_neg (by omega), if_pos (by omega), ht, h3]
  · have e : (N : Int) - (k : Int) * (T : Int) = ((N % T : Nat) : Int) - T := by
      rw [h3, ← Int.natCast_mul, Nat.add_mul, Nat.one_mul, Nat.mul_comm]; omega
    rw [own_rest hN hT ht e (by omega) (by omega), if_pos (by omega), hb]; omega
  · have e : (N : Int) - (k : Int) * (T : Int) = ((N % T : Nat) : Int) + T := by
      have : N / T * T = k * T + T := by rw [← h3, Nat.add_mul, Nat.one_mul]
      rw [Nat.mul_comm] at this
      rw [← Int.natCast_mul]; omega
    rw [own_rest hN hT ht e (by omega) (by omega), if_neg (by omega), if_neg (by omega), ha]; omega
theorem own_div {N T q ρ : Nat} (h : N = T * q + ρ) (hl : ρ < T) : N / T = q := by
  subst h; rw [Nat.mul_add_div (by omega), Nat.div_eq_of_lt hl, Nat.add_zero]
theorem own_udivv {nn tk : Int64} {N T : Nat} (hN : nn.toUInt64.toNat = N) (hT : tk.toInt = T) (h1 : 65536 ≤ T) (h2 : T < 4611686018427387904) : (own_udiv nn tk).toInt = ((N / T : Nat) : Int) := by
  have hl := own_tn_lt nn
  have h0 := own_tn nn
  rw [hN] at hl h0
  have hq : N / T ≤ 281474976710656 := by
    refine Nat.le_trans (Nat.div_le_div_left h1 (by decide)) ?_
    omega
  unfold own_udiv
  by_cases hs : nn < 0
  · have hs' : nn.toInt < 0 := Int64.lt_iff_toInt_lt.mp hs
    rw [if_pos hs]
    have e1 : (((nn.toUInt64 >>> ((1 : Int32) &&& 0x3f).toInt64.toUInt64).toInt64)).toInt = ((N / 2 : Nat) : Int) := by
      rw [own_tn, own_half, hN, if_pos (by omega)]
    have e2 : (((nn.toUInt64 >>> ((1 : Int32) &&& 0x3f).toInt64.toUInt64).toInt64) / tk).toInt = ((N / 2 / T : Nat) : Int) := by
      rw [Jvm.Kit.i64_div (by omega), e1, hT]; exact (Int.ofNat_tdiv (N / 2) T).symm
    have hh : N / 2 / T ≤ 140737488355328 := by
      refine Nat.le_trans (Nat.div_le_div_left h1 (by decide)) ?_
      omega
    have hdm := Nat.div_add_mod (N / 2) T
    have hmod := Nat.mod_lt (N / 2) (show 0 < T by omega)
    generalize N / 2 / T = a at *
    generalize hρ : N / 2 % T = ρ at *
    have e3 : (own_q2 nn tk).toInt = ((2 * a : Nat) : Int) := by
      unfold own_q2
      rw [Jvm.Kit.i64_shl _ _ (k := 1) (by decide) (by rw [e2]; omega) (by rw [e2]; omega), e2]; omega
    have e4 : (N : Int) - ((2 * a : Nat) : Int) * (T : Int) = ((2 * ρ + N % 2 : Nat) : Int) := by
      rw [← Int.natCast_mul, Nat.mul_assoc, Nat.mul_comm a]; omega
    have e5 := own_rest hN hT e3 e4 (by omega) (by omega)
    have hN2 : N = T * (2 * a) + (2 * ρ + N % 2) := by
      rw [Nat.mul_left_comm]; omega
    simp only [Int64.lt_iff_toInt_lt, hT, e5]
    by_cases hr : ((2 * ρ + N % 2 : Nat) : Int) < T
    · rw [if_pos hr, e3, own_div hN2 (by omega)]
    · have hN3 : N = T * (2 * a + 1) + (2 * ρ + N % 2 - T) := by rw [Nat.mul_add, Nat.mul_one]; omega
      rw [if_neg hr, Jvm.Kit.i64_add (by rw [e3, Int64.toInt_one]; omega) (by rw [e3, Int64.toInt_one]; omega), e3, Int64.toInt_one, own_div hN3 (by omega)]; omega
  · have hs' : ¬ nn.toInt < 0 := fun q => hs (Int64.lt_iff_toInt_lt.mpr q)
    rw [if_neg hs]
    have hN' : nn.toInt = N := by split at h0 <;> omega
    rw [Jvm.Kit.i64_div (by omega), hN', hT]; exact (Int.ofNat_tdiv N T).symm
theorem own_law (nn : Int64) {tk : Int64} (h1 : 65536 ≤ tk.toInt) (h2 : tk.toInt < 4611686018427387904) : NoNaN64 (FP.ddiv FP.dconst1 (FP.l2d tk)) ∧ ∃ t, own_okT nn (FP.ddiv FP.dconst1 (FP.l2d tk)) t ∧ own_fix nn tk t = own_udiv nn tk := by
  obtain ⟨T, hT⟩ : ∃ T : Nat, tk.toInt = T := ⟨tk.toInt.toNat, by omega⟩
  rw [hT] at h1 h2
  obtain ⟨zt, zr, r0, -⟩ := own_rv hT (by omega) (by omega)
  obtain ⟨t, ok, k, ht, k1, k2⟩ := own_guess nn hT (by omega) (by omega)
  exact ⟨r0.nn, t, ok, Int64.toInt_inj.mp ((own_fixv rfl hT (by omega) (by omega) ht k1 k2).trans (own_udivv rfl hT (by omega) (by omega)).symm)⟩

set_option maxRecDepth 65536 in
set_option maxHeartbeats 40000000 in
theorem rm0 (l : Launch) (Z : State) (a0 : Array Value) (hw : ∀ d ∈ tables_1, d.before a0 Z = true) (ws : List Jvm.Cond) (q1 q2 q3 : Int64) (p4 : Int32) (h0 : Heap) (n0 : Nat) (Z0 : n0 ≤ h0.size) :
    MetFree l x (head1 (Jvm.Cond.code x code maxLocals ret :: ws) room_1) (fun a U => a = #[(.long q1), (.long q2), (.long q3), (.int p4)] ∧ Z.Warmed39 U.vm ∧ U.heap = h0) (fun _ _ _ _ _ => True) (fun _ U o U' => ∃ v L, o = .returned v ∧ Q0 n0 v L ∧ FrameEnd U o U' L 1 4) := by
  have ek := Jvm.Kit.i64_mask q3 2305843009213693951 (k := 61) (by decide) (by decide)
  have et : ((65536 : Int64) + (q3 &&& (2305843009213693951 : Int64))).toInt = 65536 + q3.toInt % 2 ^ 61 := by
    rw [Jvm.Kit.i64_add (by rw [ek, show (65536 : Int64).toInt = 65536 by decide]; omega) (by rw [ek, show (65536 : Int64).toInt = 65536 by decide]; omega), ek, show (65536 : Int64).toInt = 65536 by decide]
  have hd : ¬ (lcmpW ((65536 : Int64) + (q3 &&& (2305843009213693951 : Int64))) (0 : Int64) < 0) := fun q => by
    have := Int64.lt_iff_toInt_lt.mp (own_lc.mp q)
    rw [et, Int64.toInt_zero] at this; omega
  have hz : (65536 : Int64) + (q3 &&& (2305843009213693951 : Int64)) ≠ 0 := fun q => by
    have := congrArg Int64.toInt q
    rw [et, Int64.toInt_zero] at this; omega
  by_cases hm : p4 &&& (1 : Int32) = (0 : Int32)
  · obtain ⟨hn, t, ok, he⟩ := own_law ((q2 - q1) - (1 : Int64)) (tk := (65536 : Int64) + (q3 &&& (2305843009213693951 : Int64))) (by omega) (by omega)
    by_cases hc : 0 < lcmpW q2 q1
    · exact rm0_01 l Z a0 hw ws q1 q2 q3 p4 _ t h0 n0 Z0 hm hd hz hn rfl hc ok (by rw [he])
    · exact rm0_00 l Z a0 hw ws q1 q2 q3 p4 _ h0 n0 Z0 hm hd hz hn rfl hc
  · obtain ⟨hn, t, ok, he⟩ := own_law ((((q1 + ((q2 &&& (281474976710655 : Int64)) * ((65536 : Int64) + (q3 &&& (2305843009213693951 : Int64))))) + ((Int32.toInt64 (((p4.toUInt32 >>> ((1 : Int32) &&& 31).toUInt32).toInt32) % (3 : Int32))) - (1 : Int64))) - q1) - (1 : Int64)) (tk := (65536 : Int64) + (q3 &&& (2305843009213693951 : Int64))) (by omega) (by omega)
    by_cases hc : 0 < lcmpW ((q1 + ((q2 &&& (281474976710655 : Int64)) * ((65536 : Int64) + (q3 &&& (2305843009213693951 : Int64))))) + ((Int32.toInt64 (((p4.toUInt32 >>> ((1 : Int32) &&& 31).toUInt32).toInt32) % (3 : Int32))) - (1 : Int64))) q1
    · exact rm0_11 l Z a0 hw ws q1 q2 q3 p4 _ t h0 n0 Z0 hm hd hz hn rfl hc ok (by rw [he])
    · exact rm0_10 l Z a0 hw ws q1 q2 q3 p4 _ h0 n0 Z0 hm hd hz hn rfl hc
set_option maxRecDepth 65536 in
set_option maxHeartbeats 40000000 in
theorem comes_1 {Post : Tables → Env → Array Value → State → Outcome → State → Prop} (hpost : ∀ tb e args s v u, (limb_1_1.after args s (.returned v) u = true ∧ limb_1_2.after args s (.returned v) u = true ∧ True) → FrameEnd s (.returned v) u (Jvm.fieldLocs frame_1_writes args s ++ Jvm.arrayLocs frame_1_arrays args s ++ Jvm.staticLocs frame_1_statics s) 16 128 → Post tb e args s (.returned v) u) :
    ArmFor flags0 classFile x code maxLocals ret World_1 tables_1 room_1 Calls_1 rest_1 Pre_1 Post := by
  intro l hfl _ _ p e ha hc hk s m args below hf hA hF happ hP
  obtain ⟨hcalls, hrest, hpre⟩ := hP
  obtain ⟨-, -, -, hnamed, -, -, -, hat⟩ := (Spec.applies_iff hf).mp happ
  obtain ⟨hg, hn⟩ := and_e (Cond.before_iff.mp (show (Jvm.Cond.and given_1 narrow_1).before args s = true from hpre))
  obtain ⟨c0, g0⟩ := and_e hg
  obtain ⟨c1, g1⟩ := and_e g0
  obtain ⟨c2, g2⟩ := and_e g1
  obtain ⟨c3, g3⟩ := and_e g2
  obtain ⟨w0, w1, w2, w3, rfl⟩ : ∃ w0 w1 w2 w3 : Value, args = #[w0, w1, w2, w3] := by
    have hs : args.size = 4 := by simpa [Cond.value, given_1] using c0
    obtain ⟨L⟩ := args
    match L, hs with
    | [w0, w1, w2, w3], _ => exact ⟨w0, w1, w2, w3, rfl⟩
  have hw := fun d (hd : d ∈ tables_1) => atoms_spec (ws := Jvm.Cond.code x code maxLocals ret :: tables_1) hat d (List.mem_cons_of_mem _ hd)
  obtain ⟨i0, e0⟩ := isL_v c1
  obtain rfl : w0 = (.long i0) := Option.some.inj e0
  obtain ⟨i1, e1⟩ := isL_v c2
  obtain rfl : w1 = (.long i1) := Option.some.inj e1
  obtain ⟨i2, e2⟩ := isL_v c3
  obtain rfl : w2 = (.long i2) := Option.some.inj e2
  obtain ⟨i3, e3⟩ := is_v g3
  obtain rfl : w3 = (.int i3) := Option.some.inj e3
  obtain ⟨n, o, h1, h2, h3, _, L, rfl, ⟨rfl, N⟩, hq⟩ := rm0 l s _ hw tables_1 i0 i1 i2 i3 s.heap s.heap.size (Nat.le_refl _) p e ha hc hk s m _ below hf ((Spec.applies_iff_loose hf).mp happ).1 ⟨rfl, State.Warmed39.refl s, rfl⟩ trivial
  refine ⟨n, _, h1, h2, h3, hpost _ _ _ _ _ _ ⟨Cond.after_iff.mpr rfl, Cond.after_iff.mpr (eq_i res_at (Term.int_eval (1)) rfl), trivial⟩ ⟨hq.1, hq.2.1, (hq.2.2.sift fun y hy => Or.inr (N y hy)).mono (by decide) (by decide)⟩⟩
theorem main_1_1 : Claimed_1_1 := comes_1 fun _ _ _ _ _ _ h hF => ⟨h.1, hF⟩
theorem main_1_2 : Claimed_1_2 := comes_1 fun _ _ _ _ _ _ h hF => ⟨h.2.1, hF⟩
end Jvm.Pilot.@@N@@
namespace Jvm.Pilot.@@N@@
open Jvm Jvm.ClassFile Sem Op Lib Jvm.Free Jvm.Stand Jvm.Pilot.@@N@@.Jvm.D
/-! MADE BY PROGRAM (witnessworld.py) out of the Statement's table words and the real class files: 14 classes; the members and pool entries that the words name. The judged class is class 1, her method 2. -/
namespace start1
open Jvm.ClassFile
def u (s : String) : CpInfo := .utf8 (stringToUtf16 s)
/-- a pool by its gaps: so many unusable entries, then the entry; so many at the end -/
def gap : Nat → List CpInfo → List CpInfo
  | 0, r => r
  | n + 1, r => .unusable :: gap n r
def poolList (es : List (Nat × CpInfo)) (last : Nat) : List CpInfo := es.foldr (fun e r => gap e.1 (e.2 :: r)) (gap last [])
def pool (es : List (Nat × CpInfo)) (last : Nat) : Array CpInfo := ⟨poolList es last⟩
def fileOf (pool : Array CpInfo) (this : Nat) (attrs : Array Attribute := #[]) (ms : Array MethodInfo := #[]) (fl : Nat := 33) (sup : Nat := 0) (ifs : Array Nat := #[]) (fds : Array FieldInfo := #[]) : ClassFile where
  minorVersion := 0
  majorVersion := 65
  constantPool := pool
  accessFlags := fl
  thisClass := this
  superClass := sup
  interfaces := ifs
  fields := fds
  methods := ms
  attributes := attrs
def plain (name : String) (sup : Option ClassId) : Class where
  name := name
  kind := .ordinary
  loader := none
  accessFlags := 33
  super := sup
  interfaces := #[]
  cf := none
  fields := #[]
  methods := #[]
  instanceTypes := #[]
  staticTypes := #[]
  resolved := #[]
  callSites := []
  init := .initialized
  statics := none
  mirror := none

def pool0 : Array CpInfo := pool [(5, u "<init>"), (0, u "()V"), (1, .class_ 10), (1, u "java/lang/Object")] 113

def k0c0 : Code := { maxStack := 0, maxLocals := 1, code := object_method_1_code, exceptionTable := #[], attributes := #[] }
def k0m0 : Method := { name := "<init>", desc := "()V", sig := { parameters := [], returnType := none }, accessFlags := 1, code := some k0c0 }
/-- java/lang/Object -/
def k0 : Class := { plain "java/lang/Object" none with
  accessFlags := 33
  interfaces := #[]
  cf := some (fileOf pool0 8 #[] #[{ accessFlags := 1, nameIndex := 5, descriptorIndex := 6, attributes := #[] }] 33 0 #[] #[])
  fields := #[]
  methods := #[k0m0]
  instanceTypes := #[]
  staticTypes := #[]
  resolved := Array.replicate 124 none
  statics := none }

def pool1 : Array CpInfo := pool [(2, .class_ 4), (1, u "java/lang/Object"), (0, u "<init>"), (0, u "()V"), (0, .long 65536), (1, .long 2305843009213693951), (1, .long 281474976710655), (1, .class_ 14), (0, u "com/example/tick60/tick60/Ticks"), (0, .methodref 13 16), (0, .nameAndType 5 17), (0, u "(JJ)V"), (0, .methodref 13 19), (0, .nameAndType 20 21), (0, u "boundaryOf"), (0, u "(J)J"), (0, .methodref 23 24), (0, .class_ 25), (0, .nameAndType 26 27), (0, u "com/example/tick60/tick60/TicksBoundaryOfPinLaw"), (0, u "udiv"), (0, u "(JJ)J"), (3, u "law"), (0, u "(JJJI)Z")] 2

def k1m0 : Method := { name := "<init>", desc := "()V", sig := { parameters := [], returnType := none }, accessFlags := 1, code := none }
def k1c1 : Code := { maxStack := 6, maxLocals := 8, code := method_2_code, exceptionTable := #[], attributes := #[] }
def k1m1 : Method := { name := "udiv", desc := "(JJ)J", sig := { parameters := [.long, .long], returnType := some .long }, accessFlags := 10, code := some k1c1 }
def k1c2 : Code := { maxStack := 6, maxLocals := 16, code := code, exceptionTable := #[], attributes := #[] }
def k1m2 : Method := { name := "law", desc := "(JJJI)Z", sig := { parameters := [.long, .long, .long, .int], returnType := some .boolean }, accessFlags := 9, code := some k1c2 }
/-- com/example/tick60/tick60/TicksBoundaryOfPinLaw -/
def k1 : Class := { plain "com/example/tick60/tick60/TicksBoundaryOfPinLaw" (some 0) with
  accessFlags := 49
  interfaces := #[]
  cf := some (fileOf pool1 23 #[] #[{ accessFlags := 1, nameIndex := 5, descriptorIndex := 6, attributes := #[] }, { accessFlags := 10, nameIndex := 26, descriptorIndex := 27, attributes := #[] }, { accessFlags := 9, nameIndex := 31, descriptorIndex := 32, attributes := #[] }] 49 2 #[] #[])
  fields := #[]
  methods := #[k1m0, k1m1, k1m2]
  instanceTypes := #[]
  staticTypes := #[]
  resolved := Array.replicate 35 none
  statics := none }

def pool2 : Array CpInfo := pool [(1, .methodref 2 3), (0, .class_ 4), (0, .nameAndType 5 6), (0, u "java/lang/Object"), (0, u "<init>"), (0, u "()V"), (0, .fieldref 8 9), (0, .class_ 10), (0, .nameAndType 11 12), (0, u "com/example/tick60/tick60/Ticks"), (0, u "start"), (0, u "J"), (0, .fieldref 8 14), (0, .nameAndType 15 12), (0, u "tickNanos"), (0, .fieldref 8 17), (0, .nameAndType 18 19), (0, u "ticksPerNano"), (0, u "D"), (0, .long 18446744073709551615), (1, .methodref 23 24), (0, .class_ 25), (0, .nameAndType 26 27), (0, u "java/lang/Long"), (0, u "divideUnsigned"), (0, u "(JJ)J"), (0, .fieldref 8 29), (0, .nameAndType 30 12), (0, u "lastTick"), (3, u "(J)J"), (0, .methodref 8 36), (0, .nameAndType 37 34), (0, u "ticksIn"), (6, .double 4611686018427387904), (1, u "(JJ)V"), (3, u "boundaryOf")] 4

def k2c0 : Code := { maxStack := 5, maxLocals := 5, code := prog_4_method_1_code, exceptionTable := #[], attributes := #[] }
def k2m0 : Method := { name := "<init>", desc := "(JJ)V", sig := { parameters := [.long, .long], returnType := none }, accessFlags := 0, code := some k2c0 }
def k2c1 : Code := { maxStack := 5, maxLocals := 3, code := prog_4_method_3_code, exceptionTable := #[], attributes := #[] }
def k2m1 : Method := { name := "boundaryOf", desc := "(J)J", sig := { parameters := [.long], returnType := some .long }, accessFlags := 0, code := some k2c1 }
def k2c2 : Code := { maxStack := 6, maxLocals := 9, code := prog_4_method_5_code, exceptionTable := #[], attributes := #[] }
def k2m2 : Method := { name := "ticksIn", desc := "(J)J", sig := { parameters := [.long], returnType := some .long }, accessFlags := 2, code := some k2c2 }
/-- com/example/tick60/tick60/Ticks -/
def k2 : Class := { plain "com/example/tick60/tick60/Ticks" (some 0) with
  accessFlags := 48
  interfaces := #[]
  cf := some (fileOf pool2 8 #[] #[{ accessFlags := 0, nameIndex := 5, descriptorIndex := 46, attributes := #[] }, { accessFlags := 0, nameIndex := 50, descriptorIndex := 34, attributes := #[] }, { accessFlags := 2, nameIndex := 37, descriptorIndex := 34, attributes := #[] }] 48 2 #[] #[{ accessFlags := 18, nameIndex := 11, descriptorIndex := 12, attributes := #[] }, { accessFlags := 18, nameIndex := 15, descriptorIndex := 12, attributes := #[] }, { accessFlags := 18, nameIndex := 18, descriptorIndex := 19, attributes := #[] }, { accessFlags := 18, nameIndex := 30, descriptorIndex := 12, attributes := #[] }])
  fields := #[{ name := "start", type := .long, accessFlags := 18, slot := 0, constantValue := 0 }, { name := "tickNanos", type := .long, accessFlags := 18, slot := 1, constantValue := 0 }, { name := "ticksPerNano", type := .double, accessFlags := 18, slot := 2, constantValue := 0 }, { name := "lastTick", type := .long, accessFlags := 18, slot := 3, constantValue := 0 }]
  methods := #[k2m0, k2m1, k2m2]
  instanceTypes := #[.long, .long, .double, .long]
  staticTypes := #[]
  resolved := Array.replicate 55 none
  statics := none }

def pool3 : Array CpInfo := pool [(1, .class_ 2), (0, u "java/io/Serializable"), (0, .class_ 4), (0, u "java/lang/Object")] 2

/-- java/io/Serializable -/
def k3 : Class := { plain "java/io/Serializable" (some 0) with
  accessFlags := 1537
  interfaces := #[]
  cf := some (fileOf pool3 1 #[] #[] 1537 3 #[] #[])
  fields := #[]
  methods := #[]
  instanceTypes := #[]
  staticTypes := #[]
  resolved := Array.replicate 7 none
  statics := none }

def pool4 : Array CpInfo := pool [(2, .class_ 4), (1, u "java/lang/Object"), (0, u "<init>"), (0, u "()V"), (1, .class_ 10), (1, u "java/lang/Number"), (2, .class_ 14), (0, u "java/io/Serializable"), (0, u "serialVersionUID"), (0, u "J")] 20

def k4m0 : Method := { name := "<init>", desc := "()V", sig := { parameters := [], returnType := none }, accessFlags := 1, code := none }
/-- java/lang/Number -/
def k4 : Class := { plain "java/lang/Number" (some 0) with
  accessFlags := 1057
  interfaces := #[3]
  cf := some (fileOf pool4 8 #[] #[{ accessFlags := 1, nameIndex := 5, descriptorIndex := 6, attributes := #[] }] 1057 2 #[13] #[{ accessFlags := 26, nameIndex := 15, descriptorIndex := 16, attributes := #[] }])
  fields := #[{ name := "serialVersionUID", type := .long, accessFlags := 26, slot := 0, constantValue := 0 }]
  methods := #[k4m0]
  instanceTypes := #[]
  staticTypes := #[.long]
  resolved := Array.replicate 37 none
  statics := none }

def pool5 : Array CpInfo := pool [(1, .class_ 2), (0, u "java/lang/Comparable"), (0, .class_ 4), (0, u "java/lang/Object")] 7

/-- java/lang/Comparable -/
def k5 : Class := { plain "java/lang/Comparable" (some 0) with
  accessFlags := 1537
  interfaces := #[]
  cf := some (fileOf pool5 1 #[] #[] 1537 3 #[] #[])
  fields := #[]
  methods := #[]
  instanceTypes := #[]
  staticTypes := #[]
  resolved := Array.replicate 12 none
  statics := none }

def pool6 : Array CpInfo := pool [(1, .class_ 2), (0, u "java/lang/constant/Constable"), (0, .class_ 4), (0, u "java/lang/Object")] 6

/-- java/lang/constant/Constable -/
def k6 : Class := { plain "java/lang/constant/Constable" (some 0) with
  accessFlags := 1537
  interfaces := #[]
  cf := some (fileOf pool6 1 #[] #[] 1537 3 #[] #[])
  fields := #[]
  methods := #[]
  instanceTypes := #[]
  staticTypes := #[]
  resolved := Array.replicate 11 none
  statics := none }

def pool7 : Array CpInfo := pool [(1, .class_ 2), (0, u "java/lang/constant/ConstantDesc"), (0, .class_ 4), (0, u "java/lang/Object")] 32

/-- java/lang/constant/ConstantDesc -/
def k7 : Class := { plain "java/lang/constant/ConstantDesc" (some 0) with
  accessFlags := 1537
  interfaces := #[]
  cf := some (fileOf pool7 1 #[] #[] 1537 3 #[] #[])
  fields := #[]
  methods := #[]
  instanceTypes := #[]
  staticTypes := #[]
  resolved := Array.replicate 37 none
  statics := none }

def pool8 : Array CpInfo := pool [(1, .class_ 2), (0, u "java/lang/Long"), (232, .class_ 237), (1, u "java/lang/Long$LongCache"), (33, .class_ 272), (0, u "java/lang/Number"), (2, u "value"), (0, u "J"), (29, .long 18446744073709551615), (26, u "(JJ)J"), (27, u "TYPE"), (0, u "Ljava/lang/Class;"), (0, .class_ 364), (0, u "java/lang/Comparable"), (0, .class_ 366), (0, u "java/lang/constant/Constable"), (0, .class_ 368), (0, u "java/lang/constant/ConstantDesc"), (0, u "MIN_VALUE"), (1, u "MAX_VALUE"), (4, u "SIZE"), (0, u "I"), (1, u "BYTES"), (1, u "serialVersionUID"), (88, u "divideUnsigned")] 53

def k8c0 : Code := { maxStack := 8, maxLocals := 8, code := jdk_35_method_44_code, exceptionTable := #[], attributes := #[] }
def k8m0 : Method := { name := "divideUnsigned", desc := "(JJ)J", sig := { parameters := [.long, .long], returnType := some .long }, accessFlags := 9, code := some k8c0 }
/-- java/lang/Long -/
def k8 : Class := { plain "java/lang/Long" (some 4) with
  accessFlags := 49
  interfaces := #[5, 6, 7]
  cf := some (fileOf pool8 1 #[.nestMembers #[235]] #[{ accessFlags := 9, nameIndex := 470, descriptorIndex := 333, attributes := #[] }] 49 271 #[363, 365, 367] #[{ accessFlags := 25, nameIndex := 369, descriptorIndex := 276, attributes := #[] }, { accessFlags := 25, nameIndex := 371, descriptorIndex := 276, attributes := #[] }, { accessFlags := 25, nameIndex := 361, descriptorIndex := 362, attributes := #[] }, { accessFlags := 18, nameIndex := 275, descriptorIndex := 276, attributes := #[] }, { accessFlags := 25, nameIndex := 376, descriptorIndex := 377, attributes := #[] }, { accessFlags := 25, nameIndex := 379, descriptorIndex := 377, attributes := #[] }, { accessFlags := 26, nameIndex := 381, descriptorIndex := 276, attributes := #[] }])
  fields := #[{ name := "MIN_VALUE", type := .long, accessFlags := 25, slot := 0, constantValue := 0 }, { name := "MAX_VALUE", type := .long, accessFlags := 25, slot := 1, constantValue := 0 }, { name := "TYPE", type := (.object "java/lang/Class"), accessFlags := 25, slot := 2, constantValue := 0 }, { name := "value", type := .long, accessFlags := 18, slot := 0, constantValue := 0 }, { name := "SIZE", type := .int, accessFlags := 25, slot := 3, constantValue := 0 }, { name := "BYTES", type := .int, accessFlags := 25, slot := 4, constantValue := 0 }, { name := "serialVersionUID", type := .long, accessFlags := 26, slot := 5, constantValue := 0 }]
  methods := #[k8m0]
  instanceTypes := #[.long]
  staticTypes := #[.long, .long, (.object "java/lang/Class"), .int, .int, .long]
  resolved := Array.replicate 524 none
  statics := none }

def pool9 : Array CpInfo := pool [(1, u "java/lang/Cloneable"), (0, .class_ 1), (0, u "java/lang/Object"), (0, .class_ 3)] 3

/-- java/lang/Cloneable -/
def k9 : Class := { plain "java/lang/Cloneable" (some 0) with
  accessFlags := 1537
  interfaces := #[]
  cf := some (fileOf pool9 2 #[] #[] 1537 4 #[] #[])
  fields := #[]
  methods := #[]
  instanceTypes := #[]
  staticTypes := #[]
  resolved := Array.replicate 8 none
  statics := none }

/-- the primitive byte -/
def k10 : Class := { plain "byte" none with kind := .primitive 'B', accessFlags := 0x411 }
/-- [B -/
def k11 : Class := { plain "[B" (some 0) with kind := .array 10 .byte, interfaces := #[9, 3], accessFlags := 1041 }

/-- the primitive int -/
def k12 : Class := { plain "int" none with kind := .primitive 'I', accessFlags := 0x411 }
/-- [I -/
def k13 : Class := { plain "[I" (some 0) with kind := .array 12 .int, interfaces := #[9, 3], accessFlags := 1041 }

def heap : Heap := #[]
def classes : Array Class := #[k0, k1, k2, k3, k4, k5, k6, k7, k8, k9, k10, k11, k12, k13]
def interned : List (Array UInt16 × Addr) := []
def slotsUsed : Nat := 0
def theMethod : MethodId := ⟨1, 2⟩
def args0 : Array Value := #[.long 5, .long 100000000, .long 7, .int 3]
def aboutOver (below : List Frame) : State where
  vm := { classes := classes, interned := interned.toArray }
  heap := heap
  slotsUsed := slotsUsed
  threads := #[{ frames := .invoking theMethod args0 :: below }]
def below0 : List Frame := [.native { method := ⟨0, 0⟩, args := #[] }]
def about1 : State := aboutOver below0
def p0 : Program := .bare "" "" ""
def e0 : Env := launch0.env 0 0 0
theorem w_frames : about1.frames = Frame.invoking theMethod args0 :: below0 := rfl
set_option maxRecDepth 65536 in
theorem w_args : argsFit about1.vm theMethod args0 = true := by decide +kernel
set_option maxRecDepth 65536 in
theorem w_heap : heapFits about1 = true := by decide +kernel
set_option maxRecDepth 65536 in
theorem w_runnable : about1.curStatus? = some .runnable := by decide +kernel
set_option maxRecDepth 65536 in
theorem w_alone : about1.alone = true := by decide +kernel
set_option maxRecDepth 65536 in
theorem w_named : about1.methodNamed? x = some theMethod := by decide +kernel
set_option maxRecDepth 65536 in
theorem w_hears : about1.hears theMethod below0 = true := by decide +kernel
set_option maxRecDepth 65536 in
theorem w_ripe : about1.ripe theMethod args0 below0 = true := by decide +kernel
theorem w_running : about1.status = .running := rfl
set_option maxRecDepth 65536 in
theorem w_room : about1.hasRoom e0.platform room_1 = true :=
  launch0.hasRoom_least _ room_1 (by decide +kernel) (by decide +kernel) (by decide +kernel) (by decide +kernel) (by decide +kernel) (by decide +kernel)
theorem allAtoms_all (ts : List Jvm.Cond) (a : Array Jvm.Value) (st : Jvm.State) : (allAtoms ts).before a st = ts.all (fun c => c.before a st) := by
  induction ts with
  | nil => rfl
  | cons c t ih =>
    show (Jvm.Cond.and c (allAtoms t)).before a st = _
    rw [Jvm.Cond.before_and, ih, List.all_cons]
def words1 : List Jvm.Cond := Jvm.Cond.code x code maxLocals ret :: tables_1
/-- a 'code' word, met by the world's own term for the bytes: nothing is compared byte by byte -/
theorem code_word {y : MethodName} {bytes : ByteArray} {mx : Nat} {rt : Option FieldType} {a : Array Value} {s : State} {m : MethodId} {meth : Method} {c : Code} (h1 : s.methodNamed? y = some m) (h2 : s.vm.method? m = some meth) (h3 : meth.code = some c) (h4 : c.code = bytes)
    (h5 : (c.maxLocals == mx && c.exceptionTable.isEmpty && decide (c.maxStack ≤ mostOperands) && decide (meth.sig.returnType = rt) && !meth.locks && decide (parseMethodDescriptor y.desc = some meth.sig)) = true) : (Jvm.Cond.code y bytes mx rt).before a s = true := by
  simp only [Bool.and_eq_true, beq_iff_eq, Bool.not_eq_true', decide_eq_true_eq] at h5
  obtain ⟨⟨⟨⟨⟨g1, g2⟩, g3⟩, g4⟩, g5⟩, g6⟩ := h5
  simp [Cond.before, Cond.holds, Cond.value, h1, h2, h3, h4, g1, g2, g3, g4, g5, g6]
def isCode : Jvm.Cond → Bool
  | .code _ _ _ _ => true
  | _ => false
theorem all_split {L : List Jvm.Cond} {P : Jvm.Cond → Bool} (h1 : L.all (fun c => isCode c || P c) = true) (h2 : ∀ c ∈ L.filter isCode, P c = true) : L.all P = true := by
  refine List.all_eq_true.mpr fun c hc => ?_
  have h := List.all_eq_true.mp h1 c hc
  rcases Bool.eq_false_or_eq_true (isCode c) with hi | hi
  · exact h2 c (List.mem_filter.mpr ⟨hc, hi⟩)
  · simpa [hi] using h
set_option maxRecDepth 65536 in
theorem w_c0 : (Jvm.Cond.code x code maxLocals ret).before args0 about1 = true := code_word (m := ⟨1, 2⟩) (meth := k1m2) (c := k1c2) (by decide +kernel) rfl rfl rfl (by decide +kernel)
set_option maxRecDepth 65536 in
theorem w_c1 : (Jvm.Cond.code ({ cls := "com/example/tick60/tick60/Ticks", name := "<init>", desc := "(JJ)V" } : Jvm.MethodName) prog_4_method_1_code (5 : Nat) (Option.none : Option Jvm.ClassFile.FieldType)).before args0 about1 = true := code_word (m := ⟨2, 0⟩) (meth := k2m0) (c := k2c0) (by decide +kernel) rfl rfl rfl (by decide +kernel)
set_option maxRecDepth 65536 in
theorem w_c2 : (Jvm.Cond.code ({ cls := "java/lang/Object", name := "<init>", desc := "()V" } : Jvm.MethodName) object_method_1_code (1 : Nat) (Option.none : Option Jvm.ClassFile.FieldType)).before args0 about1 = true := code_word (m := ⟨0, 0⟩) (meth := k0m0) (c := k0c0) (by decide +kernel) rfl rfl rfl (by decide +kernel)
set_option maxRecDepth 65536 in
theorem w_c3 : (Jvm.Cond.code ({ cls := "java/lang/Long", name := "divideUnsigned", desc := "(JJ)J" } : Jvm.MethodName) jdk_35_method_44_code (8 : Nat) (Option.some Jvm.ClassFile.FieldType.long)).before args0 about1 = true := code_word (m := ⟨8, 0⟩) (meth := k8m0) (c := k8c0) (by decide +kernel) rfl rfl rfl (by decide +kernel)
set_option maxRecDepth 65536 in
theorem w_c4 : (Jvm.Cond.code ({ cls := "com/example/tick60/tick60/Ticks", name := "boundaryOf", desc := "(J)J" } : Jvm.MethodName) prog_4_method_3_code (3 : Nat) (Option.some Jvm.ClassFile.FieldType.long)).before args0 about1 = true := code_word (m := ⟨2, 1⟩) (meth := k2m1) (c := k2c1) (by decide +kernel) rfl rfl rfl (by decide +kernel)
set_option maxRecDepth 65536 in
theorem w_c5 : (Jvm.Cond.code ({ cls := "com/example/tick60/tick60/Ticks", name := "ticksIn", desc := "(J)J" } : Jvm.MethodName) prog_4_method_5_code (9 : Nat) (Option.some Jvm.ClassFile.FieldType.long)).before args0 about1 = true := code_word (m := ⟨2, 2⟩) (meth := k2m2) (c := k2c2) (by decide +kernel) rfl rfl rfl (by decide +kernel)
set_option maxRecDepth 65536 in
theorem w_c6 : (Jvm.Cond.code ({ cls := "com/example/tick60/tick60/TicksBoundaryOfPinLaw", name := "udiv", desc := "(JJ)J" } : Jvm.MethodName) method_2_code (8 : Nat) (Option.some Jvm.ClassFile.FieldType.long)).before args0 about1 = true := code_word (m := ⟨1, 1⟩) (meth := k1m1) (c := k1c1) (by decide +kernel) rfl rfl rfl (by decide +kernel)
def codes1 : List Jvm.Cond := [Jvm.Cond.code x code maxLocals ret, Jvm.Cond.code ({ cls := "com/example/tick60/tick60/Ticks", name := "<init>", desc := "(JJ)V" } : Jvm.MethodName) prog_4_method_1_code (5 : Nat) (Option.none : Option Jvm.ClassFile.FieldType), Jvm.Cond.code ({ cls := "java/lang/Object", name := "<init>", desc := "()V" } : Jvm.MethodName) object_method_1_code (1 : Nat) (Option.none : Option Jvm.ClassFile.FieldType), Jvm.Cond.code ({ cls := "java/lang/Long", name := "divideUnsigned", desc := "(JJ)J" } : Jvm.MethodName) jdk_35_method_44_code (8 : Nat) (Option.some Jvm.ClassFile.FieldType.long), Jvm.Cond.code ({ cls := "com/example/tick60/tick60/Ticks", name := "boundaryOf", desc := "(J)J" } : Jvm.MethodName) prog_4_method_3_code (3 : Nat) (Option.some Jvm.ClassFile.FieldType.long), Jvm.Cond.code ({ cls := "com/example/tick60/tick60/Ticks", name := "ticksIn", desc := "(J)J" } : Jvm.MethodName) prog_4_method_5_code (9 : Nat) (Option.some Jvm.ClassFile.FieldType.long), Jvm.Cond.code ({ cls := "com/example/tick60/tick60/TicksBoundaryOfPinLaw", name := "udiv", desc := "(JJ)J" } : Jvm.MethodName) method_2_code (8 : Nat) (Option.some Jvm.ClassFile.FieldType.long)]
set_option maxRecDepth 65536 in
theorem codes_eq : words1.filter isCode = codes1 := rfl
theorem w_codes : ∀ c ∈ words1.filter isCode, c.before args0 about1 = true := by
  rw [codes_eq]
  intro c hc
  simp only [codes1, List.mem_cons, List.not_mem_nil, or_false] at hc
  rcases hc with rfl | rfl | rfl | rfl | rfl | rfl | rfl
  · exact w_c0
  · exact w_c1
  · exact w_c2
  · exact w_c3
  · exact w_c4
  · exact w_c5
  · exact w_c6
set_option maxRecDepth 65536 in
theorem w_t1 : (words1.take 24).all (fun c => isCode c || c.before args0 about1) = true := by decide +kernel
set_option maxRecDepth 65536 in
theorem w_t2 : (words1.drop 24).all (fun c => isCode c || c.before args0 about1) = true := by decide +kernel
theorem w_tables : (allAtoms (Jvm.Cond.code x code maxLocals ret :: tables_1)).before args0 about1 = true := by
  rw [allAtoms_all]
  show words1.all (fun c => c.before args0 about1) = true
  refine all_split ?_ w_codes
  rw [← List.take_append_drop 24 words1, List.all_append, w_t1, w_t2]
  rfl
set_option maxRecDepth 65536 in
theorem w_case : (Jvm.Cond.and given_1 narrow_1).before args0 about1 = true := by decide +kernel
theorem w_applies : (headSpec (Jvm.Cond.code x code maxLocals ret :: tables_1) room_1).applies x e0.platform about1 = true :=
  (Spec.applies_iff w_frames).mpr ⟨w_running, w_runnable, w_alone, w_named, w_hears, w_ripe, w_room, w_tables⟩
theorem atStart : AtStart classFile x code maxLocals ret World_1 tables_1 room_1 Calls_1 rest_1 Pre_1 launch0 p0 e0 about1 theMethod args0 below0 :=
  ⟨lists_1, trivial, launch0.admits_env _ _ _, launch0.least_env, fairChoices_fair.cas, fairChoices_fair.clock, w_frames, w_args, w_heap, w_applies, trivial, trivial, w_case⟩
end start1
theorem witness_1 : WitnessClaimed_1 := ⟨start1.p0, start1.e0, start1.about1, start1.theMethod, start1.args0, start1.below0, start1.atStart⟩
end Jvm.Pilot.@@N@@
