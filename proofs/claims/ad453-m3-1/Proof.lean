import JvmDerived
import JvmDerived.Pilot.@@N@@Statement
import JvmDerived.Pilot.@@N@@Code
set_option linter.unusedVariables false
set_option linter.unusedSimpArgs false
@@BLOCK:NumsL.lean.txt@@
namespace Jvm.Pilot.@@N@@
open Jvm Jvm.ClassFile Sem Op Lib Jvm.Free Jvm.Stand Jvm.LawKit Jvm.RoadKit Bundle Jvm.Free.Fl Jvm.Pilot.@@N@@.Jvm.D
theorem d1_0 : decode prog_11_method_3_code 0 = .ok (.aload_n 0, 1) := by decide +kernel
theorem d1_1 : decode prog_11_method_3_code 1 = .ok (.getfield 23, 3) := by decide +kernel
theorem d1_4 : decode prog_11_method_3_code 4 = .ok (.aload_n 0, 1) := by decide +kernel
theorem d1_5 : decode prog_11_method_3_code 5 = .ok (.getfield 7, 3) := by decide +kernel
theorem d1_8 : decode prog_11_method_3_code 8 = .ok (.arraylength, 1) := by decide +kernel
theorem d1_9 : decode prog_11_method_3_code 9 = .ok (.if_icmp .ne 73, 3) := by decide +kernel
theorem d1_82 : decode prog_11_method_3_code 82 = .ok (.aload_n 0, 1) := by decide +kernel
theorem d1_83 : decode prog_11_method_3_code 83 = .ok (.getfield 23, 3) := by decide +kernel
theorem d1_86 : decode prog_11_method_3_code 86 = .ok (.istore_n 3, 1) := by decide +kernel
theorem d1_12 : decode prog_11_method_3_code 12 = .ok (.aload_n 0, 1) := by decide +kernel
theorem d1_13 : decode prog_11_method_3_code 13 = .ok (.getfield 23, 3) := by decide +kernel
theorem d1_16 : decode prog_11_method_3_code 16 = .ok (.aload_n 0, 1) := by decide +kernel
theorem d1_17 : decode prog_11_method_3_code 17 = .ok (.getfield 19, 3) := by decide +kernel
theorem d1_20 : decode prog_11_method_3_code 20 = .ok (.isub, 1) := by decide +kernel
theorem d1_21 : decode prog_11_method_3_code 21 = .ok (.istore_n 3, 1) := by decide +kernel
theorem d1_22 : decode prog_11_method_3_code 22 = .ok (.iload_n 3, 1) := by decide +kernel
theorem d1_23 : decode prog_11_method_3_code 23 = .ok (.aload_n 0, 1) := by decide +kernel
theorem d1_24 : decode prog_11_method_3_code 24 = .ok (.getfield 7, 3) := by decide +kernel
theorem d1_27 : decode prog_11_method_3_code 27 = .ok (.arraylength, 1) := by decide +kernel
theorem d1_28 : decode prog_11_method_3_code 28 = .ok (.iconst 2, 1) := by decide +kernel
theorem d1_29 : decode prog_11_method_3_code 29 = .ok (.idiv, 1) := by decide +kernel
theorem d1_30 : decode prog_11_method_3_code 30 = .ok (.if_icmp .ge 10, 3) := by decide +kernel
theorem d1_40 : decode prog_11_method_3_code 40 = .ok (.iconst 2, 1) := by decide +kernel
theorem d1_41 : decode prog_11_method_3_code 41 = .ok (.aload_n 0, 1) := by decide +kernel
theorem d1_42 : decode prog_11_method_3_code 42 = .ok (.getfield 7, 3) := by decide +kernel
theorem d1_45 : decode prog_11_method_3_code 45 = .ok (.arraylength, 1) := by decide +kernel
theorem d1_46 : decode prog_11_method_3_code 46 = .ok (.imul, 1) := by decide +kernel
theorem d1_47 : decode prog_11_method_3_code 47 = .ok (.newarray .double, 2) := by decide +kernel
theorem d1_49 : decode prog_11_method_3_code 49 = .ok (.astore 4, 2) := by decide +kernel
theorem d1_51 : decode prog_11_method_3_code 51 = .ok (.aload_n 0, 1) := by decide +kernel
theorem d1_52 : decode prog_11_method_3_code 52 = .ok (.getfield 7, 3) := by decide +kernel
theorem d1_55 : decode prog_11_method_3_code 55 = .ok (.aload_n 0, 1) := by decide +kernel
theorem d1_56 : decode prog_11_method_3_code 56 = .ok (.getfield 19, 3) := by decide +kernel
theorem d1_59 : decode prog_11_method_3_code 59 = .ok (.aload 4, 2) := by decide +kernel
theorem d1_61 : decode prog_11_method_3_code 61 = .ok (.iconst 0, 1) := by decide +kernel
theorem d1_62 : decode prog_11_method_3_code 62 = .ok (.iload_n 3, 1) := by decide +kernel
theorem d1_63 : decode prog_11_method_3_code 63 = .ok (.invokestatic 26, 3) := by decide +kernel
theorem d1_66 : decode prog_11_method_3_code 66 = .ok (.aload_n 0, 1) := by decide +kernel
theorem d1_67 : decode prog_11_method_3_code 67 = .ok (.aload 4, 2) := by decide +kernel
theorem d1_69 : decode prog_11_method_3_code 69 = .ok (.putfield 7, 3) := by decide +kernel
theorem d1_72 : decode prog_11_method_3_code 72 = .ok (.aload_n 0, 1) := by decide +kernel
theorem d1_73 : decode prog_11_method_3_code 73 = .ok (.iconst 0, 1) := by decide +kernel
theorem d1_74 : decode prog_11_method_3_code 74 = .ok (.putfield 19, 3) := by decide +kernel
theorem d1_77 : decode prog_11_method_3_code 77 = .ok (.aload_n 0, 1) := by decide +kernel
theorem d1_78 : decode prog_11_method_3_code 78 = .ok (.iload_n 3, 1) := by decide +kernel
theorem d1_79 : decode prog_11_method_3_code 79 = .ok (.putfield 23, 3) := by decide +kernel
theorem d1_87 : decode prog_11_method_3_code 87 = .ok (.iload_n 3, 1) := by decide +kernel
theorem d1_88 : decode prog_11_method_3_code 88 = .ok (.aload_n 0, 1) := by decide +kernel
theorem d1_89 : decode prog_11_method_3_code 89 = .ok (.getfield 19, 3) := by decide +kernel
theorem d1_92 : decode prog_11_method_3_code 92 = .ok (.if_icmp .le 22, 3) := by decide +kernel
theorem d1_95 : decode prog_11_method_3_code 95 = .ok (.aload_n 0, 1) := by decide +kernel
theorem d1_96 : decode prog_11_method_3_code 96 = .ok (.getfield 7, 3) := by decide +kernel
theorem d1_99 : decode prog_11_method_3_code 99 = .ok (.iload_n 3, 1) := by decide +kernel
theorem d1_100 : decode prog_11_method_3_code 100 = .ok (.iconst 1, 1) := by decide +kernel
theorem d1_101 : decode prog_11_method_3_code 101 = .ok (.isub, 1) := by decide +kernel
theorem d1_102 : decode prog_11_method_3_code 102 = .ok (.daload, 1) := by decide +kernel
theorem d1_103 : decode prog_11_method_3_code 103 = .ok (.dload_n 1, 1) := by decide +kernel
theorem d1_104 : decode prog_11_method_3_code 104 = .ok (.dcmp .l, 1) := by decide +kernel
theorem d1_105 : decode prog_11_method_3_code 105 = .ok (.ifCond .le 9, 3) := by decide +kernel
theorem d1_108 : decode prog_11_method_3_code 108 = .ok (.iinc 3 (-1), 3) := by decide +kernel
theorem d1_111 : decode prog_11_method_3_code 111 = .ok (.goto (-24), 3) := by decide +kernel
theorem d1_114 : decode prog_11_method_3_code 114 = .ok (.aload_n 0, 1) := by decide +kernel
theorem d1_115 : decode prog_11_method_3_code 115 = .ok (.getfield 7, 3) := by decide +kernel
theorem d1_118 : decode prog_11_method_3_code 118 = .ok (.iload_n 3, 1) := by decide +kernel
theorem d1_119 : decode prog_11_method_3_code 119 = .ok (.aload_n 0, 1) := by decide +kernel
theorem d1_120 : decode prog_11_method_3_code 120 = .ok (.getfield 7, 3) := by decide +kernel
theorem d1_123 : decode prog_11_method_3_code 123 = .ok (.iload_n 3, 1) := by decide +kernel
theorem d1_124 : decode prog_11_method_3_code 124 = .ok (.iconst 1, 1) := by decide +kernel
theorem d1_125 : decode prog_11_method_3_code 125 = .ok (.iadd, 1) := by decide +kernel
theorem d1_126 : decode prog_11_method_3_code 126 = .ok (.aload_n 0, 1) := by decide +kernel
theorem d1_127 : decode prog_11_method_3_code 127 = .ok (.getfield 23, 3) := by decide +kernel
theorem d1_130 : decode prog_11_method_3_code 130 = .ok (.iload_n 3, 1) := by decide +kernel
theorem d1_131 : decode prog_11_method_3_code 131 = .ok (.isub, 1) := by decide +kernel
theorem d1_132 : decode prog_11_method_3_code 132 = .ok (.invokestatic 26, 3) := by decide +kernel
theorem d1_135 : decode prog_11_method_3_code 135 = .ok (.aload_n 0, 1) := by decide +kernel
theorem d1_136 : decode prog_11_method_3_code 136 = .ok (.getfield 7, 3) := by decide +kernel
theorem d1_139 : decode prog_11_method_3_code 139 = .ok (.iload_n 3, 1) := by decide +kernel
theorem d1_140 : decode prog_11_method_3_code 140 = .ok (.dload_n 1, 1) := by decide +kernel
theorem d1_141 : decode prog_11_method_3_code 141 = .ok (.dastore, 1) := by decide +kernel
theorem d1_142 : decode prog_11_method_3_code 142 = .ok (.aload_n 0, 1) := by decide +kernel
theorem d1_143 : decode prog_11_method_3_code 143 = .ok (.dup, 1) := by decide +kernel
theorem d1_144 : decode prog_11_method_3_code 144 = .ok (.getfield 23, 3) := by decide +kernel
theorem d1_147 : decode prog_11_method_3_code 147 = .ok (.iconst 1, 1) := by decide +kernel
theorem d1_148 : decode prog_11_method_3_code 148 = .ok (.iadd, 1) := by decide +kernel
theorem d1_149 : decode prog_11_method_3_code 149 = .ok (.putfield 23, 3) := by decide +kernel
theorem ef1 (m : MethodId) (x0 : Addr) (x1 : UInt64) : entryFrame m #[(.ref x0), (.double x1)] 5 = mkF m 0 #[.val (.ref x0), .val (.double x1), .second, .unset, .unset] [] := by first | (simp [entryFrame, mkF, argsToLocals, Value.category]; done) | rfl
theorem pn1 : plainName "com/example/orrery/orrery/policy/RunningEnds" = true := by first | (simp [plainName, overriddenIn]; done) | decide +kernel
theorem d1_152 : decode prog_11_method_3_code 152 = .ok (.return_, 1) := by decide +kernel
theorem d4_0 : decode prog_11_method_7_code 0 = .ok (.dconst 0, 1) := by decide +kernel
theorem d4_1 : decode prog_11_method_7_code 1 = .ok (.dstore_n 3, 1) := by decide +kernel
theorem d4_2 : decode prog_11_method_7_code 2 = .ok (.aload_n 0, 1) := by decide +kernel
theorem d4_3 : decode prog_11_method_7_code 3 = .ok (.getfield 19, 3) := by decide +kernel
theorem d4_6 : decode prog_11_method_7_code 6 = .ok (.istore 5, 2) := by decide +kernel
theorem d4_8 : decode prog_11_method_7_code 8 = .ok (.iload 5, 2) := by decide +kernel
theorem d4_10 : decode prog_11_method_7_code 10 = .ok (.aload_n 0, 1) := by decide +kernel
theorem d4_11 : decode prog_11_method_7_code 11 = .ok (.getfield 23, 3) := by decide +kernel
theorem d4_14 : decode prog_11_method_7_code 14 = .ok (.if_icmp .ge 21, 3) := by decide +kernel
theorem d4_17 : decode prog_11_method_7_code 17 = .ok (.dload_n 3, 1) := by decide +kernel
theorem d4_18 : decode prog_11_method_7_code 18 = .ok (.aload_n 0, 1) := by decide +kernel
theorem d4_19 : decode prog_11_method_7_code 19 = .ok (.getfield 7, 3) := by decide +kernel
theorem d4_22 : decode prog_11_method_7_code 22 = .ok (.iload 5, 2) := by decide +kernel
theorem d4_24 : decode prog_11_method_7_code 24 = .ok (.daload, 1) := by decide +kernel
theorem d4_25 : decode prog_11_method_7_code 25 = .ok (.dload_n 1, 1) := by decide +kernel
theorem d4_26 : decode prog_11_method_7_code 26 = .ok (.dsub, 1) := by decide +kernel
theorem d4_27 : decode prog_11_method_7_code 27 = .ok (.dadd, 1) := by decide +kernel
theorem d4_28 : decode prog_11_method_7_code 28 = .ok (.dstore_n 3, 1) := by decide +kernel
theorem d4_29 : decode prog_11_method_7_code 29 = .ok (.iinc 5 1, 3) := by decide +kernel
theorem d4_32 : decode prog_11_method_7_code 32 = .ok (.goto (-24), 3) := by decide +kernel
theorem d4_35 : decode prog_11_method_7_code 35 = .ok (.dload_n 3, 1) := by decide +kernel
theorem ef2 (m : MethodId) (x0 : Addr) (x1 : UInt64) : entryFrame m #[(.ref x0), (.double x1)] 6 = mkF m 0 #[.val (.ref x0), .val (.double x1), .second, .unset, .unset, .unset] [] := by first | (simp [entryFrame, mkF, argsToLocals, Value.category]; done) | rfl
theorem d4_36 : decode prog_11_method_7_code 36 = .ok (.dreturn, 1) := by decide +kernel
theorem d6_0 : decode prog_11_method_4_code 0 = .ok (.aload_n 0, 1) := by decide +kernel
theorem d6_1 : decode prog_11_method_4_code 1 = .ok (.getfield 19, 3) := by decide +kernel
theorem d6_4 : decode prog_11_method_4_code 4 = .ok (.aload_n 0, 1) := by decide +kernel
theorem d6_5 : decode prog_11_method_4_code 5 = .ok (.getfield 23, 3) := by decide +kernel
theorem d6_8 : decode prog_11_method_4_code 8 = .ok (.if_icmp .eq 17, 3) := by decide +kernel
theorem d6_11 : decode prog_11_method_4_code 11 = .ok (.aload_n 0, 1) := by decide +kernel
theorem d6_12 : decode prog_11_method_4_code 12 = .ok (.getfield 7, 3) := by decide +kernel
theorem d6_15 : decode prog_11_method_4_code 15 = .ok (.aload_n 0, 1) := by decide +kernel
theorem d6_16 : decode prog_11_method_4_code 16 = .ok (.getfield 19, 3) := by decide +kernel
theorem d6_19 : decode prog_11_method_4_code 19 = .ok (.daload, 1) := by decide +kernel
theorem d6_20 : decode prog_11_method_4_code 20 = .ok (.dload_n 1, 1) := by decide +kernel
theorem d6_21 : decode prog_11_method_4_code 21 = .ok (.dcmp .l, 1) := by decide +kernel
theorem d6_22 : decode prog_11_method_4_code 22 = .ok (.ifCond .eq 8, 3) := by decide +kernel
theorem d6_30 : decode prog_11_method_4_code 30 = .ok (.aload_n 0, 1) := by decide +kernel
theorem d6_31 : decode prog_11_method_4_code 31 = .ok (.dup, 1) := by decide +kernel
theorem d6_32 : decode prog_11_method_4_code 32 = .ok (.getfield 19, 3) := by decide +kernel
theorem d6_35 : decode prog_11_method_4_code 35 = .ok (.iconst 1, 1) := by decide +kernel
theorem d6_36 : decode prog_11_method_4_code 36 = .ok (.iadd, 1) := by decide +kernel
theorem d6_37 : decode prog_11_method_4_code 37 = .ok (.putfield 19, 3) := by decide +kernel
theorem d6_40 : decode prog_11_method_4_code 40 = .ok (.aload_n 0, 1) := by decide +kernel
theorem d6_41 : decode prog_11_method_4_code 41 = .ok (.getfield 19, 3) := by decide +kernel
theorem d6_44 : decode prog_11_method_4_code 44 = .ok (.aload_n 0, 1) := by decide +kernel
theorem d6_45 : decode prog_11_method_4_code 45 = .ok (.getfield 23, 3) := by decide +kernel
theorem d6_48 : decode prog_11_method_4_code 48 = .ok (.if_icmp .ne 13, 3) := by decide +kernel
theorem d6_51 : decode prog_11_method_4_code 51 = .ok (.aload_n 0, 1) := by decide +kernel
theorem d6_52 : decode prog_11_method_4_code 52 = .ok (.iconst 0, 1) := by decide +kernel
theorem d6_53 : decode prog_11_method_4_code 53 = .ok (.putfield 19, 3) := by decide +kernel
theorem d6_56 : decode prog_11_method_4_code 56 = .ok (.aload_n 0, 1) := by decide +kernel
theorem d6_57 : decode prog_11_method_4_code 57 = .ok (.iconst 0, 1) := by decide +kernel
theorem d6_58 : decode prog_11_method_4_code 58 = .ok (.putfield 23, 3) := by decide +kernel
theorem d6_61 : decode prog_11_method_4_code 61 = .ok (.return_, 1) := by decide +kernel
theorem ef3 (m : MethodId) (x0 : Addr) (x1 : UInt64) : entryFrame m #[(.ref x0), (.double x1)] 3 = mkF m 0 #[.val (.ref x0), .val (.double x1), .second] [] := by first | (simp [entryFrame, mkF, argsToLocals, Value.category]; done) | rfl
theorem d8_0 : decode prog_11_method_1_code 0 = .ok (.aload_n 0, 1) := by decide +kernel
theorem d8_1 : decode prog_11_method_1_code 1 = .ok (.invokespecial 1, 3) := by decide +kernel
theorem d8_4 : decode prog_11_method_1_code 4 = .ok (.aload_n 0, 1) := by decide +kernel
theorem d8_5 : decode prog_11_method_1_code 5 = .ok (.iconst 2, 1) := by decide +kernel
theorem d8_6 : decode prog_11_method_1_code 6 = .ok (.newarray .double, 2) := by decide +kernel
theorem d8_8 : decode prog_11_method_1_code 8 = .ok (.putfield 7, 3) := by decide +kernel
theorem d8_11 : decode prog_11_method_1_code 11 = .ok (.return_, 1) := by decide +kernel
theorem ef4 (m : MethodId) (x0 : Addr) : entryFrame m #[(.ref x0)] 1 = mkF m 0 #[.val (.ref x0)] [] := by first | (simp [entryFrame, mkF, argsToLocals, Value.category]; done) | rfl
theorem d10_0 : decode jdk_29_method_69_code 0 = .ok (.iload_n 0, 1) := by decide +kernel
theorem d10_1 : decode jdk_29_method_69_code 1 = .ok (.iload_n 1, 1) := by decide +kernel
theorem d10_2 : decode jdk_29_method_69_code 2 = .ok (.if_icmp .gt 7, 3) := by decide +kernel
theorem d10_9 : decode jdk_29_method_69_code 9 = .ok (.iload_n 1, 1) := by decide +kernel
theorem d10_10 : decode jdk_29_method_69_code 10 = .ok (.ireturn, 1) := by decide +kernel
theorem ef5 (m : MethodId) (x0 : Int32) (x1 : Int32) : entryFrame m #[(.int x0), (.int x1)] 2 = mkF m 0 #[.val (.int x0), .val (.int x1)] [] := by first | (simp [entryFrame, mkF, argsToLocals, Value.category]; done) | rfl
theorem d10_5 : decode jdk_29_method_69_code 5 = .ok (.iload_n 0, 1) := by decide +kernel
theorem d10_6 : decode jdk_29_method_69_code 6 = .ok (.goto 4, 3) := by decide +kernel
theorem pd1 : parseMethodDescriptor "()V" = some ⟨[], none⟩ := by decide +kernel
theorem pd2 : parseMethodDescriptor "(D)V" = some ⟨[.double], none⟩ := by decide +kernel
theorem pd3 : parseMethodDescriptor "(II)I" = some ⟨[.int, .int], some .int⟩ := by decide +kernel
theorem pd4 : parseMethodDescriptor "(D)D" = some ⟨[.double], some .double⟩ := by decide +kernel
theorem ef6 (m : MethodId) (x0 : Int32) (x1 : Int32) (x2 : Int32) (x3 : Int32) (x4 : Int32) (x5 : Int32) : entryFrame m #[(.int x0), (.int x1), (.int x2), (.int x3), (.int x4), (.int x5)] maxLocals = mkF m 0 #[.val (.int x0), .val (.int x1), .val (.int x2), .val (.int x3), .val (.int x4), .val (.int x5), .unset, .unset, .unset, .unset, .unset, .unset, .unset, .unset, .unset, .unset, .unset, .unset, .unset] [] := by first | (simp [entryFrame, mkF, argsToLocals, Value.category, maxLocals]; done) | rfl
theorem pn2 : plainName "com/example/orrery/orrery/policy/RunningEndsLeftAtPinLaw" = true := by first | (simp [plainName, overriddenIn]; done) | decide +kernel
set_option maxRecDepth 65536 in
set_option maxHeartbeats 40000000 in
theorem add_E (l : Launch) (Z : State) (a0 : Array Value) (hw : ∀ d ∈ tables_1, d.before a0 Z = true) {p : Program} {e : Env} {s : State} {m : MethodId} {args : Array Value} {below : List Frame} {meth : Method} {c : Code} (hx : p.tables.exec = Jvm.exec) (hZ : Z.Warmed39 s.vm) (hby : c.code = prog_11_method_3_code) (hml : c.maxLocals = 5) (hown : s.vm.findClass "com/example/orrery/orrery/policy/RunningEnds" = some m.cls) {T0 : State} {locs0 : List Loc} {R : Room} {cells0 slots0 : Nat} (X0 : Stand p l e R s m args below meth c T0 locs0 cells0 slots0) (r a : Addr) (k : ClassId) (f la cap : Int32) (vs : List Value) (v : UInt64) (h0 : Heap) (n0 : Nat) (e0 : T0.heap = h0) (Z0 : n0 ≤ h0.size) (N0 : Fr n0 locs0) (g_r : n0 ≤ r) (g_a : n0 ≤ a) (ne : r ≠ a) (E_r : Exa Z h0 r "com/example/orrery/orrery/policy/RunningEnds") (F_e : Fld Z h0 r "com/example/orrery/orrery/policy/RunningEnds" "ends" "[D" (.ref a)) (F_f : Fld Z h0 r "com/example/orrery/orrery/policy/RunningEnds" "first" "I" (.int f)) (F_l : Fld Z h0 r "com/example/orrery/orrery/policy/RunningEnds" "last" "I" (.int la)) (V_a : Arv Z h0 a k .double cap vs (.double (FP.l2d 0))) (hne : ¬ (la = cap)) :
    ∃ (T1 : State) (locs1 : List Loc), Stand p l e R s m args below meth c T1 locs1 cells0 slots0 ∧ T1.heap = h0 ∧ Fr n0 locs1 ∧ ∀ t, Steps p.tables e below (T1.setTop (mkF m 87 #[.val (.ref r), .val (.double v), .second, .val (.int la), .unset] [])) t → Steps p.tables e below (T0.setTop (mkF m 0 #[.val (.ref r), .val (.double v), .second, .unset, .unset] [])) t := by
  obtain ⟨T1, X1, e1, st1⟩ := getF X0 hx hZ hown (host := "") (Or.inl (hw _ (List.mem_of_getElem? (i := 18) rfl))) Via.refl e0 F_l (g := (mkF m 1 #[.val (.ref r), .val (.double v), .second, .unset, .unset] [(.ref r)])) rfl rfl (hb hby d1_1)
  obtain ⟨T2, X2, e2, st2⟩ := getF X1 hx hZ hown (host := "") (Or.inl (hw _ (List.mem_of_getElem? (i := 10) rfl))) Via.refl e1 F_e (g := (mkF m 5 #[.val (.ref r), .val (.double v), .second, .unset, .unset] [(.ref r), (.int la)])) rfl rfl (hb hby d1_5)
  obtain ⟨cl3, Ar3, q3, S3, M3, H3, G3⟩ := id V_a
  have al3 : cl3.slots.size.toInt32 = cap := len_of S3 M3
  obtain ⟨T4, X4, e4, st4⟩ := getF X2 hx hZ hown (host := "") (Or.inl (hw _ (List.mem_of_getElem? (i := 18) rfl))) Via.refl e2 F_l (g := (mkF m 83 #[.val (.ref r), .val (.double v), .second, .unset, .unset] [(.ref r)])) rfl rfl (hb hby d1_83)
  refine ⟨T4, _, X4, e4, N0, fun t ht => ?_⟩
  show Steps p.tables e below (T0.setTop (mkF m 0 #[.val (.ref r), .val (.double v), .second, .unset, .unset] [])) _
  refine XS.aloadN X0.here hx rfl (hb hby d1_0) rfl rfl ?_
  show Steps p.tables e below (T0.setTop (mkF m 1 #[.val (.ref r), .val (.double v), .second, .unset, .unset] [(.ref r)])) _
  refine st1 _ ?_
  show Steps p.tables e below (T1.setTop (mkF m 4 #[.val (.ref r), .val (.double v), .second, .unset, .unset] [(.int la)])) _
  refine XS.aloadN X1.here hx rfl (hb hby d1_4) rfl rfl ?_
  show Steps p.tables e below (T1.setTop (mkF m 5 #[.val (.ref r), .val (.double v), .second, .unset, .unset] [(.ref r), (.int la)])) _
  refine st2 _ ?_
  show Steps p.tables e below (T2.setTop (mkF m 8 #[.val (.ref r), .val (.double v), .second, .unset, .unset] [(.ref a), (.int la)])) _
  refine X2.arraylength hx (a := a) (cell := cl3) (by rw [e2]; exact Ar3.1) (State.isArrayOf_alike hZ.alike Ar3.2.1) (g := (mkF m 8 #[.val (.ref r), .val (.double v), .second, .unset, .unset] [(.ref a), (.int la)])) rfl rfl (hb hby d1_8) _ ?_
  rw [al3]
  show Steps p.tables e below (T2.setTop (mkF m 9 #[.val (.ref r), .val (.double v), .second, .unset, .unset] [(.int cap), (.int la)])) _
  refine XS.icmpYes X2.here hx rfl (pc0 := 9) (pc' := 82) rfl (hb hby d1_9) rfl (feq hne).2 (by decide) (by decide) ?_
  show Steps p.tables e below (T2.setTop (mkF m 82 #[.val (.ref r), .val (.double v), .second, .unset, .unset] [])) _
  refine XS.aloadN X2.here hx rfl (hb hby d1_82) rfl rfl ?_
  show Steps p.tables e below (T2.setTop (mkF m 83 #[.val (.ref r), .val (.double v), .second, .unset, .unset] [(.ref r)])) _
  refine st4 _ ?_
  show Steps p.tables e below (T4.setTop (mkF m 86 #[.val (.ref r), .val (.double v), .second, .unset, .unset] [(.int la)])) _
  refine XS.istoreN X4.here hx rfl (hb hby d1_86) rfl (l' := #[.val (.ref r), .val (.double v), .second, .val (.int la), .unset]) rfl ?_
  show Steps p.tables e below (T4.setTop (mkF m 87 #[.val (.ref r), .val (.double v), .second, .val (.int la), .unset] [])) _
  exact ht
set_option maxRecDepth 65536 in
set_option maxHeartbeats 40000000 in
theorem add_GC (l : Launch) (Z : State) (a0 : Array Value) (hw : ∀ d ∈ tables_1, d.before a0 Z = true) {p : Program} {e : Env} {s : State} {m : MethodId} {args : Array Value} {below : List Frame} {meth : Method} {c : Code} (hx : p.tables.exec = Jvm.exec) (hZ : Z.Warmed39 s.vm) (hby : c.code = prog_11_method_3_code) (hml : c.maxLocals = 5) (hown : s.vm.findClass "com/example/orrery/orrery/policy/RunningEnds" = some m.cls) {T0 : State} {locs0 : List Loc} {R : Room} {cells0 slots0 : Nat} (X0 : Stand p l e R s m args below meth c T0 locs0 cells0 slots0) (r a : Addr) (k : ClassId) (y0 y1 : Int64) (v : UInt64) (h0 : Heap) (n0 : Nat) (e0 : T0.heap = h0) (Z0 : n0 ≤ h0.size) (N0 : Fr n0 locs0) (hRf : 1 ≤ R.frames) (hRl : 18 ≤ R.locals) (hRc : cells0 + 1 ≤ R.cells) (hRs : slots0 + 4 ≤ R.slots) (g_r : n0 ≤ r) (g_a : n0 ≤ a) (ne : r ≠ a) (E_r : Exa Z h0 r "com/example/orrery/orrery/policy/RunningEnds") (F_e : Fld Z h0 r "com/example/orrery/orrery/policy/RunningEnds" "ends" "[D" (.ref a)) (F_f : Fld Z h0 r "com/example/orrery/orrery/policy/RunningEnds" "first" "I" (.int (0 : Int32))) (F_l : Fld Z h0 r "com/example/orrery/orrery/policy/RunningEnds" "last" "I" (.int (2 : Int32))) (V_a : Arv Z h0 a k .double (2 : Int32) [(.double (FP.l2d y0)), (.double (FP.l2d y1))] (.double (FP.l2d 0))) :
    ∃ (a' : Addr) (k' : ClassId) (T1 : State) (h1 : Heap) (locs1 : List Loc), Stand p l e R s m args below meth c T1 locs1 (cells0 + 1) (slots0 + 4) ∧ T1.heap = h1 ∧ n0 ≤ h1.size ∧ Fr n0 locs1 ∧ (n0 ≤ a' ∧ r ≠ a' ∧ Exa Z h1 r "com/example/orrery/orrery/policy/RunningEnds" ∧ Fld Z h1 r "com/example/orrery/orrery/policy/RunningEnds" "ends" "[D" (.ref a') ∧ Fld Z h1 r "com/example/orrery/orrery/policy/RunningEnds" "first" "I" (.int (0 : Int32)) ∧ Fld Z h1 r "com/example/orrery/orrery/policy/RunningEnds" "last" "I" (.int (2 : Int32)) ∧ Arv Z h1 a' k' .double (4 : Int32) [(.double (FP.l2d y0)), (.double (FP.l2d y1)), (.double (FP.l2d 0)), (.double (FP.l2d 0))] (.double (FP.l2d 0))) ∧ ∀ t, Steps p.tables e below (T1.setTop (mkF m 87 #[.val (.ref r), .val (.double v), .second, .val (.int (2 : Int32)), .val (.ref a')] [])) t → Steps p.tables e below (T0.setTop (mkF m 0 #[.val (.ref r), .val (.double v), .second, .unset, .unset] [])) t := by
  obtain ⟨T1, X1, e1, st1⟩ := getF X0 hx hZ hown (host := "") (Or.inl (hw _ (List.mem_of_getElem? (i := 18) rfl))) Via.refl e0 F_l (g := (mkF m 1 #[.val (.ref r), .val (.double v), .second, .unset, .unset] [(.ref r)])) rfl rfl (hb hby d1_1)
  obtain ⟨T2, X2, e2, st2⟩ := getF X1 hx hZ hown (host := "") (Or.inl (hw _ (List.mem_of_getElem? (i := 10) rfl))) Via.refl e1 F_e (g := (mkF m 5 #[.val (.ref r), .val (.double v), .second, .unset, .unset] [(.ref r), (.int (2 : Int32))])) rfl rfl (hb hby d1_5)
  obtain ⟨cl3, Ar3, q3, S3, M3, H3, G3⟩ := id V_a
  have al3 : cl3.slots.size.toInt32 = (2 : Int32) := len_of S3 M3
  obtain ⟨T4, X4, e4, st4⟩ := getF X2 hx hZ hown (host := "") (Or.inl (hw _ (List.mem_of_getElem? (i := 18) rfl))) Via.refl e2 F_l (g := (mkF m 13 #[.val (.ref r), .val (.double v), .second, .unset, .unset] [(.ref r)])) rfl rfl (hb hby d1_13)
  obtain ⟨T5, X5, e5, st5⟩ := getF X4 hx hZ hown (host := "") (Or.inl (hw _ (List.mem_of_getElem? (i := 20) rfl))) Via.refl e4 F_f (g := (mkF m 17 #[.val (.ref r), .val (.double v), .second, .unset, .unset] [(.ref r), (.int (2 : Int32))])) rfl rfl (hb hby d1_17)
  obtain ⟨T6, X6, e6, st6⟩ := getF X5 hx hZ hown (host := "") (Or.inl (hw _ (List.mem_of_getElem? (i := 10) rfl))) Via.refl e5 F_e (g := (mkF m 24 #[.val (.ref r), .val (.double v), .second, .val (.int (2 : Int32)), .unset] [(.ref r), (.int (2 : Int32))])) rfl rfl (hb hby d1_24)
  obtain ⟨cl7, Ar7, q7, S7, M7, H7, G7⟩ := id V_a
  have al7 : cl7.slots.size.toInt32 = (2 : Int32) := len_of S7 M7
  obtain ⟨T8, X8, e8, st8⟩ := getF X6 hx hZ hown (host := "") (Or.inl (hw _ (List.mem_of_getElem? (i := 10) rfl))) Via.refl e6 F_e (g := (mkF m 42 #[.val (.ref r), .val (.double v), .second, .val (.int (2 : Int32)), .unset] [(.ref r), (.int (2 : Int32))])) rfl rfl (hb hby d1_42)
  obtain ⟨cl9, Ar9, q9, S9, M9, H9, G9⟩ := id V_a
  have al9 : cl9.slots.size.toInt32 = (2 : Int32) := len_of S9 M9
  obtain ⟨T10, h10, k10, X10, e10, E10, A10, st10⟩ := newP X8 hx hZ (hw _ (List.mem_of_getElem? (i := 9) rfl)) e8 (g := (mkF m 47 #[.val (.ref r), .val (.double v), .second, .val (.int (2 : Int32)), .unset] [(.int (4 : Int32))])) rfl (hb hby d1_47) rfl (by decide) (cap := 4) (by decide) (by decide) (by omega) (by omega)
  obtain ⟨b10, g10⟩ : ∃ z, z = h0.size := ⟨_, rfl⟩
  rw [← g10] at A10 st10
  have ne_r_b10 : r ≠ b10 := by rw [g10]; exact Nat.ne_of_lt E_r.lt
  have ne_a_b10 : a ≠ b10 := by rw [g10]; exact Nat.ne_of_lt V_a.lt
  have g_b10 : n0 ≤ b10 := Nat.le_trans Z0 (Nat.le_of_eq g10.symm)
  have Zc11 : n0 ≤ h10.size := Nat.le_trans Z0 E10.1
  have V10 : Arv Z h10 b10 k10 .double (4 : Int32) [(.double (FP.l2d 0)), (.double (FP.l2d 0)), (.double (FP.l2d 0)), (.double (FP.l2d 0))] (.double (FP.l2d 0)) := Arv.pad (Arv.newD A10 (by decide)) (pad_rep [] _ 4)
  have f12 : Fld Z h10 r "com/example/orrery/orrery/policy/RunningEnds" "ends" "[D" (.ref a) := (Fld.ext E10 F_e)
  obtain ⟨T13, X13, e13, st13⟩ := getF X10 hx hZ hown (host := "") (Or.inl (hw _ (List.mem_of_getElem? (i := 10) rfl))) Via.refl e10 f12 (g := (mkF m 52 #[.val (.ref r), .val (.double v), .second, .val (.int (2 : Int32)), .val (.ref b10)] [(.ref r)])) rfl rfl (hb hby d1_52)
  have f14 : Fld Z h10 r "com/example/orrery/orrery/policy/RunningEnds" "first" "I" (.int (0 : Int32)) := (Fld.ext E10 F_f)
  obtain ⟨T15, X15, e15, st15⟩ := getF X13 hx hZ hown (host := "") (Or.inl (hw _ (List.mem_of_getElem? (i := 20) rfl))) Via.refl e13 f14 (g := (mkF m 56 #[.val (.ref r), .val (.double v), .second, .val (.int (2 : Int32)), .val (.ref b10)] [(.ref r), (.ref a)])) rfl rfl (hb hby d1_56)
  have f17 : Arv Z h10 a k .double (2 : Int32) [(.double (FP.l2d y0)), (.double (FP.l2d y1))] (.double (FP.l2d 0)) := (Arv.ext V_a E10)
  obtain ⟨T16, h16, L16, X16, e16, Na16, Kc16, Vr16, st16⟩ := cpA X15 hx hZ hown (hw _ (List.mem_of_getElem? (i := 22) rfl)) (hw _ (List.mem_of_getElem? (i := 25) rfl)) (hw _ (List.mem_of_getElem? (i := 23) rfl)) (hw _ (List.mem_of_getElem? (i := 24) rfl)) e15 (us := [(.double (FP.l2d y0)), (.double (FP.l2d y1))]) f17 V10 (Or.inl ⟨rfl, rfl⟩) (by decide) (by decide) (by decide) (by decide) (by decide) rfl (Nat.le_of_ble_eq_true rfl) N0 g_b10 (g := (mkF m 63 #[.val (.ref r), .val (.double v), .second, .val (.int (2 : Int32)), .val (.ref b10)] [(.int (2 : Int32)), (.int (0 : Int32)), (.ref b10), (.int (0 : Int32)), (.ref a)])) rfl (by rw [hml]; rfl) rfl (hb hby d1_63) (Nat.le_trans (by decide : _ ≤ 1) hRf) (W := 0) (by show 2 * 0 + _ ≤ _; exact Nat.le_of_eq rfl) (Nat.le_trans (by decide : _ ≤ 18) hRl)
  have Zc16 : n0 ≤ h16.size := Nat.le_trans Zc11 Kc16.1
  have V16 : Arv Z h16 b10 k10 .double (4 : Int32) [(.double (FP.l2d y0)), (.double (FP.l2d y1)), (.double (FP.l2d 0)), (.double (FP.l2d 0))] (.double (FP.l2d 0)) := Vr16
  have f18 : Fld Z h16 r "com/example/orrery/orrery/policy/RunningEnds" "ends" "[D" (.ref a) := (Fld.keep f12 Kc16 (ninS ne_r_b10 nin0))
  have f19 : Exa Z h16 r "com/example/orrery/orrery/policy/RunningEnds" := (Exa.keep (Exa.ext E10 E_r) Kc16)
  obtain ⟨T20, h20, X20, e20, W20, st20⟩ := putF X16 hx hZ hown (host := "") (Or.inl (hw _ (List.mem_of_getElem? (i := 10) rfl))) Via.refl e16 f18 f19 (Or.inl (hw _ (List.mem_of_getElem? (i := 11) rfl))) (hw _ (List.mem_of_getElem? (i := 1) rfl)) (ty := (.array .double)) (by decide) rfl rfl (g := (mkF m 69 #[.val (.ref r), .val (.double v), .second, .val (.int (2 : Int32)), .val (.ref b10)] [(.ref b10), (.ref r)])) rfl rfl (hb hby d1_69)
  have N21 := Fr.snoc X20 Na16 g_r
  have Zc21 : n0 ≤ h20.size := by rw [Wr.size W20]; exact Zc16
  have Fw20 : Fld Z h20 r "com/example/orrery/orrery/policy/RunningEnds" "ends" "[D" (.ref b10) := Fld.same W20 f18
  have f22 : Fld Z h20 r "com/example/orrery/orrery/policy/RunningEnds" "first" "I" (.int (0 : Int32)) := (Fld.other W20 (Fld.keep f14 Kc16 (ninS ne_r_b10 nin0)) (Or.inr (slot_ne (t := .int) (t' := (.array .double)) (Or.inl (hw _ (List.mem_of_getElem? (i := 21) rfl))) (Or.inl (hw _ (List.mem_of_getElem? (i := 11) rfl))) (by decide) (by decide) (by decide))))
  have f23 : Exa Z h20 r "com/example/orrery/orrery/policy/RunningEnds" := (Exa.wr W20 f19)
  obtain ⟨T24, h24, X24, e24, W24, st24⟩ := putF X20 hx hZ hown (host := "") (Or.inl (hw _ (List.mem_of_getElem? (i := 20) rfl))) Via.refl e20 f22 f23 (Or.inl (hw _ (List.mem_of_getElem? (i := 21) rfl))) (hw _ (List.mem_of_getElem? (i := 1) rfl)) (ty := .int) (by decide) rfl rfl (g := (mkF m 74 #[.val (.ref r), .val (.double v), .second, .val (.int (2 : Int32)), .val (.ref b10)] [(.int (0 : Int32)), (.ref r)])) rfl rfl (hb hby d1_74)
  have N25 := Fr.snoc X24 N21 g_r
  have Zc25 : n0 ≤ h24.size := by rw [Wr.size W24]; exact Zc21
  have Fw24 : Fld Z h24 r "com/example/orrery/orrery/policy/RunningEnds" "first" "I" (.int (0 : Int32)) := Fld.same W24 f22
  have f26 : Fld Z h24 r "com/example/orrery/orrery/policy/RunningEnds" "last" "I" (.int (2 : Int32)) := (Fld.other W24 (Fld.other W20 (Fld.keep (Fld.ext E10 F_l) Kc16 (ninS ne_r_b10 nin0)) (Or.inr (slot_ne (t := .int) (t' := (.array .double)) (Or.inl (hw _ (List.mem_of_getElem? (i := 19) rfl))) (Or.inl (hw _ (List.mem_of_getElem? (i := 11) rfl))) (by decide) (by decide) (by decide)))) (Or.inr (slot_ne (t := .int) (t' := .int) (Or.inl (hw _ (List.mem_of_getElem? (i := 19) rfl))) (Or.inl (hw _ (List.mem_of_getElem? (i := 21) rfl))) (by decide) (by decide) (by decide))))
  have f27 : Exa Z h24 r "com/example/orrery/orrery/policy/RunningEnds" := (Exa.wr W24 f23)
  obtain ⟨T28, h28, X28, e28, W28, st28⟩ := putF X24 hx hZ hown (host := "") (Or.inl (hw _ (List.mem_of_getElem? (i := 18) rfl))) Via.refl e24 f26 f27 (Or.inl (hw _ (List.mem_of_getElem? (i := 19) rfl))) (hw _ (List.mem_of_getElem? (i := 1) rfl)) (ty := .int) (by decide) rfl rfl (g := (mkF m 79 #[.val (.ref r), .val (.double v), .second, .val (.int (2 : Int32)), .val (.ref b10)] [(.int (2 : Int32)), (.ref r)])) rfl rfl (hb hby d1_79)
  have N29 := Fr.snoc X28 N25 g_r
  have Zc29 : n0 ≤ h28.size := by rw [Wr.size W28]; exact Zc25
  have Fw28 : Fld Z h28 r "com/example/orrery/orrery/policy/RunningEnds" "last" "I" (.int (2 : Int32)) := Fld.same W28 f26
  obtain ⟨T30, X30, e30, st30⟩ := getF X28 hx hZ hown (host := "") (Or.inl (hw _ (List.mem_of_getElem? (i := 18) rfl))) Via.refl e28 Fw28 (g := (mkF m 83 #[.val (.ref r), .val (.double v), .second, .val (.int (2 : Int32)), .val (.ref b10)] [(.ref r)])) rfl rfl (hb hby d1_83)
  have f31 : Exa Z h28 r "com/example/orrery/orrery/policy/RunningEnds" := (Exa.wr W28 f27)
  have f32 : Fld Z h28 r "com/example/orrery/orrery/policy/RunningEnds" "ends" "[D" (.ref b10) := (Fld.other W28 (Fld.other W24 Fw20 (Or.inr (slot_ne (t := (.array .double)) (t' := .int) (Or.inl (hw _ (List.mem_of_getElem? (i := 11) rfl))) (Or.inl (hw _ (List.mem_of_getElem? (i := 21) rfl))) (by decide) (by decide) (by decide)))) (Or.inr (slot_ne (t := (.array .double)) (t' := .int) (Or.inl (hw _ (List.mem_of_getElem? (i := 11) rfl))) (Or.inl (hw _ (List.mem_of_getElem? (i := 19) rfl))) (by decide) (by decide) (by decide))))
  have f33 : Fld Z h28 r "com/example/orrery/orrery/policy/RunningEnds" "first" "I" (.int (0 : Int32)) := (Fld.other W28 Fw24 (Or.inr (slot_ne (t := .int) (t' := .int) (Or.inl (hw _ (List.mem_of_getElem? (i := 21) rfl))) (Or.inl (hw _ (List.mem_of_getElem? (i := 19) rfl))) (by decide) (by decide) (by decide))))
  have f34 : Arv Z h28 b10 k10 .double (4 : Int32) [(.double (FP.l2d y0)), (.double (FP.l2d y1)), (.double (FP.l2d 0)), (.double (FP.l2d 0))] (.double (FP.l2d 0)) := (Arv.other (Arv.other (Arv.other V16 W20 (Ne.symm ne_r_b10)) W24 (Ne.symm ne_r_b10)) W28 (Ne.symm ne_r_b10))
  refine ⟨b10, k10, T30, h28, _, X30, e30, Zc29, N29, ⟨g_b10, ne_r_b10, f31, f32, f33, Fw28, f34⟩, fun t ht => ?_⟩
  show Steps p.tables e below (T0.setTop (mkF m 0 #[.val (.ref r), .val (.double v), .second, .unset, .unset] [])) _
  refine XS.aloadN X0.here hx rfl (hb hby d1_0) rfl rfl ?_
  show Steps p.tables e below (T0.setTop (mkF m 1 #[.val (.ref r), .val (.double v), .second, .unset, .unset] [(.ref r)])) _
  refine st1 _ ?_
  show Steps p.tables e below (T1.setTop (mkF m 4 #[.val (.ref r), .val (.double v), .second, .unset, .unset] [(.int (2 : Int32))])) _
  refine XS.aloadN X1.here hx rfl (hb hby d1_4) rfl rfl ?_
  show Steps p.tables e below (T1.setTop (mkF m 5 #[.val (.ref r), .val (.double v), .second, .unset, .unset] [(.ref r), (.int (2 : Int32))])) _
  refine st2 _ ?_
  show Steps p.tables e below (T2.setTop (mkF m 8 #[.val (.ref r), .val (.double v), .second, .unset, .unset] [(.ref a), (.int (2 : Int32))])) _
  refine X2.arraylength hx (a := a) (cell := cl3) (by rw [e2]; exact Ar3.1) (State.isArrayOf_alike hZ.alike Ar3.2.1) (g := (mkF m 8 #[.val (.ref r), .val (.double v), .second, .unset, .unset] [(.ref a), (.int (2 : Int32))])) rfl rfl (hb hby d1_8) _ ?_
  rw [al3]
  show Steps p.tables e below (T2.setTop (mkF m 9 #[.val (.ref r), .val (.double v), .second, .unset, .unset] [(.int (2 : Int32)), (.int (2 : Int32))])) _
  refine XS.icmpNo X2.here hx rfl (hb hby d1_9) rfl (teq rfl).2 ?_
  show Steps p.tables e below (T2.setTop (mkF m 12 #[.val (.ref r), .val (.double v), .second, .unset, .unset] [])) _
  refine XS.aloadN X2.here hx rfl (hb hby d1_12) rfl rfl ?_
  show Steps p.tables e below (T2.setTop (mkF m 13 #[.val (.ref r), .val (.double v), .second, .unset, .unset] [(.ref r)])) _
  refine st4 _ ?_
  show Steps p.tables e below (T4.setTop (mkF m 16 #[.val (.ref r), .val (.double v), .second, .unset, .unset] [(.int (2 : Int32))])) _
  refine XS.aloadN X4.here hx rfl (hb hby d1_16) rfl rfl ?_
  show Steps p.tables e below (T4.setTop (mkF m 17 #[.val (.ref r), .val (.double v), .second, .unset, .unset] [(.ref r), (.int (2 : Int32))])) _
  refine st5 _ ?_
  show Steps p.tables e below (T5.setTop (mkF m 20 #[.val (.ref r), .val (.double v), .second, .unset, .unset] [(.int (0 : Int32)), (.int (2 : Int32))])) _
  refine XS.isub X5.here hx rfl (hb hby d1_20) rfl ?_
  show Steps p.tables e below (T5.setTop (mkF m 21 #[.val (.ref r), .val (.double v), .second, .unset, .unset] [(.int (2 : Int32))])) _
  refine XS.istoreN X5.here hx rfl (hb hby d1_21) rfl (l' := #[.val (.ref r), .val (.double v), .second, .val (.int (2 : Int32)), .unset]) rfl ?_
  show Steps p.tables e below (T5.setTop (mkF m 22 #[.val (.ref r), .val (.double v), .second, .val (.int (2 : Int32)), .unset] [])) _
  refine XS.iloadN X5.here hx rfl (hb hby d1_22) rfl ?_
  show Steps p.tables e below (T5.setTop (mkF m 23 #[.val (.ref r), .val (.double v), .second, .val (.int (2 : Int32)), .unset] [(.int (2 : Int32))])) _
  refine XS.aloadN X5.here hx rfl (hb hby d1_23) rfl rfl ?_
  show Steps p.tables e below (T5.setTop (mkF m 24 #[.val (.ref r), .val (.double v), .second, .val (.int (2 : Int32)), .unset] [(.ref r), (.int (2 : Int32))])) _
  refine st6 _ ?_
  show Steps p.tables e below (T6.setTop (mkF m 27 #[.val (.ref r), .val (.double v), .second, .val (.int (2 : Int32)), .unset] [(.ref a), (.int (2 : Int32))])) _
  refine X6.arraylength hx (a := a) (cell := cl7) (by rw [e6]; exact Ar7.1) (State.isArrayOf_alike hZ.alike Ar7.2.1) (g := (mkF m 27 #[.val (.ref r), .val (.double v), .second, .val (.int (2 : Int32)), .unset] [(.ref a), (.int (2 : Int32))])) rfl rfl (hb hby d1_27) _ ?_
  rw [al7]
  show Steps p.tables e below (T6.setTop (mkF m 28 #[.val (.ref r), .val (.double v), .second, .val (.int (2 : Int32)), .unset] [(.int (2 : Int32)), (.int (2 : Int32))])) _
  refine XS.iconst X6.here hx rfl (hb hby d1_28) ?_
  show Steps p.tables e below (T6.setTop (mkF m 29 #[.val (.ref r), .val (.double v), .second, .val (.int (2 : Int32)), .unset] [(.int (2 : Int32)), (.int (2 : Int32)), (.int (2 : Int32))])) _
  refine XS.idiv X6.here hx rfl (hb hby d1_29) rfl (by decide) ?_
  show Steps p.tables e below (T6.setTop (mkF m 30 #[.val (.ref r), .val (.double v), .second, .val (.int (2 : Int32)), .unset] [(.int (1 : Int32)), (.int (2 : Int32))])) _
  refine XS.icmpYes X6.here hx rfl (pc0 := 30) (pc' := 40) rfl (hb hby d1_30) rfl (flt (by decide)).2.1 (by decide) (by decide) ?_
  show Steps p.tables e below (T6.setTop (mkF m 40 #[.val (.ref r), .val (.double v), .second, .val (.int (2 : Int32)), .unset] [])) _
  refine XS.iconst X6.here hx rfl (hb hby d1_40) ?_
  show Steps p.tables e below (T6.setTop (mkF m 41 #[.val (.ref r), .val (.double v), .second, .val (.int (2 : Int32)), .unset] [(.int (2 : Int32))])) _
  refine XS.aloadN X6.here hx rfl (hb hby d1_41) rfl rfl ?_
  show Steps p.tables e below (T6.setTop (mkF m 42 #[.val (.ref r), .val (.double v), .second, .val (.int (2 : Int32)), .unset] [(.ref r), (.int (2 : Int32))])) _
  refine st8 _ ?_
  show Steps p.tables e below (T8.setTop (mkF m 45 #[.val (.ref r), .val (.double v), .second, .val (.int (2 : Int32)), .unset] [(.ref a), (.int (2 : Int32))])) _
  refine X8.arraylength hx (a := a) (cell := cl9) (by rw [e8]; exact Ar9.1) (State.isArrayOf_alike hZ.alike Ar9.2.1) (g := (mkF m 45 #[.val (.ref r), .val (.double v), .second, .val (.int (2 : Int32)), .unset] [(.ref a), (.int (2 : Int32))])) rfl rfl (hb hby d1_45) _ ?_
  rw [al9]
  show Steps p.tables e below (T8.setTop (mkF m 46 #[.val (.ref r), .val (.double v), .second, .val (.int (2 : Int32)), .unset] [(.int (2 : Int32)), (.int (2 : Int32))])) _
  refine XS.imul X8.here hx rfl (hb hby d1_46) rfl ?_
  show Steps p.tables e below (T8.setTop (mkF m 47 #[.val (.ref r), .val (.double v), .second, .val (.int (2 : Int32)), .unset] [(.int (4 : Int32))])) _
  refine st10 _ ?_
  show Steps p.tables e below (T10.setTop (mkF m 49 #[.val (.ref r), .val (.double v), .second, .val (.int (2 : Int32)), .unset] [(.ref b10)])) _
  refine XS.astore X10.here hx rfl (hb hby d1_49) rfl rfl (l' := #[.val (.ref r), .val (.double v), .second, .val (.int (2 : Int32)), .val (.ref b10)]) rfl ?_
  show Steps p.tables e below (T10.setTop (mkF m 51 #[.val (.ref r), .val (.double v), .second, .val (.int (2 : Int32)), .val (.ref b10)] [])) _
  refine XS.aloadN X10.here hx rfl (hb hby d1_51) rfl rfl ?_
  show Steps p.tables e below (T10.setTop (mkF m 52 #[.val (.ref r), .val (.double v), .second, .val (.int (2 : Int32)), .val (.ref b10)] [(.ref r)])) _
  refine st13 _ ?_
  show Steps p.tables e below (T13.setTop (mkF m 55 #[.val (.ref r), .val (.double v), .second, .val (.int (2 : Int32)), .val (.ref b10)] [(.ref a)])) _
  refine XS.aloadN X13.here hx rfl (hb hby d1_55) rfl rfl ?_
  show Steps p.tables e below (T13.setTop (mkF m 56 #[.val (.ref r), .val (.double v), .second, .val (.int (2 : Int32)), .val (.ref b10)] [(.ref r), (.ref a)])) _
  refine st15 _ ?_
  show Steps p.tables e below (T15.setTop (mkF m 59 #[.val (.ref r), .val (.double v), .second, .val (.int (2 : Int32)), .val (.ref b10)] [(.int (0 : Int32)), (.ref a)])) _
  refine XS.aload X15.here hx rfl (hb hby d1_59) rfl rfl ?_
  show Steps p.tables e below (T15.setTop (mkF m 61 #[.val (.ref r), .val (.double v), .second, .val (.int (2 : Int32)), .val (.ref b10)] [(.ref b10), (.int (0 : Int32)), (.ref a)])) _
  refine XS.iconst X15.here hx rfl (hb hby d1_61) ?_
  show Steps p.tables e below (T15.setTop (mkF m 62 #[.val (.ref r), .val (.double v), .second, .val (.int (2 : Int32)), .val (.ref b10)] [(.int (0 : Int32)), (.ref b10), (.int (0 : Int32)), (.ref a)])) _
  refine XS.iloadN X15.here hx rfl (hb hby d1_62) rfl ?_
  show Steps p.tables e below (T15.setTop (mkF m 63 #[.val (.ref r), .val (.double v), .second, .val (.int (2 : Int32)), .val (.ref b10)] [(.int (2 : Int32)), (.int (0 : Int32)), (.ref b10), (.int (0 : Int32)), (.ref a)])) _
  refine st16 _ ?_
  show Steps p.tables e below (T16.setTop (mkF m 66 #[.val (.ref r), .val (.double v), .second, .val (.int (2 : Int32)), .val (.ref b10)] [])) _
  refine XS.aloadN X16.here hx rfl (hb hby d1_66) rfl rfl ?_
  show Steps p.tables e below (T16.setTop (mkF m 67 #[.val (.ref r), .val (.double v), .second, .val (.int (2 : Int32)), .val (.ref b10)] [(.ref r)])) _
  refine XS.aload X16.here hx rfl (hb hby d1_67) rfl rfl ?_
  show Steps p.tables e below (T16.setTop (mkF m 69 #[.val (.ref r), .val (.double v), .second, .val (.int (2 : Int32)), .val (.ref b10)] [(.ref b10), (.ref r)])) _
  refine st20 _ ?_
  show Steps p.tables e below (T20.setTop (mkF m 72 #[.val (.ref r), .val (.double v), .second, .val (.int (2 : Int32)), .val (.ref b10)] [])) _
  refine XS.aloadN X20.here hx rfl (hb hby d1_72) rfl rfl ?_
  show Steps p.tables e below (T20.setTop (mkF m 73 #[.val (.ref r), .val (.double v), .second, .val (.int (2 : Int32)), .val (.ref b10)] [(.ref r)])) _
  refine XS.iconst X20.here hx rfl (hb hby d1_73) ?_
  show Steps p.tables e below (T20.setTop (mkF m 74 #[.val (.ref r), .val (.double v), .second, .val (.int (2 : Int32)), .val (.ref b10)] [(.int (0 : Int32)), (.ref r)])) _
  refine st24 _ ?_
  show Steps p.tables e below (T24.setTop (mkF m 77 #[.val (.ref r), .val (.double v), .second, .val (.int (2 : Int32)), .val (.ref b10)] [])) _
  refine XS.aloadN X24.here hx rfl (hb hby d1_77) rfl rfl ?_
  show Steps p.tables e below (T24.setTop (mkF m 78 #[.val (.ref r), .val (.double v), .second, .val (.int (2 : Int32)), .val (.ref b10)] [(.ref r)])) _
  refine XS.iloadN X24.here hx rfl (hb hby d1_78) rfl ?_
  show Steps p.tables e below (T24.setTop (mkF m 79 #[.val (.ref r), .val (.double v), .second, .val (.int (2 : Int32)), .val (.ref b10)] [(.int (2 : Int32)), (.ref r)])) _
  refine st28 _ ?_
  show Steps p.tables e below (T28.setTop (mkF m 82 #[.val (.ref r), .val (.double v), .second, .val (.int (2 : Int32)), .val (.ref b10)] [])) _
  refine XS.aloadN X28.here hx rfl (hb hby d1_82) rfl rfl ?_
  show Steps p.tables e below (T28.setTop (mkF m 83 #[.val (.ref r), .val (.double v), .second, .val (.int (2 : Int32)), .val (.ref b10)] [(.ref r)])) _
  refine st30 _ ?_
  show Steps p.tables e below (T30.setTop (mkF m 86 #[.val (.ref r), .val (.double v), .second, .val (.int (2 : Int32)), .val (.ref b10)] [(.int (2 : Int32))])) _
  refine XS.istoreN X30.here hx rfl (hb hby d1_86) rfl (l' := #[.val (.ref r), .val (.double v), .second, .val (.int (2 : Int32)), .val (.ref b10)]) rfl ?_
  show Steps p.tables e below (T30.setTop (mkF m 87 #[.val (.ref r), .val (.double v), .second, .val (.int (2 : Int32)), .val (.ref b10)] [])) _
  exact ht
set_option maxRecDepth 65536 in
set_option maxHeartbeats 40000000 in
theorem add_GD (l : Launch) (Z : State) (a0 : Array Value) (hw : ∀ d ∈ tables_1, d.before a0 Z = true) {p : Program} {e : Env} {s : State} {m : MethodId} {args : Array Value} {below : List Frame} {meth : Method} {c : Code} (hx : p.tables.exec = Jvm.exec) (hZ : Z.Warmed39 s.vm) (hby : c.code = prog_11_method_3_code) (hml : c.maxLocals = 5) (hown : s.vm.findClass "com/example/orrery/orrery/policy/RunningEnds" = some m.cls) {T0 : State} {locs0 : List Loc} {R : Room} {cells0 slots0 : Nat} (X0 : Stand p l e R s m args below meth c T0 locs0 cells0 slots0) (r a : Addr) (k : ClassId) (y0 y1 : Int64) (v : UInt64) (h0 : Heap) (n0 : Nat) (e0 : T0.heap = h0) (Z0 : n0 ≤ h0.size) (N0 : Fr n0 locs0) (hRf : 1 ≤ R.frames) (hRl : 18 ≤ R.locals) (hRc : cells0 + 1 ≤ R.cells) (hRs : slots0 + 4 ≤ R.slots) (g_r : n0 ≤ r) (g_a : n0 ≤ a) (ne : r ≠ a) (E_r : Exa Z h0 r "com/example/orrery/orrery/policy/RunningEnds") (F_e : Fld Z h0 r "com/example/orrery/orrery/policy/RunningEnds" "ends" "[D" (.ref a)) (F_f : Fld Z h0 r "com/example/orrery/orrery/policy/RunningEnds" "first" "I" (.int (1 : Int32))) (F_l : Fld Z h0 r "com/example/orrery/orrery/policy/RunningEnds" "last" "I" (.int (2 : Int32))) (V_a : Arv Z h0 a k .double (2 : Int32) [(.double (FP.l2d y0)), (.double (FP.l2d y1))] (.double (FP.l2d 0))) :
    ∃ (a' : Addr) (k' : ClassId) (T1 : State) (h1 : Heap) (locs1 : List Loc), Stand p l e R s m args below meth c T1 locs1 (cells0 + 1) (slots0 + 4) ∧ T1.heap = h1 ∧ n0 ≤ h1.size ∧ Fr n0 locs1 ∧ (n0 ≤ a' ∧ r ≠ a' ∧ Exa Z h1 r "com/example/orrery/orrery/policy/RunningEnds" ∧ Fld Z h1 r "com/example/orrery/orrery/policy/RunningEnds" "ends" "[D" (.ref a') ∧ Fld Z h1 r "com/example/orrery/orrery/policy/RunningEnds" "first" "I" (.int (0 : Int32)) ∧ Fld Z h1 r "com/example/orrery/orrery/policy/RunningEnds" "last" "I" (.int (1 : Int32)) ∧ Arv Z h1 a' k' .double (4 : Int32) [(.double (FP.l2d y1)), (.double (FP.l2d 0)), (.double (FP.l2d 0)), (.double (FP.l2d 0))] (.double (FP.l2d 0))) ∧ ∀ t, Steps p.tables e below (T1.setTop (mkF m 87 #[.val (.ref r), .val (.double v), .second, .val (.int (1 : Int32)), .val (.ref a')] [])) t → Steps p.tables e below (T0.setTop (mkF m 0 #[.val (.ref r), .val (.double v), .second, .unset, .unset] [])) t := by
  obtain ⟨T1, X1, e1, st1⟩ := getF X0 hx hZ hown (host := "") (Or.inl (hw _ (List.mem_of_getElem? (i := 18) rfl))) Via.refl e0 F_l (g := (mkF m 1 #[.val (.ref r), .val (.double v), .second, .unset, .unset] [(.ref r)])) rfl rfl (hb hby d1_1)
  obtain ⟨T2, X2, e2, st2⟩ := getF X1 hx hZ hown (host := "") (Or.inl (hw _ (List.mem_of_getElem? (i := 10) rfl))) Via.refl e1 F_e (g := (mkF m 5 #[.val (.ref r), .val (.double v), .second, .unset, .unset] [(.ref r), (.int (2 : Int32))])) rfl rfl (hb hby d1_5)
  obtain ⟨cl3, Ar3, q3, S3, M3, H3, G3⟩ := id V_a
  have al3 : cl3.slots.size.toInt32 = (2 : Int32) := len_of S3 M3
  obtain ⟨T4, X4, e4, st4⟩ := getF X2 hx hZ hown (host := "") (Or.inl (hw _ (List.mem_of_getElem? (i := 18) rfl))) Via.refl e2 F_l (g := (mkF m 13 #[.val (.ref r), .val (.double v), .second, .unset, .unset] [(.ref r)])) rfl rfl (hb hby d1_13)
  obtain ⟨T5, X5, e5, st5⟩ := getF X4 hx hZ hown (host := "") (Or.inl (hw _ (List.mem_of_getElem? (i := 20) rfl))) Via.refl e4 F_f (g := (mkF m 17 #[.val (.ref r), .val (.double v), .second, .unset, .unset] [(.ref r), (.int (2 : Int32))])) rfl rfl (hb hby d1_17)
  obtain ⟨T6, X6, e6, st6⟩ := getF X5 hx hZ hown (host := "") (Or.inl (hw _ (List.mem_of_getElem? (i := 10) rfl))) Via.refl e5 F_e (g := (mkF m 24 #[.val (.ref r), .val (.double v), .second, .val (.int (1 : Int32)), .unset] [(.ref r), (.int (1 : Int32))])) rfl rfl (hb hby d1_24)
  obtain ⟨cl7, Ar7, q7, S7, M7, H7, G7⟩ := id V_a
  have al7 : cl7.slots.size.toInt32 = (2 : Int32) := len_of S7 M7
  obtain ⟨T8, X8, e8, st8⟩ := getF X6 hx hZ hown (host := "") (Or.inl (hw _ (List.mem_of_getElem? (i := 10) rfl))) Via.refl e6 F_e (g := (mkF m 42 #[.val (.ref r), .val (.double v), .second, .val (.int (1 : Int32)), .unset] [(.ref r), (.int (2 : Int32))])) rfl rfl (hb hby d1_42)
  obtain ⟨cl9, Ar9, q9, S9, M9, H9, G9⟩ := id V_a
  have al9 : cl9.slots.size.toInt32 = (2 : Int32) := len_of S9 M9
  obtain ⟨T10, h10, k10, X10, e10, E10, A10, st10⟩ := newP X8 hx hZ (hw _ (List.mem_of_getElem? (i := 9) rfl)) e8 (g := (mkF m 47 #[.val (.ref r), .val (.double v), .second, .val (.int (1 : Int32)), .unset] [(.int (4 : Int32))])) rfl (hb hby d1_47) rfl (by decide) (cap := 4) (by decide) (by decide) (by omega) (by omega)
  obtain ⟨b10, g10⟩ : ∃ z, z = h0.size := ⟨_, rfl⟩
  rw [← g10] at A10 st10
  have ne_r_b10 : r ≠ b10 := by rw [g10]; exact Nat.ne_of_lt E_r.lt
  have ne_a_b10 : a ≠ b10 := by rw [g10]; exact Nat.ne_of_lt V_a.lt
  have g_b10 : n0 ≤ b10 := Nat.le_trans Z0 (Nat.le_of_eq g10.symm)
  have Zc11 : n0 ≤ h10.size := Nat.le_trans Z0 E10.1
  have V10 : Arv Z h10 b10 k10 .double (4 : Int32) [(.double (FP.l2d 0)), (.double (FP.l2d 0)), (.double (FP.l2d 0)), (.double (FP.l2d 0))] (.double (FP.l2d 0)) := Arv.pad (Arv.newD A10 (by decide)) (pad_rep [] _ 4)
  have f12 : Fld Z h10 r "com/example/orrery/orrery/policy/RunningEnds" "ends" "[D" (.ref a) := (Fld.ext E10 F_e)
  obtain ⟨T13, X13, e13, st13⟩ := getF X10 hx hZ hown (host := "") (Or.inl (hw _ (List.mem_of_getElem? (i := 10) rfl))) Via.refl e10 f12 (g := (mkF m 52 #[.val (.ref r), .val (.double v), .second, .val (.int (1 : Int32)), .val (.ref b10)] [(.ref r)])) rfl rfl (hb hby d1_52)
  have f14 : Fld Z h10 r "com/example/orrery/orrery/policy/RunningEnds" "first" "I" (.int (1 : Int32)) := (Fld.ext E10 F_f)
  obtain ⟨T15, X15, e15, st15⟩ := getF X13 hx hZ hown (host := "") (Or.inl (hw _ (List.mem_of_getElem? (i := 20) rfl))) Via.refl e13 f14 (g := (mkF m 56 #[.val (.ref r), .val (.double v), .second, .val (.int (1 : Int32)), .val (.ref b10)] [(.ref r), (.ref a)])) rfl rfl (hb hby d1_56)
  have f17 : Arv Z h10 a k .double (2 : Int32) [(.double (FP.l2d y0)), (.double (FP.l2d y1))] (.double (FP.l2d 0)) := (Arv.ext V_a E10)
  obtain ⟨T16, h16, L16, X16, e16, Na16, Kc16, Vr16, st16⟩ := cpA X15 hx hZ hown (hw _ (List.mem_of_getElem? (i := 22) rfl)) (hw _ (List.mem_of_getElem? (i := 25) rfl)) (hw _ (List.mem_of_getElem? (i := 23) rfl)) (hw _ (List.mem_of_getElem? (i := 24) rfl)) e15 (us := [(.double (FP.l2d y1))]) f17 V10 (Or.inl ⟨rfl, rfl⟩) (by decide) (by decide) (by decide) (by decide) (by decide) rfl (Nat.le_of_ble_eq_true rfl) N0 g_b10 (g := (mkF m 63 #[.val (.ref r), .val (.double v), .second, .val (.int (1 : Int32)), .val (.ref b10)] [(.int (1 : Int32)), (.int (0 : Int32)), (.ref b10), (.int (1 : Int32)), (.ref a)])) rfl (by rw [hml]; rfl) rfl (hb hby d1_63) (Nat.le_trans (by decide : _ ≤ 1) hRf) (W := 0) (by show 2 * 0 + _ ≤ _; exact Nat.le_of_eq rfl) (Nat.le_trans (by decide : _ ≤ 18) hRl)
  have Zc16 : n0 ≤ h16.size := Nat.le_trans Zc11 Kc16.1
  have V16 : Arv Z h16 b10 k10 .double (4 : Int32) [(.double (FP.l2d y1)), (.double (FP.l2d 0)), (.double (FP.l2d 0)), (.double (FP.l2d 0))] (.double (FP.l2d 0)) := Vr16
  have f18 : Fld Z h16 r "com/example/orrery/orrery/policy/RunningEnds" "ends" "[D" (.ref a) := (Fld.keep f12 Kc16 (ninS ne_r_b10 nin0))
  have f19 : Exa Z h16 r "com/example/orrery/orrery/policy/RunningEnds" := (Exa.keep (Exa.ext E10 E_r) Kc16)
  obtain ⟨T20, h20, X20, e20, W20, st20⟩ := putF X16 hx hZ hown (host := "") (Or.inl (hw _ (List.mem_of_getElem? (i := 10) rfl))) Via.refl e16 f18 f19 (Or.inl (hw _ (List.mem_of_getElem? (i := 11) rfl))) (hw _ (List.mem_of_getElem? (i := 1) rfl)) (ty := (.array .double)) (by decide) rfl rfl (g := (mkF m 69 #[.val (.ref r), .val (.double v), .second, .val (.int (1 : Int32)), .val (.ref b10)] [(.ref b10), (.ref r)])) rfl rfl (hb hby d1_69)
  have N21 := Fr.snoc X20 Na16 g_r
  have Zc21 : n0 ≤ h20.size := by rw [Wr.size W20]; exact Zc16
  have Fw20 : Fld Z h20 r "com/example/orrery/orrery/policy/RunningEnds" "ends" "[D" (.ref b10) := Fld.same W20 f18
  have f22 : Fld Z h20 r "com/example/orrery/orrery/policy/RunningEnds" "first" "I" (.int (1 : Int32)) := (Fld.other W20 (Fld.keep f14 Kc16 (ninS ne_r_b10 nin0)) (Or.inr (slot_ne (t := .int) (t' := (.array .double)) (Or.inl (hw _ (List.mem_of_getElem? (i := 21) rfl))) (Or.inl (hw _ (List.mem_of_getElem? (i := 11) rfl))) (by decide) (by decide) (by decide))))
  have f23 : Exa Z h20 r "com/example/orrery/orrery/policy/RunningEnds" := (Exa.wr W20 f19)
  obtain ⟨T24, h24, X24, e24, W24, st24⟩ := putF X20 hx hZ hown (host := "") (Or.inl (hw _ (List.mem_of_getElem? (i := 20) rfl))) Via.refl e20 f22 f23 (Or.inl (hw _ (List.mem_of_getElem? (i := 21) rfl))) (hw _ (List.mem_of_getElem? (i := 1) rfl)) (ty := .int) (by decide) rfl rfl (g := (mkF m 74 #[.val (.ref r), .val (.double v), .second, .val (.int (1 : Int32)), .val (.ref b10)] [(.int (0 : Int32)), (.ref r)])) rfl rfl (hb hby d1_74)
  have N25 := Fr.snoc X24 N21 g_r
  have Zc25 : n0 ≤ h24.size := by rw [Wr.size W24]; exact Zc21
  have Fw24 : Fld Z h24 r "com/example/orrery/orrery/policy/RunningEnds" "first" "I" (.int (0 : Int32)) := Fld.same W24 f22
  have f26 : Fld Z h24 r "com/example/orrery/orrery/policy/RunningEnds" "last" "I" (.int (2 : Int32)) := (Fld.other W24 (Fld.other W20 (Fld.keep (Fld.ext E10 F_l) Kc16 (ninS ne_r_b10 nin0)) (Or.inr (slot_ne (t := .int) (t' := (.array .double)) (Or.inl (hw _ (List.mem_of_getElem? (i := 19) rfl))) (Or.inl (hw _ (List.mem_of_getElem? (i := 11) rfl))) (by decide) (by decide) (by decide)))) (Or.inr (slot_ne (t := .int) (t' := .int) (Or.inl (hw _ (List.mem_of_getElem? (i := 19) rfl))) (Or.inl (hw _ (List.mem_of_getElem? (i := 21) rfl))) (by decide) (by decide) (by decide))))
  have f27 : Exa Z h24 r "com/example/orrery/orrery/policy/RunningEnds" := (Exa.wr W24 f23)
  obtain ⟨T28, h28, X28, e28, W28, st28⟩ := putF X24 hx hZ hown (host := "") (Or.inl (hw _ (List.mem_of_getElem? (i := 18) rfl))) Via.refl e24 f26 f27 (Or.inl (hw _ (List.mem_of_getElem? (i := 19) rfl))) (hw _ (List.mem_of_getElem? (i := 1) rfl)) (ty := .int) (by decide) rfl rfl (g := (mkF m 79 #[.val (.ref r), .val (.double v), .second, .val (.int (1 : Int32)), .val (.ref b10)] [(.int (1 : Int32)), (.ref r)])) rfl rfl (hb hby d1_79)
  have N29 := Fr.snoc X28 N25 g_r
  have Zc29 : n0 ≤ h28.size := by rw [Wr.size W28]; exact Zc25
  have Fw28 : Fld Z h28 r "com/example/orrery/orrery/policy/RunningEnds" "last" "I" (.int (1 : Int32)) := Fld.same W28 f26
  obtain ⟨T30, X30, e30, st30⟩ := getF X28 hx hZ hown (host := "") (Or.inl (hw _ (List.mem_of_getElem? (i := 18) rfl))) Via.refl e28 Fw28 (g := (mkF m 83 #[.val (.ref r), .val (.double v), .second, .val (.int (1 : Int32)), .val (.ref b10)] [(.ref r)])) rfl rfl (hb hby d1_83)
  have f31 : Exa Z h28 r "com/example/orrery/orrery/policy/RunningEnds" := (Exa.wr W28 f27)
  have f32 : Fld Z h28 r "com/example/orrery/orrery/policy/RunningEnds" "ends" "[D" (.ref b10) := (Fld.other W28 (Fld.other W24 Fw20 (Or.inr (slot_ne (t := (.array .double)) (t' := .int) (Or.inl (hw _ (List.mem_of_getElem? (i := 11) rfl))) (Or.inl (hw _ (List.mem_of_getElem? (i := 21) rfl))) (by decide) (by decide) (by decide)))) (Or.inr (slot_ne (t := (.array .double)) (t' := .int) (Or.inl (hw _ (List.mem_of_getElem? (i := 11) rfl))) (Or.inl (hw _ (List.mem_of_getElem? (i := 19) rfl))) (by decide) (by decide) (by decide))))
  have f33 : Fld Z h28 r "com/example/orrery/orrery/policy/RunningEnds" "first" "I" (.int (0 : Int32)) := (Fld.other W28 Fw24 (Or.inr (slot_ne (t := .int) (t' := .int) (Or.inl (hw _ (List.mem_of_getElem? (i := 21) rfl))) (Or.inl (hw _ (List.mem_of_getElem? (i := 19) rfl))) (by decide) (by decide) (by decide))))
  have f34 : Arv Z h28 b10 k10 .double (4 : Int32) [(.double (FP.l2d y1)), (.double (FP.l2d 0)), (.double (FP.l2d 0)), (.double (FP.l2d 0))] (.double (FP.l2d 0)) := (Arv.other (Arv.other (Arv.other V16 W20 (Ne.symm ne_r_b10)) W24 (Ne.symm ne_r_b10)) W28 (Ne.symm ne_r_b10))
  refine ⟨b10, k10, T30, h28, _, X30, e30, Zc29, N29, ⟨g_b10, ne_r_b10, f31, f32, f33, Fw28, f34⟩, fun t ht => ?_⟩
  show Steps p.tables e below (T0.setTop (mkF m 0 #[.val (.ref r), .val (.double v), .second, .unset, .unset] [])) _
  refine XS.aloadN X0.here hx rfl (hb hby d1_0) rfl rfl ?_
  show Steps p.tables e below (T0.setTop (mkF m 1 #[.val (.ref r), .val (.double v), .second, .unset, .unset] [(.ref r)])) _
  refine st1 _ ?_
  show Steps p.tables e below (T1.setTop (mkF m 4 #[.val (.ref r), .val (.double v), .second, .unset, .unset] [(.int (2 : Int32))])) _
  refine XS.aloadN X1.here hx rfl (hb hby d1_4) rfl rfl ?_
  show Steps p.tables e below (T1.setTop (mkF m 5 #[.val (.ref r), .val (.double v), .second, .unset, .unset] [(.ref r), (.int (2 : Int32))])) _
  refine st2 _ ?_
  show Steps p.tables e below (T2.setTop (mkF m 8 #[.val (.ref r), .val (.double v), .second, .unset, .unset] [(.ref a), (.int (2 : Int32))])) _
  refine X2.arraylength hx (a := a) (cell := cl3) (by rw [e2]; exact Ar3.1) (State.isArrayOf_alike hZ.alike Ar3.2.1) (g := (mkF m 8 #[.val (.ref r), .val (.double v), .second, .unset, .unset] [(.ref a), (.int (2 : Int32))])) rfl rfl (hb hby d1_8) _ ?_
  rw [al3]
  show Steps p.tables e below (T2.setTop (mkF m 9 #[.val (.ref r), .val (.double v), .second, .unset, .unset] [(.int (2 : Int32)), (.int (2 : Int32))])) _
  refine XS.icmpNo X2.here hx rfl (hb hby d1_9) rfl (teq rfl).2 ?_
  show Steps p.tables e below (T2.setTop (mkF m 12 #[.val (.ref r), .val (.double v), .second, .unset, .unset] [])) _
  refine XS.aloadN X2.here hx rfl (hb hby d1_12) rfl rfl ?_
  show Steps p.tables e below (T2.setTop (mkF m 13 #[.val (.ref r), .val (.double v), .second, .unset, .unset] [(.ref r)])) _
  refine st4 _ ?_
  show Steps p.tables e below (T4.setTop (mkF m 16 #[.val (.ref r), .val (.double v), .second, .unset, .unset] [(.int (2 : Int32))])) _
  refine XS.aloadN X4.here hx rfl (hb hby d1_16) rfl rfl ?_
  show Steps p.tables e below (T4.setTop (mkF m 17 #[.val (.ref r), .val (.double v), .second, .unset, .unset] [(.ref r), (.int (2 : Int32))])) _
  refine st5 _ ?_
  show Steps p.tables e below (T5.setTop (mkF m 20 #[.val (.ref r), .val (.double v), .second, .unset, .unset] [(.int (1 : Int32)), (.int (2 : Int32))])) _
  refine XS.isub X5.here hx rfl (hb hby d1_20) rfl ?_
  show Steps p.tables e below (T5.setTop (mkF m 21 #[.val (.ref r), .val (.double v), .second, .unset, .unset] [(.int (1 : Int32))])) _
  refine XS.istoreN X5.here hx rfl (hb hby d1_21) rfl (l' := #[.val (.ref r), .val (.double v), .second, .val (.int (1 : Int32)), .unset]) rfl ?_
  show Steps p.tables e below (T5.setTop (mkF m 22 #[.val (.ref r), .val (.double v), .second, .val (.int (1 : Int32)), .unset] [])) _
  refine XS.iloadN X5.here hx rfl (hb hby d1_22) rfl ?_
  show Steps p.tables e below (T5.setTop (mkF m 23 #[.val (.ref r), .val (.double v), .second, .val (.int (1 : Int32)), .unset] [(.int (1 : Int32))])) _
  refine XS.aloadN X5.here hx rfl (hb hby d1_23) rfl rfl ?_
  show Steps p.tables e below (T5.setTop (mkF m 24 #[.val (.ref r), .val (.double v), .second, .val (.int (1 : Int32)), .unset] [(.ref r), (.int (1 : Int32))])) _
  refine st6 _ ?_
  show Steps p.tables e below (T6.setTop (mkF m 27 #[.val (.ref r), .val (.double v), .second, .val (.int (1 : Int32)), .unset] [(.ref a), (.int (1 : Int32))])) _
  refine X6.arraylength hx (a := a) (cell := cl7) (by rw [e6]; exact Ar7.1) (State.isArrayOf_alike hZ.alike Ar7.2.1) (g := (mkF m 27 #[.val (.ref r), .val (.double v), .second, .val (.int (1 : Int32)), .unset] [(.ref a), (.int (1 : Int32))])) rfl rfl (hb hby d1_27) _ ?_
  rw [al7]
  show Steps p.tables e below (T6.setTop (mkF m 28 #[.val (.ref r), .val (.double v), .second, .val (.int (1 : Int32)), .unset] [(.int (2 : Int32)), (.int (1 : Int32))])) _
  refine XS.iconst X6.here hx rfl (hb hby d1_28) ?_
  show Steps p.tables e below (T6.setTop (mkF m 29 #[.val (.ref r), .val (.double v), .second, .val (.int (1 : Int32)), .unset] [(.int (2 : Int32)), (.int (2 : Int32)), (.int (1 : Int32))])) _
  refine XS.idiv X6.here hx rfl (hb hby d1_29) rfl (by decide) ?_
  show Steps p.tables e below (T6.setTop (mkF m 30 #[.val (.ref r), .val (.double v), .second, .val (.int (1 : Int32)), .unset] [(.int (1 : Int32)), (.int (1 : Int32))])) _
  refine XS.icmpYes X6.here hx rfl (pc0 := 30) (pc' := 40) rfl (hb hby d1_30) rfl (flt (by decide)).2.1 (by decide) (by decide) ?_
  show Steps p.tables e below (T6.setTop (mkF m 40 #[.val (.ref r), .val (.double v), .second, .val (.int (1 : Int32)), .unset] [])) _
  refine XS.iconst X6.here hx rfl (hb hby d1_40) ?_
  show Steps p.tables e below (T6.setTop (mkF m 41 #[.val (.ref r), .val (.double v), .second, .val (.int (1 : Int32)), .unset] [(.int (2 : Int32))])) _
  refine XS.aloadN X6.here hx rfl (hb hby d1_41) rfl rfl ?_
  show Steps p.tables e below (T6.setTop (mkF m 42 #[.val (.ref r), .val (.double v), .second, .val (.int (1 : Int32)), .unset] [(.ref r), (.int (2 : Int32))])) _
  refine st8 _ ?_
  show Steps p.tables e below (T8.setTop (mkF m 45 #[.val (.ref r), .val (.double v), .second, .val (.int (1 : Int32)), .unset] [(.ref a), (.int (2 : Int32))])) _
  refine X8.arraylength hx (a := a) (cell := cl9) (by rw [e8]; exact Ar9.1) (State.isArrayOf_alike hZ.alike Ar9.2.1) (g := (mkF m 45 #[.val (.ref r), .val (.double v), .second, .val (.int (1 : Int32)), .unset] [(.ref a), (.int (2 : Int32))])) rfl rfl (hb hby d1_45) _ ?_
  rw [al9]
  show Steps p.tables e below (T8.setTop (mkF m 46 #[.val (.ref r), .val (.double v), .second, .val (.int (1 : Int32)), .unset] [(.int (2 : Int32)), (.int (2 : Int32))])) _
  refine XS.imul X8.here hx rfl (hb hby d1_46) rfl ?_
  show Steps p.tables e below (T8.setTop (mkF m 47 #[.val (.ref r), .val (.double v), .second, .val (.int (1 : Int32)), .unset] [(.int (4 : Int32))])) _
  refine st10 _ ?_
  show Steps p.tables e below (T10.setTop (mkF m 49 #[.val (.ref r), .val (.double v), .second, .val (.int (1 : Int32)), .unset] [(.ref b10)])) _
  refine XS.astore X10.here hx rfl (hb hby d1_49) rfl rfl (l' := #[.val (.ref r), .val (.double v), .second, .val (.int (1 : Int32)), .val (.ref b10)]) rfl ?_
  show Steps p.tables e below (T10.setTop (mkF m 51 #[.val (.ref r), .val (.double v), .second, .val (.int (1 : Int32)), .val (.ref b10)] [])) _
  refine XS.aloadN X10.here hx rfl (hb hby d1_51) rfl rfl ?_
  show Steps p.tables e below (T10.setTop (mkF m 52 #[.val (.ref r), .val (.double v), .second, .val (.int (1 : Int32)), .val (.ref b10)] [(.ref r)])) _
  refine st13 _ ?_
  show Steps p.tables e below (T13.setTop (mkF m 55 #[.val (.ref r), .val (.double v), .second, .val (.int (1 : Int32)), .val (.ref b10)] [(.ref a)])) _
  refine XS.aloadN X13.here hx rfl (hb hby d1_55) rfl rfl ?_
  show Steps p.tables e below (T13.setTop (mkF m 56 #[.val (.ref r), .val (.double v), .second, .val (.int (1 : Int32)), .val (.ref b10)] [(.ref r), (.ref a)])) _
  refine st15 _ ?_
  show Steps p.tables e below (T15.setTop (mkF m 59 #[.val (.ref r), .val (.double v), .second, .val (.int (1 : Int32)), .val (.ref b10)] [(.int (1 : Int32)), (.ref a)])) _
  refine XS.aload X15.here hx rfl (hb hby d1_59) rfl rfl ?_
  show Steps p.tables e below (T15.setTop (mkF m 61 #[.val (.ref r), .val (.double v), .second, .val (.int (1 : Int32)), .val (.ref b10)] [(.ref b10), (.int (1 : Int32)), (.ref a)])) _
  refine XS.iconst X15.here hx rfl (hb hby d1_61) ?_
  show Steps p.tables e below (T15.setTop (mkF m 62 #[.val (.ref r), .val (.double v), .second, .val (.int (1 : Int32)), .val (.ref b10)] [(.int (0 : Int32)), (.ref b10), (.int (1 : Int32)), (.ref a)])) _
  refine XS.iloadN X15.here hx rfl (hb hby d1_62) rfl ?_
  show Steps p.tables e below (T15.setTop (mkF m 63 #[.val (.ref r), .val (.double v), .second, .val (.int (1 : Int32)), .val (.ref b10)] [(.int (1 : Int32)), (.int (0 : Int32)), (.ref b10), (.int (1 : Int32)), (.ref a)])) _
  refine st16 _ ?_
  show Steps p.tables e below (T16.setTop (mkF m 66 #[.val (.ref r), .val (.double v), .second, .val (.int (1 : Int32)), .val (.ref b10)] [])) _
  refine XS.aloadN X16.here hx rfl (hb hby d1_66) rfl rfl ?_
  show Steps p.tables e below (T16.setTop (mkF m 67 #[.val (.ref r), .val (.double v), .second, .val (.int (1 : Int32)), .val (.ref b10)] [(.ref r)])) _
  refine XS.aload X16.here hx rfl (hb hby d1_67) rfl rfl ?_
  show Steps p.tables e below (T16.setTop (mkF m 69 #[.val (.ref r), .val (.double v), .second, .val (.int (1 : Int32)), .val (.ref b10)] [(.ref b10), (.ref r)])) _
  refine st20 _ ?_
  show Steps p.tables e below (T20.setTop (mkF m 72 #[.val (.ref r), .val (.double v), .second, .val (.int (1 : Int32)), .val (.ref b10)] [])) _
  refine XS.aloadN X20.here hx rfl (hb hby d1_72) rfl rfl ?_
  show Steps p.tables e below (T20.setTop (mkF m 73 #[.val (.ref r), .val (.double v), .second, .val (.int (1 : Int32)), .val (.ref b10)] [(.ref r)])) _
  refine XS.iconst X20.here hx rfl (hb hby d1_73) ?_
  show Steps p.tables e below (T20.setTop (mkF m 74 #[.val (.ref r), .val (.double v), .second, .val (.int (1 : Int32)), .val (.ref b10)] [(.int (0 : Int32)), (.ref r)])) _
  refine st24 _ ?_
  show Steps p.tables e below (T24.setTop (mkF m 77 #[.val (.ref r), .val (.double v), .second, .val (.int (1 : Int32)), .val (.ref b10)] [])) _
  refine XS.aloadN X24.here hx rfl (hb hby d1_77) rfl rfl ?_
  show Steps p.tables e below (T24.setTop (mkF m 78 #[.val (.ref r), .val (.double v), .second, .val (.int (1 : Int32)), .val (.ref b10)] [(.ref r)])) _
  refine XS.iloadN X24.here hx rfl (hb hby d1_78) rfl ?_
  show Steps p.tables e below (T24.setTop (mkF m 79 #[.val (.ref r), .val (.double v), .second, .val (.int (1 : Int32)), .val (.ref b10)] [(.int (1 : Int32)), (.ref r)])) _
  refine st28 _ ?_
  show Steps p.tables e below (T28.setTop (mkF m 82 #[.val (.ref r), .val (.double v), .second, .val (.int (1 : Int32)), .val (.ref b10)] [])) _
  refine XS.aloadN X28.here hx rfl (hb hby d1_82) rfl rfl ?_
  show Steps p.tables e below (T28.setTop (mkF m 83 #[.val (.ref r), .val (.double v), .second, .val (.int (1 : Int32)), .val (.ref b10)] [(.ref r)])) _
  refine st30 _ ?_
  show Steps p.tables e below (T30.setTop (mkF m 86 #[.val (.ref r), .val (.double v), .second, .val (.int (1 : Int32)), .val (.ref b10)] [(.int (1 : Int32))])) _
  refine XS.istoreN X30.here hx rfl (hb hby d1_86) rfl (l' := #[.val (.ref r), .val (.double v), .second, .val (.int (1 : Int32)), .val (.ref b10)]) rfl ?_
  show Steps p.tables e below (T30.setTop (mkF m 87 #[.val (.ref r), .val (.double v), .second, .val (.int (1 : Int32)), .val (.ref b10)] [])) _
  exact ht
set_option maxRecDepth 65536 in
set_option maxHeartbeats 40000000 in
theorem add_T (l : Launch) (Z : State) (a0 : Array Value) (hw : ∀ d ∈ tables_1, d.before a0 Z = true) {p : Program} {e : Env} {s : State} {m : MethodId} {args : Array Value} {below : List Frame} {meth : Method} {c : Code} (hx : p.tables.exec = Jvm.exec) (hZ : Z.Warmed39 s.vm) (hby : c.code = prog_11_method_3_code) (hml : c.maxLocals = 5) (hown : s.vm.findClass "com/example/orrery/orrery/policy/RunningEnds" = some m.cls) {T0 : State} {locs0 : List Loc} {R : Room} {cells0 slots0 : Nat} (X0 : Stand p l e R s m args below meth c T0 locs0 cells0 slots0) (r a : Addr) (k : ClassId) (f cap ps : Int32) (vs : List Value) (v x : UInt64) (cv : Int32) (s4 : Slot) (h0 : Heap) (n0 : Nat) (e0 : T0.heap = h0) (Z0 : n0 ≤ h0.size) (N0 : Fr n0 locs0) (F_e : Fld Z h0 r "com/example/orrery/orrery/policy/RunningEnds" "ends" "[D" (.ref a)) (F_f : Fld Z h0 r "com/example/orrery/orrery/policy/RunningEnds" "first" "I" (.int f)) (V_a : Arv Z h0 a k .double cap vs (.double (FP.l2d 0))) (hgt : f < ps) (hin : ¬ (ps - (1 : Int32)) < 0 ∧ (ps - (1 : Int32)) < cap) (hval : vs.getD (ps - (1 : Int32)).toNatClampNeg (.double (FP.l2d 0)) = .double x) (hcm : cmpValue (FP.dcmp x v) .l = cv) (hcv : 0 < cv) :
    ∃ (T1 : State) (locs1 : List Loc), Stand p l e R s m args below meth c T1 locs1 cells0 slots0 ∧ T1.heap = h0 ∧ Fr n0 locs1 ∧ ∀ t, Steps p.tables e below (T1.setTop (mkF m 87 #[.val (.ref r), .val (.double v), .second, .val (.int (ps + (-1 : Int32))), s4] [])) t → Steps p.tables e below (T0.setTop (mkF m 87 #[.val (.ref r), .val (.double v), .second, .val (.int ps), s4] [])) t := by
  obtain ⟨T1, X1, e1, st1⟩ := getF X0 hx hZ hown (host := "") (Or.inl (hw _ (List.mem_of_getElem? (i := 20) rfl))) Via.refl e0 F_f (g := (mkF m 89 #[.val (.ref r), .val (.double v), .second, .val (.int ps), s4] [(.ref r), (.int ps)])) rfl rfl (hb hby d1_89)
  obtain ⟨T2, X2, e2, st2⟩ := getF X1 hx hZ hown (host := "") (Or.inl (hw _ (List.mem_of_getElem? (i := 10) rfl))) Via.refl e1 F_e (g := (mkF m 96 #[.val (.ref r), .val (.double v), .second, .val (.int ps), s4] [(.ref r)])) rfl rfl (hb hby d1_96)
  obtain ⟨cl3, Ar3, q3, S3, M3, H3, G3⟩ := id V_a
  have in3 := inb_of (j := (ps - (1 : Int32))) S3 hin
  refine ⟨T2, _, X2, e2, N0, fun t ht => ?_⟩
  show Steps p.tables e below (T0.setTop (mkF m 87 #[.val (.ref r), .val (.double v), .second, .val (.int ps), s4] [])) _
  refine XS.iloadN X0.here hx rfl (hb hby d1_87) rfl ?_
  show Steps p.tables e below (T0.setTop (mkF m 88 #[.val (.ref r), .val (.double v), .second, .val (.int ps), s4] [(.int ps)])) _
  refine XS.aloadN X0.here hx rfl (hb hby d1_88) rfl rfl ?_
  show Steps p.tables e below (T0.setTop (mkF m 89 #[.val (.ref r), .val (.double v), .second, .val (.int ps), s4] [(.ref r), (.int ps)])) _
  refine st1 _ ?_
  show Steps p.tables e below (T1.setTop (mkF m 92 #[.val (.ref r), .val (.double v), .second, .val (.int ps), s4] [(.int f), (.int ps)])) _
  refine XS.icmpNo X1.here hx rfl (hb hby d1_92) rfl (tlt hgt).2.2.2 ?_
  show Steps p.tables e below (T1.setTop (mkF m 95 #[.val (.ref r), .val (.double v), .second, .val (.int ps), s4] [])) _
  refine XS.aloadN X1.here hx rfl (hb hby d1_95) rfl rfl ?_
  show Steps p.tables e below (T1.setTop (mkF m 96 #[.val (.ref r), .val (.double v), .second, .val (.int ps), s4] [(.ref r)])) _
  refine st2 _ ?_
  show Steps p.tables e below (T2.setTop (mkF m 99 #[.val (.ref r), .val (.double v), .second, .val (.int ps), s4] [(.ref a)])) _
  refine XS.iloadN X2.here hx rfl (hb hby d1_99) rfl ?_
  show Steps p.tables e below (T2.setTop (mkF m 100 #[.val (.ref r), .val (.double v), .second, .val (.int ps), s4] [(.int ps), (.ref a)])) _
  refine XS.iconst X2.here hx rfl (hb hby d1_100) ?_
  show Steps p.tables e below (T2.setTop (mkF m 101 #[.val (.ref r), .val (.double v), .second, .val (.int ps), s4] [(.int (1 : Int32)), (.int ps), (.ref a)])) _
  refine XS.isub X2.here hx rfl (hb hby d1_101) rfl ?_
  show Steps p.tables e below (T2.setTop (mkF m 102 #[.val (.ref r), .val (.double v), .second, .val (.int ps), s4] [(.int (ps - (1 : Int32))), (.ref a)])) _
  refine X2.daload hx (a := a) (cell := cl3) (j := (ps - (1 : Int32))) (v := (.double x)) (by rw [e2]; exact Ar3.1) (State.isArrayOf_alike hZ.alike Ar3.2.1) Ar3.2.2 in3 (Has.at H3 in3 hval) (g := (mkF m 102 #[.val (.ref r), .val (.double v), .second, .val (.int ps), s4] [(.int (ps - (1 : Int32))), (.ref a)])) rfl rfl (hb hby d1_102) _ ?_
  show Steps p.tables e below (T2.setTop (mkF m 103 #[.val (.ref r), .val (.double v), .second, .val (.int ps), s4] [(.double x)])) _
  refine XS.dloadN X2.here hx rfl (hb hby d1_103) rfl ?_
  show Steps p.tables e below (T2.setTop (mkF m 104 #[.val (.ref r), .val (.double v), .second, .val (.int ps), s4] [(.double v), (.double x)])) _
  refine XS.dcmpS X2.here hx rfl (v := cv) (hb hby d1_104) rfl hcm ?_
  show Steps p.tables e below (T2.setTop (mkF m 105 #[.val (.ref r), .val (.double v), .second, .val (.int ps), s4] [(.int cv)])) _
  refine XS.ifNo X2.here hx rfl (hb hby d1_105) rfl ((if0 _ _).trans (tlt hcv).2.2.2) ?_
  show Steps p.tables e below (T2.setTop (mkF m 108 #[.val (.ref r), .val (.double v), .second, .val (.int ps), s4] [])) _
  refine XS.iinc X2.here hx rfl (hb hby d1_108) rfl (l' := #[.val (.ref r), .val (.double v), .second, .val (.int (ps + (-1 : Int32))), s4]) rfl ?_
  show Steps p.tables e below (T2.setTop (mkF m 111 #[.val (.ref r), .val (.double v), .second, .val (.int (ps + (-1 : Int32))), s4] [])) _
  refine XS.goto X2.here hx rfl (pc0 := 111) (pc' := 87) rfl (hb hby d1_111) (by decide) (by decide) ?_
  show Steps p.tables e below (T2.setTop (mkF m 87 #[.val (.ref r), .val (.double v), .second, .val (.int (ps + (-1 : Int32))), s4] [])) _
  exact ht
set_option maxRecDepth 65536 in
set_option maxHeartbeats 40000000 in
theorem add_X2 (l : Launch) (Z : State) (a0 : Array Value) (hw : ∀ d ∈ tables_1, d.before a0 Z = true) {p : Program} {e : Env} {s : State} {m : MethodId} {args : Array Value} {below : List Frame} {meth : Method} {c : Code} (hx : p.tables.exec = Jvm.exec) (hZ : Z.Warmed39 s.vm) (hby : c.code = prog_11_method_3_code) (hml : c.maxLocals = 5) (hown : s.vm.findClass "com/example/orrery/orrery/policy/RunningEnds" = some m.cls) {T0 : State} {locs0 : List Loc} {R : Room} {cells0 slots0 : Nat} (X0 : Stand p l e R s m args below meth c T0 locs0 cells0 slots0) (r a : Addr) (k : ClassId) (f cap ps : Int32) (vs : List Value) (v x : UInt64) (cv : Int32) (s4 : Slot) (h0 : Heap) (n0 : Nat) (e0 : T0.heap = h0) (Z0 : n0 ≤ h0.size) (N0 : Fr n0 locs0) (F_e : Fld Z h0 r "com/example/orrery/orrery/policy/RunningEnds" "ends" "[D" (.ref a)) (F_f : Fld Z h0 r "com/example/orrery/orrery/policy/RunningEnds" "first" "I" (.int f)) (V_a : Arv Z h0 a k .double cap vs (.double (FP.l2d 0))) (hgt : f < ps) (hin : ¬ (ps - (1 : Int32)) < 0 ∧ (ps - (1 : Int32)) < cap) (hval : vs.getD (ps - (1 : Int32)).toNatClampNeg (.double (FP.l2d 0)) = .double x) (hcm : cmpValue (FP.dcmp x v) .l = cv) (hcv : ¬ (0 < cv)) :
    ∃ (T1 : State) (locs1 : List Loc), Stand p l e R s m args below meth c T1 locs1 cells0 slots0 ∧ T1.heap = h0 ∧ Fr n0 locs1 ∧ ∀ t, Steps p.tables e below (T1.setTop (mkF m 114 #[.val (.ref r), .val (.double v), .second, .val (.int ps), s4] [])) t → Steps p.tables e below (T0.setTop (mkF m 87 #[.val (.ref r), .val (.double v), .second, .val (.int ps), s4] [])) t := by
  obtain ⟨T1, X1, e1, st1⟩ := getF X0 hx hZ hown (host := "") (Or.inl (hw _ (List.mem_of_getElem? (i := 20) rfl))) Via.refl e0 F_f (g := (mkF m 89 #[.val (.ref r), .val (.double v), .second, .val (.int ps), s4] [(.ref r), (.int ps)])) rfl rfl (hb hby d1_89)
  obtain ⟨T2, X2, e2, st2⟩ := getF X1 hx hZ hown (host := "") (Or.inl (hw _ (List.mem_of_getElem? (i := 10) rfl))) Via.refl e1 F_e (g := (mkF m 96 #[.val (.ref r), .val (.double v), .second, .val (.int ps), s4] [(.ref r)])) rfl rfl (hb hby d1_96)
  obtain ⟨cl3, Ar3, q3, S3, M3, H3, G3⟩ := id V_a
  have in3 := inb_of (j := (ps - (1 : Int32))) S3 hin
  refine ⟨T2, _, X2, e2, N0, fun t ht => ?_⟩
  show Steps p.tables e below (T0.setTop (mkF m 87 #[.val (.ref r), .val (.double v), .second, .val (.int ps), s4] [])) _
  refine XS.iloadN X0.here hx rfl (hb hby d1_87) rfl ?_
  show Steps p.tables e below (T0.setTop (mkF m 88 #[.val (.ref r), .val (.double v), .second, .val (.int ps), s4] [(.int ps)])) _
  refine XS.aloadN X0.here hx rfl (hb hby d1_88) rfl rfl ?_
  show Steps p.tables e below (T0.setTop (mkF m 89 #[.val (.ref r), .val (.double v), .second, .val (.int ps), s4] [(.ref r), (.int ps)])) _
  refine st1 _ ?_
  show Steps p.tables e below (T1.setTop (mkF m 92 #[.val (.ref r), .val (.double v), .second, .val (.int ps), s4] [(.int f), (.int ps)])) _
  refine XS.icmpNo X1.here hx rfl (hb hby d1_92) rfl (tlt hgt).2.2.2 ?_
  show Steps p.tables e below (T1.setTop (mkF m 95 #[.val (.ref r), .val (.double v), .second, .val (.int ps), s4] [])) _
  refine XS.aloadN X1.here hx rfl (hb hby d1_95) rfl rfl ?_
  show Steps p.tables e below (T1.setTop (mkF m 96 #[.val (.ref r), .val (.double v), .second, .val (.int ps), s4] [(.ref r)])) _
  refine st2 _ ?_
  show Steps p.tables e below (T2.setTop (mkF m 99 #[.val (.ref r), .val (.double v), .second, .val (.int ps), s4] [(.ref a)])) _
  refine XS.iloadN X2.here hx rfl (hb hby d1_99) rfl ?_
  show Steps p.tables e below (T2.setTop (mkF m 100 #[.val (.ref r), .val (.double v), .second, .val (.int ps), s4] [(.int ps), (.ref a)])) _
  refine XS.iconst X2.here hx rfl (hb hby d1_100) ?_
  show Steps p.tables e below (T2.setTop (mkF m 101 #[.val (.ref r), .val (.double v), .second, .val (.int ps), s4] [(.int (1 : Int32)), (.int ps), (.ref a)])) _
  refine XS.isub X2.here hx rfl (hb hby d1_101) rfl ?_
  show Steps p.tables e below (T2.setTop (mkF m 102 #[.val (.ref r), .val (.double v), .second, .val (.int ps), s4] [(.int (ps - (1 : Int32))), (.ref a)])) _
  refine X2.daload hx (a := a) (cell := cl3) (j := (ps - (1 : Int32))) (v := (.double x)) (by rw [e2]; exact Ar3.1) (State.isArrayOf_alike hZ.alike Ar3.2.1) Ar3.2.2 in3 (Has.at H3 in3 hval) (g := (mkF m 102 #[.val (.ref r), .val (.double v), .second, .val (.int ps), s4] [(.int (ps - (1 : Int32))), (.ref a)])) rfl rfl (hb hby d1_102) _ ?_
  show Steps p.tables e below (T2.setTop (mkF m 103 #[.val (.ref r), .val (.double v), .second, .val (.int ps), s4] [(.double x)])) _
  refine XS.dloadN X2.here hx rfl (hb hby d1_103) rfl ?_
  show Steps p.tables e below (T2.setTop (mkF m 104 #[.val (.ref r), .val (.double v), .second, .val (.int ps), s4] [(.double v), (.double x)])) _
  refine XS.dcmpS X2.here hx rfl (v := cv) (hb hby d1_104) rfl hcm ?_
  show Steps p.tables e below (T2.setTop (mkF m 105 #[.val (.ref r), .val (.double v), .second, .val (.int ps), s4] [(.int cv)])) _
  refine XS.ifYes X2.here hx rfl (pc0 := 105) (pc' := 114) rfl (hb hby d1_105) rfl ((if0 _ _).trans (flt hcv).2.2.2) (by decide) (by decide) ?_
  show Steps p.tables e below (T2.setTop (mkF m 114 #[.val (.ref r), .val (.double v), .second, .val (.int ps), s4] [])) _
  exact ht
set_option maxRecDepth 65536 in
set_option maxHeartbeats 40000000 in
theorem add_X1 (l : Launch) (Z : State) (a0 : Array Value) (hw : ∀ d ∈ tables_1, d.before a0 Z = true) {p : Program} {e : Env} {s : State} {m : MethodId} {args : Array Value} {below : List Frame} {meth : Method} {c : Code} (hx : p.tables.exec = Jvm.exec) (hZ : Z.Warmed39 s.vm) (hby : c.code = prog_11_method_3_code) (hml : c.maxLocals = 5) (hown : s.vm.findClass "com/example/orrery/orrery/policy/RunningEnds" = some m.cls) {T0 : State} {locs0 : List Loc} {R : Room} {cells0 slots0 : Nat} (X0 : Stand p l e R s m args below meth c T0 locs0 cells0 slots0) (r : Addr) (f ps : Int32) (v : UInt64) (s4 : Slot) (h0 : Heap) (n0 : Nat) (e0 : T0.heap = h0) (Z0 : n0 ≤ h0.size) (N0 : Fr n0 locs0) (F_f : Fld Z h0 r "com/example/orrery/orrery/policy/RunningEnds" "first" "I" (.int f)) (hle : ¬ (f < ps)) :
    ∃ (T1 : State) (locs1 : List Loc), Stand p l e R s m args below meth c T1 locs1 cells0 slots0 ∧ T1.heap = h0 ∧ Fr n0 locs1 ∧ ∀ t, Steps p.tables e below (T1.setTop (mkF m 114 #[.val (.ref r), .val (.double v), .second, .val (.int ps), s4] [])) t → Steps p.tables e below (T0.setTop (mkF m 87 #[.val (.ref r), .val (.double v), .second, .val (.int ps), s4] [])) t := by
  obtain ⟨T1, X1, e1, st1⟩ := getF X0 hx hZ hown (host := "") (Or.inl (hw _ (List.mem_of_getElem? (i := 20) rfl))) Via.refl e0 F_f (g := (mkF m 89 #[.val (.ref r), .val (.double v), .second, .val (.int ps), s4] [(.ref r), (.int ps)])) rfl rfl (hb hby d1_89)
  refine ⟨T1, _, X1, e1, N0, fun t ht => ?_⟩
  show Steps p.tables e below (T0.setTop (mkF m 87 #[.val (.ref r), .val (.double v), .second, .val (.int ps), s4] [])) _
  refine XS.iloadN X0.here hx rfl (hb hby d1_87) rfl ?_
  show Steps p.tables e below (T0.setTop (mkF m 88 #[.val (.ref r), .val (.double v), .second, .val (.int ps), s4] [(.int ps)])) _
  refine XS.aloadN X0.here hx rfl (hb hby d1_88) rfl rfl ?_
  show Steps p.tables e below (T0.setTop (mkF m 89 #[.val (.ref r), .val (.double v), .second, .val (.int ps), s4] [(.ref r), (.int ps)])) _
  refine st1 _ ?_
  show Steps p.tables e below (T1.setTop (mkF m 92 #[.val (.ref r), .val (.double v), .second, .val (.int ps), s4] [(.int f), (.int ps)])) _
  refine XS.icmpYes X1.here hx rfl (pc0 := 92) (pc' := 114) rfl (hb hby d1_92) rfl (flt hle).2.2.2 (by decide) (by decide) ?_
  show Steps p.tables e below (T1.setTop (mkF m 114 #[.val (.ref r), .val (.double v), .second, .val (.int ps), s4] [])) _
  exact ht
set_option maxRecDepth 65536 in
set_option maxHeartbeats 40000000 in
theorem add_K200 (l : Launch) (Z : State) (a0 : Array Value) (hw : ∀ d ∈ tables_1, d.before a0 Z = true) {p : Program} {e : Env} {s : State} {m : MethodId} {args : Array Value} {below : List Frame} {meth : Method} {c : Code} (hx : p.tables.exec = Jvm.exec) (hZ : Z.Warmed39 s.vm) (hby : c.code = prog_11_method_3_code) (hml : c.maxLocals = 5) (hown : s.vm.findClass "com/example/orrery/orrery/policy/RunningEnds" = some m.cls) {T0 : State} {locs0 : List Loc} {R : Room} {cells0 slots0 : Nat} (X0 : Stand p l e R s m args below meth c T0 locs0 cells0 slots0) (r a : Addr) (k : ClassId) (f : Int32) (y0 y1 : Int64) (w : Int64) (s4 : Slot) (h0 : Heap) (n0 : Nat) (e0 : T0.heap = h0) (Z0 : n0 ≤ h0.size) (N0 : Fr n0 locs0) (hRf : 1 ≤ R.frames) (hRl : 18 ≤ R.locals) (g_r : n0 ≤ r) (g_a : n0 ≤ a) (ne : r ≠ a) (E_r : Exa Z h0 r "com/example/orrery/orrery/policy/RunningEnds") (F_e : Fld Z h0 r "com/example/orrery/orrery/policy/RunningEnds" "ends" "[D" (.ref a)) (F_f : Fld Z h0 r "com/example/orrery/orrery/policy/RunningEnds" "first" "I" (.int f)) (F_l : Fld Z h0 r "com/example/orrery/orrery/policy/RunningEnds" "last" "I" (.int (0 : Int32))) (V_a : Arv Z h0 a k .double (2 : Int32) [(.double (FP.l2d y0)), (.double (FP.l2d y1))] (.double (FP.l2d 0))) :
    ∃ (T1 : State) (h1 : Heap) (locs1 : List Loc), Stand p l e R s m args below meth c T1 locs1 cells0 slots0 ∧ T1.heap = h1 ∧ n0 ≤ h1.size ∧ Fr n0 locs1 ∧ (Exa Z h1 r "com/example/orrery/orrery/policy/RunningEnds" ∧ Fld Z h1 r "com/example/orrery/orrery/policy/RunningEnds" "ends" "[D" (.ref a) ∧ Fld Z h1 r "com/example/orrery/orrery/policy/RunningEnds" "first" "I" (.int f) ∧ Fld Z h1 r "com/example/orrery/orrery/policy/RunningEnds" "last" "I" (.int (1 : Int32)) ∧ Arv Z h1 a k .double (2 : Int32) [(.double (FP.l2d w)), (.double (FP.l2d y1))] (.double (FP.l2d 0))) ∧ ∀ t, Steps p.tables e below (T1.setTop (mkF m 152 #[.val (.ref r), .val (.double (FP.l2d w)), .second, .val (.int (0 : Int32)), s4] [])) t → Steps p.tables e below (T0.setTop (mkF m 114 #[.val (.ref r), .val (.double (FP.l2d w)), .second, .val (.int (0 : Int32)), s4] [])) t := by
  obtain ⟨T1, X1, e1, st1⟩ := getF X0 hx hZ hown (host := "") (Or.inl (hw _ (List.mem_of_getElem? (i := 10) rfl))) Via.refl e0 F_e (g := (mkF m 115 #[.val (.ref r), .val (.double (FP.l2d w)), .second, .val (.int (0 : Int32)), s4] [(.ref r)])) rfl rfl (hb hby d1_115)
  obtain ⟨T2, X2, e2, st2⟩ := getF X1 hx hZ hown (host := "") (Or.inl (hw _ (List.mem_of_getElem? (i := 10) rfl))) Via.refl e1 F_e (g := (mkF m 120 #[.val (.ref r), .val (.double (FP.l2d w)), .second, .val (.int (0 : Int32)), s4] [(.ref r), (.int (0 : Int32)), (.ref a)])) rfl rfl (hb hby d1_120)
  obtain ⟨T3, X3, e3, st3⟩ := getF X2 hx hZ hown (host := "") (Or.inl (hw _ (List.mem_of_getElem? (i := 18) rfl))) Via.refl e2 F_l (g := (mkF m 127 #[.val (.ref r), .val (.double (FP.l2d w)), .second, .val (.int (0 : Int32)), s4] [(.ref r), (.int (1 : Int32)), (.ref a), (.int (0 : Int32)), (.ref a)])) rfl rfl (hb hby d1_127)
  obtain ⟨T4, h4, L4, X4, e4, Na4, Kc4, Vr4, st4⟩ := cpA X3 hx hZ hown (hw _ (List.mem_of_getElem? (i := 22) rfl)) (hw _ (List.mem_of_getElem? (i := 25) rfl)) (hw _ (List.mem_of_getElem? (i := 23) rfl)) (hw _ (List.mem_of_getElem? (i := 24) rfl)) e3 (us := []) V_a V_a (Or.inl ⟨rfl, rfl⟩) (by decide) (by decide) (by decide) (by decide) (by decide) rfl (Nat.le_of_ble_eq_true rfl) N0 g_a (g := (mkF m 132 #[.val (.ref r), .val (.double (FP.l2d w)), .second, .val (.int (0 : Int32)), s4] [(.int (0 : Int32)), (.int (1 : Int32)), (.ref a), (.int (0 : Int32)), (.ref a)])) rfl (by rw [hml]; rfl) rfl (hb hby d1_132) (Nat.le_trans (by decide : _ ≤ 1) hRf) (W := 0) (by show 2 * 0 + _ ≤ _; exact Nat.le_of_eq rfl) (Nat.le_trans (by decide : _ ≤ 18) hRl)
  have Zc4 : n0 ≤ h4.size := Nat.le_trans Z0 Kc4.1
  have V4 : Arv Z h4 a k .double (2 : Int32) [(.double (FP.l2d y0)), (.double (FP.l2d y1))] (.double (FP.l2d 0)) := Vr4
  have f5 : Fld Z h4 r "com/example/orrery/orrery/policy/RunningEnds" "ends" "[D" (.ref a) := (Fld.keep F_e Kc4 (ninS ne nin0))
  obtain ⟨T6, X6, e6, st6⟩ := getF X4 hx hZ hown (host := "") (Or.inl (hw _ (List.mem_of_getElem? (i := 10) rfl))) Via.refl e4 f5 (g := (mkF m 136 #[.val (.ref r), .val (.double (FP.l2d w)), .second, .val (.int (0 : Int32)), s4] [(.ref r)])) rfl rfl (hb hby d1_136)
  obtain ⟨cl7, Ar7, q7, S7, M7, H7, G7⟩ := id V4
  obtain ⟨T7, h7, X7, e7, W7, st7⟩ := stD X6 hx hZ e6 Ar7 (j := (0 : Int32)) (inb_of S7 (by decide)) (g := (mkF m 141 #[.val (.ref r), .val (.double (FP.l2d w)), .second, .val (.int (0 : Int32)), s4] [(.double (FP.l2d w)), (.int (0 : Int32)), (.ref a)])) rfl rfl (hb hby d1_141)
  have N8 := Fr.snoc X7 Na4 g_a
  have Zc8 : n0 ≤ h7.size := by rw [Wr.size W7]; exact Zc4
  have V7 : Arv Z h7 a k .double (2 : Int32) [(.double (FP.l2d w)), (.double (FP.l2d y1))] (.double (FP.l2d 0)) := Arv.set Ar7 q7 S7 M7 H7 G7 rfl W7 0 rfl (Nat.le_of_ble_eq_true rfl)
  have f9 : Fld Z h7 r "com/example/orrery/orrery/policy/RunningEnds" "last" "I" (.int (0 : Int32)) := (Fld.other W7 (Fld.keep F_l Kc4 (ninS ne nin0)) (Or.inl ne))
  obtain ⟨T10, X10, e10, st10⟩ := getF X7 hx hZ hown (host := "") (Or.inl (hw _ (List.mem_of_getElem? (i := 18) rfl))) Via.refl e7 f9 (g := (mkF m 144 #[.val (.ref r), .val (.double (FP.l2d w)), .second, .val (.int (0 : Int32)), s4] [(.ref r), (.ref r)])) rfl rfl (hb hby d1_144)
  have f11 : Exa Z h7 r "com/example/orrery/orrery/policy/RunningEnds" := (Exa.wr W7 (Exa.keep E_r Kc4))
  obtain ⟨T12, h12, X12, e12, W12, st12⟩ := putF X10 hx hZ hown (host := "") (Or.inl (hw _ (List.mem_of_getElem? (i := 18) rfl))) Via.refl e10 f9 f11 (Or.inl (hw _ (List.mem_of_getElem? (i := 19) rfl))) (hw _ (List.mem_of_getElem? (i := 1) rfl)) (ty := .int) (by decide) rfl rfl (g := (mkF m 149 #[.val (.ref r), .val (.double (FP.l2d w)), .second, .val (.int (0 : Int32)), s4] [(.int (1 : Int32)), (.ref r)])) rfl rfl (hb hby d1_149)
  have N13 := Fr.snoc X12 N8 g_r
  have Zc13 : n0 ≤ h12.size := by rw [Wr.size W12]; exact Zc8
  have Fw12 : Fld Z h12 r "com/example/orrery/orrery/policy/RunningEnds" "last" "I" (.int (1 : Int32)) := Fld.same W12 f9
  have f14 : Exa Z h12 r "com/example/orrery/orrery/policy/RunningEnds" := (Exa.wr W12 f11)
  have f15 : Fld Z h12 r "com/example/orrery/orrery/policy/RunningEnds" "ends" "[D" (.ref a) := (Fld.other W12 (Fld.other W7 f5 (Or.inl ne)) (Or.inr (slot_ne (t := (.array .double)) (t' := .int) (Or.inl (hw _ (List.mem_of_getElem? (i := 11) rfl))) (Or.inl (hw _ (List.mem_of_getElem? (i := 19) rfl))) (by decide) (by decide) (by decide))))
  have f16 : Fld Z h12 r "com/example/orrery/orrery/policy/RunningEnds" "first" "I" (.int f) := (Fld.other W12 (Fld.other W7 (Fld.keep F_f Kc4 (ninS ne nin0)) (Or.inl ne)) (Or.inr (slot_ne (t := .int) (t' := .int) (Or.inl (hw _ (List.mem_of_getElem? (i := 21) rfl))) (Or.inl (hw _ (List.mem_of_getElem? (i := 19) rfl))) (by decide) (by decide) (by decide))))
  have f17 : Arv Z h12 a k .double (2 : Int32) [(.double (FP.l2d w)), (.double (FP.l2d y1))] (.double (FP.l2d 0)) := (Arv.other V7 W12 (Ne.symm ne))
  refine ⟨T12, h12, _, X12, e12, Zc13, N13, ⟨f14, f15, f16, Fw12, f17⟩, fun t ht => ?_⟩
  show Steps p.tables e below (T0.setTop (mkF m 114 #[.val (.ref r), .val (.double (FP.l2d w)), .second, .val (.int (0 : Int32)), s4] [])) _
  refine XS.aloadN X0.here hx rfl (hb hby d1_114) rfl rfl ?_
  show Steps p.tables e below (T0.setTop (mkF m 115 #[.val (.ref r), .val (.double (FP.l2d w)), .second, .val (.int (0 : Int32)), s4] [(.ref r)])) _
  refine st1 _ ?_
  show Steps p.tables e below (T1.setTop (mkF m 118 #[.val (.ref r), .val (.double (FP.l2d w)), .second, .val (.int (0 : Int32)), s4] [(.ref a)])) _
  refine XS.iloadN X1.here hx rfl (hb hby d1_118) rfl ?_
  show Steps p.tables e below (T1.setTop (mkF m 119 #[.val (.ref r), .val (.double (FP.l2d w)), .second, .val (.int (0 : Int32)), s4] [(.int (0 : Int32)), (.ref a)])) _
  refine XS.aloadN X1.here hx rfl (hb hby d1_119) rfl rfl ?_
  show Steps p.tables e below (T1.setTop (mkF m 120 #[.val (.ref r), .val (.double (FP.l2d w)), .second, .val (.int (0 : Int32)), s4] [(.ref r), (.int (0 : Int32)), (.ref a)])) _
  refine st2 _ ?_
  show Steps p.tables e below (T2.setTop (mkF m 123 #[.val (.ref r), .val (.double (FP.l2d w)), .second, .val (.int (0 : Int32)), s4] [(.ref a), (.int (0 : Int32)), (.ref a)])) _
  refine XS.iloadN X2.here hx rfl (hb hby d1_123) rfl ?_
  show Steps p.tables e below (T2.setTop (mkF m 124 #[.val (.ref r), .val (.double (FP.l2d w)), .second, .val (.int (0 : Int32)), s4] [(.int (0 : Int32)), (.ref a), (.int (0 : Int32)), (.ref a)])) _
  refine XS.iconst X2.here hx rfl (hb hby d1_124) ?_
  show Steps p.tables e below (T2.setTop (mkF m 125 #[.val (.ref r), .val (.double (FP.l2d w)), .second, .val (.int (0 : Int32)), s4] [(.int (1 : Int32)), (.int (0 : Int32)), (.ref a), (.int (0 : Int32)), (.ref a)])) _
  refine XS.iadd X2.here hx rfl (hb hby d1_125) rfl ?_
  show Steps p.tables e below (T2.setTop (mkF m 126 #[.val (.ref r), .val (.double (FP.l2d w)), .second, .val (.int (0 : Int32)), s4] [(.int (1 : Int32)), (.ref a), (.int (0 : Int32)), (.ref a)])) _
  refine XS.aloadN X2.here hx rfl (hb hby d1_126) rfl rfl ?_
  show Steps p.tables e below (T2.setTop (mkF m 127 #[.val (.ref r), .val (.double (FP.l2d w)), .second, .val (.int (0 : Int32)), s4] [(.ref r), (.int (1 : Int32)), (.ref a), (.int (0 : Int32)), (.ref a)])) _
  refine st3 _ ?_
  show Steps p.tables e below (T3.setTop (mkF m 130 #[.val (.ref r), .val (.double (FP.l2d w)), .second, .val (.int (0 : Int32)), s4] [(.int (0 : Int32)), (.int (1 : Int32)), (.ref a), (.int (0 : Int32)), (.ref a)])) _
  refine XS.iloadN X3.here hx rfl (hb hby d1_130) rfl ?_
  show Steps p.tables e below (T3.setTop (mkF m 131 #[.val (.ref r), .val (.double (FP.l2d w)), .second, .val (.int (0 : Int32)), s4] [(.int (0 : Int32)), (.int (0 : Int32)), (.int (1 : Int32)), (.ref a), (.int (0 : Int32)), (.ref a)])) _
  refine XS.isub X3.here hx rfl (hb hby d1_131) rfl ?_
  show Steps p.tables e below (T3.setTop (mkF m 132 #[.val (.ref r), .val (.double (FP.l2d w)), .second, .val (.int (0 : Int32)), s4] [(.int (0 : Int32)), (.int (1 : Int32)), (.ref a), (.int (0 : Int32)), (.ref a)])) _
  refine st4 _ ?_
  show Steps p.tables e below (T4.setTop (mkF m 135 #[.val (.ref r), .val (.double (FP.l2d w)), .second, .val (.int (0 : Int32)), s4] [])) _
  refine XS.aloadN X4.here hx rfl (hb hby d1_135) rfl rfl ?_
  show Steps p.tables e below (T4.setTop (mkF m 136 #[.val (.ref r), .val (.double (FP.l2d w)), .second, .val (.int (0 : Int32)), s4] [(.ref r)])) _
  refine st6 _ ?_
  show Steps p.tables e below (T6.setTop (mkF m 139 #[.val (.ref r), .val (.double (FP.l2d w)), .second, .val (.int (0 : Int32)), s4] [(.ref a)])) _
  refine XS.iloadN X6.here hx rfl (hb hby d1_139) rfl ?_
  show Steps p.tables e below (T6.setTop (mkF m 140 #[.val (.ref r), .val (.double (FP.l2d w)), .second, .val (.int (0 : Int32)), s4] [(.int (0 : Int32)), (.ref a)])) _
  refine XS.dloadN X6.here hx rfl (hb hby d1_140) rfl ?_
  show Steps p.tables e below (T6.setTop (mkF m 141 #[.val (.ref r), .val (.double (FP.l2d w)), .second, .val (.int (0 : Int32)), s4] [(.double (FP.l2d w)), (.int (0 : Int32)), (.ref a)])) _
  refine st7 _ ?_
  show Steps p.tables e below (T7.setTop (mkF m 142 #[.val (.ref r), .val (.double (FP.l2d w)), .second, .val (.int (0 : Int32)), s4] [])) _
  refine XS.aloadN X7.here hx rfl (hb hby d1_142) rfl rfl ?_
  show Steps p.tables e below (T7.setTop (mkF m 143 #[.val (.ref r), .val (.double (FP.l2d w)), .second, .val (.int (0 : Int32)), s4] [(.ref r)])) _
  refine XS.dup X7.here hx rfl (hb hby d1_143) rfl rfl ?_
  show Steps p.tables e below (T7.setTop (mkF m 144 #[.val (.ref r), .val (.double (FP.l2d w)), .second, .val (.int (0 : Int32)), s4] [(.ref r), (.ref r)])) _
  refine st10 _ ?_
  show Steps p.tables e below (T10.setTop (mkF m 147 #[.val (.ref r), .val (.double (FP.l2d w)), .second, .val (.int (0 : Int32)), s4] [(.int (0 : Int32)), (.ref r)])) _
  refine XS.iconst X10.here hx rfl (hb hby d1_147) ?_
  show Steps p.tables e below (T10.setTop (mkF m 148 #[.val (.ref r), .val (.double (FP.l2d w)), .second, .val (.int (0 : Int32)), s4] [(.int (1 : Int32)), (.int (0 : Int32)), (.ref r)])) _
  refine XS.iadd X10.here hx rfl (hb hby d1_148) rfl ?_
  show Steps p.tables e below (T10.setTop (mkF m 149 #[.val (.ref r), .val (.double (FP.l2d w)), .second, .val (.int (0 : Int32)), s4] [(.int (1 : Int32)), (.ref r)])) _
  refine st12 _ ?_
  show Steps p.tables e below (T12.setTop (mkF m 152 #[.val (.ref r), .val (.double (FP.l2d w)), .second, .val (.int (0 : Int32)), s4] [])) _
  exact ht
set_option maxRecDepth 65536 in
set_option maxHeartbeats 40000000 in
theorem add_K210 (l : Launch) (Z : State) (a0 : Array Value) (hw : ∀ d ∈ tables_1, d.before a0 Z = true) {p : Program} {e : Env} {s : State} {m : MethodId} {args : Array Value} {below : List Frame} {meth : Method} {c : Code} (hx : p.tables.exec = Jvm.exec) (hZ : Z.Warmed39 s.vm) (hby : c.code = prog_11_method_3_code) (hml : c.maxLocals = 5) (hown : s.vm.findClass "com/example/orrery/orrery/policy/RunningEnds" = some m.cls) {T0 : State} {locs0 : List Loc} {R : Room} {cells0 slots0 : Nat} (X0 : Stand p l e R s m args below meth c T0 locs0 cells0 slots0) (r a : Addr) (k : ClassId) (f : Int32) (y0 y1 : Int64) (w : Int64) (s4 : Slot) (h0 : Heap) (n0 : Nat) (e0 : T0.heap = h0) (Z0 : n0 ≤ h0.size) (N0 : Fr n0 locs0) (hRf : 1 ≤ R.frames) (hRl : 18 ≤ R.locals) (g_r : n0 ≤ r) (g_a : n0 ≤ a) (ne : r ≠ a) (E_r : Exa Z h0 r "com/example/orrery/orrery/policy/RunningEnds") (F_e : Fld Z h0 r "com/example/orrery/orrery/policy/RunningEnds" "ends" "[D" (.ref a)) (F_f : Fld Z h0 r "com/example/orrery/orrery/policy/RunningEnds" "first" "I" (.int f)) (F_l : Fld Z h0 r "com/example/orrery/orrery/policy/RunningEnds" "last" "I" (.int (1 : Int32))) (V_a : Arv Z h0 a k .double (2 : Int32) [(.double (FP.l2d y0)), (.double (FP.l2d y1))] (.double (FP.l2d 0))) :
    ∃ (T1 : State) (h1 : Heap) (locs1 : List Loc), Stand p l e R s m args below meth c T1 locs1 cells0 slots0 ∧ T1.heap = h1 ∧ n0 ≤ h1.size ∧ Fr n0 locs1 ∧ (Exa Z h1 r "com/example/orrery/orrery/policy/RunningEnds" ∧ Fld Z h1 r "com/example/orrery/orrery/policy/RunningEnds" "ends" "[D" (.ref a) ∧ Fld Z h1 r "com/example/orrery/orrery/policy/RunningEnds" "first" "I" (.int f) ∧ Fld Z h1 r "com/example/orrery/orrery/policy/RunningEnds" "last" "I" (.int (2 : Int32)) ∧ Arv Z h1 a k .double (2 : Int32) [(.double (FP.l2d w)), (.double (FP.l2d y0))] (.double (FP.l2d 0))) ∧ ∀ t, Steps p.tables e below (T1.setTop (mkF m 152 #[.val (.ref r), .val (.double (FP.l2d w)), .second, .val (.int (0 : Int32)), s4] [])) t → Steps p.tables e below (T0.setTop (mkF m 114 #[.val (.ref r), .val (.double (FP.l2d w)), .second, .val (.int (0 : Int32)), s4] [])) t := by
  obtain ⟨T1, X1, e1, st1⟩ := getF X0 hx hZ hown (host := "") (Or.inl (hw _ (List.mem_of_getElem? (i := 10) rfl))) Via.refl e0 F_e (g := (mkF m 115 #[.val (.ref r), .val (.double (FP.l2d w)), .second, .val (.int (0 : Int32)), s4] [(.ref r)])) rfl rfl (hb hby d1_115)
  obtain ⟨T2, X2, e2, st2⟩ := getF X1 hx hZ hown (host := "") (Or.inl (hw _ (List.mem_of_getElem? (i := 10) rfl))) Via.refl e1 F_e (g := (mkF m 120 #[.val (.ref r), .val (.double (FP.l2d w)), .second, .val (.int (0 : Int32)), s4] [(.ref r), (.int (0 : Int32)), (.ref a)])) rfl rfl (hb hby d1_120)
  obtain ⟨T3, X3, e3, st3⟩ := getF X2 hx hZ hown (host := "") (Or.inl (hw _ (List.mem_of_getElem? (i := 18) rfl))) Via.refl e2 F_l (g := (mkF m 127 #[.val (.ref r), .val (.double (FP.l2d w)), .second, .val (.int (0 : Int32)), s4] [(.ref r), (.int (1 : Int32)), (.ref a), (.int (0 : Int32)), (.ref a)])) rfl rfl (hb hby d1_127)
  obtain ⟨T4, h4, L4, X4, e4, Na4, Kc4, Vr4, st4⟩ := cpA X3 hx hZ hown (hw _ (List.mem_of_getElem? (i := 22) rfl)) (hw _ (List.mem_of_getElem? (i := 25) rfl)) (hw _ (List.mem_of_getElem? (i := 23) rfl)) (hw _ (List.mem_of_getElem? (i := 24) rfl)) e3 (us := [(.double (FP.l2d y0))]) V_a V_a (Or.inl ⟨rfl, rfl⟩) (by decide) (by decide) (by decide) (by decide) (by decide) rfl (Nat.le_of_ble_eq_true rfl) N0 g_a (g := (mkF m 132 #[.val (.ref r), .val (.double (FP.l2d w)), .second, .val (.int (0 : Int32)), s4] [(.int (1 : Int32)), (.int (1 : Int32)), (.ref a), (.int (0 : Int32)), (.ref a)])) rfl (by rw [hml]; rfl) rfl (hb hby d1_132) (Nat.le_trans (by decide : _ ≤ 1) hRf) (W := 0) (by show 2 * 0 + _ ≤ _; exact Nat.le_of_eq rfl) (Nat.le_trans (by decide : _ ≤ 18) hRl)
  have Zc4 : n0 ≤ h4.size := Nat.le_trans Z0 Kc4.1
  have V4 : Arv Z h4 a k .double (2 : Int32) [(.double (FP.l2d y0)), (.double (FP.l2d y0))] (.double (FP.l2d 0)) := Vr4
  have f5 : Fld Z h4 r "com/example/orrery/orrery/policy/RunningEnds" "ends" "[D" (.ref a) := (Fld.keep F_e Kc4 (ninS ne nin0))
  obtain ⟨T6, X6, e6, st6⟩ := getF X4 hx hZ hown (host := "") (Or.inl (hw _ (List.mem_of_getElem? (i := 10) rfl))) Via.refl e4 f5 (g := (mkF m 136 #[.val (.ref r), .val (.double (FP.l2d w)), .second, .val (.int (0 : Int32)), s4] [(.ref r)])) rfl rfl (hb hby d1_136)
  obtain ⟨cl7, Ar7, q7, S7, M7, H7, G7⟩ := id V4
  obtain ⟨T7, h7, X7, e7, W7, st7⟩ := stD X6 hx hZ e6 Ar7 (j := (0 : Int32)) (inb_of S7 (by decide)) (g := (mkF m 141 #[.val (.ref r), .val (.double (FP.l2d w)), .second, .val (.int (0 : Int32)), s4] [(.double (FP.l2d w)), (.int (0 : Int32)), (.ref a)])) rfl rfl (hb hby d1_141)
  have N8 := Fr.snoc X7 Na4 g_a
  have Zc8 : n0 ≤ h7.size := by rw [Wr.size W7]; exact Zc4
  have V7 : Arv Z h7 a k .double (2 : Int32) [(.double (FP.l2d w)), (.double (FP.l2d y0))] (.double (FP.l2d 0)) := Arv.set Ar7 q7 S7 M7 H7 G7 rfl W7 0 rfl (Nat.le_of_ble_eq_true rfl)
  have f9 : Fld Z h7 r "com/example/orrery/orrery/policy/RunningEnds" "last" "I" (.int (1 : Int32)) := (Fld.other W7 (Fld.keep F_l Kc4 (ninS ne nin0)) (Or.inl ne))
  obtain ⟨T10, X10, e10, st10⟩ := getF X7 hx hZ hown (host := "") (Or.inl (hw _ (List.mem_of_getElem? (i := 18) rfl))) Via.refl e7 f9 (g := (mkF m 144 #[.val (.ref r), .val (.double (FP.l2d w)), .second, .val (.int (0 : Int32)), s4] [(.ref r), (.ref r)])) rfl rfl (hb hby d1_144)
  have f11 : Exa Z h7 r "com/example/orrery/orrery/policy/RunningEnds" := (Exa.wr W7 (Exa.keep E_r Kc4))
  obtain ⟨T12, h12, X12, e12, W12, st12⟩ := putF X10 hx hZ hown (host := "") (Or.inl (hw _ (List.mem_of_getElem? (i := 18) rfl))) Via.refl e10 f9 f11 (Or.inl (hw _ (List.mem_of_getElem? (i := 19) rfl))) (hw _ (List.mem_of_getElem? (i := 1) rfl)) (ty := .int) (by decide) rfl rfl (g := (mkF m 149 #[.val (.ref r), .val (.double (FP.l2d w)), .second, .val (.int (0 : Int32)), s4] [(.int (2 : Int32)), (.ref r)])) rfl rfl (hb hby d1_149)
  have N13 := Fr.snoc X12 N8 g_r
  have Zc13 : n0 ≤ h12.size := by rw [Wr.size W12]; exact Zc8
  have Fw12 : Fld Z h12 r "com/example/orrery/orrery/policy/RunningEnds" "last" "I" (.int (2 : Int32)) := Fld.same W12 f9
  have f14 : Exa Z h12 r "com/example/orrery/orrery/policy/RunningEnds" := (Exa.wr W12 f11)
  have f15 : Fld Z h12 r "com/example/orrery/orrery/policy/RunningEnds" "ends" "[D" (.ref a) := (Fld.other W12 (Fld.other W7 f5 (Or.inl ne)) (Or.inr (slot_ne (t := (.array .double)) (t' := .int) (Or.inl (hw _ (List.mem_of_getElem? (i := 11) rfl))) (Or.inl (hw _ (List.mem_of_getElem? (i := 19) rfl))) (by decide) (by decide) (by decide))))
  have f16 : Fld Z h12 r "com/example/orrery/orrery/policy/RunningEnds" "first" "I" (.int f) := (Fld.other W12 (Fld.other W7 (Fld.keep F_f Kc4 (ninS ne nin0)) (Or.inl ne)) (Or.inr (slot_ne (t := .int) (t' := .int) (Or.inl (hw _ (List.mem_of_getElem? (i := 21) rfl))) (Or.inl (hw _ (List.mem_of_getElem? (i := 19) rfl))) (by decide) (by decide) (by decide))))
  have f17 : Arv Z h12 a k .double (2 : Int32) [(.double (FP.l2d w)), (.double (FP.l2d y0))] (.double (FP.l2d 0)) := (Arv.other V7 W12 (Ne.symm ne))
  refine ⟨T12, h12, _, X12, e12, Zc13, N13, ⟨f14, f15, f16, Fw12, f17⟩, fun t ht => ?_⟩
  show Steps p.tables e below (T0.setTop (mkF m 114 #[.val (.ref r), .val (.double (FP.l2d w)), .second, .val (.int (0 : Int32)), s4] [])) _
  refine XS.aloadN X0.here hx rfl (hb hby d1_114) rfl rfl ?_
  show Steps p.tables e below (T0.setTop (mkF m 115 #[.val (.ref r), .val (.double (FP.l2d w)), .second, .val (.int (0 : Int32)), s4] [(.ref r)])) _
  refine st1 _ ?_
  show Steps p.tables e below (T1.setTop (mkF m 118 #[.val (.ref r), .val (.double (FP.l2d w)), .second, .val (.int (0 : Int32)), s4] [(.ref a)])) _
  refine XS.iloadN X1.here hx rfl (hb hby d1_118) rfl ?_
  show Steps p.tables e below (T1.setTop (mkF m 119 #[.val (.ref r), .val (.double (FP.l2d w)), .second, .val (.int (0 : Int32)), s4] [(.int (0 : Int32)), (.ref a)])) _
  refine XS.aloadN X1.here hx rfl (hb hby d1_119) rfl rfl ?_
  show Steps p.tables e below (T1.setTop (mkF m 120 #[.val (.ref r), .val (.double (FP.l2d w)), .second, .val (.int (0 : Int32)), s4] [(.ref r), (.int (0 : Int32)), (.ref a)])) _
  refine st2 _ ?_
  show Steps p.tables e below (T2.setTop (mkF m 123 #[.val (.ref r), .val (.double (FP.l2d w)), .second, .val (.int (0 : Int32)), s4] [(.ref a), (.int (0 : Int32)), (.ref a)])) _
  refine XS.iloadN X2.here hx rfl (hb hby d1_123) rfl ?_
  show Steps p.tables e below (T2.setTop (mkF m 124 #[.val (.ref r), .val (.double (FP.l2d w)), .second, .val (.int (0 : Int32)), s4] [(.int (0 : Int32)), (.ref a), (.int (0 : Int32)), (.ref a)])) _
  refine XS.iconst X2.here hx rfl (hb hby d1_124) ?_
  show Steps p.tables e below (T2.setTop (mkF m 125 #[.val (.ref r), .val (.double (FP.l2d w)), .second, .val (.int (0 : Int32)), s4] [(.int (1 : Int32)), (.int (0 : Int32)), (.ref a), (.int (0 : Int32)), (.ref a)])) _
  refine XS.iadd X2.here hx rfl (hb hby d1_125) rfl ?_
  show Steps p.tables e below (T2.setTop (mkF m 126 #[.val (.ref r), .val (.double (FP.l2d w)), .second, .val (.int (0 : Int32)), s4] [(.int (1 : Int32)), (.ref a), (.int (0 : Int32)), (.ref a)])) _
  refine XS.aloadN X2.here hx rfl (hb hby d1_126) rfl rfl ?_
  show Steps p.tables e below (T2.setTop (mkF m 127 #[.val (.ref r), .val (.double (FP.l2d w)), .second, .val (.int (0 : Int32)), s4] [(.ref r), (.int (1 : Int32)), (.ref a), (.int (0 : Int32)), (.ref a)])) _
  refine st3 _ ?_
  show Steps p.tables e below (T3.setTop (mkF m 130 #[.val (.ref r), .val (.double (FP.l2d w)), .second, .val (.int (0 : Int32)), s4] [(.int (1 : Int32)), (.int (1 : Int32)), (.ref a), (.int (0 : Int32)), (.ref a)])) _
  refine XS.iloadN X3.here hx rfl (hb hby d1_130) rfl ?_
  show Steps p.tables e below (T3.setTop (mkF m 131 #[.val (.ref r), .val (.double (FP.l2d w)), .second, .val (.int (0 : Int32)), s4] [(.int (0 : Int32)), (.int (1 : Int32)), (.int (1 : Int32)), (.ref a), (.int (0 : Int32)), (.ref a)])) _
  refine XS.isub X3.here hx rfl (hb hby d1_131) rfl ?_
  show Steps p.tables e below (T3.setTop (mkF m 132 #[.val (.ref r), .val (.double (FP.l2d w)), .second, .val (.int (0 : Int32)), s4] [(.int (1 : Int32)), (.int (1 : Int32)), (.ref a), (.int (0 : Int32)), (.ref a)])) _
  refine st4 _ ?_
  show Steps p.tables e below (T4.setTop (mkF m 135 #[.val (.ref r), .val (.double (FP.l2d w)), .second, .val (.int (0 : Int32)), s4] [])) _
  refine XS.aloadN X4.here hx rfl (hb hby d1_135) rfl rfl ?_
  show Steps p.tables e below (T4.setTop (mkF m 136 #[.val (.ref r), .val (.double (FP.l2d w)), .second, .val (.int (0 : Int32)), s4] [(.ref r)])) _
  refine st6 _ ?_
  show Steps p.tables e below (T6.setTop (mkF m 139 #[.val (.ref r), .val (.double (FP.l2d w)), .second, .val (.int (0 : Int32)), s4] [(.ref a)])) _
  refine XS.iloadN X6.here hx rfl (hb hby d1_139) rfl ?_
  show Steps p.tables e below (T6.setTop (mkF m 140 #[.val (.ref r), .val (.double (FP.l2d w)), .second, .val (.int (0 : Int32)), s4] [(.int (0 : Int32)), (.ref a)])) _
  refine XS.dloadN X6.here hx rfl (hb hby d1_140) rfl ?_
  show Steps p.tables e below (T6.setTop (mkF m 141 #[.val (.ref r), .val (.double (FP.l2d w)), .second, .val (.int (0 : Int32)), s4] [(.double (FP.l2d w)), (.int (0 : Int32)), (.ref a)])) _
  refine st7 _ ?_
  show Steps p.tables e below (T7.setTop (mkF m 142 #[.val (.ref r), .val (.double (FP.l2d w)), .second, .val (.int (0 : Int32)), s4] [])) _
  refine XS.aloadN X7.here hx rfl (hb hby d1_142) rfl rfl ?_
  show Steps p.tables e below (T7.setTop (mkF m 143 #[.val (.ref r), .val (.double (FP.l2d w)), .second, .val (.int (0 : Int32)), s4] [(.ref r)])) _
  refine XS.dup X7.here hx rfl (hb hby d1_143) rfl rfl ?_
  show Steps p.tables e below (T7.setTop (mkF m 144 #[.val (.ref r), .val (.double (FP.l2d w)), .second, .val (.int (0 : Int32)), s4] [(.ref r), (.ref r)])) _
  refine st10 _ ?_
  show Steps p.tables e below (T10.setTop (mkF m 147 #[.val (.ref r), .val (.double (FP.l2d w)), .second, .val (.int (0 : Int32)), s4] [(.int (1 : Int32)), (.ref r)])) _
  refine XS.iconst X10.here hx rfl (hb hby d1_147) ?_
  show Steps p.tables e below (T10.setTop (mkF m 148 #[.val (.ref r), .val (.double (FP.l2d w)), .second, .val (.int (0 : Int32)), s4] [(.int (1 : Int32)), (.int (1 : Int32)), (.ref r)])) _
  refine XS.iadd X10.here hx rfl (hb hby d1_148) rfl ?_
  show Steps p.tables e below (T10.setTop (mkF m 149 #[.val (.ref r), .val (.double (FP.l2d w)), .second, .val (.int (0 : Int32)), s4] [(.int (2 : Int32)), (.ref r)])) _
  refine st12 _ ?_
  show Steps p.tables e below (T12.setTop (mkF m 152 #[.val (.ref r), .val (.double (FP.l2d w)), .second, .val (.int (0 : Int32)), s4] [])) _
  exact ht
set_option maxRecDepth 65536 in
set_option maxHeartbeats 40000000 in
theorem add_K211 (l : Launch) (Z : State) (a0 : Array Value) (hw : ∀ d ∈ tables_1, d.before a0 Z = true) {p : Program} {e : Env} {s : State} {m : MethodId} {args : Array Value} {below : List Frame} {meth : Method} {c : Code} (hx : p.tables.exec = Jvm.exec) (hZ : Z.Warmed39 s.vm) (hby : c.code = prog_11_method_3_code) (hml : c.maxLocals = 5) (hown : s.vm.findClass "com/example/orrery/orrery/policy/RunningEnds" = some m.cls) {T0 : State} {locs0 : List Loc} {R : Room} {cells0 slots0 : Nat} (X0 : Stand p l e R s m args below meth c T0 locs0 cells0 slots0) (r a : Addr) (k : ClassId) (f : Int32) (y0 y1 : Int64) (w : Int64) (s4 : Slot) (h0 : Heap) (n0 : Nat) (e0 : T0.heap = h0) (Z0 : n0 ≤ h0.size) (N0 : Fr n0 locs0) (hRf : 1 ≤ R.frames) (hRl : 18 ≤ R.locals) (g_r : n0 ≤ r) (g_a : n0 ≤ a) (ne : r ≠ a) (E_r : Exa Z h0 r "com/example/orrery/orrery/policy/RunningEnds") (F_e : Fld Z h0 r "com/example/orrery/orrery/policy/RunningEnds" "ends" "[D" (.ref a)) (F_f : Fld Z h0 r "com/example/orrery/orrery/policy/RunningEnds" "first" "I" (.int f)) (F_l : Fld Z h0 r "com/example/orrery/orrery/policy/RunningEnds" "last" "I" (.int (1 : Int32))) (V_a : Arv Z h0 a k .double (2 : Int32) [(.double (FP.l2d y0)), (.double (FP.l2d y1))] (.double (FP.l2d 0))) :
    ∃ (T1 : State) (h1 : Heap) (locs1 : List Loc), Stand p l e R s m args below meth c T1 locs1 cells0 slots0 ∧ T1.heap = h1 ∧ n0 ≤ h1.size ∧ Fr n0 locs1 ∧ (Exa Z h1 r "com/example/orrery/orrery/policy/RunningEnds" ∧ Fld Z h1 r "com/example/orrery/orrery/policy/RunningEnds" "ends" "[D" (.ref a) ∧ Fld Z h1 r "com/example/orrery/orrery/policy/RunningEnds" "first" "I" (.int f) ∧ Fld Z h1 r "com/example/orrery/orrery/policy/RunningEnds" "last" "I" (.int (2 : Int32)) ∧ Arv Z h1 a k .double (2 : Int32) [(.double (FP.l2d y0)), (.double (FP.l2d w))] (.double (FP.l2d 0))) ∧ ∀ t, Steps p.tables e below (T1.setTop (mkF m 152 #[.val (.ref r), .val (.double (FP.l2d w)), .second, .val (.int (1 : Int32)), s4] [])) t → Steps p.tables e below (T0.setTop (mkF m 114 #[.val (.ref r), .val (.double (FP.l2d w)), .second, .val (.int (1 : Int32)), s4] [])) t := by
  obtain ⟨T1, X1, e1, st1⟩ := getF X0 hx hZ hown (host := "") (Or.inl (hw _ (List.mem_of_getElem? (i := 10) rfl))) Via.refl e0 F_e (g := (mkF m 115 #[.val (.ref r), .val (.double (FP.l2d w)), .second, .val (.int (1 : Int32)), s4] [(.ref r)])) rfl rfl (hb hby d1_115)
  obtain ⟨T2, X2, e2, st2⟩ := getF X1 hx hZ hown (host := "") (Or.inl (hw _ (List.mem_of_getElem? (i := 10) rfl))) Via.refl e1 F_e (g := (mkF m 120 #[.val (.ref r), .val (.double (FP.l2d w)), .second, .val (.int (1 : Int32)), s4] [(.ref r), (.int (1 : Int32)), (.ref a)])) rfl rfl (hb hby d1_120)
  obtain ⟨T3, X3, e3, st3⟩ := getF X2 hx hZ hown (host := "") (Or.inl (hw _ (List.mem_of_getElem? (i := 18) rfl))) Via.refl e2 F_l (g := (mkF m 127 #[.val (.ref r), .val (.double (FP.l2d w)), .second, .val (.int (1 : Int32)), s4] [(.ref r), (.int (2 : Int32)), (.ref a), (.int (1 : Int32)), (.ref a)])) rfl rfl (hb hby d1_127)
  obtain ⟨T4, h4, L4, X4, e4, Na4, Kc4, Vr4, st4⟩ := cpA X3 hx hZ hown (hw _ (List.mem_of_getElem? (i := 22) rfl)) (hw _ (List.mem_of_getElem? (i := 25) rfl)) (hw _ (List.mem_of_getElem? (i := 23) rfl)) (hw _ (List.mem_of_getElem? (i := 24) rfl)) e3 (us := []) V_a V_a (Or.inl ⟨rfl, rfl⟩) (by decide) (by decide) (by decide) (by decide) (by decide) rfl (Nat.le_of_ble_eq_true rfl) N0 g_a (g := (mkF m 132 #[.val (.ref r), .val (.double (FP.l2d w)), .second, .val (.int (1 : Int32)), s4] [(.int (0 : Int32)), (.int (2 : Int32)), (.ref a), (.int (1 : Int32)), (.ref a)])) rfl (by rw [hml]; rfl) rfl (hb hby d1_132) (Nat.le_trans (by decide : _ ≤ 1) hRf) (W := 0) (by show 2 * 0 + _ ≤ _; exact Nat.le_of_eq rfl) (Nat.le_trans (by decide : _ ≤ 18) hRl)
  have Zc4 : n0 ≤ h4.size := Nat.le_trans Z0 Kc4.1
  have V4 : Arv Z h4 a k .double (2 : Int32) [(.double (FP.l2d y0)), (.double (FP.l2d y1))] (.double (FP.l2d 0)) := Vr4
  have f5 : Fld Z h4 r "com/example/orrery/orrery/policy/RunningEnds" "ends" "[D" (.ref a) := (Fld.keep F_e Kc4 (ninS ne nin0))
  obtain ⟨T6, X6, e6, st6⟩ := getF X4 hx hZ hown (host := "") (Or.inl (hw _ (List.mem_of_getElem? (i := 10) rfl))) Via.refl e4 f5 (g := (mkF m 136 #[.val (.ref r), .val (.double (FP.l2d w)), .second, .val (.int (1 : Int32)), s4] [(.ref r)])) rfl rfl (hb hby d1_136)
  obtain ⟨cl7, Ar7, q7, S7, M7, H7, G7⟩ := id V4
  obtain ⟨T7, h7, X7, e7, W7, st7⟩ := stD X6 hx hZ e6 Ar7 (j := (1 : Int32)) (inb_of S7 (by decide)) (g := (mkF m 141 #[.val (.ref r), .val (.double (FP.l2d w)), .second, .val (.int (1 : Int32)), s4] [(.double (FP.l2d w)), (.int (1 : Int32)), (.ref a)])) rfl rfl (hb hby d1_141)
  have N8 := Fr.snoc X7 Na4 g_a
  have Zc8 : n0 ≤ h7.size := by rw [Wr.size W7]; exact Zc4
  have V7 : Arv Z h7 a k .double (2 : Int32) [(.double (FP.l2d y0)), (.double (FP.l2d w))] (.double (FP.l2d 0)) := Arv.set Ar7 q7 S7 M7 H7 G7 rfl W7 1 rfl (Nat.le_of_ble_eq_true rfl)
  have f9 : Fld Z h7 r "com/example/orrery/orrery/policy/RunningEnds" "last" "I" (.int (1 : Int32)) := (Fld.other W7 (Fld.keep F_l Kc4 (ninS ne nin0)) (Or.inl ne))
  obtain ⟨T10, X10, e10, st10⟩ := getF X7 hx hZ hown (host := "") (Or.inl (hw _ (List.mem_of_getElem? (i := 18) rfl))) Via.refl e7 f9 (g := (mkF m 144 #[.val (.ref r), .val (.double (FP.l2d w)), .second, .val (.int (1 : Int32)), s4] [(.ref r), (.ref r)])) rfl rfl (hb hby d1_144)
  have f11 : Exa Z h7 r "com/example/orrery/orrery/policy/RunningEnds" := (Exa.wr W7 (Exa.keep E_r Kc4))
  obtain ⟨T12, h12, X12, e12, W12, st12⟩ := putF X10 hx hZ hown (host := "") (Or.inl (hw _ (List.mem_of_getElem? (i := 18) rfl))) Via.refl e10 f9 f11 (Or.inl (hw _ (List.mem_of_getElem? (i := 19) rfl))) (hw _ (List.mem_of_getElem? (i := 1) rfl)) (ty := .int) (by decide) rfl rfl (g := (mkF m 149 #[.val (.ref r), .val (.double (FP.l2d w)), .second, .val (.int (1 : Int32)), s4] [(.int (2 : Int32)), (.ref r)])) rfl rfl (hb hby d1_149)
  have N13 := Fr.snoc X12 N8 g_r
  have Zc13 : n0 ≤ h12.size := by rw [Wr.size W12]; exact Zc8
  have Fw12 : Fld Z h12 r "com/example/orrery/orrery/policy/RunningEnds" "last" "I" (.int (2 : Int32)) := Fld.same W12 f9
  have f14 : Exa Z h12 r "com/example/orrery/orrery/policy/RunningEnds" := (Exa.wr W12 f11)
  have f15 : Fld Z h12 r "com/example/orrery/orrery/policy/RunningEnds" "ends" "[D" (.ref a) := (Fld.other W12 (Fld.other W7 f5 (Or.inl ne)) (Or.inr (slot_ne (t := (.array .double)) (t' := .int) (Or.inl (hw _ (List.mem_of_getElem? (i := 11) rfl))) (Or.inl (hw _ (List.mem_of_getElem? (i := 19) rfl))) (by decide) (by decide) (by decide))))
  have f16 : Fld Z h12 r "com/example/orrery/orrery/policy/RunningEnds" "first" "I" (.int f) := (Fld.other W12 (Fld.other W7 (Fld.keep F_f Kc4 (ninS ne nin0)) (Or.inl ne)) (Or.inr (slot_ne (t := .int) (t' := .int) (Or.inl (hw _ (List.mem_of_getElem? (i := 21) rfl))) (Or.inl (hw _ (List.mem_of_getElem? (i := 19) rfl))) (by decide) (by decide) (by decide))))
  have f17 : Arv Z h12 a k .double (2 : Int32) [(.double (FP.l2d y0)), (.double (FP.l2d w))] (.double (FP.l2d 0)) := (Arv.other V7 W12 (Ne.symm ne))
  refine ⟨T12, h12, _, X12, e12, Zc13, N13, ⟨f14, f15, f16, Fw12, f17⟩, fun t ht => ?_⟩
  show Steps p.tables e below (T0.setTop (mkF m 114 #[.val (.ref r), .val (.double (FP.l2d w)), .second, .val (.int (1 : Int32)), s4] [])) _
  refine XS.aloadN X0.here hx rfl (hb hby d1_114) rfl rfl ?_
  show Steps p.tables e below (T0.setTop (mkF m 115 #[.val (.ref r), .val (.double (FP.l2d w)), .second, .val (.int (1 : Int32)), s4] [(.ref r)])) _
  refine st1 _ ?_
  show Steps p.tables e below (T1.setTop (mkF m 118 #[.val (.ref r), .val (.double (FP.l2d w)), .second, .val (.int (1 : Int32)), s4] [(.ref a)])) _
  refine XS.iloadN X1.here hx rfl (hb hby d1_118) rfl ?_
  show Steps p.tables e below (T1.setTop (mkF m 119 #[.val (.ref r), .val (.double (FP.l2d w)), .second, .val (.int (1 : Int32)), s4] [(.int (1 : Int32)), (.ref a)])) _
  refine XS.aloadN X1.here hx rfl (hb hby d1_119) rfl rfl ?_
  show Steps p.tables e below (T1.setTop (mkF m 120 #[.val (.ref r), .val (.double (FP.l2d w)), .second, .val (.int (1 : Int32)), s4] [(.ref r), (.int (1 : Int32)), (.ref a)])) _
  refine st2 _ ?_
  show Steps p.tables e below (T2.setTop (mkF m 123 #[.val (.ref r), .val (.double (FP.l2d w)), .second, .val (.int (1 : Int32)), s4] [(.ref a), (.int (1 : Int32)), (.ref a)])) _
  refine XS.iloadN X2.here hx rfl (hb hby d1_123) rfl ?_
  show Steps p.tables e below (T2.setTop (mkF m 124 #[.val (.ref r), .val (.double (FP.l2d w)), .second, .val (.int (1 : Int32)), s4] [(.int (1 : Int32)), (.ref a), (.int (1 : Int32)), (.ref a)])) _
  refine XS.iconst X2.here hx rfl (hb hby d1_124) ?_
  show Steps p.tables e below (T2.setTop (mkF m 125 #[.val (.ref r), .val (.double (FP.l2d w)), .second, .val (.int (1 : Int32)), s4] [(.int (1 : Int32)), (.int (1 : Int32)), (.ref a), (.int (1 : Int32)), (.ref a)])) _
  refine XS.iadd X2.here hx rfl (hb hby d1_125) rfl ?_
  show Steps p.tables e below (T2.setTop (mkF m 126 #[.val (.ref r), .val (.double (FP.l2d w)), .second, .val (.int (1 : Int32)), s4] [(.int (2 : Int32)), (.ref a), (.int (1 : Int32)), (.ref a)])) _
  refine XS.aloadN X2.here hx rfl (hb hby d1_126) rfl rfl ?_
  show Steps p.tables e below (T2.setTop (mkF m 127 #[.val (.ref r), .val (.double (FP.l2d w)), .second, .val (.int (1 : Int32)), s4] [(.ref r), (.int (2 : Int32)), (.ref a), (.int (1 : Int32)), (.ref a)])) _
  refine st3 _ ?_
  show Steps p.tables e below (T3.setTop (mkF m 130 #[.val (.ref r), .val (.double (FP.l2d w)), .second, .val (.int (1 : Int32)), s4] [(.int (1 : Int32)), (.int (2 : Int32)), (.ref a), (.int (1 : Int32)), (.ref a)])) _
  refine XS.iloadN X3.here hx rfl (hb hby d1_130) rfl ?_
  show Steps p.tables e below (T3.setTop (mkF m 131 #[.val (.ref r), .val (.double (FP.l2d w)), .second, .val (.int (1 : Int32)), s4] [(.int (1 : Int32)), (.int (1 : Int32)), (.int (2 : Int32)), (.ref a), (.int (1 : Int32)), (.ref a)])) _
  refine XS.isub X3.here hx rfl (hb hby d1_131) rfl ?_
  show Steps p.tables e below (T3.setTop (mkF m 132 #[.val (.ref r), .val (.double (FP.l2d w)), .second, .val (.int (1 : Int32)), s4] [(.int (0 : Int32)), (.int (2 : Int32)), (.ref a), (.int (1 : Int32)), (.ref a)])) _
  refine st4 _ ?_
  show Steps p.tables e below (T4.setTop (mkF m 135 #[.val (.ref r), .val (.double (FP.l2d w)), .second, .val (.int (1 : Int32)), s4] [])) _
  refine XS.aloadN X4.here hx rfl (hb hby d1_135) rfl rfl ?_
  show Steps p.tables e below (T4.setTop (mkF m 136 #[.val (.ref r), .val (.double (FP.l2d w)), .second, .val (.int (1 : Int32)), s4] [(.ref r)])) _
  refine st6 _ ?_
  show Steps p.tables e below (T6.setTop (mkF m 139 #[.val (.ref r), .val (.double (FP.l2d w)), .second, .val (.int (1 : Int32)), s4] [(.ref a)])) _
  refine XS.iloadN X6.here hx rfl (hb hby d1_139) rfl ?_
  show Steps p.tables e below (T6.setTop (mkF m 140 #[.val (.ref r), .val (.double (FP.l2d w)), .second, .val (.int (1 : Int32)), s4] [(.int (1 : Int32)), (.ref a)])) _
  refine XS.dloadN X6.here hx rfl (hb hby d1_140) rfl ?_
  show Steps p.tables e below (T6.setTop (mkF m 141 #[.val (.ref r), .val (.double (FP.l2d w)), .second, .val (.int (1 : Int32)), s4] [(.double (FP.l2d w)), (.int (1 : Int32)), (.ref a)])) _
  refine st7 _ ?_
  show Steps p.tables e below (T7.setTop (mkF m 142 #[.val (.ref r), .val (.double (FP.l2d w)), .second, .val (.int (1 : Int32)), s4] [])) _
  refine XS.aloadN X7.here hx rfl (hb hby d1_142) rfl rfl ?_
  show Steps p.tables e below (T7.setTop (mkF m 143 #[.val (.ref r), .val (.double (FP.l2d w)), .second, .val (.int (1 : Int32)), s4] [(.ref r)])) _
  refine XS.dup X7.here hx rfl (hb hby d1_143) rfl rfl ?_
  show Steps p.tables e below (T7.setTop (mkF m 144 #[.val (.ref r), .val (.double (FP.l2d w)), .second, .val (.int (1 : Int32)), s4] [(.ref r), (.ref r)])) _
  refine st10 _ ?_
  show Steps p.tables e below (T10.setTop (mkF m 147 #[.val (.ref r), .val (.double (FP.l2d w)), .second, .val (.int (1 : Int32)), s4] [(.int (1 : Int32)), (.ref r)])) _
  refine XS.iconst X10.here hx rfl (hb hby d1_147) ?_
  show Steps p.tables e below (T10.setTop (mkF m 148 #[.val (.ref r), .val (.double (FP.l2d w)), .second, .val (.int (1 : Int32)), s4] [(.int (1 : Int32)), (.int (1 : Int32)), (.ref r)])) _
  refine XS.iadd X10.here hx rfl (hb hby d1_148) rfl ?_
  show Steps p.tables e below (T10.setTop (mkF m 149 #[.val (.ref r), .val (.double (FP.l2d w)), .second, .val (.int (1 : Int32)), s4] [(.int (2 : Int32)), (.ref r)])) _
  refine st12 _ ?_
  show Steps p.tables e below (T12.setTop (mkF m 152 #[.val (.ref r), .val (.double (FP.l2d w)), .second, .val (.int (1 : Int32)), s4] [])) _
  exact ht
set_option maxRecDepth 65536 in
set_option maxHeartbeats 40000000 in
theorem add_K420 (l : Launch) (Z : State) (a0 : Array Value) (hw : ∀ d ∈ tables_1, d.before a0 Z = true) {p : Program} {e : Env} {s : State} {m : MethodId} {args : Array Value} {below : List Frame} {meth : Method} {c : Code} (hx : p.tables.exec = Jvm.exec) (hZ : Z.Warmed39 s.vm) (hby : c.code = prog_11_method_3_code) (hml : c.maxLocals = 5) (hown : s.vm.findClass "com/example/orrery/orrery/policy/RunningEnds" = some m.cls) {T0 : State} {locs0 : List Loc} {R : Room} {cells0 slots0 : Nat} (X0 : Stand p l e R s m args below meth c T0 locs0 cells0 slots0) (r a : Addr) (k : ClassId) (f : Int32) (y0 y1 y2 y3 : Int64) (w : Int64) (s4 : Slot) (h0 : Heap) (n0 : Nat) (e0 : T0.heap = h0) (Z0 : n0 ≤ h0.size) (N0 : Fr n0 locs0) (hRf : 1 ≤ R.frames) (hRl : 18 ≤ R.locals) (g_r : n0 ≤ r) (g_a : n0 ≤ a) (ne : r ≠ a) (E_r : Exa Z h0 r "com/example/orrery/orrery/policy/RunningEnds") (F_e : Fld Z h0 r "com/example/orrery/orrery/policy/RunningEnds" "ends" "[D" (.ref a)) (F_f : Fld Z h0 r "com/example/orrery/orrery/policy/RunningEnds" "first" "I" (.int f)) (F_l : Fld Z h0 r "com/example/orrery/orrery/policy/RunningEnds" "last" "I" (.int (2 : Int32))) (V_a : Arv Z h0 a k .double (4 : Int32) [(.double (FP.l2d y0)), (.double (FP.l2d y1)), (.double (FP.l2d y2)), (.double (FP.l2d y3))] (.double (FP.l2d 0))) :
    ∃ (T1 : State) (h1 : Heap) (locs1 : List Loc), Stand p l e R s m args below meth c T1 locs1 cells0 slots0 ∧ T1.heap = h1 ∧ n0 ≤ h1.size ∧ Fr n0 locs1 ∧ (Exa Z h1 r "com/example/orrery/orrery/policy/RunningEnds" ∧ Fld Z h1 r "com/example/orrery/orrery/policy/RunningEnds" "ends" "[D" (.ref a) ∧ Fld Z h1 r "com/example/orrery/orrery/policy/RunningEnds" "first" "I" (.int f) ∧ Fld Z h1 r "com/example/orrery/orrery/policy/RunningEnds" "last" "I" (.int (3 : Int32)) ∧ Arv Z h1 a k .double (4 : Int32) [(.double (FP.l2d w)), (.double (FP.l2d y0)), (.double (FP.l2d y1)), (.double (FP.l2d y3))] (.double (FP.l2d 0))) ∧ ∀ t, Steps p.tables e below (T1.setTop (mkF m 152 #[.val (.ref r), .val (.double (FP.l2d w)), .second, .val (.int (0 : Int32)), s4] [])) t → Steps p.tables e below (T0.setTop (mkF m 114 #[.val (.ref r), .val (.double (FP.l2d w)), .second, .val (.int (0 : Int32)), s4] [])) t := by
  obtain ⟨T1, X1, e1, st1⟩ := getF X0 hx hZ hown (host := "") (Or.inl (hw _ (List.mem_of_getElem? (i := 10) rfl))) Via.refl e0 F_e (g := (mkF m 115 #[.val (.ref r), .val (.double (FP.l2d w)), .second, .val (.int (0 : Int32)), s4] [(.ref r)])) rfl rfl (hb hby d1_115)
  obtain ⟨T2, X2, e2, st2⟩ := getF X1 hx hZ hown (host := "") (Or.inl (hw _ (List.mem_of_getElem? (i := 10) rfl))) Via.refl e1 F_e (g := (mkF m 120 #[.val (.ref r), .val (.double (FP.l2d w)), .second, .val (.int (0 : Int32)), s4] [(.ref r), (.int (0 : Int32)), (.ref a)])) rfl rfl (hb hby d1_120)
  obtain ⟨T3, X3, e3, st3⟩ := getF X2 hx hZ hown (host := "") (Or.inl (hw _ (List.mem_of_getElem? (i := 18) rfl))) Via.refl e2 F_l (g := (mkF m 127 #[.val (.ref r), .val (.double (FP.l2d w)), .second, .val (.int (0 : Int32)), s4] [(.ref r), (.int (1 : Int32)), (.ref a), (.int (0 : Int32)), (.ref a)])) rfl rfl (hb hby d1_127)
  obtain ⟨T4, h4, L4, X4, e4, Na4, Kc4, Vr4, st4⟩ := cpA X3 hx hZ hown (hw _ (List.mem_of_getElem? (i := 22) rfl)) (hw _ (List.mem_of_getElem? (i := 25) rfl)) (hw _ (List.mem_of_getElem? (i := 23) rfl)) (hw _ (List.mem_of_getElem? (i := 24) rfl)) e3 (us := [(.double (FP.l2d y0)), (.double (FP.l2d y1))]) V_a V_a (Or.inl ⟨rfl, rfl⟩) (by decide) (by decide) (by decide) (by decide) (by decide) rfl (Nat.le_of_ble_eq_true rfl) N0 g_a (g := (mkF m 132 #[.val (.ref r), .val (.double (FP.l2d w)), .second, .val (.int (0 : Int32)), s4] [(.int (2 : Int32)), (.int (1 : Int32)), (.ref a), (.int (0 : Int32)), (.ref a)])) rfl (by rw [hml]; rfl) rfl (hb hby d1_132) (Nat.le_trans (by decide : _ ≤ 1) hRf) (W := 0) (by show 2 * 0 + _ ≤ _; exact Nat.le_of_eq rfl) (Nat.le_trans (by decide : _ ≤ 18) hRl)
  have Zc4 : n0 ≤ h4.size := Nat.le_trans Z0 Kc4.1
  have V4 : Arv Z h4 a k .double (4 : Int32) [(.double (FP.l2d y0)), (.double (FP.l2d y0)), (.double (FP.l2d y1)), (.double (FP.l2d y3))] (.double (FP.l2d 0)) := Vr4
  have f5 : Fld Z h4 r "com/example/orrery/orrery/policy/RunningEnds" "ends" "[D" (.ref a) := (Fld.keep F_e Kc4 (ninS ne nin0))
  obtain ⟨T6, X6, e6, st6⟩ := getF X4 hx hZ hown (host := "") (Or.inl (hw _ (List.mem_of_getElem? (i := 10) rfl))) Via.refl e4 f5 (g := (mkF m 136 #[.val (.ref r), .val (.double (FP.l2d w)), .second, .val (.int (0 : Int32)), s4] [(.ref r)])) rfl rfl (hb hby d1_136)
  obtain ⟨cl7, Ar7, q7, S7, M7, H7, G7⟩ := id V4
  obtain ⟨T7, h7, X7, e7, W7, st7⟩ := stD X6 hx hZ e6 Ar7 (j := (0 : Int32)) (inb_of S7 (by decide)) (g := (mkF m 141 #[.val (.ref r), .val (.double (FP.l2d w)), .second, .val (.int (0 : Int32)), s4] [(.double (FP.l2d w)), (.int (0 : Int32)), (.ref a)])) rfl rfl (hb hby d1_141)
  have N8 := Fr.snoc X7 Na4 g_a
  have Zc8 : n0 ≤ h7.size := by rw [Wr.size W7]; exact Zc4
  have V7 : Arv Z h7 a k .double (4 : Int32) [(.double (FP.l2d w)), (.double (FP.l2d y0)), (.double (FP.l2d y1)), (.double (FP.l2d y3))] (.double (FP.l2d 0)) := Arv.set Ar7 q7 S7 M7 H7 G7 rfl W7 0 rfl (Nat.le_of_ble_eq_true rfl)
  have f9 : Fld Z h7 r "com/example/orrery/orrery/policy/RunningEnds" "last" "I" (.int (2 : Int32)) := (Fld.other W7 (Fld.keep F_l Kc4 (ninS ne nin0)) (Or.inl ne))
  obtain ⟨T10, X10, e10, st10⟩ := getF X7 hx hZ hown (host := "") (Or.inl (hw _ (List.mem_of_getElem? (i := 18) rfl))) Via.refl e7 f9 (g := (mkF m 144 #[.val (.ref r), .val (.double (FP.l2d w)), .second, .val (.int (0 : Int32)), s4] [(.ref r), (.ref r)])) rfl rfl (hb hby d1_144)
  have f11 : Exa Z h7 r "com/example/orrery/orrery/policy/RunningEnds" := (Exa.wr W7 (Exa.keep E_r Kc4))
  obtain ⟨T12, h12, X12, e12, W12, st12⟩ := putF X10 hx hZ hown (host := "") (Or.inl (hw _ (List.mem_of_getElem? (i := 18) rfl))) Via.refl e10 f9 f11 (Or.inl (hw _ (List.mem_of_getElem? (i := 19) rfl))) (hw _ (List.mem_of_getElem? (i := 1) rfl)) (ty := .int) (by decide) rfl rfl (g := (mkF m 149 #[.val (.ref r), .val (.double (FP.l2d w)), .second, .val (.int (0 : Int32)), s4] [(.int (3 : Int32)), (.ref r)])) rfl rfl (hb hby d1_149)
  have N13 := Fr.snoc X12 N8 g_r
  have Zc13 : n0 ≤ h12.size := by rw [Wr.size W12]; exact Zc8
  have Fw12 : Fld Z h12 r "com/example/orrery/orrery/policy/RunningEnds" "last" "I" (.int (3 : Int32)) := Fld.same W12 f9
  have f14 : Exa Z h12 r "com/example/orrery/orrery/policy/RunningEnds" := (Exa.wr W12 f11)
  have f15 : Fld Z h12 r "com/example/orrery/orrery/policy/RunningEnds" "ends" "[D" (.ref a) := (Fld.other W12 (Fld.other W7 f5 (Or.inl ne)) (Or.inr (slot_ne (t := (.array .double)) (t' := .int) (Or.inl (hw _ (List.mem_of_getElem? (i := 11) rfl))) (Or.inl (hw _ (List.mem_of_getElem? (i := 19) rfl))) (by decide) (by decide) (by decide))))
  have f16 : Fld Z h12 r "com/example/orrery/orrery/policy/RunningEnds" "first" "I" (.int f) := (Fld.other W12 (Fld.other W7 (Fld.keep F_f Kc4 (ninS ne nin0)) (Or.inl ne)) (Or.inr (slot_ne (t := .int) (t' := .int) (Or.inl (hw _ (List.mem_of_getElem? (i := 21) rfl))) (Or.inl (hw _ (List.mem_of_getElem? (i := 19) rfl))) (by decide) (by decide) (by decide))))
  have f17 : Arv Z h12 a k .double (4 : Int32) [(.double (FP.l2d w)), (.double (FP.l2d y0)), (.double (FP.l2d y1)), (.double (FP.l2d y3))] (.double (FP.l2d 0)) := (Arv.other V7 W12 (Ne.symm ne))
  refine ⟨T12, h12, _, X12, e12, Zc13, N13, ⟨f14, f15, f16, Fw12, f17⟩, fun t ht => ?_⟩
  show Steps p.tables e below (T0.setTop (mkF m 114 #[.val (.ref r), .val (.double (FP.l2d w)), .second, .val (.int (0 : Int32)), s4] [])) _
  refine XS.aloadN X0.here hx rfl (hb hby d1_114) rfl rfl ?_
  show Steps p.tables e below (T0.setTop (mkF m 115 #[.val (.ref r), .val (.double (FP.l2d w)), .second, .val (.int (0 : Int32)), s4] [(.ref r)])) _
  refine st1 _ ?_
  show Steps p.tables e below (T1.setTop (mkF m 118 #[.val (.ref r), .val (.double (FP.l2d w)), .second, .val (.int (0 : Int32)), s4] [(.ref a)])) _
  refine XS.iloadN X1.here hx rfl (hb hby d1_118) rfl ?_
  show Steps p.tables e below (T1.setTop (mkF m 119 #[.val (.ref r), .val (.double (FP.l2d w)), .second, .val (.int (0 : Int32)), s4] [(.int (0 : Int32)), (.ref a)])) _
  refine XS.aloadN X1.here hx rfl (hb hby d1_119) rfl rfl ?_
  show Steps p.tables e below (T1.setTop (mkF m 120 #[.val (.ref r), .val (.double (FP.l2d w)), .second, .val (.int (0 : Int32)), s4] [(.ref r), (.int (0 : Int32)), (.ref a)])) _
  refine st2 _ ?_
  show Steps p.tables e below (T2.setTop (mkF m 123 #[.val (.ref r), .val (.double (FP.l2d w)), .second, .val (.int (0 : Int32)), s4] [(.ref a), (.int (0 : Int32)), (.ref a)])) _
  refine XS.iloadN X2.here hx rfl (hb hby d1_123) rfl ?_
  show Steps p.tables e below (T2.setTop (mkF m 124 #[.val (.ref r), .val (.double (FP.l2d w)), .second, .val (.int (0 : Int32)), s4] [(.int (0 : Int32)), (.ref a), (.int (0 : Int32)), (.ref a)])) _
  refine XS.iconst X2.here hx rfl (hb hby d1_124) ?_
  show Steps p.tables e below (T2.setTop (mkF m 125 #[.val (.ref r), .val (.double (FP.l2d w)), .second, .val (.int (0 : Int32)), s4] [(.int (1 : Int32)), (.int (0 : Int32)), (.ref a), (.int (0 : Int32)), (.ref a)])) _
  refine XS.iadd X2.here hx rfl (hb hby d1_125) rfl ?_
  show Steps p.tables e below (T2.setTop (mkF m 126 #[.val (.ref r), .val (.double (FP.l2d w)), .second, .val (.int (0 : Int32)), s4] [(.int (1 : Int32)), (.ref a), (.int (0 : Int32)), (.ref a)])) _
  refine XS.aloadN X2.here hx rfl (hb hby d1_126) rfl rfl ?_
  show Steps p.tables e below (T2.setTop (mkF m 127 #[.val (.ref r), .val (.double (FP.l2d w)), .second, .val (.int (0 : Int32)), s4] [(.ref r), (.int (1 : Int32)), (.ref a), (.int (0 : Int32)), (.ref a)])) _
  refine st3 _ ?_
  show Steps p.tables e below (T3.setTop (mkF m 130 #[.val (.ref r), .val (.double (FP.l2d w)), .second, .val (.int (0 : Int32)), s4] [(.int (2 : Int32)), (.int (1 : Int32)), (.ref a), (.int (0 : Int32)), (.ref a)])) _
  refine XS.iloadN X3.here hx rfl (hb hby d1_130) rfl ?_
  show Steps p.tables e below (T3.setTop (mkF m 131 #[.val (.ref r), .val (.double (FP.l2d w)), .second, .val (.int (0 : Int32)), s4] [(.int (0 : Int32)), (.int (2 : Int32)), (.int (1 : Int32)), (.ref a), (.int (0 : Int32)), (.ref a)])) _
  refine XS.isub X3.here hx rfl (hb hby d1_131) rfl ?_
  show Steps p.tables e below (T3.setTop (mkF m 132 #[.val (.ref r), .val (.double (FP.l2d w)), .second, .val (.int (0 : Int32)), s4] [(.int (2 : Int32)), (.int (1 : Int32)), (.ref a), (.int (0 : Int32)), (.ref a)])) _
  refine st4 _ ?_
  show Steps p.tables e below (T4.setTop (mkF m 135 #[.val (.ref r), .val (.double (FP.l2d w)), .second, .val (.int (0 : Int32)), s4] [])) _
  refine XS.aloadN X4.here hx rfl (hb hby d1_135) rfl rfl ?_
  show Steps p.tables e below (T4.setTop (mkF m 136 #[.val (.ref r), .val (.double (FP.l2d w)), .second, .val (.int (0 : Int32)), s4] [(.ref r)])) _
  refine st6 _ ?_
  show Steps p.tables e below (T6.setTop (mkF m 139 #[.val (.ref r), .val (.double (FP.l2d w)), .second, .val (.int (0 : Int32)), s4] [(.ref a)])) _
  refine XS.iloadN X6.here hx rfl (hb hby d1_139) rfl ?_
  show Steps p.tables e below (T6.setTop (mkF m 140 #[.val (.ref r), .val (.double (FP.l2d w)), .second, .val (.int (0 : Int32)), s4] [(.int (0 : Int32)), (.ref a)])) _
  refine XS.dloadN X6.here hx rfl (hb hby d1_140) rfl ?_
  show Steps p.tables e below (T6.setTop (mkF m 141 #[.val (.ref r), .val (.double (FP.l2d w)), .second, .val (.int (0 : Int32)), s4] [(.double (FP.l2d w)), (.int (0 : Int32)), (.ref a)])) _
  refine st7 _ ?_
  show Steps p.tables e below (T7.setTop (mkF m 142 #[.val (.ref r), .val (.double (FP.l2d w)), .second, .val (.int (0 : Int32)), s4] [])) _
  refine XS.aloadN X7.here hx rfl (hb hby d1_142) rfl rfl ?_
  show Steps p.tables e below (T7.setTop (mkF m 143 #[.val (.ref r), .val (.double (FP.l2d w)), .second, .val (.int (0 : Int32)), s4] [(.ref r)])) _
  refine XS.dup X7.here hx rfl (hb hby d1_143) rfl rfl ?_
  show Steps p.tables e below (T7.setTop (mkF m 144 #[.val (.ref r), .val (.double (FP.l2d w)), .second, .val (.int (0 : Int32)), s4] [(.ref r), (.ref r)])) _
  refine st10 _ ?_
  show Steps p.tables e below (T10.setTop (mkF m 147 #[.val (.ref r), .val (.double (FP.l2d w)), .second, .val (.int (0 : Int32)), s4] [(.int (2 : Int32)), (.ref r)])) _
  refine XS.iconst X10.here hx rfl (hb hby d1_147) ?_
  show Steps p.tables e below (T10.setTop (mkF m 148 #[.val (.ref r), .val (.double (FP.l2d w)), .second, .val (.int (0 : Int32)), s4] [(.int (1 : Int32)), (.int (2 : Int32)), (.ref r)])) _
  refine XS.iadd X10.here hx rfl (hb hby d1_148) rfl ?_
  show Steps p.tables e below (T10.setTop (mkF m 149 #[.val (.ref r), .val (.double (FP.l2d w)), .second, .val (.int (0 : Int32)), s4] [(.int (3 : Int32)), (.ref r)])) _
  refine st12 _ ?_
  show Steps p.tables e below (T12.setTop (mkF m 152 #[.val (.ref r), .val (.double (FP.l2d w)), .second, .val (.int (0 : Int32)), s4] [])) _
  exact ht
set_option maxRecDepth 65536 in
set_option maxHeartbeats 40000000 in
theorem add_K421 (l : Launch) (Z : State) (a0 : Array Value) (hw : ∀ d ∈ tables_1, d.before a0 Z = true) {p : Program} {e : Env} {s : State} {m : MethodId} {args : Array Value} {below : List Frame} {meth : Method} {c : Code} (hx : p.tables.exec = Jvm.exec) (hZ : Z.Warmed39 s.vm) (hby : c.code = prog_11_method_3_code) (hml : c.maxLocals = 5) (hown : s.vm.findClass "com/example/orrery/orrery/policy/RunningEnds" = some m.cls) {T0 : State} {locs0 : List Loc} {R : Room} {cells0 slots0 : Nat} (X0 : Stand p l e R s m args below meth c T0 locs0 cells0 slots0) (r a : Addr) (k : ClassId) (f : Int32) (y0 y1 y2 y3 : Int64) (w : Int64) (s4 : Slot) (h0 : Heap) (n0 : Nat) (e0 : T0.heap = h0) (Z0 : n0 ≤ h0.size) (N0 : Fr n0 locs0) (hRf : 1 ≤ R.frames) (hRl : 18 ≤ R.locals) (g_r : n0 ≤ r) (g_a : n0 ≤ a) (ne : r ≠ a) (E_r : Exa Z h0 r "com/example/orrery/orrery/policy/RunningEnds") (F_e : Fld Z h0 r "com/example/orrery/orrery/policy/RunningEnds" "ends" "[D" (.ref a)) (F_f : Fld Z h0 r "com/example/orrery/orrery/policy/RunningEnds" "first" "I" (.int f)) (F_l : Fld Z h0 r "com/example/orrery/orrery/policy/RunningEnds" "last" "I" (.int (2 : Int32))) (V_a : Arv Z h0 a k .double (4 : Int32) [(.double (FP.l2d y0)), (.double (FP.l2d y1)), (.double (FP.l2d y2)), (.double (FP.l2d y3))] (.double (FP.l2d 0))) :
    ∃ (T1 : State) (h1 : Heap) (locs1 : List Loc), Stand p l e R s m args below meth c T1 locs1 cells0 slots0 ∧ T1.heap = h1 ∧ n0 ≤ h1.size ∧ Fr n0 locs1 ∧ (Exa Z h1 r "com/example/orrery/orrery/policy/RunningEnds" ∧ Fld Z h1 r "com/example/orrery/orrery/policy/RunningEnds" "ends" "[D" (.ref a) ∧ Fld Z h1 r "com/example/orrery/orrery/policy/RunningEnds" "first" "I" (.int f) ∧ Fld Z h1 r "com/example/orrery/orrery/policy/RunningEnds" "last" "I" (.int (3 : Int32)) ∧ Arv Z h1 a k .double (4 : Int32) [(.double (FP.l2d y0)), (.double (FP.l2d w)), (.double (FP.l2d y1)), (.double (FP.l2d y3))] (.double (FP.l2d 0))) ∧ ∀ t, Steps p.tables e below (T1.setTop (mkF m 152 #[.val (.ref r), .val (.double (FP.l2d w)), .second, .val (.int (1 : Int32)), s4] [])) t → Steps p.tables e below (T0.setTop (mkF m 114 #[.val (.ref r), .val (.double (FP.l2d w)), .second, .val (.int (1 : Int32)), s4] [])) t := by
  obtain ⟨T1, X1, e1, st1⟩ := getF X0 hx hZ hown (host := "") (Or.inl (hw _ (List.mem_of_getElem? (i := 10) rfl))) Via.refl e0 F_e (g := (mkF m 115 #[.val (.ref r), .val (.double (FP.l2d w)), .second, .val (.int (1 : Int32)), s4] [(.ref r)])) rfl rfl (hb hby d1_115)
  obtain ⟨T2, X2, e2, st2⟩ := getF X1 hx hZ hown (host := "") (Or.inl (hw _ (List.mem_of_getElem? (i := 10) rfl))) Via.refl e1 F_e (g := (mkF m 120 #[.val (.ref r), .val (.double (FP.l2d w)), .second, .val (.int (1 : Int32)), s4] [(.ref r), (.int (1 : Int32)), (.ref a)])) rfl rfl (hb hby d1_120)
  obtain ⟨T3, X3, e3, st3⟩ := getF X2 hx hZ hown (host := "") (Or.inl (hw _ (List.mem_of_getElem? (i := 18) rfl))) Via.refl e2 F_l (g := (mkF m 127 #[.val (.ref r), .val (.double (FP.l2d w)), .second, .val (.int (1 : Int32)), s4] [(.ref r), (.int (2 : Int32)), (.ref a), (.int (1 : Int32)), (.ref a)])) rfl rfl (hb hby d1_127)
  obtain ⟨T4, h4, L4, X4, e4, Na4, Kc4, Vr4, st4⟩ := cpA X3 hx hZ hown (hw _ (List.mem_of_getElem? (i := 22) rfl)) (hw _ (List.mem_of_getElem? (i := 25) rfl)) (hw _ (List.mem_of_getElem? (i := 23) rfl)) (hw _ (List.mem_of_getElem? (i := 24) rfl)) e3 (us := [(.double (FP.l2d y1))]) V_a V_a (Or.inl ⟨rfl, rfl⟩) (by decide) (by decide) (by decide) (by decide) (by decide) rfl (Nat.le_of_ble_eq_true rfl) N0 g_a (g := (mkF m 132 #[.val (.ref r), .val (.double (FP.l2d w)), .second, .val (.int (1 : Int32)), s4] [(.int (1 : Int32)), (.int (2 : Int32)), (.ref a), (.int (1 : Int32)), (.ref a)])) rfl (by rw [hml]; rfl) rfl (hb hby d1_132) (Nat.le_trans (by decide : _ ≤ 1) hRf) (W := 0) (by show 2 * 0 + _ ≤ _; exact Nat.le_of_eq rfl) (Nat.le_trans (by decide : _ ≤ 18) hRl)
  have Zc4 : n0 ≤ h4.size := Nat.le_trans Z0 Kc4.1
  have V4 : Arv Z h4 a k .double (4 : Int32) [(.double (FP.l2d y0)), (.double (FP.l2d y1)), (.double (FP.l2d y1)), (.double (FP.l2d y3))] (.double (FP.l2d 0)) := Vr4
  have f5 : Fld Z h4 r "com/example/orrery/orrery/policy/RunningEnds" "ends" "[D" (.ref a) := (Fld.keep F_e Kc4 (ninS ne nin0))
  obtain ⟨T6, X6, e6, st6⟩ := getF X4 hx hZ hown (host := "") (Or.inl (hw _ (List.mem_of_getElem? (i := 10) rfl))) Via.refl e4 f5 (g := (mkF m 136 #[.val (.ref r), .val (.double (FP.l2d w)), .second, .val (.int (1 : Int32)), s4] [(.ref r)])) rfl rfl (hb hby d1_136)
  obtain ⟨cl7, Ar7, q7, S7, M7, H7, G7⟩ := id V4
  obtain ⟨T7, h7, X7, e7, W7, st7⟩ := stD X6 hx hZ e6 Ar7 (j := (1 : Int32)) (inb_of S7 (by decide)) (g := (mkF m 141 #[.val (.ref r), .val (.double (FP.l2d w)), .second, .val (.int (1 : Int32)), s4] [(.double (FP.l2d w)), (.int (1 : Int32)), (.ref a)])) rfl rfl (hb hby d1_141)
  have N8 := Fr.snoc X7 Na4 g_a
  have Zc8 : n0 ≤ h7.size := by rw [Wr.size W7]; exact Zc4
  have V7 : Arv Z h7 a k .double (4 : Int32) [(.double (FP.l2d y0)), (.double (FP.l2d w)), (.double (FP.l2d y1)), (.double (FP.l2d y3))] (.double (FP.l2d 0)) := Arv.set Ar7 q7 S7 M7 H7 G7 rfl W7 1 rfl (Nat.le_of_ble_eq_true rfl)
  have f9 : Fld Z h7 r "com/example/orrery/orrery/policy/RunningEnds" "last" "I" (.int (2 : Int32)) := (Fld.other W7 (Fld.keep F_l Kc4 (ninS ne nin0)) (Or.inl ne))
  obtain ⟨T10, X10, e10, st10⟩ := getF X7 hx hZ hown (host := "") (Or.inl (hw _ (List.mem_of_getElem? (i := 18) rfl))) Via.refl e7 f9 (g := (mkF m 144 #[.val (.ref r), .val (.double (FP.l2d w)), .second, .val (.int (1 : Int32)), s4] [(.ref r), (.ref r)])) rfl rfl (hb hby d1_144)
  have f11 : Exa Z h7 r "com/example/orrery/orrery/policy/RunningEnds" := (Exa.wr W7 (Exa.keep E_r Kc4))
  obtain ⟨T12, h12, X12, e12, W12, st12⟩ := putF X10 hx hZ hown (host := "") (Or.inl (hw _ (List.mem_of_getElem? (i := 18) rfl))) Via.refl e10 f9 f11 (Or.inl (hw _ (List.mem_of_getElem? (i := 19) rfl))) (hw _ (List.mem_of_getElem? (i := 1) rfl)) (ty := .int) (by decide) rfl rfl (g := (mkF m 149 #[.val (.ref r), .val (.double (FP.l2d w)), .second, .val (.int (1 : Int32)), s4] [(.int (3 : Int32)), (.ref r)])) rfl rfl (hb hby d1_149)
  have N13 := Fr.snoc X12 N8 g_r
  have Zc13 : n0 ≤ h12.size := by rw [Wr.size W12]; exact Zc8
  have Fw12 : Fld Z h12 r "com/example/orrery/orrery/policy/RunningEnds" "last" "I" (.int (3 : Int32)) := Fld.same W12 f9
  have f14 : Exa Z h12 r "com/example/orrery/orrery/policy/RunningEnds" := (Exa.wr W12 f11)
  have f15 : Fld Z h12 r "com/example/orrery/orrery/policy/RunningEnds" "ends" "[D" (.ref a) := (Fld.other W12 (Fld.other W7 f5 (Or.inl ne)) (Or.inr (slot_ne (t := (.array .double)) (t' := .int) (Or.inl (hw _ (List.mem_of_getElem? (i := 11) rfl))) (Or.inl (hw _ (List.mem_of_getElem? (i := 19) rfl))) (by decide) (by decide) (by decide))))
  have f16 : Fld Z h12 r "com/example/orrery/orrery/policy/RunningEnds" "first" "I" (.int f) := (Fld.other W12 (Fld.other W7 (Fld.keep F_f Kc4 (ninS ne nin0)) (Or.inl ne)) (Or.inr (slot_ne (t := .int) (t' := .int) (Or.inl (hw _ (List.mem_of_getElem? (i := 21) rfl))) (Or.inl (hw _ (List.mem_of_getElem? (i := 19) rfl))) (by decide) (by decide) (by decide))))
  have f17 : Arv Z h12 a k .double (4 : Int32) [(.double (FP.l2d y0)), (.double (FP.l2d w)), (.double (FP.l2d y1)), (.double (FP.l2d y3))] (.double (FP.l2d 0)) := (Arv.other V7 W12 (Ne.symm ne))
  refine ⟨T12, h12, _, X12, e12, Zc13, N13, ⟨f14, f15, f16, Fw12, f17⟩, fun t ht => ?_⟩
  show Steps p.tables e below (T0.setTop (mkF m 114 #[.val (.ref r), .val (.double (FP.l2d w)), .second, .val (.int (1 : Int32)), s4] [])) _
  refine XS.aloadN X0.here hx rfl (hb hby d1_114) rfl rfl ?_
  show Steps p.tables e below (T0.setTop (mkF m 115 #[.val (.ref r), .val (.double (FP.l2d w)), .second, .val (.int (1 : Int32)), s4] [(.ref r)])) _
  refine st1 _ ?_
  show Steps p.tables e below (T1.setTop (mkF m 118 #[.val (.ref r), .val (.double (FP.l2d w)), .second, .val (.int (1 : Int32)), s4] [(.ref a)])) _
  refine XS.iloadN X1.here hx rfl (hb hby d1_118) rfl ?_
  show Steps p.tables e below (T1.setTop (mkF m 119 #[.val (.ref r), .val (.double (FP.l2d w)), .second, .val (.int (1 : Int32)), s4] [(.int (1 : Int32)), (.ref a)])) _
  refine XS.aloadN X1.here hx rfl (hb hby d1_119) rfl rfl ?_
  show Steps p.tables e below (T1.setTop (mkF m 120 #[.val (.ref r), .val (.double (FP.l2d w)), .second, .val (.int (1 : Int32)), s4] [(.ref r), (.int (1 : Int32)), (.ref a)])) _
  refine st2 _ ?_
  show Steps p.tables e below (T2.setTop (mkF m 123 #[.val (.ref r), .val (.double (FP.l2d w)), .second, .val (.int (1 : Int32)), s4] [(.ref a), (.int (1 : Int32)), (.ref a)])) _
  refine XS.iloadN X2.here hx rfl (hb hby d1_123) rfl ?_
  show Steps p.tables e below (T2.setTop (mkF m 124 #[.val (.ref r), .val (.double (FP.l2d w)), .second, .val (.int (1 : Int32)), s4] [(.int (1 : Int32)), (.ref a), (.int (1 : Int32)), (.ref a)])) _
  refine XS.iconst X2.here hx rfl (hb hby d1_124) ?_
  show Steps p.tables e below (T2.setTop (mkF m 125 #[.val (.ref r), .val (.double (FP.l2d w)), .second, .val (.int (1 : Int32)), s4] [(.int (1 : Int32)), (.int (1 : Int32)), (.ref a), (.int (1 : Int32)), (.ref a)])) _
  refine XS.iadd X2.here hx rfl (hb hby d1_125) rfl ?_
  show Steps p.tables e below (T2.setTop (mkF m 126 #[.val (.ref r), .val (.double (FP.l2d w)), .second, .val (.int (1 : Int32)), s4] [(.int (2 : Int32)), (.ref a), (.int (1 : Int32)), (.ref a)])) _
  refine XS.aloadN X2.here hx rfl (hb hby d1_126) rfl rfl ?_
  show Steps p.tables e below (T2.setTop (mkF m 127 #[.val (.ref r), .val (.double (FP.l2d w)), .second, .val (.int (1 : Int32)), s4] [(.ref r), (.int (2 : Int32)), (.ref a), (.int (1 : Int32)), (.ref a)])) _
  refine st3 _ ?_
  show Steps p.tables e below (T3.setTop (mkF m 130 #[.val (.ref r), .val (.double (FP.l2d w)), .second, .val (.int (1 : Int32)), s4] [(.int (2 : Int32)), (.int (2 : Int32)), (.ref a), (.int (1 : Int32)), (.ref a)])) _
  refine XS.iloadN X3.here hx rfl (hb hby d1_130) rfl ?_
  show Steps p.tables e below (T3.setTop (mkF m 131 #[.val (.ref r), .val (.double (FP.l2d w)), .second, .val (.int (1 : Int32)), s4] [(.int (1 : Int32)), (.int (2 : Int32)), (.int (2 : Int32)), (.ref a), (.int (1 : Int32)), (.ref a)])) _
  refine XS.isub X3.here hx rfl (hb hby d1_131) rfl ?_
  show Steps p.tables e below (T3.setTop (mkF m 132 #[.val (.ref r), .val (.double (FP.l2d w)), .second, .val (.int (1 : Int32)), s4] [(.int (1 : Int32)), (.int (2 : Int32)), (.ref a), (.int (1 : Int32)), (.ref a)])) _
  refine st4 _ ?_
  show Steps p.tables e below (T4.setTop (mkF m 135 #[.val (.ref r), .val (.double (FP.l2d w)), .second, .val (.int (1 : Int32)), s4] [])) _
  refine XS.aloadN X4.here hx rfl (hb hby d1_135) rfl rfl ?_
  show Steps p.tables e below (T4.setTop (mkF m 136 #[.val (.ref r), .val (.double (FP.l2d w)), .second, .val (.int (1 : Int32)), s4] [(.ref r)])) _
  refine st6 _ ?_
  show Steps p.tables e below (T6.setTop (mkF m 139 #[.val (.ref r), .val (.double (FP.l2d w)), .second, .val (.int (1 : Int32)), s4] [(.ref a)])) _
  refine XS.iloadN X6.here hx rfl (hb hby d1_139) rfl ?_
  show Steps p.tables e below (T6.setTop (mkF m 140 #[.val (.ref r), .val (.double (FP.l2d w)), .second, .val (.int (1 : Int32)), s4] [(.int (1 : Int32)), (.ref a)])) _
  refine XS.dloadN X6.here hx rfl (hb hby d1_140) rfl ?_
  show Steps p.tables e below (T6.setTop (mkF m 141 #[.val (.ref r), .val (.double (FP.l2d w)), .second, .val (.int (1 : Int32)), s4] [(.double (FP.l2d w)), (.int (1 : Int32)), (.ref a)])) _
  refine st7 _ ?_
  show Steps p.tables e below (T7.setTop (mkF m 142 #[.val (.ref r), .val (.double (FP.l2d w)), .second, .val (.int (1 : Int32)), s4] [])) _
  refine XS.aloadN X7.here hx rfl (hb hby d1_142) rfl rfl ?_
  show Steps p.tables e below (T7.setTop (mkF m 143 #[.val (.ref r), .val (.double (FP.l2d w)), .second, .val (.int (1 : Int32)), s4] [(.ref r)])) _
  refine XS.dup X7.here hx rfl (hb hby d1_143) rfl rfl ?_
  show Steps p.tables e below (T7.setTop (mkF m 144 #[.val (.ref r), .val (.double (FP.l2d w)), .second, .val (.int (1 : Int32)), s4] [(.ref r), (.ref r)])) _
  refine st10 _ ?_
  show Steps p.tables e below (T10.setTop (mkF m 147 #[.val (.ref r), .val (.double (FP.l2d w)), .second, .val (.int (1 : Int32)), s4] [(.int (2 : Int32)), (.ref r)])) _
  refine XS.iconst X10.here hx rfl (hb hby d1_147) ?_
  show Steps p.tables e below (T10.setTop (mkF m 148 #[.val (.ref r), .val (.double (FP.l2d w)), .second, .val (.int (1 : Int32)), s4] [(.int (1 : Int32)), (.int (2 : Int32)), (.ref r)])) _
  refine XS.iadd X10.here hx rfl (hb hby d1_148) rfl ?_
  show Steps p.tables e below (T10.setTop (mkF m 149 #[.val (.ref r), .val (.double (FP.l2d w)), .second, .val (.int (1 : Int32)), s4] [(.int (3 : Int32)), (.ref r)])) _
  refine st12 _ ?_
  show Steps p.tables e below (T12.setTop (mkF m 152 #[.val (.ref r), .val (.double (FP.l2d w)), .second, .val (.int (1 : Int32)), s4] [])) _
  exact ht
set_option maxRecDepth 65536 in
set_option maxHeartbeats 40000000 in
theorem add_K422 (l : Launch) (Z : State) (a0 : Array Value) (hw : ∀ d ∈ tables_1, d.before a0 Z = true) {p : Program} {e : Env} {s : State} {m : MethodId} {args : Array Value} {below : List Frame} {meth : Method} {c : Code} (hx : p.tables.exec = Jvm.exec) (hZ : Z.Warmed39 s.vm) (hby : c.code = prog_11_method_3_code) (hml : c.maxLocals = 5) (hown : s.vm.findClass "com/example/orrery/orrery/policy/RunningEnds" = some m.cls) {T0 : State} {locs0 : List Loc} {R : Room} {cells0 slots0 : Nat} (X0 : Stand p l e R s m args below meth c T0 locs0 cells0 slots0) (r a : Addr) (k : ClassId) (f : Int32) (y0 y1 y2 y3 : Int64) (w : Int64) (s4 : Slot) (h0 : Heap) (n0 : Nat) (e0 : T0.heap = h0) (Z0 : n0 ≤ h0.size) (N0 : Fr n0 locs0) (hRf : 1 ≤ R.frames) (hRl : 18 ≤ R.locals) (g_r : n0 ≤ r) (g_a : n0 ≤ a) (ne : r ≠ a) (E_r : Exa Z h0 r "com/example/orrery/orrery/policy/RunningEnds") (F_e : Fld Z h0 r "com/example/orrery/orrery/policy/RunningEnds" "ends" "[D" (.ref a)) (F_f : Fld Z h0 r "com/example/orrery/orrery/policy/RunningEnds" "first" "I" (.int f)) (F_l : Fld Z h0 r "com/example/orrery/orrery/policy/RunningEnds" "last" "I" (.int (2 : Int32))) (V_a : Arv Z h0 a k .double (4 : Int32) [(.double (FP.l2d y0)), (.double (FP.l2d y1)), (.double (FP.l2d y2)), (.double (FP.l2d y3))] (.double (FP.l2d 0))) :
    ∃ (T1 : State) (h1 : Heap) (locs1 : List Loc), Stand p l e R s m args below meth c T1 locs1 cells0 slots0 ∧ T1.heap = h1 ∧ n0 ≤ h1.size ∧ Fr n0 locs1 ∧ (Exa Z h1 r "com/example/orrery/orrery/policy/RunningEnds" ∧ Fld Z h1 r "com/example/orrery/orrery/policy/RunningEnds" "ends" "[D" (.ref a) ∧ Fld Z h1 r "com/example/orrery/orrery/policy/RunningEnds" "first" "I" (.int f) ∧ Fld Z h1 r "com/example/orrery/orrery/policy/RunningEnds" "last" "I" (.int (3 : Int32)) ∧ Arv Z h1 a k .double (4 : Int32) [(.double (FP.l2d y0)), (.double (FP.l2d y1)), (.double (FP.l2d w)), (.double (FP.l2d y3))] (.double (FP.l2d 0))) ∧ ∀ t, Steps p.tables e below (T1.setTop (mkF m 152 #[.val (.ref r), .val (.double (FP.l2d w)), .second, .val (.int (2 : Int32)), s4] [])) t → Steps p.tables e below (T0.setTop (mkF m 114 #[.val (.ref r), .val (.double (FP.l2d w)), .second, .val (.int (2 : Int32)), s4] [])) t := by
  obtain ⟨T1, X1, e1, st1⟩ := getF X0 hx hZ hown (host := "") (Or.inl (hw _ (List.mem_of_getElem? (i := 10) rfl))) Via.refl e0 F_e (g := (mkF m 115 #[.val (.ref r), .val (.double (FP.l2d w)), .second, .val (.int (2 : Int32)), s4] [(.ref r)])) rfl rfl (hb hby d1_115)
  obtain ⟨T2, X2, e2, st2⟩ := getF X1 hx hZ hown (host := "") (Or.inl (hw _ (List.mem_of_getElem? (i := 10) rfl))) Via.refl e1 F_e (g := (mkF m 120 #[.val (.ref r), .val (.double (FP.l2d w)), .second, .val (.int (2 : Int32)), s4] [(.ref r), (.int (2 : Int32)), (.ref a)])) rfl rfl (hb hby d1_120)
  obtain ⟨T3, X3, e3, st3⟩ := getF X2 hx hZ hown (host := "") (Or.inl (hw _ (List.mem_of_getElem? (i := 18) rfl))) Via.refl e2 F_l (g := (mkF m 127 #[.val (.ref r), .val (.double (FP.l2d w)), .second, .val (.int (2 : Int32)), s4] [(.ref r), (.int (3 : Int32)), (.ref a), (.int (2 : Int32)), (.ref a)])) rfl rfl (hb hby d1_127)
  obtain ⟨T4, h4, L4, X4, e4, Na4, Kc4, Vr4, st4⟩ := cpA X3 hx hZ hown (hw _ (List.mem_of_getElem? (i := 22) rfl)) (hw _ (List.mem_of_getElem? (i := 25) rfl)) (hw _ (List.mem_of_getElem? (i := 23) rfl)) (hw _ (List.mem_of_getElem? (i := 24) rfl)) e3 (us := []) V_a V_a (Or.inl ⟨rfl, rfl⟩) (by decide) (by decide) (by decide) (by decide) (by decide) rfl (Nat.le_of_ble_eq_true rfl) N0 g_a (g := (mkF m 132 #[.val (.ref r), .val (.double (FP.l2d w)), .second, .val (.int (2 : Int32)), s4] [(.int (0 : Int32)), (.int (3 : Int32)), (.ref a), (.int (2 : Int32)), (.ref a)])) rfl (by rw [hml]; rfl) rfl (hb hby d1_132) (Nat.le_trans (by decide : _ ≤ 1) hRf) (W := 0) (by show 2 * 0 + _ ≤ _; exact Nat.le_of_eq rfl) (Nat.le_trans (by decide : _ ≤ 18) hRl)
  have Zc4 : n0 ≤ h4.size := Nat.le_trans Z0 Kc4.1
  have V4 : Arv Z h4 a k .double (4 : Int32) [(.double (FP.l2d y0)), (.double (FP.l2d y1)), (.double (FP.l2d y2)), (.double (FP.l2d y3))] (.double (FP.l2d 0)) := Vr4
  have f5 : Fld Z h4 r "com/example/orrery/orrery/policy/RunningEnds" "ends" "[D" (.ref a) := (Fld.keep F_e Kc4 (ninS ne nin0))
  obtain ⟨T6, X6, e6, st6⟩ := getF X4 hx hZ hown (host := "") (Or.inl (hw _ (List.mem_of_getElem? (i := 10) rfl))) Via.refl e4 f5 (g := (mkF m 136 #[.val (.ref r), .val (.double (FP.l2d w)), .second, .val (.int (2 : Int32)), s4] [(.ref r)])) rfl rfl (hb hby d1_136)
  obtain ⟨cl7, Ar7, q7, S7, M7, H7, G7⟩ := id V4
  obtain ⟨T7, h7, X7, e7, W7, st7⟩ := stD X6 hx hZ e6 Ar7 (j := (2 : Int32)) (inb_of S7 (by decide)) (g := (mkF m 141 #[.val (.ref r), .val (.double (FP.l2d w)), .second, .val (.int (2 : Int32)), s4] [(.double (FP.l2d w)), (.int (2 : Int32)), (.ref a)])) rfl rfl (hb hby d1_141)
  have N8 := Fr.snoc X7 Na4 g_a
  have Zc8 : n0 ≤ h7.size := by rw [Wr.size W7]; exact Zc4
  have V7 : Arv Z h7 a k .double (4 : Int32) [(.double (FP.l2d y0)), (.double (FP.l2d y1)), (.double (FP.l2d w)), (.double (FP.l2d y3))] (.double (FP.l2d 0)) := Arv.set Ar7 q7 S7 M7 H7 G7 rfl W7 2 rfl (Nat.le_of_ble_eq_true rfl)
  have f9 : Fld Z h7 r "com/example/orrery/orrery/policy/RunningEnds" "last" "I" (.int (2 : Int32)) := (Fld.other W7 (Fld.keep F_l Kc4 (ninS ne nin0)) (Or.inl ne))
  obtain ⟨T10, X10, e10, st10⟩ := getF X7 hx hZ hown (host := "") (Or.inl (hw _ (List.mem_of_getElem? (i := 18) rfl))) Via.refl e7 f9 (g := (mkF m 144 #[.val (.ref r), .val (.double (FP.l2d w)), .second, .val (.int (2 : Int32)), s4] [(.ref r), (.ref r)])) rfl rfl (hb hby d1_144)
  have f11 : Exa Z h7 r "com/example/orrery/orrery/policy/RunningEnds" := (Exa.wr W7 (Exa.keep E_r Kc4))
  obtain ⟨T12, h12, X12, e12, W12, st12⟩ := putF X10 hx hZ hown (host := "") (Or.inl (hw _ (List.mem_of_getElem? (i := 18) rfl))) Via.refl e10 f9 f11 (Or.inl (hw _ (List.mem_of_getElem? (i := 19) rfl))) (hw _ (List.mem_of_getElem? (i := 1) rfl)) (ty := .int) (by decide) rfl rfl (g := (mkF m 149 #[.val (.ref r), .val (.double (FP.l2d w)), .second, .val (.int (2 : Int32)), s4] [(.int (3 : Int32)), (.ref r)])) rfl rfl (hb hby d1_149)
  have N13 := Fr.snoc X12 N8 g_r
  have Zc13 : n0 ≤ h12.size := by rw [Wr.size W12]; exact Zc8
  have Fw12 : Fld Z h12 r "com/example/orrery/orrery/policy/RunningEnds" "last" "I" (.int (3 : Int32)) := Fld.same W12 f9
  have f14 : Exa Z h12 r "com/example/orrery/orrery/policy/RunningEnds" := (Exa.wr W12 f11)
  have f15 : Fld Z h12 r "com/example/orrery/orrery/policy/RunningEnds" "ends" "[D" (.ref a) := (Fld.other W12 (Fld.other W7 f5 (Or.inl ne)) (Or.inr (slot_ne (t := (.array .double)) (t' := .int) (Or.inl (hw _ (List.mem_of_getElem? (i := 11) rfl))) (Or.inl (hw _ (List.mem_of_getElem? (i := 19) rfl))) (by decide) (by decide) (by decide))))
  have f16 : Fld Z h12 r "com/example/orrery/orrery/policy/RunningEnds" "first" "I" (.int f) := (Fld.other W12 (Fld.other W7 (Fld.keep F_f Kc4 (ninS ne nin0)) (Or.inl ne)) (Or.inr (slot_ne (t := .int) (t' := .int) (Or.inl (hw _ (List.mem_of_getElem? (i := 21) rfl))) (Or.inl (hw _ (List.mem_of_getElem? (i := 19) rfl))) (by decide) (by decide) (by decide))))
  have f17 : Arv Z h12 a k .double (4 : Int32) [(.double (FP.l2d y0)), (.double (FP.l2d y1)), (.double (FP.l2d w)), (.double (FP.l2d y3))] (.double (FP.l2d 0)) := (Arv.other V7 W12 (Ne.symm ne))
  refine ⟨T12, h12, _, X12, e12, Zc13, N13, ⟨f14, f15, f16, Fw12, f17⟩, fun t ht => ?_⟩
  show Steps p.tables e below (T0.setTop (mkF m 114 #[.val (.ref r), .val (.double (FP.l2d w)), .second, .val (.int (2 : Int32)), s4] [])) _
  refine XS.aloadN X0.here hx rfl (hb hby d1_114) rfl rfl ?_
  show Steps p.tables e below (T0.setTop (mkF m 115 #[.val (.ref r), .val (.double (FP.l2d w)), .second, .val (.int (2 : Int32)), s4] [(.ref r)])) _
  refine st1 _ ?_
  show Steps p.tables e below (T1.setTop (mkF m 118 #[.val (.ref r), .val (.double (FP.l2d w)), .second, .val (.int (2 : Int32)), s4] [(.ref a)])) _
  refine XS.iloadN X1.here hx rfl (hb hby d1_118) rfl ?_
  show Steps p.tables e below (T1.setTop (mkF m 119 #[.val (.ref r), .val (.double (FP.l2d w)), .second, .val (.int (2 : Int32)), s4] [(.int (2 : Int32)), (.ref a)])) _
  refine XS.aloadN X1.here hx rfl (hb hby d1_119) rfl rfl ?_
  show Steps p.tables e below (T1.setTop (mkF m 120 #[.val (.ref r), .val (.double (FP.l2d w)), .second, .val (.int (2 : Int32)), s4] [(.ref r), (.int (2 : Int32)), (.ref a)])) _
  refine st2 _ ?_
  show Steps p.tables e below (T2.setTop (mkF m 123 #[.val (.ref r), .val (.double (FP.l2d w)), .second, .val (.int (2 : Int32)), s4] [(.ref a), (.int (2 : Int32)), (.ref a)])) _
  refine XS.iloadN X2.here hx rfl (hb hby d1_123) rfl ?_
  show Steps p.tables e below (T2.setTop (mkF m 124 #[.val (.ref r), .val (.double (FP.l2d w)), .second, .val (.int (2 : Int32)), s4] [(.int (2 : Int32)), (.ref a), (.int (2 : Int32)), (.ref a)])) _
  refine XS.iconst X2.here hx rfl (hb hby d1_124) ?_
  show Steps p.tables e below (T2.setTop (mkF m 125 #[.val (.ref r), .val (.double (FP.l2d w)), .second, .val (.int (2 : Int32)), s4] [(.int (1 : Int32)), (.int (2 : Int32)), (.ref a), (.int (2 : Int32)), (.ref a)])) _
  refine XS.iadd X2.here hx rfl (hb hby d1_125) rfl ?_
  show Steps p.tables e below (T2.setTop (mkF m 126 #[.val (.ref r), .val (.double (FP.l2d w)), .second, .val (.int (2 : Int32)), s4] [(.int (3 : Int32)), (.ref a), (.int (2 : Int32)), (.ref a)])) _
  refine XS.aloadN X2.here hx rfl (hb hby d1_126) rfl rfl ?_
  show Steps p.tables e below (T2.setTop (mkF m 127 #[.val (.ref r), .val (.double (FP.l2d w)), .second, .val (.int (2 : Int32)), s4] [(.ref r), (.int (3 : Int32)), (.ref a), (.int (2 : Int32)), (.ref a)])) _
  refine st3 _ ?_
  show Steps p.tables e below (T3.setTop (mkF m 130 #[.val (.ref r), .val (.double (FP.l2d w)), .second, .val (.int (2 : Int32)), s4] [(.int (2 : Int32)), (.int (3 : Int32)), (.ref a), (.int (2 : Int32)), (.ref a)])) _
  refine XS.iloadN X3.here hx rfl (hb hby d1_130) rfl ?_
  show Steps p.tables e below (T3.setTop (mkF m 131 #[.val (.ref r), .val (.double (FP.l2d w)), .second, .val (.int (2 : Int32)), s4] [(.int (2 : Int32)), (.int (2 : Int32)), (.int (3 : Int32)), (.ref a), (.int (2 : Int32)), (.ref a)])) _
  refine XS.isub X3.here hx rfl (hb hby d1_131) rfl ?_
  show Steps p.tables e below (T3.setTop (mkF m 132 #[.val (.ref r), .val (.double (FP.l2d w)), .second, .val (.int (2 : Int32)), s4] [(.int (0 : Int32)), (.int (3 : Int32)), (.ref a), (.int (2 : Int32)), (.ref a)])) _
  refine st4 _ ?_
  show Steps p.tables e below (T4.setTop (mkF m 135 #[.val (.ref r), .val (.double (FP.l2d w)), .second, .val (.int (2 : Int32)), s4] [])) _
  refine XS.aloadN X4.here hx rfl (hb hby d1_135) rfl rfl ?_
  show Steps p.tables e below (T4.setTop (mkF m 136 #[.val (.ref r), .val (.double (FP.l2d w)), .second, .val (.int (2 : Int32)), s4] [(.ref r)])) _
  refine st6 _ ?_
  show Steps p.tables e below (T6.setTop (mkF m 139 #[.val (.ref r), .val (.double (FP.l2d w)), .second, .val (.int (2 : Int32)), s4] [(.ref a)])) _
  refine XS.iloadN X6.here hx rfl (hb hby d1_139) rfl ?_
  show Steps p.tables e below (T6.setTop (mkF m 140 #[.val (.ref r), .val (.double (FP.l2d w)), .second, .val (.int (2 : Int32)), s4] [(.int (2 : Int32)), (.ref a)])) _
  refine XS.dloadN X6.here hx rfl (hb hby d1_140) rfl ?_
  show Steps p.tables e below (T6.setTop (mkF m 141 #[.val (.ref r), .val (.double (FP.l2d w)), .second, .val (.int (2 : Int32)), s4] [(.double (FP.l2d w)), (.int (2 : Int32)), (.ref a)])) _
  refine st7 _ ?_
  show Steps p.tables e below (T7.setTop (mkF m 142 #[.val (.ref r), .val (.double (FP.l2d w)), .second, .val (.int (2 : Int32)), s4] [])) _
  refine XS.aloadN X7.here hx rfl (hb hby d1_142) rfl rfl ?_
  show Steps p.tables e below (T7.setTop (mkF m 143 #[.val (.ref r), .val (.double (FP.l2d w)), .second, .val (.int (2 : Int32)), s4] [(.ref r)])) _
  refine XS.dup X7.here hx rfl (hb hby d1_143) rfl rfl ?_
  show Steps p.tables e below (T7.setTop (mkF m 144 #[.val (.ref r), .val (.double (FP.l2d w)), .second, .val (.int (2 : Int32)), s4] [(.ref r), (.ref r)])) _
  refine st10 _ ?_
  show Steps p.tables e below (T10.setTop (mkF m 147 #[.val (.ref r), .val (.double (FP.l2d w)), .second, .val (.int (2 : Int32)), s4] [(.int (2 : Int32)), (.ref r)])) _
  refine XS.iconst X10.here hx rfl (hb hby d1_147) ?_
  show Steps p.tables e below (T10.setTop (mkF m 148 #[.val (.ref r), .val (.double (FP.l2d w)), .second, .val (.int (2 : Int32)), s4] [(.int (1 : Int32)), (.int (2 : Int32)), (.ref r)])) _
  refine XS.iadd X10.here hx rfl (hb hby d1_148) rfl ?_
  show Steps p.tables e below (T10.setTop (mkF m 149 #[.val (.ref r), .val (.double (FP.l2d w)), .second, .val (.int (2 : Int32)), s4] [(.int (3 : Int32)), (.ref r)])) _
  refine st12 _ ?_
  show Steps p.tables e below (T12.setTop (mkF m 152 #[.val (.ref r), .val (.double (FP.l2d w)), .second, .val (.int (2 : Int32)), s4] [])) _
  exact ht
set_option maxRecDepth 65536 in
set_option maxHeartbeats 40000000 in
theorem add_K410 (l : Launch) (Z : State) (a0 : Array Value) (hw : ∀ d ∈ tables_1, d.before a0 Z = true) {p : Program} {e : Env} {s : State} {m : MethodId} {args : Array Value} {below : List Frame} {meth : Method} {c : Code} (hx : p.tables.exec = Jvm.exec) (hZ : Z.Warmed39 s.vm) (hby : c.code = prog_11_method_3_code) (hml : c.maxLocals = 5) (hown : s.vm.findClass "com/example/orrery/orrery/policy/RunningEnds" = some m.cls) {T0 : State} {locs0 : List Loc} {R : Room} {cells0 slots0 : Nat} (X0 : Stand p l e R s m args below meth c T0 locs0 cells0 slots0) (r a : Addr) (k : ClassId) (f : Int32) (y0 y1 y2 y3 : Int64) (w : Int64) (s4 : Slot) (h0 : Heap) (n0 : Nat) (e0 : T0.heap = h0) (Z0 : n0 ≤ h0.size) (N0 : Fr n0 locs0) (hRf : 1 ≤ R.frames) (hRl : 18 ≤ R.locals) (g_r : n0 ≤ r) (g_a : n0 ≤ a) (ne : r ≠ a) (E_r : Exa Z h0 r "com/example/orrery/orrery/policy/RunningEnds") (F_e : Fld Z h0 r "com/example/orrery/orrery/policy/RunningEnds" "ends" "[D" (.ref a)) (F_f : Fld Z h0 r "com/example/orrery/orrery/policy/RunningEnds" "first" "I" (.int f)) (F_l : Fld Z h0 r "com/example/orrery/orrery/policy/RunningEnds" "last" "I" (.int (1 : Int32))) (V_a : Arv Z h0 a k .double (4 : Int32) [(.double (FP.l2d y0)), (.double (FP.l2d y1)), (.double (FP.l2d y2)), (.double (FP.l2d y3))] (.double (FP.l2d 0))) :
    ∃ (T1 : State) (h1 : Heap) (locs1 : List Loc), Stand p l e R s m args below meth c T1 locs1 cells0 slots0 ∧ T1.heap = h1 ∧ n0 ≤ h1.size ∧ Fr n0 locs1 ∧ (Exa Z h1 r "com/example/orrery/orrery/policy/RunningEnds" ∧ Fld Z h1 r "com/example/orrery/orrery/policy/RunningEnds" "ends" "[D" (.ref a) ∧ Fld Z h1 r "com/example/orrery/orrery/policy/RunningEnds" "first" "I" (.int f) ∧ Fld Z h1 r "com/example/orrery/orrery/policy/RunningEnds" "last" "I" (.int (2 : Int32)) ∧ Arv Z h1 a k .double (4 : Int32) [(.double (FP.l2d w)), (.double (FP.l2d y0)), (.double (FP.l2d y2)), (.double (FP.l2d y3))] (.double (FP.l2d 0))) ∧ ∀ t, Steps p.tables e below (T1.setTop (mkF m 152 #[.val (.ref r), .val (.double (FP.l2d w)), .second, .val (.int (0 : Int32)), s4] [])) t → Steps p.tables e below (T0.setTop (mkF m 114 #[.val (.ref r), .val (.double (FP.l2d w)), .second, .val (.int (0 : Int32)), s4] [])) t := by
  obtain ⟨T1, X1, e1, st1⟩ := getF X0 hx hZ hown (host := "") (Or.inl (hw _ (List.mem_of_getElem? (i := 10) rfl))) Via.refl e0 F_e (g := (mkF m 115 #[.val (.ref r), .val (.double (FP.l2d w)), .second, .val (.int (0 : Int32)), s4] [(.ref r)])) rfl rfl (hb hby d1_115)
  obtain ⟨T2, X2, e2, st2⟩ := getF X1 hx hZ hown (host := "") (Or.inl (hw _ (List.mem_of_getElem? (i := 10) rfl))) Via.refl e1 F_e (g := (mkF m 120 #[.val (.ref r), .val (.double (FP.l2d w)), .second, .val (.int (0 : Int32)), s4] [(.ref r), (.int (0 : Int32)), (.ref a)])) rfl rfl (hb hby d1_120)
  obtain ⟨T3, X3, e3, st3⟩ := getF X2 hx hZ hown (host := "") (Or.inl (hw _ (List.mem_of_getElem? (i := 18) rfl))) Via.refl e2 F_l (g := (mkF m 127 #[.val (.ref r), .val (.double (FP.l2d w)), .second, .val (.int (0 : Int32)), s4] [(.ref r), (.int (1 : Int32)), (.ref a), (.int (0 : Int32)), (.ref a)])) rfl rfl (hb hby d1_127)
  obtain ⟨T4, h4, L4, X4, e4, Na4, Kc4, Vr4, st4⟩ := cpA X3 hx hZ hown (hw _ (List.mem_of_getElem? (i := 22) rfl)) (hw _ (List.mem_of_getElem? (i := 25) rfl)) (hw _ (List.mem_of_getElem? (i := 23) rfl)) (hw _ (List.mem_of_getElem? (i := 24) rfl)) e3 (us := [(.double (FP.l2d y0))]) V_a V_a (Or.inl ⟨rfl, rfl⟩) (by decide) (by decide) (by decide) (by decide) (by decide) rfl (Nat.le_of_ble_eq_true rfl) N0 g_a (g := (mkF m 132 #[.val (.ref r), .val (.double (FP.l2d w)), .second, .val (.int (0 : Int32)), s4] [(.int (1 : Int32)), (.int (1 : Int32)), (.ref a), (.int (0 : Int32)), (.ref a)])) rfl (by rw [hml]; rfl) rfl (hb hby d1_132) (Nat.le_trans (by decide : _ ≤ 1) hRf) (W := 0) (by show 2 * 0 + _ ≤ _; exact Nat.le_of_eq rfl) (Nat.le_trans (by decide : _ ≤ 18) hRl)
  have Zc4 : n0 ≤ h4.size := Nat.le_trans Z0 Kc4.1
  have V4 : Arv Z h4 a k .double (4 : Int32) [(.double (FP.l2d y0)), (.double (FP.l2d y0)), (.double (FP.l2d y2)), (.double (FP.l2d y3))] (.double (FP.l2d 0)) := Vr4
  have f5 : Fld Z h4 r "com/example/orrery/orrery/policy/RunningEnds" "ends" "[D" (.ref a) := (Fld.keep F_e Kc4 (ninS ne nin0))
  obtain ⟨T6, X6, e6, st6⟩ := getF X4 hx hZ hown (host := "") (Or.inl (hw _ (List.mem_of_getElem? (i := 10) rfl))) Via.refl e4 f5 (g := (mkF m 136 #[.val (.ref r), .val (.double (FP.l2d w)), .second, .val (.int (0 : Int32)), s4] [(.ref r)])) rfl rfl (hb hby d1_136)
  obtain ⟨cl7, Ar7, q7, S7, M7, H7, G7⟩ := id V4
  obtain ⟨T7, h7, X7, e7, W7, st7⟩ := stD X6 hx hZ e6 Ar7 (j := (0 : Int32)) (inb_of S7 (by decide)) (g := (mkF m 141 #[.val (.ref r), .val (.double (FP.l2d w)), .second, .val (.int (0 : Int32)), s4] [(.double (FP.l2d w)), (.int (0 : Int32)), (.ref a)])) rfl rfl (hb hby d1_141)
  have N8 := Fr.snoc X7 Na4 g_a
  have Zc8 : n0 ≤ h7.size := by rw [Wr.size W7]; exact Zc4
  have V7 : Arv Z h7 a k .double (4 : Int32) [(.double (FP.l2d w)), (.double (FP.l2d y0)), (.double (FP.l2d y2)), (.double (FP.l2d y3))] (.double (FP.l2d 0)) := Arv.set Ar7 q7 S7 M7 H7 G7 rfl W7 0 rfl (Nat.le_of_ble_eq_true rfl)
  have f9 : Fld Z h7 r "com/example/orrery/orrery/policy/RunningEnds" "last" "I" (.int (1 : Int32)) := (Fld.other W7 (Fld.keep F_l Kc4 (ninS ne nin0)) (Or.inl ne))
  obtain ⟨T10, X10, e10, st10⟩ := getF X7 hx hZ hown (host := "") (Or.inl (hw _ (List.mem_of_getElem? (i := 18) rfl))) Via.refl e7 f9 (g := (mkF m 144 #[.val (.ref r), .val (.double (FP.l2d w)), .second, .val (.int (0 : Int32)), s4] [(.ref r), (.ref r)])) rfl rfl (hb hby d1_144)
  have f11 : Exa Z h7 r "com/example/orrery/orrery/policy/RunningEnds" := (Exa.wr W7 (Exa.keep E_r Kc4))
  obtain ⟨T12, h12, X12, e12, W12, st12⟩ := putF X10 hx hZ hown (host := "") (Or.inl (hw _ (List.mem_of_getElem? (i := 18) rfl))) Via.refl e10 f9 f11 (Or.inl (hw _ (List.mem_of_getElem? (i := 19) rfl))) (hw _ (List.mem_of_getElem? (i := 1) rfl)) (ty := .int) (by decide) rfl rfl (g := (mkF m 149 #[.val (.ref r), .val (.double (FP.l2d w)), .second, .val (.int (0 : Int32)), s4] [(.int (2 : Int32)), (.ref r)])) rfl rfl (hb hby d1_149)
  have N13 := Fr.snoc X12 N8 g_r
  have Zc13 : n0 ≤ h12.size := by rw [Wr.size W12]; exact Zc8
  have Fw12 : Fld Z h12 r "com/example/orrery/orrery/policy/RunningEnds" "last" "I" (.int (2 : Int32)) := Fld.same W12 f9
  have f14 : Exa Z h12 r "com/example/orrery/orrery/policy/RunningEnds" := (Exa.wr W12 f11)
  have f15 : Fld Z h12 r "com/example/orrery/orrery/policy/RunningEnds" "ends" "[D" (.ref a) := (Fld.other W12 (Fld.other W7 f5 (Or.inl ne)) (Or.inr (slot_ne (t := (.array .double)) (t' := .int) (Or.inl (hw _ (List.mem_of_getElem? (i := 11) rfl))) (Or.inl (hw _ (List.mem_of_getElem? (i := 19) rfl))) (by decide) (by decide) (by decide))))
  have f16 : Fld Z h12 r "com/example/orrery/orrery/policy/RunningEnds" "first" "I" (.int f) := (Fld.other W12 (Fld.other W7 (Fld.keep F_f Kc4 (ninS ne nin0)) (Or.inl ne)) (Or.inr (slot_ne (t := .int) (t' := .int) (Or.inl (hw _ (List.mem_of_getElem? (i := 21) rfl))) (Or.inl (hw _ (List.mem_of_getElem? (i := 19) rfl))) (by decide) (by decide) (by decide))))
  have f17 : Arv Z h12 a k .double (4 : Int32) [(.double (FP.l2d w)), (.double (FP.l2d y0)), (.double (FP.l2d y2)), (.double (FP.l2d y3))] (.double (FP.l2d 0)) := (Arv.other V7 W12 (Ne.symm ne))
  refine ⟨T12, h12, _, X12, e12, Zc13, N13, ⟨f14, f15, f16, Fw12, f17⟩, fun t ht => ?_⟩
  show Steps p.tables e below (T0.setTop (mkF m 114 #[.val (.ref r), .val (.double (FP.l2d w)), .second, .val (.int (0 : Int32)), s4] [])) _
  refine XS.aloadN X0.here hx rfl (hb hby d1_114) rfl rfl ?_
  show Steps p.tables e below (T0.setTop (mkF m 115 #[.val (.ref r), .val (.double (FP.l2d w)), .second, .val (.int (0 : Int32)), s4] [(.ref r)])) _
  refine st1 _ ?_
  show Steps p.tables e below (T1.setTop (mkF m 118 #[.val (.ref r), .val (.double (FP.l2d w)), .second, .val (.int (0 : Int32)), s4] [(.ref a)])) _
  refine XS.iloadN X1.here hx rfl (hb hby d1_118) rfl ?_
  show Steps p.tables e below (T1.setTop (mkF m 119 #[.val (.ref r), .val (.double (FP.l2d w)), .second, .val (.int (0 : Int32)), s4] [(.int (0 : Int32)), (.ref a)])) _
  refine XS.aloadN X1.here hx rfl (hb hby d1_119) rfl rfl ?_
  show Steps p.tables e below (T1.setTop (mkF m 120 #[.val (.ref r), .val (.double (FP.l2d w)), .second, .val (.int (0 : Int32)), s4] [(.ref r), (.int (0 : Int32)), (.ref a)])) _
  refine st2 _ ?_
  show Steps p.tables e below (T2.setTop (mkF m 123 #[.val (.ref r), .val (.double (FP.l2d w)), .second, .val (.int (0 : Int32)), s4] [(.ref a), (.int (0 : Int32)), (.ref a)])) _
  refine XS.iloadN X2.here hx rfl (hb hby d1_123) rfl ?_
  show Steps p.tables e below (T2.setTop (mkF m 124 #[.val (.ref r), .val (.double (FP.l2d w)), .second, .val (.int (0 : Int32)), s4] [(.int (0 : Int32)), (.ref a), (.int (0 : Int32)), (.ref a)])) _
  refine XS.iconst X2.here hx rfl (hb hby d1_124) ?_
  show Steps p.tables e below (T2.setTop (mkF m 125 #[.val (.ref r), .val (.double (FP.l2d w)), .second, .val (.int (0 : Int32)), s4] [(.int (1 : Int32)), (.int (0 : Int32)), (.ref a), (.int (0 : Int32)), (.ref a)])) _
  refine XS.iadd X2.here hx rfl (hb hby d1_125) rfl ?_
  show Steps p.tables e below (T2.setTop (mkF m 126 #[.val (.ref r), .val (.double (FP.l2d w)), .second, .val (.int (0 : Int32)), s4] [(.int (1 : Int32)), (.ref a), (.int (0 : Int32)), (.ref a)])) _
  refine XS.aloadN X2.here hx rfl (hb hby d1_126) rfl rfl ?_
  show Steps p.tables e below (T2.setTop (mkF m 127 #[.val (.ref r), .val (.double (FP.l2d w)), .second, .val (.int (0 : Int32)), s4] [(.ref r), (.int (1 : Int32)), (.ref a), (.int (0 : Int32)), (.ref a)])) _
  refine st3 _ ?_
  show Steps p.tables e below (T3.setTop (mkF m 130 #[.val (.ref r), .val (.double (FP.l2d w)), .second, .val (.int (0 : Int32)), s4] [(.int (1 : Int32)), (.int (1 : Int32)), (.ref a), (.int (0 : Int32)), (.ref a)])) _
  refine XS.iloadN X3.here hx rfl (hb hby d1_130) rfl ?_
  show Steps p.tables e below (T3.setTop (mkF m 131 #[.val (.ref r), .val (.double (FP.l2d w)), .second, .val (.int (0 : Int32)), s4] [(.int (0 : Int32)), (.int (1 : Int32)), (.int (1 : Int32)), (.ref a), (.int (0 : Int32)), (.ref a)])) _
  refine XS.isub X3.here hx rfl (hb hby d1_131) rfl ?_
  show Steps p.tables e below (T3.setTop (mkF m 132 #[.val (.ref r), .val (.double (FP.l2d w)), .second, .val (.int (0 : Int32)), s4] [(.int (1 : Int32)), (.int (1 : Int32)), (.ref a), (.int (0 : Int32)), (.ref a)])) _
  refine st4 _ ?_
  show Steps p.tables e below (T4.setTop (mkF m 135 #[.val (.ref r), .val (.double (FP.l2d w)), .second, .val (.int (0 : Int32)), s4] [])) _
  refine XS.aloadN X4.here hx rfl (hb hby d1_135) rfl rfl ?_
  show Steps p.tables e below (T4.setTop (mkF m 136 #[.val (.ref r), .val (.double (FP.l2d w)), .second, .val (.int (0 : Int32)), s4] [(.ref r)])) _
  refine st6 _ ?_
  show Steps p.tables e below (T6.setTop (mkF m 139 #[.val (.ref r), .val (.double (FP.l2d w)), .second, .val (.int (0 : Int32)), s4] [(.ref a)])) _
  refine XS.iloadN X6.here hx rfl (hb hby d1_139) rfl ?_
  show Steps p.tables e below (T6.setTop (mkF m 140 #[.val (.ref r), .val (.double (FP.l2d w)), .second, .val (.int (0 : Int32)), s4] [(.int (0 : Int32)), (.ref a)])) _
  refine XS.dloadN X6.here hx rfl (hb hby d1_140) rfl ?_
  show Steps p.tables e below (T6.setTop (mkF m 141 #[.val (.ref r), .val (.double (FP.l2d w)), .second, .val (.int (0 : Int32)), s4] [(.double (FP.l2d w)), (.int (0 : Int32)), (.ref a)])) _
  refine st7 _ ?_
  show Steps p.tables e below (T7.setTop (mkF m 142 #[.val (.ref r), .val (.double (FP.l2d w)), .second, .val (.int (0 : Int32)), s4] [])) _
  refine XS.aloadN X7.here hx rfl (hb hby d1_142) rfl rfl ?_
  show Steps p.tables e below (T7.setTop (mkF m 143 #[.val (.ref r), .val (.double (FP.l2d w)), .second, .val (.int (0 : Int32)), s4] [(.ref r)])) _
  refine XS.dup X7.here hx rfl (hb hby d1_143) rfl rfl ?_
  show Steps p.tables e below (T7.setTop (mkF m 144 #[.val (.ref r), .val (.double (FP.l2d w)), .second, .val (.int (0 : Int32)), s4] [(.ref r), (.ref r)])) _
  refine st10 _ ?_
  show Steps p.tables e below (T10.setTop (mkF m 147 #[.val (.ref r), .val (.double (FP.l2d w)), .second, .val (.int (0 : Int32)), s4] [(.int (1 : Int32)), (.ref r)])) _
  refine XS.iconst X10.here hx rfl (hb hby d1_147) ?_
  show Steps p.tables e below (T10.setTop (mkF m 148 #[.val (.ref r), .val (.double (FP.l2d w)), .second, .val (.int (0 : Int32)), s4] [(.int (1 : Int32)), (.int (1 : Int32)), (.ref r)])) _
  refine XS.iadd X10.here hx rfl (hb hby d1_148) rfl ?_
  show Steps p.tables e below (T10.setTop (mkF m 149 #[.val (.ref r), .val (.double (FP.l2d w)), .second, .val (.int (0 : Int32)), s4] [(.int (2 : Int32)), (.ref r)])) _
  refine st12 _ ?_
  show Steps p.tables e below (T12.setTop (mkF m 152 #[.val (.ref r), .val (.double (FP.l2d w)), .second, .val (.int (0 : Int32)), s4] [])) _
  exact ht
set_option maxRecDepth 65536 in
set_option maxHeartbeats 40000000 in
theorem add_K411 (l : Launch) (Z : State) (a0 : Array Value) (hw : ∀ d ∈ tables_1, d.before a0 Z = true) {p : Program} {e : Env} {s : State} {m : MethodId} {args : Array Value} {below : List Frame} {meth : Method} {c : Code} (hx : p.tables.exec = Jvm.exec) (hZ : Z.Warmed39 s.vm) (hby : c.code = prog_11_method_3_code) (hml : c.maxLocals = 5) (hown : s.vm.findClass "com/example/orrery/orrery/policy/RunningEnds" = some m.cls) {T0 : State} {locs0 : List Loc} {R : Room} {cells0 slots0 : Nat} (X0 : Stand p l e R s m args below meth c T0 locs0 cells0 slots0) (r a : Addr) (k : ClassId) (f : Int32) (y0 y1 y2 y3 : Int64) (w : Int64) (s4 : Slot) (h0 : Heap) (n0 : Nat) (e0 : T0.heap = h0) (Z0 : n0 ≤ h0.size) (N0 : Fr n0 locs0) (hRf : 1 ≤ R.frames) (hRl : 18 ≤ R.locals) (g_r : n0 ≤ r) (g_a : n0 ≤ a) (ne : r ≠ a) (E_r : Exa Z h0 r "com/example/orrery/orrery/policy/RunningEnds") (F_e : Fld Z h0 r "com/example/orrery/orrery/policy/RunningEnds" "ends" "[D" (.ref a)) (F_f : Fld Z h0 r "com/example/orrery/orrery/policy/RunningEnds" "first" "I" (.int f)) (F_l : Fld Z h0 r "com/example/orrery/orrery/policy/RunningEnds" "last" "I" (.int (1 : Int32))) (V_a : Arv Z h0 a k .double (4 : Int32) [(.double (FP.l2d y0)), (.double (FP.l2d y1)), (.double (FP.l2d y2)), (.double (FP.l2d y3))] (.double (FP.l2d 0))) :
    ∃ (T1 : State) (h1 : Heap) (locs1 : List Loc), Stand p l e R s m args below meth c T1 locs1 cells0 slots0 ∧ T1.heap = h1 ∧ n0 ≤ h1.size ∧ Fr n0 locs1 ∧ (Exa Z h1 r "com/example/orrery/orrery/policy/RunningEnds" ∧ Fld Z h1 r "com/example/orrery/orrery/policy/RunningEnds" "ends" "[D" (.ref a) ∧ Fld Z h1 r "com/example/orrery/orrery/policy/RunningEnds" "first" "I" (.int f) ∧ Fld Z h1 r "com/example/orrery/orrery/policy/RunningEnds" "last" "I" (.int (2 : Int32)) ∧ Arv Z h1 a k .double (4 : Int32) [(.double (FP.l2d y0)), (.double (FP.l2d w)), (.double (FP.l2d y2)), (.double (FP.l2d y3))] (.double (FP.l2d 0))) ∧ ∀ t, Steps p.tables e below (T1.setTop (mkF m 152 #[.val (.ref r), .val (.double (FP.l2d w)), .second, .val (.int (1 : Int32)), s4] [])) t → Steps p.tables e below (T0.setTop (mkF m 114 #[.val (.ref r), .val (.double (FP.l2d w)), .second, .val (.int (1 : Int32)), s4] [])) t := by
  obtain ⟨T1, X1, e1, st1⟩ := getF X0 hx hZ hown (host := "") (Or.inl (hw _ (List.mem_of_getElem? (i := 10) rfl))) Via.refl e0 F_e (g := (mkF m 115 #[.val (.ref r), .val (.double (FP.l2d w)), .second, .val (.int (1 : Int32)), s4] [(.ref r)])) rfl rfl (hb hby d1_115)
  obtain ⟨T2, X2, e2, st2⟩ := getF X1 hx hZ hown (host := "") (Or.inl (hw _ (List.mem_of_getElem? (i := 10) rfl))) Via.refl e1 F_e (g := (mkF m 120 #[.val (.ref r), .val (.double (FP.l2d w)), .second, .val (.int (1 : Int32)), s4] [(.ref r), (.int (1 : Int32)), (.ref a)])) rfl rfl (hb hby d1_120)
  obtain ⟨T3, X3, e3, st3⟩ := getF X2 hx hZ hown (host := "") (Or.inl (hw _ (List.mem_of_getElem? (i := 18) rfl))) Via.refl e2 F_l (g := (mkF m 127 #[.val (.ref r), .val (.double (FP.l2d w)), .second, .val (.int (1 : Int32)), s4] [(.ref r), (.int (2 : Int32)), (.ref a), (.int (1 : Int32)), (.ref a)])) rfl rfl (hb hby d1_127)
  obtain ⟨T4, h4, L4, X4, e4, Na4, Kc4, Vr4, st4⟩ := cpA X3 hx hZ hown (hw _ (List.mem_of_getElem? (i := 22) rfl)) (hw _ (List.mem_of_getElem? (i := 25) rfl)) (hw _ (List.mem_of_getElem? (i := 23) rfl)) (hw _ (List.mem_of_getElem? (i := 24) rfl)) e3 (us := []) V_a V_a (Or.inl ⟨rfl, rfl⟩) (by decide) (by decide) (by decide) (by decide) (by decide) rfl (Nat.le_of_ble_eq_true rfl) N0 g_a (g := (mkF m 132 #[.val (.ref r), .val (.double (FP.l2d w)), .second, .val (.int (1 : Int32)), s4] [(.int (0 : Int32)), (.int (2 : Int32)), (.ref a), (.int (1 : Int32)), (.ref a)])) rfl (by rw [hml]; rfl) rfl (hb hby d1_132) (Nat.le_trans (by decide : _ ≤ 1) hRf) (W := 0) (by show 2 * 0 + _ ≤ _; exact Nat.le_of_eq rfl) (Nat.le_trans (by decide : _ ≤ 18) hRl)
  have Zc4 : n0 ≤ h4.size := Nat.le_trans Z0 Kc4.1
  have V4 : Arv Z h4 a k .double (4 : Int32) [(.double (FP.l2d y0)), (.double (FP.l2d y1)), (.double (FP.l2d y2)), (.double (FP.l2d y3))] (.double (FP.l2d 0)) := Vr4
  have f5 : Fld Z h4 r "com/example/orrery/orrery/policy/RunningEnds" "ends" "[D" (.ref a) := (Fld.keep F_e Kc4 (ninS ne nin0))
  obtain ⟨T6, X6, e6, st6⟩ := getF X4 hx hZ hown (host := "") (Or.inl (hw _ (List.mem_of_getElem? (i := 10) rfl))) Via.refl e4 f5 (g := (mkF m 136 #[.val (.ref r), .val (.double (FP.l2d w)), .second, .val (.int (1 : Int32)), s4] [(.ref r)])) rfl rfl (hb hby d1_136)
  obtain ⟨cl7, Ar7, q7, S7, M7, H7, G7⟩ := id V4
  obtain ⟨T7, h7, X7, e7, W7, st7⟩ := stD X6 hx hZ e6 Ar7 (j := (1 : Int32)) (inb_of S7 (by decide)) (g := (mkF m 141 #[.val (.ref r), .val (.double (FP.l2d w)), .second, .val (.int (1 : Int32)), s4] [(.double (FP.l2d w)), (.int (1 : Int32)), (.ref a)])) rfl rfl (hb hby d1_141)
  have N8 := Fr.snoc X7 Na4 g_a
  have Zc8 : n0 ≤ h7.size := by rw [Wr.size W7]; exact Zc4
  have V7 : Arv Z h7 a k .double (4 : Int32) [(.double (FP.l2d y0)), (.double (FP.l2d w)), (.double (FP.l2d y2)), (.double (FP.l2d y3))] (.double (FP.l2d 0)) := Arv.set Ar7 q7 S7 M7 H7 G7 rfl W7 1 rfl (Nat.le_of_ble_eq_true rfl)
  have f9 : Fld Z h7 r "com/example/orrery/orrery/policy/RunningEnds" "last" "I" (.int (1 : Int32)) := (Fld.other W7 (Fld.keep F_l Kc4 (ninS ne nin0)) (Or.inl ne))
  obtain ⟨T10, X10, e10, st10⟩ := getF X7 hx hZ hown (host := "") (Or.inl (hw _ (List.mem_of_getElem? (i := 18) rfl))) Via.refl e7 f9 (g := (mkF m 144 #[.val (.ref r), .val (.double (FP.l2d w)), .second, .val (.int (1 : Int32)), s4] [(.ref r), (.ref r)])) rfl rfl (hb hby d1_144)
  have f11 : Exa Z h7 r "com/example/orrery/orrery/policy/RunningEnds" := (Exa.wr W7 (Exa.keep E_r Kc4))
  obtain ⟨T12, h12, X12, e12, W12, st12⟩ := putF X10 hx hZ hown (host := "") (Or.inl (hw _ (List.mem_of_getElem? (i := 18) rfl))) Via.refl e10 f9 f11 (Or.inl (hw _ (List.mem_of_getElem? (i := 19) rfl))) (hw _ (List.mem_of_getElem? (i := 1) rfl)) (ty := .int) (by decide) rfl rfl (g := (mkF m 149 #[.val (.ref r), .val (.double (FP.l2d w)), .second, .val (.int (1 : Int32)), s4] [(.int (2 : Int32)), (.ref r)])) rfl rfl (hb hby d1_149)
  have N13 := Fr.snoc X12 N8 g_r
  have Zc13 : n0 ≤ h12.size := by rw [Wr.size W12]; exact Zc8
  have Fw12 : Fld Z h12 r "com/example/orrery/orrery/policy/RunningEnds" "last" "I" (.int (2 : Int32)) := Fld.same W12 f9
  have f14 : Exa Z h12 r "com/example/orrery/orrery/policy/RunningEnds" := (Exa.wr W12 f11)
  have f15 : Fld Z h12 r "com/example/orrery/orrery/policy/RunningEnds" "ends" "[D" (.ref a) := (Fld.other W12 (Fld.other W7 f5 (Or.inl ne)) (Or.inr (slot_ne (t := (.array .double)) (t' := .int) (Or.inl (hw _ (List.mem_of_getElem? (i := 11) rfl))) (Or.inl (hw _ (List.mem_of_getElem? (i := 19) rfl))) (by decide) (by decide) (by decide))))
  have f16 : Fld Z h12 r "com/example/orrery/orrery/policy/RunningEnds" "first" "I" (.int f) := (Fld.other W12 (Fld.other W7 (Fld.keep F_f Kc4 (ninS ne nin0)) (Or.inl ne)) (Or.inr (slot_ne (t := .int) (t' := .int) (Or.inl (hw _ (List.mem_of_getElem? (i := 21) rfl))) (Or.inl (hw _ (List.mem_of_getElem? (i := 19) rfl))) (by decide) (by decide) (by decide))))
  have f17 : Arv Z h12 a k .double (4 : Int32) [(.double (FP.l2d y0)), (.double (FP.l2d w)), (.double (FP.l2d y2)), (.double (FP.l2d y3))] (.double (FP.l2d 0)) := (Arv.other V7 W12 (Ne.symm ne))
  refine ⟨T12, h12, _, X12, e12, Zc13, N13, ⟨f14, f15, f16, Fw12, f17⟩, fun t ht => ?_⟩
  show Steps p.tables e below (T0.setTop (mkF m 114 #[.val (.ref r), .val (.double (FP.l2d w)), .second, .val (.int (1 : Int32)), s4] [])) _
  refine XS.aloadN X0.here hx rfl (hb hby d1_114) rfl rfl ?_
  show Steps p.tables e below (T0.setTop (mkF m 115 #[.val (.ref r), .val (.double (FP.l2d w)), .second, .val (.int (1 : Int32)), s4] [(.ref r)])) _
  refine st1 _ ?_
  show Steps p.tables e below (T1.setTop (mkF m 118 #[.val (.ref r), .val (.double (FP.l2d w)), .second, .val (.int (1 : Int32)), s4] [(.ref a)])) _
  refine XS.iloadN X1.here hx rfl (hb hby d1_118) rfl ?_
  show Steps p.tables e below (T1.setTop (mkF m 119 #[.val (.ref r), .val (.double (FP.l2d w)), .second, .val (.int (1 : Int32)), s4] [(.int (1 : Int32)), (.ref a)])) _
  refine XS.aloadN X1.here hx rfl (hb hby d1_119) rfl rfl ?_
  show Steps p.tables e below (T1.setTop (mkF m 120 #[.val (.ref r), .val (.double (FP.l2d w)), .second, .val (.int (1 : Int32)), s4] [(.ref r), (.int (1 : Int32)), (.ref a)])) _
  refine st2 _ ?_
  show Steps p.tables e below (T2.setTop (mkF m 123 #[.val (.ref r), .val (.double (FP.l2d w)), .second, .val (.int (1 : Int32)), s4] [(.ref a), (.int (1 : Int32)), (.ref a)])) _
  refine XS.iloadN X2.here hx rfl (hb hby d1_123) rfl ?_
  show Steps p.tables e below (T2.setTop (mkF m 124 #[.val (.ref r), .val (.double (FP.l2d w)), .second, .val (.int (1 : Int32)), s4] [(.int (1 : Int32)), (.ref a), (.int (1 : Int32)), (.ref a)])) _
  refine XS.iconst X2.here hx rfl (hb hby d1_124) ?_
  show Steps p.tables e below (T2.setTop (mkF m 125 #[.val (.ref r), .val (.double (FP.l2d w)), .second, .val (.int (1 : Int32)), s4] [(.int (1 : Int32)), (.int (1 : Int32)), (.ref a), (.int (1 : Int32)), (.ref a)])) _
  refine XS.iadd X2.here hx rfl (hb hby d1_125) rfl ?_
  show Steps p.tables e below (T2.setTop (mkF m 126 #[.val (.ref r), .val (.double (FP.l2d w)), .second, .val (.int (1 : Int32)), s4] [(.int (2 : Int32)), (.ref a), (.int (1 : Int32)), (.ref a)])) _
  refine XS.aloadN X2.here hx rfl (hb hby d1_126) rfl rfl ?_
  show Steps p.tables e below (T2.setTop (mkF m 127 #[.val (.ref r), .val (.double (FP.l2d w)), .second, .val (.int (1 : Int32)), s4] [(.ref r), (.int (2 : Int32)), (.ref a), (.int (1 : Int32)), (.ref a)])) _
  refine st3 _ ?_
  show Steps p.tables e below (T3.setTop (mkF m 130 #[.val (.ref r), .val (.double (FP.l2d w)), .second, .val (.int (1 : Int32)), s4] [(.int (1 : Int32)), (.int (2 : Int32)), (.ref a), (.int (1 : Int32)), (.ref a)])) _
  refine XS.iloadN X3.here hx rfl (hb hby d1_130) rfl ?_
  show Steps p.tables e below (T3.setTop (mkF m 131 #[.val (.ref r), .val (.double (FP.l2d w)), .second, .val (.int (1 : Int32)), s4] [(.int (1 : Int32)), (.int (1 : Int32)), (.int (2 : Int32)), (.ref a), (.int (1 : Int32)), (.ref a)])) _
  refine XS.isub X3.here hx rfl (hb hby d1_131) rfl ?_
  show Steps p.tables e below (T3.setTop (mkF m 132 #[.val (.ref r), .val (.double (FP.l2d w)), .second, .val (.int (1 : Int32)), s4] [(.int (0 : Int32)), (.int (2 : Int32)), (.ref a), (.int (1 : Int32)), (.ref a)])) _
  refine st4 _ ?_
  show Steps p.tables e below (T4.setTop (mkF m 135 #[.val (.ref r), .val (.double (FP.l2d w)), .second, .val (.int (1 : Int32)), s4] [])) _
  refine XS.aloadN X4.here hx rfl (hb hby d1_135) rfl rfl ?_
  show Steps p.tables e below (T4.setTop (mkF m 136 #[.val (.ref r), .val (.double (FP.l2d w)), .second, .val (.int (1 : Int32)), s4] [(.ref r)])) _
  refine st6 _ ?_
  show Steps p.tables e below (T6.setTop (mkF m 139 #[.val (.ref r), .val (.double (FP.l2d w)), .second, .val (.int (1 : Int32)), s4] [(.ref a)])) _
  refine XS.iloadN X6.here hx rfl (hb hby d1_139) rfl ?_
  show Steps p.tables e below (T6.setTop (mkF m 140 #[.val (.ref r), .val (.double (FP.l2d w)), .second, .val (.int (1 : Int32)), s4] [(.int (1 : Int32)), (.ref a)])) _
  refine XS.dloadN X6.here hx rfl (hb hby d1_140) rfl ?_
  show Steps p.tables e below (T6.setTop (mkF m 141 #[.val (.ref r), .val (.double (FP.l2d w)), .second, .val (.int (1 : Int32)), s4] [(.double (FP.l2d w)), (.int (1 : Int32)), (.ref a)])) _
  refine st7 _ ?_
  show Steps p.tables e below (T7.setTop (mkF m 142 #[.val (.ref r), .val (.double (FP.l2d w)), .second, .val (.int (1 : Int32)), s4] [])) _
  refine XS.aloadN X7.here hx rfl (hb hby d1_142) rfl rfl ?_
  show Steps p.tables e below (T7.setTop (mkF m 143 #[.val (.ref r), .val (.double (FP.l2d w)), .second, .val (.int (1 : Int32)), s4] [(.ref r)])) _
  refine XS.dup X7.here hx rfl (hb hby d1_143) rfl rfl ?_
  show Steps p.tables e below (T7.setTop (mkF m 144 #[.val (.ref r), .val (.double (FP.l2d w)), .second, .val (.int (1 : Int32)), s4] [(.ref r), (.ref r)])) _
  refine st10 _ ?_
  show Steps p.tables e below (T10.setTop (mkF m 147 #[.val (.ref r), .val (.double (FP.l2d w)), .second, .val (.int (1 : Int32)), s4] [(.int (1 : Int32)), (.ref r)])) _
  refine XS.iconst X10.here hx rfl (hb hby d1_147) ?_
  show Steps p.tables e below (T10.setTop (mkF m 148 #[.val (.ref r), .val (.double (FP.l2d w)), .second, .val (.int (1 : Int32)), s4] [(.int (1 : Int32)), (.int (1 : Int32)), (.ref r)])) _
  refine XS.iadd X10.here hx rfl (hb hby d1_148) rfl ?_
  show Steps p.tables e below (T10.setTop (mkF m 149 #[.val (.ref r), .val (.double (FP.l2d w)), .second, .val (.int (1 : Int32)), s4] [(.int (2 : Int32)), (.ref r)])) _
  refine st12 _ ?_
  show Steps p.tables e below (T12.setTop (mkF m 152 #[.val (.ref r), .val (.double (FP.l2d w)), .second, .val (.int (1 : Int32)), s4] [])) _
  exact ht
set_option maxRecDepth 65536 in
set_option maxHeartbeats 40000000 in
theorem add_K430 (l : Launch) (Z : State) (a0 : Array Value) (hw : ∀ d ∈ tables_1, d.before a0 Z = true) {p : Program} {e : Env} {s : State} {m : MethodId} {args : Array Value} {below : List Frame} {meth : Method} {c : Code} (hx : p.tables.exec = Jvm.exec) (hZ : Z.Warmed39 s.vm) (hby : c.code = prog_11_method_3_code) (hml : c.maxLocals = 5) (hown : s.vm.findClass "com/example/orrery/orrery/policy/RunningEnds" = some m.cls) {T0 : State} {locs0 : List Loc} {R : Room} {cells0 slots0 : Nat} (X0 : Stand p l e R s m args below meth c T0 locs0 cells0 slots0) (r a : Addr) (k : ClassId) (f : Int32) (y0 y1 y2 y3 : Int64) (w : Int64) (s4 : Slot) (h0 : Heap) (n0 : Nat) (e0 : T0.heap = h0) (Z0 : n0 ≤ h0.size) (N0 : Fr n0 locs0) (hRf : 1 ≤ R.frames) (hRl : 18 ≤ R.locals) (g_r : n0 ≤ r) (g_a : n0 ≤ a) (ne : r ≠ a) (E_r : Exa Z h0 r "com/example/orrery/orrery/policy/RunningEnds") (F_e : Fld Z h0 r "com/example/orrery/orrery/policy/RunningEnds" "ends" "[D" (.ref a)) (F_f : Fld Z h0 r "com/example/orrery/orrery/policy/RunningEnds" "first" "I" (.int f)) (F_l : Fld Z h0 r "com/example/orrery/orrery/policy/RunningEnds" "last" "I" (.int (3 : Int32))) (V_a : Arv Z h0 a k .double (4 : Int32) [(.double (FP.l2d y0)), (.double (FP.l2d y1)), (.double (FP.l2d y2)), (.double (FP.l2d y3))] (.double (FP.l2d 0))) :
    ∃ (T1 : State) (h1 : Heap) (locs1 : List Loc), Stand p l e R s m args below meth c T1 locs1 cells0 slots0 ∧ T1.heap = h1 ∧ n0 ≤ h1.size ∧ Fr n0 locs1 ∧ (Exa Z h1 r "com/example/orrery/orrery/policy/RunningEnds" ∧ Fld Z h1 r "com/example/orrery/orrery/policy/RunningEnds" "ends" "[D" (.ref a) ∧ Fld Z h1 r "com/example/orrery/orrery/policy/RunningEnds" "first" "I" (.int f) ∧ Fld Z h1 r "com/example/orrery/orrery/policy/RunningEnds" "last" "I" (.int (4 : Int32)) ∧ Arv Z h1 a k .double (4 : Int32) [(.double (FP.l2d w)), (.double (FP.l2d y0)), (.double (FP.l2d y1)), (.double (FP.l2d y2))] (.double (FP.l2d 0))) ∧ ∀ t, Steps p.tables e below (T1.setTop (mkF m 152 #[.val (.ref r), .val (.double (FP.l2d w)), .second, .val (.int (0 : Int32)), s4] [])) t → Steps p.tables e below (T0.setTop (mkF m 114 #[.val (.ref r), .val (.double (FP.l2d w)), .second, .val (.int (0 : Int32)), s4] [])) t := by
  obtain ⟨T1, X1, e1, st1⟩ := getF X0 hx hZ hown (host := "") (Or.inl (hw _ (List.mem_of_getElem? (i := 10) rfl))) Via.refl e0 F_e (g := (mkF m 115 #[.val (.ref r), .val (.double (FP.l2d w)), .second, .val (.int (0 : Int32)), s4] [(.ref r)])) rfl rfl (hb hby d1_115)
  obtain ⟨T2, X2, e2, st2⟩ := getF X1 hx hZ hown (host := "") (Or.inl (hw _ (List.mem_of_getElem? (i := 10) rfl))) Via.refl e1 F_e (g := (mkF m 120 #[.val (.ref r), .val (.double (FP.l2d w)), .second, .val (.int (0 : Int32)), s4] [(.ref r), (.int (0 : Int32)), (.ref a)])) rfl rfl (hb hby d1_120)
  obtain ⟨T3, X3, e3, st3⟩ := getF X2 hx hZ hown (host := "") (Or.inl (hw _ (List.mem_of_getElem? (i := 18) rfl))) Via.refl e2 F_l (g := (mkF m 127 #[.val (.ref r), .val (.double (FP.l2d w)), .second, .val (.int (0 : Int32)), s4] [(.ref r), (.int (1 : Int32)), (.ref a), (.int (0 : Int32)), (.ref a)])) rfl rfl (hb hby d1_127)
  obtain ⟨T4, h4, L4, X4, e4, Na4, Kc4, Vr4, st4⟩ := cpA X3 hx hZ hown (hw _ (List.mem_of_getElem? (i := 22) rfl)) (hw _ (List.mem_of_getElem? (i := 25) rfl)) (hw _ (List.mem_of_getElem? (i := 23) rfl)) (hw _ (List.mem_of_getElem? (i := 24) rfl)) e3 (us := [(.double (FP.l2d y0)), (.double (FP.l2d y1)), (.double (FP.l2d y2))]) V_a V_a (Or.inl ⟨rfl, rfl⟩) (by decide) (by decide) (by decide) (by decide) (by decide) rfl (Nat.le_of_ble_eq_true rfl) N0 g_a (g := (mkF m 132 #[.val (.ref r), .val (.double (FP.l2d w)), .second, .val (.int (0 : Int32)), s4] [(.int (3 : Int32)), (.int (1 : Int32)), (.ref a), (.int (0 : Int32)), (.ref a)])) rfl (by rw [hml]; rfl) rfl (hb hby d1_132) (Nat.le_trans (by decide : _ ≤ 1) hRf) (W := 0) (by show 2 * 0 + _ ≤ _; exact Nat.le_of_eq rfl) (Nat.le_trans (by decide : _ ≤ 18) hRl)
  have Zc4 : n0 ≤ h4.size := Nat.le_trans Z0 Kc4.1
  have V4 : Arv Z h4 a k .double (4 : Int32) [(.double (FP.l2d y0)), (.double (FP.l2d y0)), (.double (FP.l2d y1)), (.double (FP.l2d y2))] (.double (FP.l2d 0)) := Vr4
  have f5 : Fld Z h4 r "com/example/orrery/orrery/policy/RunningEnds" "ends" "[D" (.ref a) := (Fld.keep F_e Kc4 (ninS ne nin0))
  obtain ⟨T6, X6, e6, st6⟩ := getF X4 hx hZ hown (host := "") (Or.inl (hw _ (List.mem_of_getElem? (i := 10) rfl))) Via.refl e4 f5 (g := (mkF m 136 #[.val (.ref r), .val (.double (FP.l2d w)), .second, .val (.int (0 : Int32)), s4] [(.ref r)])) rfl rfl (hb hby d1_136)
  obtain ⟨cl7, Ar7, q7, S7, M7, H7, G7⟩ := id V4
  obtain ⟨T7, h7, X7, e7, W7, st7⟩ := stD X6 hx hZ e6 Ar7 (j := (0 : Int32)) (inb_of S7 (by decide)) (g := (mkF m 141 #[.val (.ref r), .val (.double (FP.l2d w)), .second, .val (.int (0 : Int32)), s4] [(.double (FP.l2d w)), (.int (0 : Int32)), (.ref a)])) rfl rfl (hb hby d1_141)
  have N8 := Fr.snoc X7 Na4 g_a
  have Zc8 : n0 ≤ h7.size := by rw [Wr.size W7]; exact Zc4
  have V7 : Arv Z h7 a k .double (4 : Int32) [(.double (FP.l2d w)), (.double (FP.l2d y0)), (.double (FP.l2d y1)), (.double (FP.l2d y2))] (.double (FP.l2d 0)) := Arv.set Ar7 q7 S7 M7 H7 G7 rfl W7 0 rfl (Nat.le_of_ble_eq_true rfl)
  have f9 : Fld Z h7 r "com/example/orrery/orrery/policy/RunningEnds" "last" "I" (.int (3 : Int32)) := (Fld.other W7 (Fld.keep F_l Kc4 (ninS ne nin0)) (Or.inl ne))
  obtain ⟨T10, X10, e10, st10⟩ := getF X7 hx hZ hown (host := "") (Or.inl (hw _ (List.mem_of_getElem? (i := 18) rfl))) Via.refl e7 f9 (g := (mkF m 144 #[.val (.ref r), .val (.double (FP.l2d w)), .second, .val (.int (0 : Int32)), s4] [(.ref r), (.ref r)])) rfl rfl (hb hby d1_144)
  have f11 : Exa Z h7 r "com/example/orrery/orrery/policy/RunningEnds" := (Exa.wr W7 (Exa.keep E_r Kc4))
  obtain ⟨T12, h12, X12, e12, W12, st12⟩ := putF X10 hx hZ hown (host := "") (Or.inl (hw _ (List.mem_of_getElem? (i := 18) rfl))) Via.refl e10 f9 f11 (Or.inl (hw _ (List.mem_of_getElem? (i := 19) rfl))) (hw _ (List.mem_of_getElem? (i := 1) rfl)) (ty := .int) (by decide) rfl rfl (g := (mkF m 149 #[.val (.ref r), .val (.double (FP.l2d w)), .second, .val (.int (0 : Int32)), s4] [(.int (4 : Int32)), (.ref r)])) rfl rfl (hb hby d1_149)
  have N13 := Fr.snoc X12 N8 g_r
  have Zc13 : n0 ≤ h12.size := by rw [Wr.size W12]; exact Zc8
  have Fw12 : Fld Z h12 r "com/example/orrery/orrery/policy/RunningEnds" "last" "I" (.int (4 : Int32)) := Fld.same W12 f9
  have f14 : Exa Z h12 r "com/example/orrery/orrery/policy/RunningEnds" := (Exa.wr W12 f11)
  have f15 : Fld Z h12 r "com/example/orrery/orrery/policy/RunningEnds" "ends" "[D" (.ref a) := (Fld.other W12 (Fld.other W7 f5 (Or.inl ne)) (Or.inr (slot_ne (t := (.array .double)) (t' := .int) (Or.inl (hw _ (List.mem_of_getElem? (i := 11) rfl))) (Or.inl (hw _ (List.mem_of_getElem? (i := 19) rfl))) (by decide) (by decide) (by decide))))
  have f16 : Fld Z h12 r "com/example/orrery/orrery/policy/RunningEnds" "first" "I" (.int f) := (Fld.other W12 (Fld.other W7 (Fld.keep F_f Kc4 (ninS ne nin0)) (Or.inl ne)) (Or.inr (slot_ne (t := .int) (t' := .int) (Or.inl (hw _ (List.mem_of_getElem? (i := 21) rfl))) (Or.inl (hw _ (List.mem_of_getElem? (i := 19) rfl))) (by decide) (by decide) (by decide))))
  have f17 : Arv Z h12 a k .double (4 : Int32) [(.double (FP.l2d w)), (.double (FP.l2d y0)), (.double (FP.l2d y1)), (.double (FP.l2d y2))] (.double (FP.l2d 0)) := (Arv.other V7 W12 (Ne.symm ne))
  refine ⟨T12, h12, _, X12, e12, Zc13, N13, ⟨f14, f15, f16, Fw12, f17⟩, fun t ht => ?_⟩
  show Steps p.tables e below (T0.setTop (mkF m 114 #[.val (.ref r), .val (.double (FP.l2d w)), .second, .val (.int (0 : Int32)), s4] [])) _
  refine XS.aloadN X0.here hx rfl (hb hby d1_114) rfl rfl ?_
  show Steps p.tables e below (T0.setTop (mkF m 115 #[.val (.ref r), .val (.double (FP.l2d w)), .second, .val (.int (0 : Int32)), s4] [(.ref r)])) _
  refine st1 _ ?_
  show Steps p.tables e below (T1.setTop (mkF m 118 #[.val (.ref r), .val (.double (FP.l2d w)), .second, .val (.int (0 : Int32)), s4] [(.ref a)])) _
  refine XS.iloadN X1.here hx rfl (hb hby d1_118) rfl ?_
  show Steps p.tables e below (T1.setTop (mkF m 119 #[.val (.ref r), .val (.double (FP.l2d w)), .second, .val (.int (0 : Int32)), s4] [(.int (0 : Int32)), (.ref a)])) _
  refine XS.aloadN X1.here hx rfl (hb hby d1_119) rfl rfl ?_
  show Steps p.tables e below (T1.setTop (mkF m 120 #[.val (.ref r), .val (.double (FP.l2d w)), .second, .val (.int (0 : Int32)), s4] [(.ref r), (.int (0 : Int32)), (.ref a)])) _
  refine st2 _ ?_
  show Steps p.tables e below (T2.setTop (mkF m 123 #[.val (.ref r), .val (.double (FP.l2d w)), .second, .val (.int (0 : Int32)), s4] [(.ref a), (.int (0 : Int32)), (.ref a)])) _
  refine XS.iloadN X2.here hx rfl (hb hby d1_123) rfl ?_
  show Steps p.tables e below (T2.setTop (mkF m 124 #[.val (.ref r), .val (.double (FP.l2d w)), .second, .val (.int (0 : Int32)), s4] [(.int (0 : Int32)), (.ref a), (.int (0 : Int32)), (.ref a)])) _
  refine XS.iconst X2.here hx rfl (hb hby d1_124) ?_
  show Steps p.tables e below (T2.setTop (mkF m 125 #[.val (.ref r), .val (.double (FP.l2d w)), .second, .val (.int (0 : Int32)), s4] [(.int (1 : Int32)), (.int (0 : Int32)), (.ref a), (.int (0 : Int32)), (.ref a)])) _
  refine XS.iadd X2.here hx rfl (hb hby d1_125) rfl ?_
  show Steps p.tables e below (T2.setTop (mkF m 126 #[.val (.ref r), .val (.double (FP.l2d w)), .second, .val (.int (0 : Int32)), s4] [(.int (1 : Int32)), (.ref a), (.int (0 : Int32)), (.ref a)])) _
  refine XS.aloadN X2.here hx rfl (hb hby d1_126) rfl rfl ?_
  show Steps p.tables e below (T2.setTop (mkF m 127 #[.val (.ref r), .val (.double (FP.l2d w)), .second, .val (.int (0 : Int32)), s4] [(.ref r), (.int (1 : Int32)), (.ref a), (.int (0 : Int32)), (.ref a)])) _
  refine st3 _ ?_
  show Steps p.tables e below (T3.setTop (mkF m 130 #[.val (.ref r), .val (.double (FP.l2d w)), .second, .val (.int (0 : Int32)), s4] [(.int (3 : Int32)), (.int (1 : Int32)), (.ref a), (.int (0 : Int32)), (.ref a)])) _
  refine XS.iloadN X3.here hx rfl (hb hby d1_130) rfl ?_
  show Steps p.tables e below (T3.setTop (mkF m 131 #[.val (.ref r), .val (.double (FP.l2d w)), .second, .val (.int (0 : Int32)), s4] [(.int (0 : Int32)), (.int (3 : Int32)), (.int (1 : Int32)), (.ref a), (.int (0 : Int32)), (.ref a)])) _
  refine XS.isub X3.here hx rfl (hb hby d1_131) rfl ?_
  show Steps p.tables e below (T3.setTop (mkF m 132 #[.val (.ref r), .val (.double (FP.l2d w)), .second, .val (.int (0 : Int32)), s4] [(.int (3 : Int32)), (.int (1 : Int32)), (.ref a), (.int (0 : Int32)), (.ref a)])) _
  refine st4 _ ?_
  show Steps p.tables e below (T4.setTop (mkF m 135 #[.val (.ref r), .val (.double (FP.l2d w)), .second, .val (.int (0 : Int32)), s4] [])) _
  refine XS.aloadN X4.here hx rfl (hb hby d1_135) rfl rfl ?_
  show Steps p.tables e below (T4.setTop (mkF m 136 #[.val (.ref r), .val (.double (FP.l2d w)), .second, .val (.int (0 : Int32)), s4] [(.ref r)])) _
  refine st6 _ ?_
  show Steps p.tables e below (T6.setTop (mkF m 139 #[.val (.ref r), .val (.double (FP.l2d w)), .second, .val (.int (0 : Int32)), s4] [(.ref a)])) _
  refine XS.iloadN X6.here hx rfl (hb hby d1_139) rfl ?_
  show Steps p.tables e below (T6.setTop (mkF m 140 #[.val (.ref r), .val (.double (FP.l2d w)), .second, .val (.int (0 : Int32)), s4] [(.int (0 : Int32)), (.ref a)])) _
  refine XS.dloadN X6.here hx rfl (hb hby d1_140) rfl ?_
  show Steps p.tables e below (T6.setTop (mkF m 141 #[.val (.ref r), .val (.double (FP.l2d w)), .second, .val (.int (0 : Int32)), s4] [(.double (FP.l2d w)), (.int (0 : Int32)), (.ref a)])) _
  refine st7 _ ?_
  show Steps p.tables e below (T7.setTop (mkF m 142 #[.val (.ref r), .val (.double (FP.l2d w)), .second, .val (.int (0 : Int32)), s4] [])) _
  refine XS.aloadN X7.here hx rfl (hb hby d1_142) rfl rfl ?_
  show Steps p.tables e below (T7.setTop (mkF m 143 #[.val (.ref r), .val (.double (FP.l2d w)), .second, .val (.int (0 : Int32)), s4] [(.ref r)])) _
  refine XS.dup X7.here hx rfl (hb hby d1_143) rfl rfl ?_
  show Steps p.tables e below (T7.setTop (mkF m 144 #[.val (.ref r), .val (.double (FP.l2d w)), .second, .val (.int (0 : Int32)), s4] [(.ref r), (.ref r)])) _
  refine st10 _ ?_
  show Steps p.tables e below (T10.setTop (mkF m 147 #[.val (.ref r), .val (.double (FP.l2d w)), .second, .val (.int (0 : Int32)), s4] [(.int (3 : Int32)), (.ref r)])) _
  refine XS.iconst X10.here hx rfl (hb hby d1_147) ?_
  show Steps p.tables e below (T10.setTop (mkF m 148 #[.val (.ref r), .val (.double (FP.l2d w)), .second, .val (.int (0 : Int32)), s4] [(.int (1 : Int32)), (.int (3 : Int32)), (.ref r)])) _
  refine XS.iadd X10.here hx rfl (hb hby d1_148) rfl ?_
  show Steps p.tables e below (T10.setTop (mkF m 149 #[.val (.ref r), .val (.double (FP.l2d w)), .second, .val (.int (0 : Int32)), s4] [(.int (4 : Int32)), (.ref r)])) _
  refine st12 _ ?_
  show Steps p.tables e below (T12.setTop (mkF m 152 #[.val (.ref r), .val (.double (FP.l2d w)), .second, .val (.int (0 : Int32)), s4] [])) _
  exact ht
set_option maxRecDepth 65536 in
set_option maxHeartbeats 40000000 in
theorem add_K431 (l : Launch) (Z : State) (a0 : Array Value) (hw : ∀ d ∈ tables_1, d.before a0 Z = true) {p : Program} {e : Env} {s : State} {m : MethodId} {args : Array Value} {below : List Frame} {meth : Method} {c : Code} (hx : p.tables.exec = Jvm.exec) (hZ : Z.Warmed39 s.vm) (hby : c.code = prog_11_method_3_code) (hml : c.maxLocals = 5) (hown : s.vm.findClass "com/example/orrery/orrery/policy/RunningEnds" = some m.cls) {T0 : State} {locs0 : List Loc} {R : Room} {cells0 slots0 : Nat} (X0 : Stand p l e R s m args below meth c T0 locs0 cells0 slots0) (r a : Addr) (k : ClassId) (f : Int32) (y0 y1 y2 y3 : Int64) (w : Int64) (s4 : Slot) (h0 : Heap) (n0 : Nat) (e0 : T0.heap = h0) (Z0 : n0 ≤ h0.size) (N0 : Fr n0 locs0) (hRf : 1 ≤ R.frames) (hRl : 18 ≤ R.locals) (g_r : n0 ≤ r) (g_a : n0 ≤ a) (ne : r ≠ a) (E_r : Exa Z h0 r "com/example/orrery/orrery/policy/RunningEnds") (F_e : Fld Z h0 r "com/example/orrery/orrery/policy/RunningEnds" "ends" "[D" (.ref a)) (F_f : Fld Z h0 r "com/example/orrery/orrery/policy/RunningEnds" "first" "I" (.int f)) (F_l : Fld Z h0 r "com/example/orrery/orrery/policy/RunningEnds" "last" "I" (.int (3 : Int32))) (V_a : Arv Z h0 a k .double (4 : Int32) [(.double (FP.l2d y0)), (.double (FP.l2d y1)), (.double (FP.l2d y2)), (.double (FP.l2d y3))] (.double (FP.l2d 0))) :
    ∃ (T1 : State) (h1 : Heap) (locs1 : List Loc), Stand p l e R s m args below meth c T1 locs1 cells0 slots0 ∧ T1.heap = h1 ∧ n0 ≤ h1.size ∧ Fr n0 locs1 ∧ (Exa Z h1 r "com/example/orrery/orrery/policy/RunningEnds" ∧ Fld Z h1 r "com/example/orrery/orrery/policy/RunningEnds" "ends" "[D" (.ref a) ∧ Fld Z h1 r "com/example/orrery/orrery/policy/RunningEnds" "first" "I" (.int f) ∧ Fld Z h1 r "com/example/orrery/orrery/policy/RunningEnds" "last" "I" (.int (4 : Int32)) ∧ Arv Z h1 a k .double (4 : Int32) [(.double (FP.l2d y0)), (.double (FP.l2d w)), (.double (FP.l2d y1)), (.double (FP.l2d y2))] (.double (FP.l2d 0))) ∧ ∀ t, Steps p.tables e below (T1.setTop (mkF m 152 #[.val (.ref r), .val (.double (FP.l2d w)), .second, .val (.int (1 : Int32)), s4] [])) t → Steps p.tables e below (T0.setTop (mkF m 114 #[.val (.ref r), .val (.double (FP.l2d w)), .second, .val (.int (1 : Int32)), s4] [])) t := by
  obtain ⟨T1, X1, e1, st1⟩ := getF X0 hx hZ hown (host := "") (Or.inl (hw _ (List.mem_of_getElem? (i := 10) rfl))) Via.refl e0 F_e (g := (mkF m 115 #[.val (.ref r), .val (.double (FP.l2d w)), .second, .val (.int (1 : Int32)), s4] [(.ref r)])) rfl rfl (hb hby d1_115)
  obtain ⟨T2, X2, e2, st2⟩ := getF X1 hx hZ hown (host := "") (Or.inl (hw _ (List.mem_of_getElem? (i := 10) rfl))) Via.refl e1 F_e (g := (mkF m 120 #[.val (.ref r), .val (.double (FP.l2d w)), .second, .val (.int (1 : Int32)), s4] [(.ref r), (.int (1 : Int32)), (.ref a)])) rfl rfl (hb hby d1_120)
  obtain ⟨T3, X3, e3, st3⟩ := getF X2 hx hZ hown (host := "") (Or.inl (hw _ (List.mem_of_getElem? (i := 18) rfl))) Via.refl e2 F_l (g := (mkF m 127 #[.val (.ref r), .val (.double (FP.l2d w)), .second, .val (.int (1 : Int32)), s4] [(.ref r), (.int (2 : Int32)), (.ref a), (.int (1 : Int32)), (.ref a)])) rfl rfl (hb hby d1_127)
  obtain ⟨T4, h4, L4, X4, e4, Na4, Kc4, Vr4, st4⟩ := cpA X3 hx hZ hown (hw _ (List.mem_of_getElem? (i := 22) rfl)) (hw _ (List.mem_of_getElem? (i := 25) rfl)) (hw _ (List.mem_of_getElem? (i := 23) rfl)) (hw _ (List.mem_of_getElem? (i := 24) rfl)) e3 (us := [(.double (FP.l2d y1)), (.double (FP.l2d y2))]) V_a V_a (Or.inl ⟨rfl, rfl⟩) (by decide) (by decide) (by decide) (by decide) (by decide) rfl (Nat.le_of_ble_eq_true rfl) N0 g_a (g := (mkF m 132 #[.val (.ref r), .val (.double (FP.l2d w)), .second, .val (.int (1 : Int32)), s4] [(.int (2 : Int32)), (.int (2 : Int32)), (.ref a), (.int (1 : Int32)), (.ref a)])) rfl (by rw [hml]; rfl) rfl (hb hby d1_132) (Nat.le_trans (by decide : _ ≤ 1) hRf) (W := 0) (by show 2 * 0 + _ ≤ _; exact Nat.le_of_eq rfl) (Nat.le_trans (by decide : _ ≤ 18) hRl)
  have Zc4 : n0 ≤ h4.size := Nat.le_trans Z0 Kc4.1
  have V4 : Arv Z h4 a k .double (4 : Int32) [(.double (FP.l2d y0)), (.double (FP.l2d y1)), (.double (FP.l2d y1)), (.double (FP.l2d y2))] (.double (FP.l2d 0)) := Vr4
  have f5 : Fld Z h4 r "com/example/orrery/orrery/policy/RunningEnds" "ends" "[D" (.ref a) := (Fld.keep F_e Kc4 (ninS ne nin0))
  obtain ⟨T6, X6, e6, st6⟩ := getF X4 hx hZ hown (host := "") (Or.inl (hw _ (List.mem_of_getElem? (i := 10) rfl))) Via.refl e4 f5 (g := (mkF m 136 #[.val (.ref r), .val (.double (FP.l2d w)), .second, .val (.int (1 : Int32)), s4] [(.ref r)])) rfl rfl (hb hby d1_136)
  obtain ⟨cl7, Ar7, q7, S7, M7, H7, G7⟩ := id V4
  obtain ⟨T7, h7, X7, e7, W7, st7⟩ := stD X6 hx hZ e6 Ar7 (j := (1 : Int32)) (inb_of S7 (by decide)) (g := (mkF m 141 #[.val (.ref r), .val (.double (FP.l2d w)), .second, .val (.int (1 : Int32)), s4] [(.double (FP.l2d w)), (.int (1 : Int32)), (.ref a)])) rfl rfl (hb hby d1_141)
  have N8 := Fr.snoc X7 Na4 g_a
  have Zc8 : n0 ≤ h7.size := by rw [Wr.size W7]; exact Zc4
  have V7 : Arv Z h7 a k .double (4 : Int32) [(.double (FP.l2d y0)), (.double (FP.l2d w)), (.double (FP.l2d y1)), (.double (FP.l2d y2))] (.double (FP.l2d 0)) := Arv.set Ar7 q7 S7 M7 H7 G7 rfl W7 1 rfl (Nat.le_of_ble_eq_true rfl)
  have f9 : Fld Z h7 r "com/example/orrery/orrery/policy/RunningEnds" "last" "I" (.int (3 : Int32)) := (Fld.other W7 (Fld.keep F_l Kc4 (ninS ne nin0)) (Or.inl ne))
  obtain ⟨T10, X10, e10, st10⟩ := getF X7 hx hZ hown (host := "") (Or.inl (hw _ (List.mem_of_getElem? (i := 18) rfl))) Via.refl e7 f9 (g := (mkF m 144 #[.val (.ref r), .val (.double (FP.l2d w)), .second, .val (.int (1 : Int32)), s4] [(.ref r), (.ref r)])) rfl rfl (hb hby d1_144)
  have f11 : Exa Z h7 r "com/example/orrery/orrery/policy/RunningEnds" := (Exa.wr W7 (Exa.keep E_r Kc4))
  obtain ⟨T12, h12, X12, e12, W12, st12⟩ := putF X10 hx hZ hown (host := "") (Or.inl (hw _ (List.mem_of_getElem? (i := 18) rfl))) Via.refl e10 f9 f11 (Or.inl (hw _ (List.mem_of_getElem? (i := 19) rfl))) (hw _ (List.mem_of_getElem? (i := 1) rfl)) (ty := .int) (by decide) rfl rfl (g := (mkF m 149 #[.val (.ref r), .val (.double (FP.l2d w)), .second, .val (.int (1 : Int32)), s4] [(.int (4 : Int32)), (.ref r)])) rfl rfl (hb hby d1_149)
  have N13 := Fr.snoc X12 N8 g_r
  have Zc13 : n0 ≤ h12.size := by rw [Wr.size W12]; exact Zc8
  have Fw12 : Fld Z h12 r "com/example/orrery/orrery/policy/RunningEnds" "last" "I" (.int (4 : Int32)) := Fld.same W12 f9
  have f14 : Exa Z h12 r "com/example/orrery/orrery/policy/RunningEnds" := (Exa.wr W12 f11)
  have f15 : Fld Z h12 r "com/example/orrery/orrery/policy/RunningEnds" "ends" "[D" (.ref a) := (Fld.other W12 (Fld.other W7 f5 (Or.inl ne)) (Or.inr (slot_ne (t := (.array .double)) (t' := .int) (Or.inl (hw _ (List.mem_of_getElem? (i := 11) rfl))) (Or.inl (hw _ (List.mem_of_getElem? (i := 19) rfl))) (by decide) (by decide) (by decide))))
  have f16 : Fld Z h12 r "com/example/orrery/orrery/policy/RunningEnds" "first" "I" (.int f) := (Fld.other W12 (Fld.other W7 (Fld.keep F_f Kc4 (ninS ne nin0)) (Or.inl ne)) (Or.inr (slot_ne (t := .int) (t' := .int) (Or.inl (hw _ (List.mem_of_getElem? (i := 21) rfl))) (Or.inl (hw _ (List.mem_of_getElem? (i := 19) rfl))) (by decide) (by decide) (by decide))))
  have f17 : Arv Z h12 a k .double (4 : Int32) [(.double (FP.l2d y0)), (.double (FP.l2d w)), (.double (FP.l2d y1)), (.double (FP.l2d y2))] (.double (FP.l2d 0)) := (Arv.other V7 W12 (Ne.symm ne))
  refine ⟨T12, h12, _, X12, e12, Zc13, N13, ⟨f14, f15, f16, Fw12, f17⟩, fun t ht => ?_⟩
  show Steps p.tables e below (T0.setTop (mkF m 114 #[.val (.ref r), .val (.double (FP.l2d w)), .second, .val (.int (1 : Int32)), s4] [])) _
  refine XS.aloadN X0.here hx rfl (hb hby d1_114) rfl rfl ?_
  show Steps p.tables e below (T0.setTop (mkF m 115 #[.val (.ref r), .val (.double (FP.l2d w)), .second, .val (.int (1 : Int32)), s4] [(.ref r)])) _
  refine st1 _ ?_
  show Steps p.tables e below (T1.setTop (mkF m 118 #[.val (.ref r), .val (.double (FP.l2d w)), .second, .val (.int (1 : Int32)), s4] [(.ref a)])) _
  refine XS.iloadN X1.here hx rfl (hb hby d1_118) rfl ?_
  show Steps p.tables e below (T1.setTop (mkF m 119 #[.val (.ref r), .val (.double (FP.l2d w)), .second, .val (.int (1 : Int32)), s4] [(.int (1 : Int32)), (.ref a)])) _
  refine XS.aloadN X1.here hx rfl (hb hby d1_119) rfl rfl ?_
  show Steps p.tables e below (T1.setTop (mkF m 120 #[.val (.ref r), .val (.double (FP.l2d w)), .second, .val (.int (1 : Int32)), s4] [(.ref r), (.int (1 : Int32)), (.ref a)])) _
  refine st2 _ ?_
  show Steps p.tables e below (T2.setTop (mkF m 123 #[.val (.ref r), .val (.double (FP.l2d w)), .second, .val (.int (1 : Int32)), s4] [(.ref a), (.int (1 : Int32)), (.ref a)])) _
  refine XS.iloadN X2.here hx rfl (hb hby d1_123) rfl ?_
  show Steps p.tables e below (T2.setTop (mkF m 124 #[.val (.ref r), .val (.double (FP.l2d w)), .second, .val (.int (1 : Int32)), s4] [(.int (1 : Int32)), (.ref a), (.int (1 : Int32)), (.ref a)])) _
  refine XS.iconst X2.here hx rfl (hb hby d1_124) ?_
  show Steps p.tables e below (T2.setTop (mkF m 125 #[.val (.ref r), .val (.double (FP.l2d w)), .second, .val (.int (1 : Int32)), s4] [(.int (1 : Int32)), (.int (1 : Int32)), (.ref a), (.int (1 : Int32)), (.ref a)])) _
  refine XS.iadd X2.here hx rfl (hb hby d1_125) rfl ?_
  show Steps p.tables e below (T2.setTop (mkF m 126 #[.val (.ref r), .val (.double (FP.l2d w)), .second, .val (.int (1 : Int32)), s4] [(.int (2 : Int32)), (.ref a), (.int (1 : Int32)), (.ref a)])) _
  refine XS.aloadN X2.here hx rfl (hb hby d1_126) rfl rfl ?_
  show Steps p.tables e below (T2.setTop (mkF m 127 #[.val (.ref r), .val (.double (FP.l2d w)), .second, .val (.int (1 : Int32)), s4] [(.ref r), (.int (2 : Int32)), (.ref a), (.int (1 : Int32)), (.ref a)])) _
  refine st3 _ ?_
  show Steps p.tables e below (T3.setTop (mkF m 130 #[.val (.ref r), .val (.double (FP.l2d w)), .second, .val (.int (1 : Int32)), s4] [(.int (3 : Int32)), (.int (2 : Int32)), (.ref a), (.int (1 : Int32)), (.ref a)])) _
  refine XS.iloadN X3.here hx rfl (hb hby d1_130) rfl ?_
  show Steps p.tables e below (T3.setTop (mkF m 131 #[.val (.ref r), .val (.double (FP.l2d w)), .second, .val (.int (1 : Int32)), s4] [(.int (1 : Int32)), (.int (3 : Int32)), (.int (2 : Int32)), (.ref a), (.int (1 : Int32)), (.ref a)])) _
  refine XS.isub X3.here hx rfl (hb hby d1_131) rfl ?_
  show Steps p.tables e below (T3.setTop (mkF m 132 #[.val (.ref r), .val (.double (FP.l2d w)), .second, .val (.int (1 : Int32)), s4] [(.int (2 : Int32)), (.int (2 : Int32)), (.ref a), (.int (1 : Int32)), (.ref a)])) _
  refine st4 _ ?_
  show Steps p.tables e below (T4.setTop (mkF m 135 #[.val (.ref r), .val (.double (FP.l2d w)), .second, .val (.int (1 : Int32)), s4] [])) _
  refine XS.aloadN X4.here hx rfl (hb hby d1_135) rfl rfl ?_
  show Steps p.tables e below (T4.setTop (mkF m 136 #[.val (.ref r), .val (.double (FP.l2d w)), .second, .val (.int (1 : Int32)), s4] [(.ref r)])) _
  refine st6 _ ?_
  show Steps p.tables e below (T6.setTop (mkF m 139 #[.val (.ref r), .val (.double (FP.l2d w)), .second, .val (.int (1 : Int32)), s4] [(.ref a)])) _
  refine XS.iloadN X6.here hx rfl (hb hby d1_139) rfl ?_
  show Steps p.tables e below (T6.setTop (mkF m 140 #[.val (.ref r), .val (.double (FP.l2d w)), .second, .val (.int (1 : Int32)), s4] [(.int (1 : Int32)), (.ref a)])) _
  refine XS.dloadN X6.here hx rfl (hb hby d1_140) rfl ?_
  show Steps p.tables e below (T6.setTop (mkF m 141 #[.val (.ref r), .val (.double (FP.l2d w)), .second, .val (.int (1 : Int32)), s4] [(.double (FP.l2d w)), (.int (1 : Int32)), (.ref a)])) _
  refine st7 _ ?_
  show Steps p.tables e below (T7.setTop (mkF m 142 #[.val (.ref r), .val (.double (FP.l2d w)), .second, .val (.int (1 : Int32)), s4] [])) _
  refine XS.aloadN X7.here hx rfl (hb hby d1_142) rfl rfl ?_
  show Steps p.tables e below (T7.setTop (mkF m 143 #[.val (.ref r), .val (.double (FP.l2d w)), .second, .val (.int (1 : Int32)), s4] [(.ref r)])) _
  refine XS.dup X7.here hx rfl (hb hby d1_143) rfl rfl ?_
  show Steps p.tables e below (T7.setTop (mkF m 144 #[.val (.ref r), .val (.double (FP.l2d w)), .second, .val (.int (1 : Int32)), s4] [(.ref r), (.ref r)])) _
  refine st10 _ ?_
  show Steps p.tables e below (T10.setTop (mkF m 147 #[.val (.ref r), .val (.double (FP.l2d w)), .second, .val (.int (1 : Int32)), s4] [(.int (3 : Int32)), (.ref r)])) _
  refine XS.iconst X10.here hx rfl (hb hby d1_147) ?_
  show Steps p.tables e below (T10.setTop (mkF m 148 #[.val (.ref r), .val (.double (FP.l2d w)), .second, .val (.int (1 : Int32)), s4] [(.int (1 : Int32)), (.int (3 : Int32)), (.ref r)])) _
  refine XS.iadd X10.here hx rfl (hb hby d1_148) rfl ?_
  show Steps p.tables e below (T10.setTop (mkF m 149 #[.val (.ref r), .val (.double (FP.l2d w)), .second, .val (.int (1 : Int32)), s4] [(.int (4 : Int32)), (.ref r)])) _
  refine st12 _ ?_
  show Steps p.tables e below (T12.setTop (mkF m 152 #[.val (.ref r), .val (.double (FP.l2d w)), .second, .val (.int (1 : Int32)), s4] [])) _
  exact ht
set_option maxRecDepth 65536 in
set_option maxHeartbeats 40000000 in
theorem add_K432 (l : Launch) (Z : State) (a0 : Array Value) (hw : ∀ d ∈ tables_1, d.before a0 Z = true) {p : Program} {e : Env} {s : State} {m : MethodId} {args : Array Value} {below : List Frame} {meth : Method} {c : Code} (hx : p.tables.exec = Jvm.exec) (hZ : Z.Warmed39 s.vm) (hby : c.code = prog_11_method_3_code) (hml : c.maxLocals = 5) (hown : s.vm.findClass "com/example/orrery/orrery/policy/RunningEnds" = some m.cls) {T0 : State} {locs0 : List Loc} {R : Room} {cells0 slots0 : Nat} (X0 : Stand p l e R s m args below meth c T0 locs0 cells0 slots0) (r a : Addr) (k : ClassId) (f : Int32) (y0 y1 y2 y3 : Int64) (w : Int64) (s4 : Slot) (h0 : Heap) (n0 : Nat) (e0 : T0.heap = h0) (Z0 : n0 ≤ h0.size) (N0 : Fr n0 locs0) (hRf : 1 ≤ R.frames) (hRl : 18 ≤ R.locals) (g_r : n0 ≤ r) (g_a : n0 ≤ a) (ne : r ≠ a) (E_r : Exa Z h0 r "com/example/orrery/orrery/policy/RunningEnds") (F_e : Fld Z h0 r "com/example/orrery/orrery/policy/RunningEnds" "ends" "[D" (.ref a)) (F_f : Fld Z h0 r "com/example/orrery/orrery/policy/RunningEnds" "first" "I" (.int f)) (F_l : Fld Z h0 r "com/example/orrery/orrery/policy/RunningEnds" "last" "I" (.int (3 : Int32))) (V_a : Arv Z h0 a k .double (4 : Int32) [(.double (FP.l2d y0)), (.double (FP.l2d y1)), (.double (FP.l2d y2)), (.double (FP.l2d y3))] (.double (FP.l2d 0))) :
    ∃ (T1 : State) (h1 : Heap) (locs1 : List Loc), Stand p l e R s m args below meth c T1 locs1 cells0 slots0 ∧ T1.heap = h1 ∧ n0 ≤ h1.size ∧ Fr n0 locs1 ∧ (Exa Z h1 r "com/example/orrery/orrery/policy/RunningEnds" ∧ Fld Z h1 r "com/example/orrery/orrery/policy/RunningEnds" "ends" "[D" (.ref a) ∧ Fld Z h1 r "com/example/orrery/orrery/policy/RunningEnds" "first" "I" (.int f) ∧ Fld Z h1 r "com/example/orrery/orrery/policy/RunningEnds" "last" "I" (.int (4 : Int32)) ∧ Arv Z h1 a k .double (4 : Int32) [(.double (FP.l2d y0)), (.double (FP.l2d y1)), (.double (FP.l2d w)), (.double (FP.l2d y2))] (.double (FP.l2d 0))) ∧ ∀ t, Steps p.tables e below (T1.setTop (mkF m 152 #[.val (.ref r), .val (.double (FP.l2d w)), .second, .val (.int (2 : Int32)), s4] [])) t → Steps p.tables e below (T0.setTop (mkF m 114 #[.val (.ref r), .val (.double (FP.l2d w)), .second, .val (.int (2 : Int32)), s4] [])) t := by
  obtain ⟨T1, X1, e1, st1⟩ := getF X0 hx hZ hown (host := "") (Or.inl (hw _ (List.mem_of_getElem? (i := 10) rfl))) Via.refl e0 F_e (g := (mkF m 115 #[.val (.ref r), .val (.double (FP.l2d w)), .second, .val (.int (2 : Int32)), s4] [(.ref r)])) rfl rfl (hb hby d1_115)
  obtain ⟨T2, X2, e2, st2⟩ := getF X1 hx hZ hown (host := "") (Or.inl (hw _ (List.mem_of_getElem? (i := 10) rfl))) Via.refl e1 F_e (g := (mkF m 120 #[.val (.ref r), .val (.double (FP.l2d w)), .second, .val (.int (2 : Int32)), s4] [(.ref r), (.int (2 : Int32)), (.ref a)])) rfl rfl (hb hby d1_120)
  obtain ⟨T3, X3, e3, st3⟩ := getF X2 hx hZ hown (host := "") (Or.inl (hw _ (List.mem_of_getElem? (i := 18) rfl))) Via.refl e2 F_l (g := (mkF m 127 #[.val (.ref r), .val (.double (FP.l2d w)), .second, .val (.int (2 : Int32)), s4] [(.ref r), (.int (3 : Int32)), (.ref a), (.int (2 : Int32)), (.ref a)])) rfl rfl (hb hby d1_127)
  obtain ⟨T4, h4, L4, X4, e4, Na4, Kc4, Vr4, st4⟩ := cpA X3 hx hZ hown (hw _ (List.mem_of_getElem? (i := 22) rfl)) (hw _ (List.mem_of_getElem? (i := 25) rfl)) (hw _ (List.mem_of_getElem? (i := 23) rfl)) (hw _ (List.mem_of_getElem? (i := 24) rfl)) e3 (us := [(.double (FP.l2d y2))]) V_a V_a (Or.inl ⟨rfl, rfl⟩) (by decide) (by decide) (by decide) (by decide) (by decide) rfl (Nat.le_of_ble_eq_true rfl) N0 g_a (g := (mkF m 132 #[.val (.ref r), .val (.double (FP.l2d w)), .second, .val (.int (2 : Int32)), s4] [(.int (1 : Int32)), (.int (3 : Int32)), (.ref a), (.int (2 : Int32)), (.ref a)])) rfl (by rw [hml]; rfl) rfl (hb hby d1_132) (Nat.le_trans (by decide : _ ≤ 1) hRf) (W := 0) (by show 2 * 0 + _ ≤ _; exact Nat.le_of_eq rfl) (Nat.le_trans (by decide : _ ≤ 18) hRl)
  have Zc4 : n0 ≤ h4.size := Nat.le_trans Z0 Kc4.1
  have V4 : Arv Z h4 a k .double (4 : Int32) [(.double (FP.l2d y0)), (.double (FP.l2d y1)), (.double (FP.l2d y2)), (.double (FP.l2d y2))] (.double (FP.l2d 0)) := Vr4
  have f5 : Fld Z h4 r "com/example/orrery/orrery/policy/RunningEnds" "ends" "[D" (.ref a) := (Fld.keep F_e Kc4 (ninS ne nin0))
  obtain ⟨T6, X6, e6, st6⟩ := getF X4 hx hZ hown (host := "") (Or.inl (hw _ (List.mem_of_getElem? (i := 10) rfl))) Via.refl e4 f5 (g := (mkF m 136 #[.val (.ref r), .val (.double (FP.l2d w)), .second, .val (.int (2 : Int32)), s4] [(.ref r)])) rfl rfl (hb hby d1_136)
  obtain ⟨cl7, Ar7, q7, S7, M7, H7, G7⟩ := id V4
  obtain ⟨T7, h7, X7, e7, W7, st7⟩ := stD X6 hx hZ e6 Ar7 (j := (2 : Int32)) (inb_of S7 (by decide)) (g := (mkF m 141 #[.val (.ref r), .val (.double (FP.l2d w)), .second, .val (.int (2 : Int32)), s4] [(.double (FP.l2d w)), (.int (2 : Int32)), (.ref a)])) rfl rfl (hb hby d1_141)
  have N8 := Fr.snoc X7 Na4 g_a
  have Zc8 : n0 ≤ h7.size := by rw [Wr.size W7]; exact Zc4
  have V7 : Arv Z h7 a k .double (4 : Int32) [(.double (FP.l2d y0)), (.double (FP.l2d y1)), (.double (FP.l2d w)), (.double (FP.l2d y2))] (.double (FP.l2d 0)) := Arv.set Ar7 q7 S7 M7 H7 G7 rfl W7 2 rfl (Nat.le_of_ble_eq_true rfl)
  have f9 : Fld Z h7 r "com/example/orrery/orrery/policy/RunningEnds" "last" "I" (.int (3 : Int32)) := (Fld.other W7 (Fld.keep F_l Kc4 (ninS ne nin0)) (Or.inl ne))
  obtain ⟨T10, X10, e10, st10⟩ := getF X7 hx hZ hown (host := "") (Or.inl (hw _ (List.mem_of_getElem? (i := 18) rfl))) Via.refl e7 f9 (g := (mkF m 144 #[.val (.ref r), .val (.double (FP.l2d w)), .second, .val (.int (2 : Int32)), s4] [(.ref r), (.ref r)])) rfl rfl (hb hby d1_144)
  have f11 : Exa Z h7 r "com/example/orrery/orrery/policy/RunningEnds" := (Exa.wr W7 (Exa.keep E_r Kc4))
  obtain ⟨T12, h12, X12, e12, W12, st12⟩ := putF X10 hx hZ hown (host := "") (Or.inl (hw _ (List.mem_of_getElem? (i := 18) rfl))) Via.refl e10 f9 f11 (Or.inl (hw _ (List.mem_of_getElem? (i := 19) rfl))) (hw _ (List.mem_of_getElem? (i := 1) rfl)) (ty := .int) (by decide) rfl rfl (g := (mkF m 149 #[.val (.ref r), .val (.double (FP.l2d w)), .second, .val (.int (2 : Int32)), s4] [(.int (4 : Int32)), (.ref r)])) rfl rfl (hb hby d1_149)
  have N13 := Fr.snoc X12 N8 g_r
  have Zc13 : n0 ≤ h12.size := by rw [Wr.size W12]; exact Zc8
  have Fw12 : Fld Z h12 r "com/example/orrery/orrery/policy/RunningEnds" "last" "I" (.int (4 : Int32)) := Fld.same W12 f9
  have f14 : Exa Z h12 r "com/example/orrery/orrery/policy/RunningEnds" := (Exa.wr W12 f11)
  have f15 : Fld Z h12 r "com/example/orrery/orrery/policy/RunningEnds" "ends" "[D" (.ref a) := (Fld.other W12 (Fld.other W7 f5 (Or.inl ne)) (Or.inr (slot_ne (t := (.array .double)) (t' := .int) (Or.inl (hw _ (List.mem_of_getElem? (i := 11) rfl))) (Or.inl (hw _ (List.mem_of_getElem? (i := 19) rfl))) (by decide) (by decide) (by decide))))
  have f16 : Fld Z h12 r "com/example/orrery/orrery/policy/RunningEnds" "first" "I" (.int f) := (Fld.other W12 (Fld.other W7 (Fld.keep F_f Kc4 (ninS ne nin0)) (Or.inl ne)) (Or.inr (slot_ne (t := .int) (t' := .int) (Or.inl (hw _ (List.mem_of_getElem? (i := 21) rfl))) (Or.inl (hw _ (List.mem_of_getElem? (i := 19) rfl))) (by decide) (by decide) (by decide))))
  have f17 : Arv Z h12 a k .double (4 : Int32) [(.double (FP.l2d y0)), (.double (FP.l2d y1)), (.double (FP.l2d w)), (.double (FP.l2d y2))] (.double (FP.l2d 0)) := (Arv.other V7 W12 (Ne.symm ne))
  refine ⟨T12, h12, _, X12, e12, Zc13, N13, ⟨f14, f15, f16, Fw12, f17⟩, fun t ht => ?_⟩
  show Steps p.tables e below (T0.setTop (mkF m 114 #[.val (.ref r), .val (.double (FP.l2d w)), .second, .val (.int (2 : Int32)), s4] [])) _
  refine XS.aloadN X0.here hx rfl (hb hby d1_114) rfl rfl ?_
  show Steps p.tables e below (T0.setTop (mkF m 115 #[.val (.ref r), .val (.double (FP.l2d w)), .second, .val (.int (2 : Int32)), s4] [(.ref r)])) _
  refine st1 _ ?_
  show Steps p.tables e below (T1.setTop (mkF m 118 #[.val (.ref r), .val (.double (FP.l2d w)), .second, .val (.int (2 : Int32)), s4] [(.ref a)])) _
  refine XS.iloadN X1.here hx rfl (hb hby d1_118) rfl ?_
  show Steps p.tables e below (T1.setTop (mkF m 119 #[.val (.ref r), .val (.double (FP.l2d w)), .second, .val (.int (2 : Int32)), s4] [(.int (2 : Int32)), (.ref a)])) _
  refine XS.aloadN X1.here hx rfl (hb hby d1_119) rfl rfl ?_
  show Steps p.tables e below (T1.setTop (mkF m 120 #[.val (.ref r), .val (.double (FP.l2d w)), .second, .val (.int (2 : Int32)), s4] [(.ref r), (.int (2 : Int32)), (.ref a)])) _
  refine st2 _ ?_
  show Steps p.tables e below (T2.setTop (mkF m 123 #[.val (.ref r), .val (.double (FP.l2d w)), .second, .val (.int (2 : Int32)), s4] [(.ref a), (.int (2 : Int32)), (.ref a)])) _
  refine XS.iloadN X2.here hx rfl (hb hby d1_123) rfl ?_
  show Steps p.tables e below (T2.setTop (mkF m 124 #[.val (.ref r), .val (.double (FP.l2d w)), .second, .val (.int (2 : Int32)), s4] [(.int (2 : Int32)), (.ref a), (.int (2 : Int32)), (.ref a)])) _
  refine XS.iconst X2.here hx rfl (hb hby d1_124) ?_
  show Steps p.tables e below (T2.setTop (mkF m 125 #[.val (.ref r), .val (.double (FP.l2d w)), .second, .val (.int (2 : Int32)), s4] [(.int (1 : Int32)), (.int (2 : Int32)), (.ref a), (.int (2 : Int32)), (.ref a)])) _
  refine XS.iadd X2.here hx rfl (hb hby d1_125) rfl ?_
  show Steps p.tables e below (T2.setTop (mkF m 126 #[.val (.ref r), .val (.double (FP.l2d w)), .second, .val (.int (2 : Int32)), s4] [(.int (3 : Int32)), (.ref a), (.int (2 : Int32)), (.ref a)])) _
  refine XS.aloadN X2.here hx rfl (hb hby d1_126) rfl rfl ?_
  show Steps p.tables e below (T2.setTop (mkF m 127 #[.val (.ref r), .val (.double (FP.l2d w)), .second, .val (.int (2 : Int32)), s4] [(.ref r), (.int (3 : Int32)), (.ref a), (.int (2 : Int32)), (.ref a)])) _
  refine st3 _ ?_
  show Steps p.tables e below (T3.setTop (mkF m 130 #[.val (.ref r), .val (.double (FP.l2d w)), .second, .val (.int (2 : Int32)), s4] [(.int (3 : Int32)), (.int (3 : Int32)), (.ref a), (.int (2 : Int32)), (.ref a)])) _
  refine XS.iloadN X3.here hx rfl (hb hby d1_130) rfl ?_
  show Steps p.tables e below (T3.setTop (mkF m 131 #[.val (.ref r), .val (.double (FP.l2d w)), .second, .val (.int (2 : Int32)), s4] [(.int (2 : Int32)), (.int (3 : Int32)), (.int (3 : Int32)), (.ref a), (.int (2 : Int32)), (.ref a)])) _
  refine XS.isub X3.here hx rfl (hb hby d1_131) rfl ?_
  show Steps p.tables e below (T3.setTop (mkF m 132 #[.val (.ref r), .val (.double (FP.l2d w)), .second, .val (.int (2 : Int32)), s4] [(.int (1 : Int32)), (.int (3 : Int32)), (.ref a), (.int (2 : Int32)), (.ref a)])) _
  refine st4 _ ?_
  show Steps p.tables e below (T4.setTop (mkF m 135 #[.val (.ref r), .val (.double (FP.l2d w)), .second, .val (.int (2 : Int32)), s4] [])) _
  refine XS.aloadN X4.here hx rfl (hb hby d1_135) rfl rfl ?_
  show Steps p.tables e below (T4.setTop (mkF m 136 #[.val (.ref r), .val (.double (FP.l2d w)), .second, .val (.int (2 : Int32)), s4] [(.ref r)])) _
  refine st6 _ ?_
  show Steps p.tables e below (T6.setTop (mkF m 139 #[.val (.ref r), .val (.double (FP.l2d w)), .second, .val (.int (2 : Int32)), s4] [(.ref a)])) _
  refine XS.iloadN X6.here hx rfl (hb hby d1_139) rfl ?_
  show Steps p.tables e below (T6.setTop (mkF m 140 #[.val (.ref r), .val (.double (FP.l2d w)), .second, .val (.int (2 : Int32)), s4] [(.int (2 : Int32)), (.ref a)])) _
  refine XS.dloadN X6.here hx rfl (hb hby d1_140) rfl ?_
  show Steps p.tables e below (T6.setTop (mkF m 141 #[.val (.ref r), .val (.double (FP.l2d w)), .second, .val (.int (2 : Int32)), s4] [(.double (FP.l2d w)), (.int (2 : Int32)), (.ref a)])) _
  refine st7 _ ?_
  show Steps p.tables e below (T7.setTop (mkF m 142 #[.val (.ref r), .val (.double (FP.l2d w)), .second, .val (.int (2 : Int32)), s4] [])) _
  refine XS.aloadN X7.here hx rfl (hb hby d1_142) rfl rfl ?_
  show Steps p.tables e below (T7.setTop (mkF m 143 #[.val (.ref r), .val (.double (FP.l2d w)), .second, .val (.int (2 : Int32)), s4] [(.ref r)])) _
  refine XS.dup X7.here hx rfl (hb hby d1_143) rfl rfl ?_
  show Steps p.tables e below (T7.setTop (mkF m 144 #[.val (.ref r), .val (.double (FP.l2d w)), .second, .val (.int (2 : Int32)), s4] [(.ref r), (.ref r)])) _
  refine st10 _ ?_
  show Steps p.tables e below (T10.setTop (mkF m 147 #[.val (.ref r), .val (.double (FP.l2d w)), .second, .val (.int (2 : Int32)), s4] [(.int (3 : Int32)), (.ref r)])) _
  refine XS.iconst X10.here hx rfl (hb hby d1_147) ?_
  show Steps p.tables e below (T10.setTop (mkF m 148 #[.val (.ref r), .val (.double (FP.l2d w)), .second, .val (.int (2 : Int32)), s4] [(.int (1 : Int32)), (.int (3 : Int32)), (.ref r)])) _
  refine XS.iadd X10.here hx rfl (hb hby d1_148) rfl ?_
  show Steps p.tables e below (T10.setTop (mkF m 149 #[.val (.ref r), .val (.double (FP.l2d w)), .second, .val (.int (2 : Int32)), s4] [(.int (4 : Int32)), (.ref r)])) _
  refine st12 _ ?_
  show Steps p.tables e below (T12.setTop (mkF m 152 #[.val (.ref r), .val (.double (FP.l2d w)), .second, .val (.int (2 : Int32)), s4] [])) _
  exact ht
set_option maxRecDepth 65536 in
set_option maxHeartbeats 40000000 in
theorem add_K433 (l : Launch) (Z : State) (a0 : Array Value) (hw : ∀ d ∈ tables_1, d.before a0 Z = true) {p : Program} {e : Env} {s : State} {m : MethodId} {args : Array Value} {below : List Frame} {meth : Method} {c : Code} (hx : p.tables.exec = Jvm.exec) (hZ : Z.Warmed39 s.vm) (hby : c.code = prog_11_method_3_code) (hml : c.maxLocals = 5) (hown : s.vm.findClass "com/example/orrery/orrery/policy/RunningEnds" = some m.cls) {T0 : State} {locs0 : List Loc} {R : Room} {cells0 slots0 : Nat} (X0 : Stand p l e R s m args below meth c T0 locs0 cells0 slots0) (r a : Addr) (k : ClassId) (f : Int32) (y0 y1 y2 y3 : Int64) (w : Int64) (s4 : Slot) (h0 : Heap) (n0 : Nat) (e0 : T0.heap = h0) (Z0 : n0 ≤ h0.size) (N0 : Fr n0 locs0) (hRf : 1 ≤ R.frames) (hRl : 18 ≤ R.locals) (g_r : n0 ≤ r) (g_a : n0 ≤ a) (ne : r ≠ a) (E_r : Exa Z h0 r "com/example/orrery/orrery/policy/RunningEnds") (F_e : Fld Z h0 r "com/example/orrery/orrery/policy/RunningEnds" "ends" "[D" (.ref a)) (F_f : Fld Z h0 r "com/example/orrery/orrery/policy/RunningEnds" "first" "I" (.int f)) (F_l : Fld Z h0 r "com/example/orrery/orrery/policy/RunningEnds" "last" "I" (.int (3 : Int32))) (V_a : Arv Z h0 a k .double (4 : Int32) [(.double (FP.l2d y0)), (.double (FP.l2d y1)), (.double (FP.l2d y2)), (.double (FP.l2d y3))] (.double (FP.l2d 0))) :
    ∃ (T1 : State) (h1 : Heap) (locs1 : List Loc), Stand p l e R s m args below meth c T1 locs1 cells0 slots0 ∧ T1.heap = h1 ∧ n0 ≤ h1.size ∧ Fr n0 locs1 ∧ (Exa Z h1 r "com/example/orrery/orrery/policy/RunningEnds" ∧ Fld Z h1 r "com/example/orrery/orrery/policy/RunningEnds" "ends" "[D" (.ref a) ∧ Fld Z h1 r "com/example/orrery/orrery/policy/RunningEnds" "first" "I" (.int f) ∧ Fld Z h1 r "com/example/orrery/orrery/policy/RunningEnds" "last" "I" (.int (4 : Int32)) ∧ Arv Z h1 a k .double (4 : Int32) [(.double (FP.l2d y0)), (.double (FP.l2d y1)), (.double (FP.l2d y2)), (.double (FP.l2d w))] (.double (FP.l2d 0))) ∧ ∀ t, Steps p.tables e below (T1.setTop (mkF m 152 #[.val (.ref r), .val (.double (FP.l2d w)), .second, .val (.int (3 : Int32)), s4] [])) t → Steps p.tables e below (T0.setTop (mkF m 114 #[.val (.ref r), .val (.double (FP.l2d w)), .second, .val (.int (3 : Int32)), s4] [])) t := by
  obtain ⟨T1, X1, e1, st1⟩ := getF X0 hx hZ hown (host := "") (Or.inl (hw _ (List.mem_of_getElem? (i := 10) rfl))) Via.refl e0 F_e (g := (mkF m 115 #[.val (.ref r), .val (.double (FP.l2d w)), .second, .val (.int (3 : Int32)), s4] [(.ref r)])) rfl rfl (hb hby d1_115)
  obtain ⟨T2, X2, e2, st2⟩ := getF X1 hx hZ hown (host := "") (Or.inl (hw _ (List.mem_of_getElem? (i := 10) rfl))) Via.refl e1 F_e (g := (mkF m 120 #[.val (.ref r), .val (.double (FP.l2d w)), .second, .val (.int (3 : Int32)), s4] [(.ref r), (.int (3 : Int32)), (.ref a)])) rfl rfl (hb hby d1_120)
  obtain ⟨T3, X3, e3, st3⟩ := getF X2 hx hZ hown (host := "") (Or.inl (hw _ (List.mem_of_getElem? (i := 18) rfl))) Via.refl e2 F_l (g := (mkF m 127 #[.val (.ref r), .val (.double (FP.l2d w)), .second, .val (.int (3 : Int32)), s4] [(.ref r), (.int (4 : Int32)), (.ref a), (.int (3 : Int32)), (.ref a)])) rfl rfl (hb hby d1_127)
  obtain ⟨T4, h4, L4, X4, e4, Na4, Kc4, Vr4, st4⟩ := cpA X3 hx hZ hown (hw _ (List.mem_of_getElem? (i := 22) rfl)) (hw _ (List.mem_of_getElem? (i := 25) rfl)) (hw _ (List.mem_of_getElem? (i := 23) rfl)) (hw _ (List.mem_of_getElem? (i := 24) rfl)) e3 (us := []) V_a V_a (Or.inl ⟨rfl, rfl⟩) (by decide) (by decide) (by decide) (by decide) (by decide) rfl (Nat.le_of_ble_eq_true rfl) N0 g_a (g := (mkF m 132 #[.val (.ref r), .val (.double (FP.l2d w)), .second, .val (.int (3 : Int32)), s4] [(.int (0 : Int32)), (.int (4 : Int32)), (.ref a), (.int (3 : Int32)), (.ref a)])) rfl (by rw [hml]; rfl) rfl (hb hby d1_132) (Nat.le_trans (by decide : _ ≤ 1) hRf) (W := 0) (by show 2 * 0 + _ ≤ _; exact Nat.le_of_eq rfl) (Nat.le_trans (by decide : _ ≤ 18) hRl)
  have Zc4 : n0 ≤ h4.size := Nat.le_trans Z0 Kc4.1
  have V4 : Arv Z h4 a k .double (4 : Int32) [(.double (FP.l2d y0)), (.double (FP.l2d y1)), (.double (FP.l2d y2)), (.double (FP.l2d y3))] (.double (FP.l2d 0)) := Vr4
  have f5 : Fld Z h4 r "com/example/orrery/orrery/policy/RunningEnds" "ends" "[D" (.ref a) := (Fld.keep F_e Kc4 (ninS ne nin0))
  obtain ⟨T6, X6, e6, st6⟩ := getF X4 hx hZ hown (host := "") (Or.inl (hw _ (List.mem_of_getElem? (i := 10) rfl))) Via.refl e4 f5 (g := (mkF m 136 #[.val (.ref r), .val (.double (FP.l2d w)), .second, .val (.int (3 : Int32)), s4] [(.ref r)])) rfl rfl (hb hby d1_136)
  obtain ⟨cl7, Ar7, q7, S7, M7, H7, G7⟩ := id V4
  obtain ⟨T7, h7, X7, e7, W7, st7⟩ := stD X6 hx hZ e6 Ar7 (j := (3 : Int32)) (inb_of S7 (by decide)) (g := (mkF m 141 #[.val (.ref r), .val (.double (FP.l2d w)), .second, .val (.int (3 : Int32)), s4] [(.double (FP.l2d w)), (.int (3 : Int32)), (.ref a)])) rfl rfl (hb hby d1_141)
  have N8 := Fr.snoc X7 Na4 g_a
  have Zc8 : n0 ≤ h7.size := by rw [Wr.size W7]; exact Zc4
  have V7 : Arv Z h7 a k .double (4 : Int32) [(.double (FP.l2d y0)), (.double (FP.l2d y1)), (.double (FP.l2d y2)), (.double (FP.l2d w))] (.double (FP.l2d 0)) := Arv.set Ar7 q7 S7 M7 H7 G7 rfl W7 3 rfl (Nat.le_of_ble_eq_true rfl)
  have f9 : Fld Z h7 r "com/example/orrery/orrery/policy/RunningEnds" "last" "I" (.int (3 : Int32)) := (Fld.other W7 (Fld.keep F_l Kc4 (ninS ne nin0)) (Or.inl ne))
  obtain ⟨T10, X10, e10, st10⟩ := getF X7 hx hZ hown (host := "") (Or.inl (hw _ (List.mem_of_getElem? (i := 18) rfl))) Via.refl e7 f9 (g := (mkF m 144 #[.val (.ref r), .val (.double (FP.l2d w)), .second, .val (.int (3 : Int32)), s4] [(.ref r), (.ref r)])) rfl rfl (hb hby d1_144)
  have f11 : Exa Z h7 r "com/example/orrery/orrery/policy/RunningEnds" := (Exa.wr W7 (Exa.keep E_r Kc4))
  obtain ⟨T12, h12, X12, e12, W12, st12⟩ := putF X10 hx hZ hown (host := "") (Or.inl (hw _ (List.mem_of_getElem? (i := 18) rfl))) Via.refl e10 f9 f11 (Or.inl (hw _ (List.mem_of_getElem? (i := 19) rfl))) (hw _ (List.mem_of_getElem? (i := 1) rfl)) (ty := .int) (by decide) rfl rfl (g := (mkF m 149 #[.val (.ref r), .val (.double (FP.l2d w)), .second, .val (.int (3 : Int32)), s4] [(.int (4 : Int32)), (.ref r)])) rfl rfl (hb hby d1_149)
  have N13 := Fr.snoc X12 N8 g_r
  have Zc13 : n0 ≤ h12.size := by rw [Wr.size W12]; exact Zc8
  have Fw12 : Fld Z h12 r "com/example/orrery/orrery/policy/RunningEnds" "last" "I" (.int (4 : Int32)) := Fld.same W12 f9
  have f14 : Exa Z h12 r "com/example/orrery/orrery/policy/RunningEnds" := (Exa.wr W12 f11)
  have f15 : Fld Z h12 r "com/example/orrery/orrery/policy/RunningEnds" "ends" "[D" (.ref a) := (Fld.other W12 (Fld.other W7 f5 (Or.inl ne)) (Or.inr (slot_ne (t := (.array .double)) (t' := .int) (Or.inl (hw _ (List.mem_of_getElem? (i := 11) rfl))) (Or.inl (hw _ (List.mem_of_getElem? (i := 19) rfl))) (by decide) (by decide) (by decide))))
  have f16 : Fld Z h12 r "com/example/orrery/orrery/policy/RunningEnds" "first" "I" (.int f) := (Fld.other W12 (Fld.other W7 (Fld.keep F_f Kc4 (ninS ne nin0)) (Or.inl ne)) (Or.inr (slot_ne (t := .int) (t' := .int) (Or.inl (hw _ (List.mem_of_getElem? (i := 21) rfl))) (Or.inl (hw _ (List.mem_of_getElem? (i := 19) rfl))) (by decide) (by decide) (by decide))))
  have f17 : Arv Z h12 a k .double (4 : Int32) [(.double (FP.l2d y0)), (.double (FP.l2d y1)), (.double (FP.l2d y2)), (.double (FP.l2d w))] (.double (FP.l2d 0)) := (Arv.other V7 W12 (Ne.symm ne))
  refine ⟨T12, h12, _, X12, e12, Zc13, N13, ⟨f14, f15, f16, Fw12, f17⟩, fun t ht => ?_⟩
  show Steps p.tables e below (T0.setTop (mkF m 114 #[.val (.ref r), .val (.double (FP.l2d w)), .second, .val (.int (3 : Int32)), s4] [])) _
  refine XS.aloadN X0.here hx rfl (hb hby d1_114) rfl rfl ?_
  show Steps p.tables e below (T0.setTop (mkF m 115 #[.val (.ref r), .val (.double (FP.l2d w)), .second, .val (.int (3 : Int32)), s4] [(.ref r)])) _
  refine st1 _ ?_
  show Steps p.tables e below (T1.setTop (mkF m 118 #[.val (.ref r), .val (.double (FP.l2d w)), .second, .val (.int (3 : Int32)), s4] [(.ref a)])) _
  refine XS.iloadN X1.here hx rfl (hb hby d1_118) rfl ?_
  show Steps p.tables e below (T1.setTop (mkF m 119 #[.val (.ref r), .val (.double (FP.l2d w)), .second, .val (.int (3 : Int32)), s4] [(.int (3 : Int32)), (.ref a)])) _
  refine XS.aloadN X1.here hx rfl (hb hby d1_119) rfl rfl ?_
  show Steps p.tables e below (T1.setTop (mkF m 120 #[.val (.ref r), .val (.double (FP.l2d w)), .second, .val (.int (3 : Int32)), s4] [(.ref r), (.int (3 : Int32)), (.ref a)])) _
  refine st2 _ ?_
  show Steps p.tables e below (T2.setTop (mkF m 123 #[.val (.ref r), .val (.double (FP.l2d w)), .second, .val (.int (3 : Int32)), s4] [(.ref a), (.int (3 : Int32)), (.ref a)])) _
  refine XS.iloadN X2.here hx rfl (hb hby d1_123) rfl ?_
  show Steps p.tables e below (T2.setTop (mkF m 124 #[.val (.ref r), .val (.double (FP.l2d w)), .second, .val (.int (3 : Int32)), s4] [(.int (3 : Int32)), (.ref a), (.int (3 : Int32)), (.ref a)])) _
  refine XS.iconst X2.here hx rfl (hb hby d1_124) ?_
  show Steps p.tables e below (T2.setTop (mkF m 125 #[.val (.ref r), .val (.double (FP.l2d w)), .second, .val (.int (3 : Int32)), s4] [(.int (1 : Int32)), (.int (3 : Int32)), (.ref a), (.int (3 : Int32)), (.ref a)])) _
  refine XS.iadd X2.here hx rfl (hb hby d1_125) rfl ?_
  show Steps p.tables e below (T2.setTop (mkF m 126 #[.val (.ref r), .val (.double (FP.l2d w)), .second, .val (.int (3 : Int32)), s4] [(.int (4 : Int32)), (.ref a), (.int (3 : Int32)), (.ref a)])) _
  refine XS.aloadN X2.here hx rfl (hb hby d1_126) rfl rfl ?_
  show Steps p.tables e below (T2.setTop (mkF m 127 #[.val (.ref r), .val (.double (FP.l2d w)), .second, .val (.int (3 : Int32)), s4] [(.ref r), (.int (4 : Int32)), (.ref a), (.int (3 : Int32)), (.ref a)])) _
  refine st3 _ ?_
  show Steps p.tables e below (T3.setTop (mkF m 130 #[.val (.ref r), .val (.double (FP.l2d w)), .second, .val (.int (3 : Int32)), s4] [(.int (3 : Int32)), (.int (4 : Int32)), (.ref a), (.int (3 : Int32)), (.ref a)])) _
  refine XS.iloadN X3.here hx rfl (hb hby d1_130) rfl ?_
  show Steps p.tables e below (T3.setTop (mkF m 131 #[.val (.ref r), .val (.double (FP.l2d w)), .second, .val (.int (3 : Int32)), s4] [(.int (3 : Int32)), (.int (3 : Int32)), (.int (4 : Int32)), (.ref a), (.int (3 : Int32)), (.ref a)])) _
  refine XS.isub X3.here hx rfl (hb hby d1_131) rfl ?_
  show Steps p.tables e below (T3.setTop (mkF m 132 #[.val (.ref r), .val (.double (FP.l2d w)), .second, .val (.int (3 : Int32)), s4] [(.int (0 : Int32)), (.int (4 : Int32)), (.ref a), (.int (3 : Int32)), (.ref a)])) _
  refine st4 _ ?_
  show Steps p.tables e below (T4.setTop (mkF m 135 #[.val (.ref r), .val (.double (FP.l2d w)), .second, .val (.int (3 : Int32)), s4] [])) _
  refine XS.aloadN X4.here hx rfl (hb hby d1_135) rfl rfl ?_
  show Steps p.tables e below (T4.setTop (mkF m 136 #[.val (.ref r), .val (.double (FP.l2d w)), .second, .val (.int (3 : Int32)), s4] [(.ref r)])) _
  refine st6 _ ?_
  show Steps p.tables e below (T6.setTop (mkF m 139 #[.val (.ref r), .val (.double (FP.l2d w)), .second, .val (.int (3 : Int32)), s4] [(.ref a)])) _
  refine XS.iloadN X6.here hx rfl (hb hby d1_139) rfl ?_
  show Steps p.tables e below (T6.setTop (mkF m 140 #[.val (.ref r), .val (.double (FP.l2d w)), .second, .val (.int (3 : Int32)), s4] [(.int (3 : Int32)), (.ref a)])) _
  refine XS.dloadN X6.here hx rfl (hb hby d1_140) rfl ?_
  show Steps p.tables e below (T6.setTop (mkF m 141 #[.val (.ref r), .val (.double (FP.l2d w)), .second, .val (.int (3 : Int32)), s4] [(.double (FP.l2d w)), (.int (3 : Int32)), (.ref a)])) _
  refine st7 _ ?_
  show Steps p.tables e below (T7.setTop (mkF m 142 #[.val (.ref r), .val (.double (FP.l2d w)), .second, .val (.int (3 : Int32)), s4] [])) _
  refine XS.aloadN X7.here hx rfl (hb hby d1_142) rfl rfl ?_
  show Steps p.tables e below (T7.setTop (mkF m 143 #[.val (.ref r), .val (.double (FP.l2d w)), .second, .val (.int (3 : Int32)), s4] [(.ref r)])) _
  refine XS.dup X7.here hx rfl (hb hby d1_143) rfl rfl ?_
  show Steps p.tables e below (T7.setTop (mkF m 144 #[.val (.ref r), .val (.double (FP.l2d w)), .second, .val (.int (3 : Int32)), s4] [(.ref r), (.ref r)])) _
  refine st10 _ ?_
  show Steps p.tables e below (T10.setTop (mkF m 147 #[.val (.ref r), .val (.double (FP.l2d w)), .second, .val (.int (3 : Int32)), s4] [(.int (3 : Int32)), (.ref r)])) _
  refine XS.iconst X10.here hx rfl (hb hby d1_147) ?_
  show Steps p.tables e below (T10.setTop (mkF m 148 #[.val (.ref r), .val (.double (FP.l2d w)), .second, .val (.int (3 : Int32)), s4] [(.int (1 : Int32)), (.int (3 : Int32)), (.ref r)])) _
  refine XS.iadd X10.here hx rfl (hb hby d1_148) rfl ?_
  show Steps p.tables e below (T10.setTop (mkF m 149 #[.val (.ref r), .val (.double (FP.l2d w)), .second, .val (.int (3 : Int32)), s4] [(.int (4 : Int32)), (.ref r)])) _
  refine st12 _ ?_
  show Steps p.tables e below (T12.setTop (mkF m 152 #[.val (.ref r), .val (.double (FP.l2d w)), .second, .val (.int (3 : Int32)), s4] [])) _
  exact ht
def own_I (y : Int64) : Prop := -2147483648 ≤ y.toInt ∧ y.toInt < 2147483648
def own_RE (Z : State) (n0 : Nat) (r : Addr) (cap f la : Int32) (ys : List Int64) (h : Heap) : Prop := ∃ (a : Addr) (k : ClassId), n0 ≤ r ∧ n0 ≤ a ∧ r ≠ a ∧ Exa Z h r "com/example/orrery/orrery/policy/RunningEnds" ∧ Fld Z h r "com/example/orrery/orrery/policy/RunningEnds" "ends" "[D" (.ref a) ∧ Fld Z h r "com/example/orrery/orrery/policy/RunningEnds" "first" "I" (.int f) ∧ Fld Z h r "com/example/orrery/orrery/policy/RunningEnds" "last" "I" (.int la) ∧ Arv Z h a k .double cap (ys.map fun y => Value.double (FP.l2d y)) (.double (FP.l2d 0))
def QP (P : Heap → Prop) (n0 : Nat) (v : Option Value) (h : Heap) (L : List Loc) : Prop := v = none ∧ Fr n0 L ∧ n0 ≤ h.size ∧ P h
theorem own_gt {a b : Int64} : 0 < lcmpW a b ↔ b < a := by rw [lcW]; exact lc_gt a b
theorem own_b53 {y : Int64} (h : own_I y) : B53 y := ⟨by have := h.1; omega, by have := h.2; omega⟩
set_option maxRecDepth 65536 in
set_option maxHeartbeats 40000000 in
theorem rmAdd_A0 (l : Launch) (Z : State) (a0 : Array Value) (hw : ∀ d ∈ tables_1, d.before a0 Z = true) (ws : List Jvm.Cond) (r : Addr) (y0 y1 : Int64) (w : Int64) (P : Heap → Prop) (h0 : Heap) (n0 : Nat) (Z0 : n0 ≤ h0.size) (hRE : own_RE Z n0 r (2 : Int32) (0 : Int32) (0 : Int32) [y0, y1] h0) (bw : own_I w) (hP : ∀ h, own_RE Z n0 r (2 : Int32) (0 : Int32) (1 : Int32) [w, y1] h → P h) :
    MetFree l (⟨"com/example/orrery/orrery/policy/RunningEnds", "add", "(D)V"⟩ : MethodName) (head1 (Jvm.Cond.code (⟨"com/example/orrery/orrery/policy/RunningEnds", "add", "(D)V"⟩ : MethodName) prog_11_method_3_code 5 none :: ws) ({ frames := 1, cells := 1, slots := 4, locals := 18 } : Room)) (fun a U => a = #[(.ref r), (.double (FP.l2d w))] ∧ Z.Warmed39 U.vm ∧ U.heap = h0) (fun _ _ _ _ _ => True) (fun _ U o U' => ∃ v L, o = .returned v ∧ QP P n0 v U'.heap L ∧ FrameEnd U o U' L ({ frames := 1, cells := 1, slots := 4, locals := 18 } : Room).cells ({ frames := 1, cells := 1, slots := 4, locals := 18 } : Room).slots) := by
  refine MetFree.of_bodySF (plainFor_of_name pn1) hisR ?_
  intro p e s m args below meth c s₁ Bd hml0 hP hK
  obtain ⟨rfl, hZ, hh⟩ := hP
  have hx := Bd.exec
  have hby := Bd.bytes
  have hml : c.maxLocals = 5 := hml0
  have hown : s.vm.findClass "com/example/orrery/orrery/policy/RunningEnds" = some m.cls := findClass_of_methodNamed Bd.named
  have hnm := (name_of_methodNamed Bd.named Bd.method).1
  have X0 : Stand p l e ({ frames := 1, cells := 1, slots := 4, locals := 18 } : Room) s m #[(.ref r), (.double (FP.l2d w))] below meth c s₁ [] 0 0 := Stand.of_body Bd
  have e0 : s₁.heap = h0 := by rw [← hh, Bd.state]; rfl
  have N0 := Fr.nil n0
  have pre0 : ∀ t, Steps p.tables e below (s₁.setTop (mkF m 0 #[.val (.ref r), .val (.double (FP.l2d w)), .second, .unset, .unset] [])) t → Steps p.tables e below (s₁.setTop (entryFrame m #[(.ref r), (.double (FP.l2d w))] 5)) t := fun t k => castTop (ef1 m r (FP.l2d w)) k
  obtain ⟨a, k, g_r, g_a, ne, E_r, F_e, F_f, F_l, V_a⟩ := hRE
  obtain ⟨T1, L1, X1, e1, N1, st1⟩ := add_E l Z a0 hw hx hZ hby hml hown X0 r a k (0 : Int32) (0 : Int32) (2 : Int32) _ (FP.l2d w) h0 n0 e0 Z0 N0 g_r g_a ne E_r F_e F_f F_l V_a (by decide)
  obtain ⟨T2, L2, X2, e2, N2, st2⟩ := add_X1 l Z a0 hw hx hZ hby hml hown X1 r (0 : Int32) (0 : Int32) (FP.l2d w) .unset h0 n0 e1 Z0 N1 F_f (by decide)
  obtain ⟨T3, h3, L3, X3, e3, Z3, N3, ⟨E9, Fe9, Ff9, Fl9, V9⟩, st3⟩ := add_K200 l Z a0 hw hx hZ hby hml hown X2 r a k (0 : Int32) y0 y1 w .unset h0 n0 e2 Z0 N2 (by decide) (by decide) g_r g_a ne E_r F_e F_f F_l V_a
  obtain ⟨fs, hr, hrun, hended, hW, hsame⟩ := X3.leave (v := none) (fun _ => rfl)
  refine ⟨_, _, pre0 _ (st1 _ (st2 _ (st3 _ ?_))), hrun, hended, _, _, rfl, ?_, ⟨_, rfl⟩, hW, hsame.mono (by decide) (by decide)⟩
  · exact X3.returnOut hx Bd.returns (hb hby d1_152) hr
  · show QP P n0 _ T3.heap _
    rw [e3]
    exact ⟨rfl, N3, Z3, hP _ ⟨a, k, g_r, g_a, ne, E9, Fe9, Ff9, Fl9, V9⟩⟩
set_option maxRecDepth 65536 in
set_option maxHeartbeats 40000000 in
theorem rmAdd_B0 (l : Launch) (Z : State) (a0 : Array Value) (hw : ∀ d ∈ tables_1, d.before a0 Z = true) (ws : List Jvm.Cond) (r : Addr) (y0 y1 : Int64) (w : Int64) (P : Heap → Prop) (h0 : Heap) (n0 : Nat) (Z0 : n0 ≤ h0.size) (hRE : own_RE Z n0 r (2 : Int32) (0 : Int32) (1 : Int32) [y0, y1] h0) (b0 : own_I y0) (bw : own_I w) (c0 : w < y0) (hP : ∀ h, own_RE Z n0 r (2 : Int32) (0 : Int32) (2 : Int32) [w, y0] h → P h) :
    MetFree l (⟨"com/example/orrery/orrery/policy/RunningEnds", "add", "(D)V"⟩ : MethodName) (head1 (Jvm.Cond.code (⟨"com/example/orrery/orrery/policy/RunningEnds", "add", "(D)V"⟩ : MethodName) prog_11_method_3_code 5 none :: ws) ({ frames := 1, cells := 1, slots := 4, locals := 18 } : Room)) (fun a U => a = #[(.ref r), (.double (FP.l2d w))] ∧ Z.Warmed39 U.vm ∧ U.heap = h0) (fun _ _ _ _ _ => True) (fun _ U o U' => ∃ v L, o = .returned v ∧ QP P n0 v U'.heap L ∧ FrameEnd U o U' L ({ frames := 1, cells := 1, slots := 4, locals := 18 } : Room).cells ({ frames := 1, cells := 1, slots := 4, locals := 18 } : Room).slots) := by
  refine MetFree.of_bodySF (plainFor_of_name pn1) hisR ?_
  intro p e s m args below meth c s₁ Bd hml0 hP hK
  obtain ⟨rfl, hZ, hh⟩ := hP
  have hx := Bd.exec
  have hby := Bd.bytes
  have hml : c.maxLocals = 5 := hml0
  have hown : s.vm.findClass "com/example/orrery/orrery/policy/RunningEnds" = some m.cls := findClass_of_methodNamed Bd.named
  have hnm := (name_of_methodNamed Bd.named Bd.method).1
  have X0 : Stand p l e ({ frames := 1, cells := 1, slots := 4, locals := 18 } : Room) s m #[(.ref r), (.double (FP.l2d w))] below meth c s₁ [] 0 0 := Stand.of_body Bd
  have e0 : s₁.heap = h0 := by rw [← hh, Bd.state]; rfl
  have N0 := Fr.nil n0
  have pre0 : ∀ t, Steps p.tables e below (s₁.setTop (mkF m 0 #[.val (.ref r), .val (.double (FP.l2d w)), .second, .unset, .unset] [])) t → Steps p.tables e below (s₁.setTop (entryFrame m #[(.ref r), (.double (FP.l2d w))] 5)) t := fun t k => castTop (ef1 m r (FP.l2d w)) k
  obtain ⟨a, k, g_r, g_a, ne, E_r, F_e, F_f, F_l, V_a⟩ := hRE
  obtain ⟨T1, L1, X1, e1, N1, st1⟩ := add_E l Z a0 hw hx hZ hby hml hown X0 r a k (0 : Int32) (1 : Int32) (2 : Int32) _ (FP.l2d w) h0 n0 e0 Z0 N0 g_r g_a ne E_r F_e F_f F_l V_a (by decide)
  obtain ⟨T2, L2, X2, e2, N2, st2⟩ := add_T l Z a0 hw hx hZ hby hml hown X1 r a k (0 : Int32) (2 : Int32) (1 : Int32) _ (FP.l2d w) (FP.l2d y0) (lcmpW y0 w) .unset h0 n0 e1 Z0 N1 F_e F_f V_a (by decide) (by decide) rfl (dcmpV_w (own_b53 b0) (own_b53 bw) .l) (own_gt.mpr c0)
  obtain ⟨T3, L3, X3, e3, N3, st3⟩ := add_X1 l Z a0 hw hx hZ hby hml hown X2 r (0 : Int32) (0 : Int32) (FP.l2d w) .unset h0 n0 e2 Z0 N2 F_f (by decide)
  obtain ⟨T4, h4, L4, X4, e4, Z4, N4, ⟨E9, Fe9, Ff9, Fl9, V9⟩, st4⟩ := add_K210 l Z a0 hw hx hZ hby hml hown X3 r a k (0 : Int32) y0 y1 w .unset h0 n0 e3 Z0 N3 (by decide) (by decide) g_r g_a ne E_r F_e F_f F_l V_a
  obtain ⟨fs, hr, hrun, hended, hW, hsame⟩ := X4.leave (v := none) (fun _ => rfl)
  refine ⟨_, _, pre0 _ (st1 _ (st2 _ (st3 _ (st4 _ ?_)))), hrun, hended, _, _, rfl, ?_, ⟨_, rfl⟩, hW, hsame.mono (by decide) (by decide)⟩
  · exact X4.returnOut hx Bd.returns (hb hby d1_152) hr
  · show QP P n0 _ T4.heap _
    rw [e4]
    exact ⟨rfl, N4, Z4, hP _ ⟨a, k, g_r, g_a, ne, E9, Fe9, Ff9, Fl9, V9⟩⟩
set_option maxRecDepth 65536 in
set_option maxHeartbeats 40000000 in
theorem rmAdd_B1 (l : Launch) (Z : State) (a0 : Array Value) (hw : ∀ d ∈ tables_1, d.before a0 Z = true) (ws : List Jvm.Cond) (r : Addr) (y0 y1 : Int64) (w : Int64) (P : Heap → Prop) (h0 : Heap) (n0 : Nat) (Z0 : n0 ≤ h0.size) (hRE : own_RE Z n0 r (2 : Int32) (0 : Int32) (1 : Int32) [y0, y1] h0) (b0 : own_I y0) (bw : own_I w) (c0 : ¬ w < y0) (hP : ∀ h, own_RE Z n0 r (2 : Int32) (0 : Int32) (2 : Int32) [y0, w] h → P h) :
    MetFree l (⟨"com/example/orrery/orrery/policy/RunningEnds", "add", "(D)V"⟩ : MethodName) (head1 (Jvm.Cond.code (⟨"com/example/orrery/orrery/policy/RunningEnds", "add", "(D)V"⟩ : MethodName) prog_11_method_3_code 5 none :: ws) ({ frames := 1, cells := 1, slots := 4, locals := 18 } : Room)) (fun a U => a = #[(.ref r), (.double (FP.l2d w))] ∧ Z.Warmed39 U.vm ∧ U.heap = h0) (fun _ _ _ _ _ => True) (fun _ U o U' => ∃ v L, o = .returned v ∧ QP P n0 v U'.heap L ∧ FrameEnd U o U' L ({ frames := 1, cells := 1, slots := 4, locals := 18 } : Room).cells ({ frames := 1, cells := 1, slots := 4, locals := 18 } : Room).slots) := by
  refine MetFree.of_bodySF (plainFor_of_name pn1) hisR ?_
  intro p e s m args below meth c s₁ Bd hml0 hP hK
  obtain ⟨rfl, hZ, hh⟩ := hP
  have hx := Bd.exec
  have hby := Bd.bytes
  have hml : c.maxLocals = 5 := hml0
  have hown : s.vm.findClass "com/example/orrery/orrery/policy/RunningEnds" = some m.cls := findClass_of_methodNamed Bd.named
  have hnm := (name_of_methodNamed Bd.named Bd.method).1
  have X0 : Stand p l e ({ frames := 1, cells := 1, slots := 4, locals := 18 } : Room) s m #[(.ref r), (.double (FP.l2d w))] below meth c s₁ [] 0 0 := Stand.of_body Bd
  have e0 : s₁.heap = h0 := by rw [← hh, Bd.state]; rfl
  have N0 := Fr.nil n0
  have pre0 : ∀ t, Steps p.tables e below (s₁.setTop (mkF m 0 #[.val (.ref r), .val (.double (FP.l2d w)), .second, .unset, .unset] [])) t → Steps p.tables e below (s₁.setTop (entryFrame m #[(.ref r), (.double (FP.l2d w))] 5)) t := fun t k => castTop (ef1 m r (FP.l2d w)) k
  obtain ⟨a, k, g_r, g_a, ne, E_r, F_e, F_f, F_l, V_a⟩ := hRE
  obtain ⟨T1, L1, X1, e1, N1, st1⟩ := add_E l Z a0 hw hx hZ hby hml hown X0 r a k (0 : Int32) (1 : Int32) (2 : Int32) _ (FP.l2d w) h0 n0 e0 Z0 N0 g_r g_a ne E_r F_e F_f F_l V_a (by decide)
  obtain ⟨T2, L2, X2, e2, N2, st2⟩ := add_X2 l Z a0 hw hx hZ hby hml hown X1 r a k (0 : Int32) (2 : Int32) (1 : Int32) _ (FP.l2d w) (FP.l2d y0) (lcmpW y0 w) .unset h0 n0 e1 Z0 N1 F_e F_f V_a (by decide) (by decide) rfl (dcmpV_w (own_b53 b0) (own_b53 bw) .l) (fun q => c0 (own_gt.mp q))
  obtain ⟨T3, h3, L3, X3, e3, Z3, N3, ⟨E9, Fe9, Ff9, Fl9, V9⟩, st3⟩ := add_K211 l Z a0 hw hx hZ hby hml hown X2 r a k (0 : Int32) y0 y1 w .unset h0 n0 e2 Z0 N2 (by decide) (by decide) g_r g_a ne E_r F_e F_f F_l V_a
  obtain ⟨fs, hr, hrun, hended, hW, hsame⟩ := X3.leave (v := none) (fun _ => rfl)
  refine ⟨_, _, pre0 _ (st1 _ (st2 _ (st3 _ ?_))), hrun, hended, _, _, rfl, ?_, ⟨_, rfl⟩, hW, hsame.mono (by decide) (by decide)⟩
  · exact X3.returnOut hx Bd.returns (hb hby d1_152) hr
  · show QP P n0 _ T3.heap _
    rw [e3]
    exact ⟨rfl, N3, Z3, hP _ ⟨a, k, g_r, g_a, ne, E9, Fe9, Ff9, Fl9, V9⟩⟩
set_option maxRecDepth 65536 in
set_option maxHeartbeats 40000000 in
theorem rmAdd_C0 (l : Launch) (Z : State) (a0 : Array Value) (hw : ∀ d ∈ tables_1, d.before a0 Z = true) (ws : List Jvm.Cond) (r : Addr) (y0 y1 : Int64) (w : Int64) (P : Heap → Prop) (h0 : Heap) (n0 : Nat) (Z0 : n0 ≤ h0.size) (hRE : own_RE Z n0 r (2 : Int32) (0 : Int32) (2 : Int32) [y0, y1] h0) (b0 : own_I y0) (b1 : own_I y1) (bw : own_I w) (c0 : w < y0) (c1 : w < y1) (hP : ∀ h, own_RE Z n0 r (4 : Int32) (0 : Int32) (3 : Int32) [w, y0, y1, 0] h → P h) :
    MetFree l (⟨"com/example/orrery/orrery/policy/RunningEnds", "add", "(D)V"⟩ : MethodName) (head1 (Jvm.Cond.code (⟨"com/example/orrery/orrery/policy/RunningEnds", "add", "(D)V"⟩ : MethodName) prog_11_method_3_code 5 none :: ws) ({ frames := 1, cells := 1, slots := 4, locals := 18 } : Room)) (fun a U => a = #[(.ref r), (.double (FP.l2d w))] ∧ Z.Warmed39 U.vm ∧ U.heap = h0) (fun _ _ _ _ _ => True) (fun _ U o U' => ∃ v L, o = .returned v ∧ QP P n0 v U'.heap L ∧ FrameEnd U o U' L ({ frames := 1, cells := 1, slots := 4, locals := 18 } : Room).cells ({ frames := 1, cells := 1, slots := 4, locals := 18 } : Room).slots) := by
  refine MetFree.of_bodySF (plainFor_of_name pn1) hisR ?_
  intro p e s m args below meth c s₁ Bd hml0 hP hK
  obtain ⟨rfl, hZ, hh⟩ := hP
  have hx := Bd.exec
  have hby := Bd.bytes
  have hml : c.maxLocals = 5 := hml0
  have hown : s.vm.findClass "com/example/orrery/orrery/policy/RunningEnds" = some m.cls := findClass_of_methodNamed Bd.named
  have hnm := (name_of_methodNamed Bd.named Bd.method).1
  have X0 : Stand p l e ({ frames := 1, cells := 1, slots := 4, locals := 18 } : Room) s m #[(.ref r), (.double (FP.l2d w))] below meth c s₁ [] 0 0 := Stand.of_body Bd
  have e0 : s₁.heap = h0 := by rw [← hh, Bd.state]; rfl
  have N0 := Fr.nil n0
  have pre0 : ∀ t, Steps p.tables e below (s₁.setTop (mkF m 0 #[.val (.ref r), .val (.double (FP.l2d w)), .second, .unset, .unset] [])) t → Steps p.tables e below (s₁.setTop (entryFrame m #[(.ref r), (.double (FP.l2d w))] 5)) t := fun t k => castTop (ef1 m r (FP.l2d w)) k
  obtain ⟨a, k, g_r, g_a, ne, E_r, F_e, F_f, F_l, V_a⟩ := hRE
  obtain ⟨b, kb, T1, h1, L1, X1, e1, Z1, N1, ⟨g_b, neb, E1, Fe1, Ff1, Fl1, V1⟩, st1⟩ := add_GC l Z a0 hw hx hZ hby hml hown X0 r a k y0 y1 (FP.l2d w) h0 n0 e0 Z0 N0 (by decide) (by decide) (by decide) (by decide) g_r g_a ne E_r F_e F_f F_l V_a
  obtain ⟨T2, L2, X2, e2, N2, st2⟩ := add_T l Z a0 hw hx hZ hby hml hown X1 r b kb (0 : Int32) (4 : Int32) (2 : Int32) _ (FP.l2d w) (FP.l2d y1) (lcmpW y1 w) (.val (.ref b)) h1 n0 e1 Z1 N1 Fe1 Ff1 V1 (by decide) (by decide) rfl (dcmpV_w (own_b53 b1) (own_b53 bw) .l) (own_gt.mpr c1)
  obtain ⟨T3, L3, X3, e3, N3, st3⟩ := add_T l Z a0 hw hx hZ hby hml hown X2 r b kb (0 : Int32) (4 : Int32) (1 : Int32) _ (FP.l2d w) (FP.l2d y0) (lcmpW y0 w) (.val (.ref b)) h1 n0 e2 Z1 N2 Fe1 Ff1 V1 (by decide) (by decide) rfl (dcmpV_w (own_b53 b0) (own_b53 bw) .l) (own_gt.mpr c0)
  obtain ⟨T4, L4, X4, e4, N4, st4⟩ := add_X1 l Z a0 hw hx hZ hby hml hown X3 r (0 : Int32) (0 : Int32) (FP.l2d w) (.val (.ref b)) h1 n0 e3 Z1 N3 Ff1 (by decide)
  obtain ⟨T5, h5, L5, X5, e5, Z5, N5, ⟨E9, Fe9, Ff9, Fl9, V9⟩, st5⟩ := add_K420 l Z a0 hw hx hZ hby hml hown X4 r b kb (0 : Int32) y0 y1 0 0 w (.val (.ref b)) h1 n0 e4 Z1 N4 (by decide) (by decide) g_r g_b neb E1 Fe1 Ff1 Fl1 V1
  obtain ⟨fs, hr, hrun, hended, hW, hsame⟩ := X5.leave (v := none) (fun _ => rfl)
  refine ⟨_, _, pre0 _ (st1 _ (st2 _ (st3 _ (st4 _ (st5 _ ?_))))), hrun, hended, _, _, rfl, ?_, ⟨_, rfl⟩, hW, hsame.mono (by decide) (by decide)⟩
  · exact X5.returnOut hx Bd.returns (hb hby d1_152) hr
  · show QP P n0 _ T5.heap _
    rw [e5]
    exact ⟨rfl, N5, Z5, hP _ ⟨b, kb, g_r, g_b, neb, E9, Fe9, Ff9, Fl9, V9⟩⟩
set_option maxRecDepth 65536 in
set_option maxHeartbeats 40000000 in
theorem rmAdd_C1 (l : Launch) (Z : State) (a0 : Array Value) (hw : ∀ d ∈ tables_1, d.before a0 Z = true) (ws : List Jvm.Cond) (r : Addr) (y0 y1 : Int64) (w : Int64) (P : Heap → Prop) (h0 : Heap) (n0 : Nat) (Z0 : n0 ≤ h0.size) (hRE : own_RE Z n0 r (2 : Int32) (0 : Int32) (2 : Int32) [y0, y1] h0) (b0 : own_I y0) (b1 : own_I y1) (bw : own_I w) (c1 : w < y1) (c0 : ¬ w < y0) (hP : ∀ h, own_RE Z n0 r (4 : Int32) (0 : Int32) (3 : Int32) [y0, w, y1, 0] h → P h) :
    MetFree l (⟨"com/example/orrery/orrery/policy/RunningEnds", "add", "(D)V"⟩ : MethodName) (head1 (Jvm.Cond.code (⟨"com/example/orrery/orrery/policy/RunningEnds", "add", "(D)V"⟩ : MethodName) prog_11_method_3_code 5 none :: ws) ({ frames := 1, cells := 1, slots := 4, locals := 18 } : Room)) (fun a U => a = #[(.ref r), (.double (FP.l2d w))] ∧ Z.Warmed39 U.vm ∧ U.heap = h0) (fun _ _ _ _ _ => True) (fun _ U o U' => ∃ v L, o = .returned v ∧ QP P n0 v U'.heap L ∧ FrameEnd U o U' L ({ frames := 1, cells := 1, slots := 4, locals := 18 } : Room).cells ({ frames := 1, cells := 1, slots := 4, locals := 18 } : Room).slots) := by
  refine MetFree.of_bodySF (plainFor_of_name pn1) hisR ?_
  intro p e s m args below meth c s₁ Bd hml0 hP hK
  obtain ⟨rfl, hZ, hh⟩ := hP
  have hx := Bd.exec
  have hby := Bd.bytes
  have hml : c.maxLocals = 5 := hml0
  have hown : s.vm.findClass "com/example/orrery/orrery/policy/RunningEnds" = some m.cls := findClass_of_methodNamed Bd.named
  have hnm := (name_of_methodNamed Bd.named Bd.method).1
  have X0 : Stand p l e ({ frames := 1, cells := 1, slots := 4, locals := 18 } : Room) s m #[(.ref r), (.double (FP.l2d w))] below meth c s₁ [] 0 0 := Stand.of_body Bd
  have e0 : s₁.heap = h0 := by rw [← hh, Bd.state]; rfl
  have N0 := Fr.nil n0
  have pre0 : ∀ t, Steps p.tables e below (s₁.setTop (mkF m 0 #[.val (.ref r), .val (.double (FP.l2d w)), .second, .unset, .unset] [])) t → Steps p.tables e below (s₁.setTop (entryFrame m #[(.ref r), (.double (FP.l2d w))] 5)) t := fun t k => castTop (ef1 m r (FP.l2d w)) k
  obtain ⟨a, k, g_r, g_a, ne, E_r, F_e, F_f, F_l, V_a⟩ := hRE
  obtain ⟨b, kb, T1, h1, L1, X1, e1, Z1, N1, ⟨g_b, neb, E1, Fe1, Ff1, Fl1, V1⟩, st1⟩ := add_GC l Z a0 hw hx hZ hby hml hown X0 r a k y0 y1 (FP.l2d w) h0 n0 e0 Z0 N0 (by decide) (by decide) (by decide) (by decide) g_r g_a ne E_r F_e F_f F_l V_a
  obtain ⟨T2, L2, X2, e2, N2, st2⟩ := add_T l Z a0 hw hx hZ hby hml hown X1 r b kb (0 : Int32) (4 : Int32) (2 : Int32) _ (FP.l2d w) (FP.l2d y1) (lcmpW y1 w) (.val (.ref b)) h1 n0 e1 Z1 N1 Fe1 Ff1 V1 (by decide) (by decide) rfl (dcmpV_w (own_b53 b1) (own_b53 bw) .l) (own_gt.mpr c1)
  obtain ⟨T3, L3, X3, e3, N3, st3⟩ := add_X2 l Z a0 hw hx hZ hby hml hown X2 r b kb (0 : Int32) (4 : Int32) (1 : Int32) _ (FP.l2d w) (FP.l2d y0) (lcmpW y0 w) (.val (.ref b)) h1 n0 e2 Z1 N2 Fe1 Ff1 V1 (by decide) (by decide) rfl (dcmpV_w (own_b53 b0) (own_b53 bw) .l) (fun q => c0 (own_gt.mp q))
  obtain ⟨T4, h4, L4, X4, e4, Z4, N4, ⟨E9, Fe9, Ff9, Fl9, V9⟩, st4⟩ := add_K421 l Z a0 hw hx hZ hby hml hown X3 r b kb (0 : Int32) y0 y1 0 0 w (.val (.ref b)) h1 n0 e3 Z1 N3 (by decide) (by decide) g_r g_b neb E1 Fe1 Ff1 Fl1 V1
  obtain ⟨fs, hr, hrun, hended, hW, hsame⟩ := X4.leave (v := none) (fun _ => rfl)
  refine ⟨_, _, pre0 _ (st1 _ (st2 _ (st3 _ (st4 _ ?_)))), hrun, hended, _, _, rfl, ?_, ⟨_, rfl⟩, hW, hsame.mono (by decide) (by decide)⟩
  · exact X4.returnOut hx Bd.returns (hb hby d1_152) hr
  · show QP P n0 _ T4.heap _
    rw [e4]
    exact ⟨rfl, N4, Z4, hP _ ⟨b, kb, g_r, g_b, neb, E9, Fe9, Ff9, Fl9, V9⟩⟩
set_option maxRecDepth 65536 in
set_option maxHeartbeats 40000000 in
theorem rmAdd_C2 (l : Launch) (Z : State) (a0 : Array Value) (hw : ∀ d ∈ tables_1, d.before a0 Z = true) (ws : List Jvm.Cond) (r : Addr) (y0 y1 : Int64) (w : Int64) (P : Heap → Prop) (h0 : Heap) (n0 : Nat) (Z0 : n0 ≤ h0.size) (hRE : own_RE Z n0 r (2 : Int32) (0 : Int32) (2 : Int32) [y0, y1] h0) (b1 : own_I y1) (bw : own_I w) (c1 : ¬ w < y1) (hP : ∀ h, own_RE Z n0 r (4 : Int32) (0 : Int32) (3 : Int32) [y0, y1, w, 0] h → P h) :
    MetFree l (⟨"com/example/orrery/orrery/policy/RunningEnds", "add", "(D)V"⟩ : MethodName) (head1 (Jvm.Cond.code (⟨"com/example/orrery/orrery/policy/RunningEnds", "add", "(D)V"⟩ : MethodName) prog_11_method_3_code 5 none :: ws) ({ frames := 1, cells := 1, slots := 4, locals := 18 } : Room)) (fun a U => a = #[(.ref r), (.double (FP.l2d w))] ∧ Z.Warmed39 U.vm ∧ U.heap = h0) (fun _ _ _ _ _ => True) (fun _ U o U' => ∃ v L, o = .returned v ∧ QP P n0 v U'.heap L ∧ FrameEnd U o U' L ({ frames := 1, cells := 1, slots := 4, locals := 18 } : Room).cells ({ frames := 1, cells := 1, slots := 4, locals := 18 } : Room).slots) := by
  refine MetFree.of_bodySF (plainFor_of_name pn1) hisR ?_
  intro p e s m args below meth c s₁ Bd hml0 hP hK
  obtain ⟨rfl, hZ, hh⟩ := hP
  have hx := Bd.exec
  have hby := Bd.bytes
  have hml : c.maxLocals = 5 := hml0
  have hown : s.vm.findClass "com/example/orrery/orrery/policy/RunningEnds" = some m.cls := findClass_of_methodNamed Bd.named
  have hnm := (name_of_methodNamed Bd.named Bd.method).1
  have X0 : Stand p l e ({ frames := 1, cells := 1, slots := 4, locals := 18 } : Room) s m #[(.ref r), (.double (FP.l2d w))] below meth c s₁ [] 0 0 := Stand.of_body Bd
  have e0 : s₁.heap = h0 := by rw [← hh, Bd.state]; rfl
  have N0 := Fr.nil n0
  have pre0 : ∀ t, Steps p.tables e below (s₁.setTop (mkF m 0 #[.val (.ref r), .val (.double (FP.l2d w)), .second, .unset, .unset] [])) t → Steps p.tables e below (s₁.setTop (entryFrame m #[(.ref r), (.double (FP.l2d w))] 5)) t := fun t k => castTop (ef1 m r (FP.l2d w)) k
  obtain ⟨a, k, g_r, g_a, ne, E_r, F_e, F_f, F_l, V_a⟩ := hRE
  obtain ⟨b, kb, T1, h1, L1, X1, e1, Z1, N1, ⟨g_b, neb, E1, Fe1, Ff1, Fl1, V1⟩, st1⟩ := add_GC l Z a0 hw hx hZ hby hml hown X0 r a k y0 y1 (FP.l2d w) h0 n0 e0 Z0 N0 (by decide) (by decide) (by decide) (by decide) g_r g_a ne E_r F_e F_f F_l V_a
  obtain ⟨T2, L2, X2, e2, N2, st2⟩ := add_X2 l Z a0 hw hx hZ hby hml hown X1 r b kb (0 : Int32) (4 : Int32) (2 : Int32) _ (FP.l2d w) (FP.l2d y1) (lcmpW y1 w) (.val (.ref b)) h1 n0 e1 Z1 N1 Fe1 Ff1 V1 (by decide) (by decide) rfl (dcmpV_w (own_b53 b1) (own_b53 bw) .l) (fun q => c1 (own_gt.mp q))
  obtain ⟨T3, h3, L3, X3, e3, Z3, N3, ⟨E9, Fe9, Ff9, Fl9, V9⟩, st3⟩ := add_K422 l Z a0 hw hx hZ hby hml hown X2 r b kb (0 : Int32) y0 y1 0 0 w (.val (.ref b)) h1 n0 e2 Z1 N2 (by decide) (by decide) g_r g_b neb E1 Fe1 Ff1 Fl1 V1
  obtain ⟨fs, hr, hrun, hended, hW, hsame⟩ := X3.leave (v := none) (fun _ => rfl)
  refine ⟨_, _, pre0 _ (st1 _ (st2 _ (st3 _ ?_))), hrun, hended, _, _, rfl, ?_, ⟨_, rfl⟩, hW, hsame.mono (by decide) (by decide)⟩
  · exact X3.returnOut hx Bd.returns (hb hby d1_152) hr
  · show QP P n0 _ T3.heap _
    rw [e3]
    exact ⟨rfl, N3, Z3, hP _ ⟨b, kb, g_r, g_b, neb, E9, Fe9, Ff9, Fl9, V9⟩⟩
set_option maxRecDepth 65536 in
set_option maxHeartbeats 40000000 in
theorem rmAdd_D0 (l : Launch) (Z : State) (a0 : Array Value) (hw : ∀ d ∈ tables_1, d.before a0 Z = true) (ws : List Jvm.Cond) (r : Addr) (y0 y1 : Int64) (w : Int64) (P : Heap → Prop) (h0 : Heap) (n0 : Nat) (Z0 : n0 ≤ h0.size) (hRE : own_RE Z n0 r (2 : Int32) (1 : Int32) (2 : Int32) [y0, y1] h0) (b0 : own_I y1) (bw : own_I w) (c0 : w < y1) (hP : ∀ h, own_RE Z n0 r (4 : Int32) (0 : Int32) (2 : Int32) [w, y1, 0, 0] h → P h) :
    MetFree l (⟨"com/example/orrery/orrery/policy/RunningEnds", "add", "(D)V"⟩ : MethodName) (head1 (Jvm.Cond.code (⟨"com/example/orrery/orrery/policy/RunningEnds", "add", "(D)V"⟩ : MethodName) prog_11_method_3_code 5 none :: ws) ({ frames := 1, cells := 1, slots := 4, locals := 18 } : Room)) (fun a U => a = #[(.ref r), (.double (FP.l2d w))] ∧ Z.Warmed39 U.vm ∧ U.heap = h0) (fun _ _ _ _ _ => True) (fun _ U o U' => ∃ v L, o = .returned v ∧ QP P n0 v U'.heap L ∧ FrameEnd U o U' L ({ frames := 1, cells := 1, slots := 4, locals := 18 } : Room).cells ({ frames := 1, cells := 1, slots := 4, locals := 18 } : Room).slots) := by
  refine MetFree.of_bodySF (plainFor_of_name pn1) hisR ?_
  intro p e s m args below meth c s₁ Bd hml0 hP hK
  obtain ⟨rfl, hZ, hh⟩ := hP
  have hx := Bd.exec
  have hby := Bd.bytes
  have hml : c.maxLocals = 5 := hml0
  have hown : s.vm.findClass "com/example/orrery/orrery/policy/RunningEnds" = some m.cls := findClass_of_methodNamed Bd.named
  have hnm := (name_of_methodNamed Bd.named Bd.method).1
  have X0 : Stand p l e ({ frames := 1, cells := 1, slots := 4, locals := 18 } : Room) s m #[(.ref r), (.double (FP.l2d w))] below meth c s₁ [] 0 0 := Stand.of_body Bd
  have e0 : s₁.heap = h0 := by rw [← hh, Bd.state]; rfl
  have N0 := Fr.nil n0
  have pre0 : ∀ t, Steps p.tables e below (s₁.setTop (mkF m 0 #[.val (.ref r), .val (.double (FP.l2d w)), .second, .unset, .unset] [])) t → Steps p.tables e below (s₁.setTop (entryFrame m #[(.ref r), (.double (FP.l2d w))] 5)) t := fun t k => castTop (ef1 m r (FP.l2d w)) k
  obtain ⟨a, k, g_r, g_a, ne, E_r, F_e, F_f, F_l, V_a⟩ := hRE
  obtain ⟨b, kb, T1, h1, L1, X1, e1, Z1, N1, ⟨g_b, neb, E1, Fe1, Ff1, Fl1, V1⟩, st1⟩ := add_GD l Z a0 hw hx hZ hby hml hown X0 r a k y0 y1 (FP.l2d w) h0 n0 e0 Z0 N0 (by decide) (by decide) (by decide) (by decide) g_r g_a ne E_r F_e F_f F_l V_a
  obtain ⟨T2, L2, X2, e2, N2, st2⟩ := add_T l Z a0 hw hx hZ hby hml hown X1 r b kb (0 : Int32) (4 : Int32) (1 : Int32) _ (FP.l2d w) (FP.l2d y1) (lcmpW y1 w) (.val (.ref b)) h1 n0 e1 Z1 N1 Fe1 Ff1 V1 (by decide) (by decide) rfl (dcmpV_w (own_b53 b0) (own_b53 bw) .l) (own_gt.mpr c0)
  obtain ⟨T3, L3, X3, e3, N3, st3⟩ := add_X1 l Z a0 hw hx hZ hby hml hown X2 r (0 : Int32) (0 : Int32) (FP.l2d w) (.val (.ref b)) h1 n0 e2 Z1 N2 Ff1 (by decide)
  obtain ⟨T4, h4, L4, X4, e4, Z4, N4, ⟨E9, Fe9, Ff9, Fl9, V9⟩, st4⟩ := add_K410 l Z a0 hw hx hZ hby hml hown X3 r b kb (0 : Int32) y1 0 0 0 w (.val (.ref b)) h1 n0 e3 Z1 N3 (by decide) (by decide) g_r g_b neb E1 Fe1 Ff1 Fl1 V1
  obtain ⟨fs, hr, hrun, hended, hW, hsame⟩ := X4.leave (v := none) (fun _ => rfl)
  refine ⟨_, _, pre0 _ (st1 _ (st2 _ (st3 _ (st4 _ ?_)))), hrun, hended, _, _, rfl, ?_, ⟨_, rfl⟩, hW, hsame.mono (by decide) (by decide)⟩
  · exact X4.returnOut hx Bd.returns (hb hby d1_152) hr
  · show QP P n0 _ T4.heap _
    rw [e4]
    exact ⟨rfl, N4, Z4, hP _ ⟨b, kb, g_r, g_b, neb, E9, Fe9, Ff9, Fl9, V9⟩⟩
set_option maxRecDepth 65536 in
set_option maxHeartbeats 40000000 in
theorem rmAdd_D1 (l : Launch) (Z : State) (a0 : Array Value) (hw : ∀ d ∈ tables_1, d.before a0 Z = true) (ws : List Jvm.Cond) (r : Addr) (y0 y1 : Int64) (w : Int64) (P : Heap → Prop) (h0 : Heap) (n0 : Nat) (Z0 : n0 ≤ h0.size) (hRE : own_RE Z n0 r (2 : Int32) (1 : Int32) (2 : Int32) [y0, y1] h0) (b0 : own_I y1) (bw : own_I w) (c0 : ¬ w < y1) (hP : ∀ h, own_RE Z n0 r (4 : Int32) (0 : Int32) (2 : Int32) [y1, w, 0, 0] h → P h) :
    MetFree l (⟨"com/example/orrery/orrery/policy/RunningEnds", "add", "(D)V"⟩ : MethodName) (head1 (Jvm.Cond.code (⟨"com/example/orrery/orrery/policy/RunningEnds", "add", "(D)V"⟩ : MethodName) prog_11_method_3_code 5 none :: ws) ({ frames := 1, cells := 1, slots := 4, locals := 18 } : Room)) (fun a U => a = #[(.ref r), (.double (FP.l2d w))] ∧ Z.Warmed39 U.vm ∧ U.heap = h0) (fun _ _ _ _ _ => True) (fun _ U o U' => ∃ v L, o = .returned v ∧ QP P n0 v U'.heap L ∧ FrameEnd U o U' L ({ frames := 1, cells := 1, slots := 4, locals := 18 } : Room).cells ({ frames := 1, cells := 1, slots := 4, locals := 18 } : Room).slots) := by
  refine MetFree.of_bodySF (plainFor_of_name pn1) hisR ?_
  intro p e s m args below meth c s₁ Bd hml0 hP hK
  obtain ⟨rfl, hZ, hh⟩ := hP
  have hx := Bd.exec
  have hby := Bd.bytes
  have hml : c.maxLocals = 5 := hml0
  have hown : s.vm.findClass "com/example/orrery/orrery/policy/RunningEnds" = some m.cls := findClass_of_methodNamed Bd.named
  have hnm := (name_of_methodNamed Bd.named Bd.method).1
  have X0 : Stand p l e ({ frames := 1, cells := 1, slots := 4, locals := 18 } : Room) s m #[(.ref r), (.double (FP.l2d w))] below meth c s₁ [] 0 0 := Stand.of_body Bd
  have e0 : s₁.heap = h0 := by rw [← hh, Bd.state]; rfl
  have N0 := Fr.nil n0
  have pre0 : ∀ t, Steps p.tables e below (s₁.setTop (mkF m 0 #[.val (.ref r), .val (.double (FP.l2d w)), .second, .unset, .unset] [])) t → Steps p.tables e below (s₁.setTop (entryFrame m #[(.ref r), (.double (FP.l2d w))] 5)) t := fun t k => castTop (ef1 m r (FP.l2d w)) k
  obtain ⟨a, k, g_r, g_a, ne, E_r, F_e, F_f, F_l, V_a⟩ := hRE
  obtain ⟨b, kb, T1, h1, L1, X1, e1, Z1, N1, ⟨g_b, neb, E1, Fe1, Ff1, Fl1, V1⟩, st1⟩ := add_GD l Z a0 hw hx hZ hby hml hown X0 r a k y0 y1 (FP.l2d w) h0 n0 e0 Z0 N0 (by decide) (by decide) (by decide) (by decide) g_r g_a ne E_r F_e F_f F_l V_a
  obtain ⟨T2, L2, X2, e2, N2, st2⟩ := add_X2 l Z a0 hw hx hZ hby hml hown X1 r b kb (0 : Int32) (4 : Int32) (1 : Int32) _ (FP.l2d w) (FP.l2d y1) (lcmpW y1 w) (.val (.ref b)) h1 n0 e1 Z1 N1 Fe1 Ff1 V1 (by decide) (by decide) rfl (dcmpV_w (own_b53 b0) (own_b53 bw) .l) (fun q => c0 (own_gt.mp q))
  obtain ⟨T3, h3, L3, X3, e3, Z3, N3, ⟨E9, Fe9, Ff9, Fl9, V9⟩, st3⟩ := add_K411 l Z a0 hw hx hZ hby hml hown X2 r b kb (0 : Int32) y1 0 0 0 w (.val (.ref b)) h1 n0 e2 Z1 N2 (by decide) (by decide) g_r g_b neb E1 Fe1 Ff1 Fl1 V1
  obtain ⟨fs, hr, hrun, hended, hW, hsame⟩ := X3.leave (v := none) (fun _ => rfl)
  refine ⟨_, _, pre0 _ (st1 _ (st2 _ (st3 _ ?_))), hrun, hended, _, _, rfl, ?_, ⟨_, rfl⟩, hW, hsame.mono (by decide) (by decide)⟩
  · exact X3.returnOut hx Bd.returns (hb hby d1_152) hr
  · show QP P n0 _ T3.heap _
    rw [e3]
    exact ⟨rfl, N3, Z3, hP _ ⟨b, kb, g_r, g_b, neb, E9, Fe9, Ff9, Fl9, V9⟩⟩
set_option maxRecDepth 65536 in
set_option maxHeartbeats 40000000 in
theorem rmAdd_E0 (l : Launch) (Z : State) (a0 : Array Value) (hw : ∀ d ∈ tables_1, d.before a0 Z = true) (ws : List Jvm.Cond) (r : Addr) (y0 y1 y2 y3 : Int64) (w : Int64) (P : Heap → Prop) (h0 : Heap) (n0 : Nat) (Z0 : n0 ≤ h0.size) (hRE : own_RE Z n0 r (4 : Int32) (0 : Int32) (3 : Int32) [y0, y1, y2, y3] h0) (b0 : own_I y0) (b1 : own_I y1) (b2 : own_I y2) (bw : own_I w) (c0 : w < y0) (c1 : w < y1) (c2 : w < y2) (hP : ∀ h, own_RE Z n0 r (4 : Int32) (0 : Int32) (4 : Int32) [w, y0, y1, y2] h → P h) :
    MetFree l (⟨"com/example/orrery/orrery/policy/RunningEnds", "add", "(D)V"⟩ : MethodName) (head1 (Jvm.Cond.code (⟨"com/example/orrery/orrery/policy/RunningEnds", "add", "(D)V"⟩ : MethodName) prog_11_method_3_code 5 none :: ws) ({ frames := 1, cells := 1, slots := 4, locals := 18 } : Room)) (fun a U => a = #[(.ref r), (.double (FP.l2d w))] ∧ Z.Warmed39 U.vm ∧ U.heap = h0) (fun _ _ _ _ _ => True) (fun _ U o U' => ∃ v L, o = .returned v ∧ QP P n0 v U'.heap L ∧ FrameEnd U o U' L ({ frames := 1, cells := 1, slots := 4, locals := 18 } : Room).cells ({ frames := 1, cells := 1, slots := 4, locals := 18 } : Room).slots) := by
  refine MetFree.of_bodySF (plainFor_of_name pn1) hisR ?_
  intro p e s m args below meth c s₁ Bd hml0 hP hK
  obtain ⟨rfl, hZ, hh⟩ := hP
  have hx := Bd.exec
  have hby := Bd.bytes
  have hml : c.maxLocals = 5 := hml0
  have hown : s.vm.findClass "com/example/orrery/orrery/policy/RunningEnds" = some m.cls := findClass_of_methodNamed Bd.named
  have hnm := (name_of_methodNamed Bd.named Bd.method).1
  have X0 : Stand p l e ({ frames := 1, cells := 1, slots := 4, locals := 18 } : Room) s m #[(.ref r), (.double (FP.l2d w))] below meth c s₁ [] 0 0 := Stand.of_body Bd
  have e0 : s₁.heap = h0 := by rw [← hh, Bd.state]; rfl
  have N0 := Fr.nil n0
  have pre0 : ∀ t, Steps p.tables e below (s₁.setTop (mkF m 0 #[.val (.ref r), .val (.double (FP.l2d w)), .second, .unset, .unset] [])) t → Steps p.tables e below (s₁.setTop (entryFrame m #[(.ref r), (.double (FP.l2d w))] 5)) t := fun t k => castTop (ef1 m r (FP.l2d w)) k
  obtain ⟨a, k, g_r, g_a, ne, E_r, F_e, F_f, F_l, V_a⟩ := hRE
  obtain ⟨T1, L1, X1, e1, N1, st1⟩ := add_E l Z a0 hw hx hZ hby hml hown X0 r a k (0 : Int32) (3 : Int32) (4 : Int32) _ (FP.l2d w) h0 n0 e0 Z0 N0 g_r g_a ne E_r F_e F_f F_l V_a (by decide)
  obtain ⟨T2, L2, X2, e2, N2, st2⟩ := add_T l Z a0 hw hx hZ hby hml hown X1 r a k (0 : Int32) (4 : Int32) (3 : Int32) _ (FP.l2d w) (FP.l2d y2) (lcmpW y2 w) .unset h0 n0 e1 Z0 N1 F_e F_f V_a (by decide) (by decide) rfl (dcmpV_w (own_b53 b2) (own_b53 bw) .l) (own_gt.mpr c2)
  obtain ⟨T3, L3, X3, e3, N3, st3⟩ := add_T l Z a0 hw hx hZ hby hml hown X2 r a k (0 : Int32) (4 : Int32) (2 : Int32) _ (FP.l2d w) (FP.l2d y1) (lcmpW y1 w) .unset h0 n0 e2 Z0 N2 F_e F_f V_a (by decide) (by decide) rfl (dcmpV_w (own_b53 b1) (own_b53 bw) .l) (own_gt.mpr c1)
  obtain ⟨T4, L4, X4, e4, N4, st4⟩ := add_T l Z a0 hw hx hZ hby hml hown X3 r a k (0 : Int32) (4 : Int32) (1 : Int32) _ (FP.l2d w) (FP.l2d y0) (lcmpW y0 w) .unset h0 n0 e3 Z0 N3 F_e F_f V_a (by decide) (by decide) rfl (dcmpV_w (own_b53 b0) (own_b53 bw) .l) (own_gt.mpr c0)
  obtain ⟨T5, L5, X5, e5, N5, st5⟩ := add_X1 l Z a0 hw hx hZ hby hml hown X4 r (0 : Int32) (0 : Int32) (FP.l2d w) .unset h0 n0 e4 Z0 N4 F_f (by decide)
  obtain ⟨T6, h6, L6, X6, e6, Z6, N6, ⟨E9, Fe9, Ff9, Fl9, V9⟩, st6⟩ := add_K430 l Z a0 hw hx hZ hby hml hown X5 r a k (0 : Int32) y0 y1 y2 y3 w .unset h0 n0 e5 Z0 N5 (by decide) (by decide) g_r g_a ne E_r F_e F_f F_l V_a
  obtain ⟨fs, hr, hrun, hended, hW, hsame⟩ := X6.leave (v := none) (fun _ => rfl)
  refine ⟨_, _, pre0 _ (st1 _ (st2 _ (st3 _ (st4 _ (st5 _ (st6 _ ?_)))))), hrun, hended, _, _, rfl, ?_, ⟨_, rfl⟩, hW, hsame.mono (by decide) (by decide)⟩
  · exact X6.returnOut hx Bd.returns (hb hby d1_152) hr
  · show QP P n0 _ T6.heap _
    rw [e6]
    exact ⟨rfl, N6, Z6, hP _ ⟨a, k, g_r, g_a, ne, E9, Fe9, Ff9, Fl9, V9⟩⟩
set_option maxRecDepth 65536 in
set_option maxHeartbeats 40000000 in
theorem rmAdd_E1 (l : Launch) (Z : State) (a0 : Array Value) (hw : ∀ d ∈ tables_1, d.before a0 Z = true) (ws : List Jvm.Cond) (r : Addr) (y0 y1 y2 y3 : Int64) (w : Int64) (P : Heap → Prop) (h0 : Heap) (n0 : Nat) (Z0 : n0 ≤ h0.size) (hRE : own_RE Z n0 r (4 : Int32) (0 : Int32) (3 : Int32) [y0, y1, y2, y3] h0) (b0 : own_I y0) (b1 : own_I y1) (b2 : own_I y2) (bw : own_I w) (c1 : w < y1) (c2 : w < y2) (c0 : ¬ w < y0) (hP : ∀ h, own_RE Z n0 r (4 : Int32) (0 : Int32) (4 : Int32) [y0, w, y1, y2] h → P h) :
    MetFree l (⟨"com/example/orrery/orrery/policy/RunningEnds", "add", "(D)V"⟩ : MethodName) (head1 (Jvm.Cond.code (⟨"com/example/orrery/orrery/policy/RunningEnds", "add", "(D)V"⟩ : MethodName) prog_11_method_3_code 5 none :: ws) ({ frames := 1, cells := 1, slots := 4, locals := 18 } : Room)) (fun a U => a = #[(.ref r), (.double (FP.l2d w))] ∧ Z.Warmed39 U.vm ∧ U.heap = h0) (fun _ _ _ _ _ => True) (fun _ U o U' => ∃ v L, o = .returned v ∧ QP P n0 v U'.heap L ∧ FrameEnd U o U' L ({ frames := 1, cells := 1, slots := 4, locals := 18 } : Room).cells ({ frames := 1, cells := 1, slots := 4, locals := 18 } : Room).slots) := by
  refine MetFree.of_bodySF (plainFor_of_name pn1) hisR ?_
  intro p e s m args below meth c s₁ Bd hml0 hP hK
  obtain ⟨rfl, hZ, hh⟩ := hP
  have hx := Bd.exec
  have hby := Bd.bytes
  have hml : c.maxLocals = 5 := hml0
  have hown : s.vm.findClass "com/example/orrery/orrery/policy/RunningEnds" = some m.cls := findClass_of_methodNamed Bd.named
  have hnm := (name_of_methodNamed Bd.named Bd.method).1
  have X0 : Stand p l e ({ frames := 1, cells := 1, slots := 4, locals := 18 } : Room) s m #[(.ref r), (.double (FP.l2d w))] below meth c s₁ [] 0 0 := Stand.of_body Bd
  have e0 : s₁.heap = h0 := by rw [← hh, Bd.state]; rfl
  have N0 := Fr.nil n0
  have pre0 : ∀ t, Steps p.tables e below (s₁.setTop (mkF m 0 #[.val (.ref r), .val (.double (FP.l2d w)), .second, .unset, .unset] [])) t → Steps p.tables e below (s₁.setTop (entryFrame m #[(.ref r), (.double (FP.l2d w))] 5)) t := fun t k => castTop (ef1 m r (FP.l2d w)) k
  obtain ⟨a, k, g_r, g_a, ne, E_r, F_e, F_f, F_l, V_a⟩ := hRE
  obtain ⟨T1, L1, X1, e1, N1, st1⟩ := add_E l Z a0 hw hx hZ hby hml hown X0 r a k (0 : Int32) (3 : Int32) (4 : Int32) _ (FP.l2d w) h0 n0 e0 Z0 N0 g_r g_a ne E_r F_e F_f F_l V_a (by decide)
  obtain ⟨T2, L2, X2, e2, N2, st2⟩ := add_T l Z a0 hw hx hZ hby hml hown X1 r a k (0 : Int32) (4 : Int32) (3 : Int32) _ (FP.l2d w) (FP.l2d y2) (lcmpW y2 w) .unset h0 n0 e1 Z0 N1 F_e F_f V_a (by decide) (by decide) rfl (dcmpV_w (own_b53 b2) (own_b53 bw) .l) (own_gt.mpr c2)
  obtain ⟨T3, L3, X3, e3, N3, st3⟩ := add_T l Z a0 hw hx hZ hby hml hown X2 r a k (0 : Int32) (4 : Int32) (2 : Int32) _ (FP.l2d w) (FP.l2d y1) (lcmpW y1 w) .unset h0 n0 e2 Z0 N2 F_e F_f V_a (by decide) (by decide) rfl (dcmpV_w (own_b53 b1) (own_b53 bw) .l) (own_gt.mpr c1)
  obtain ⟨T4, L4, X4, e4, N4, st4⟩ := add_X2 l Z a0 hw hx hZ hby hml hown X3 r a k (0 : Int32) (4 : Int32) (1 : Int32) _ (FP.l2d w) (FP.l2d y0) (lcmpW y0 w) .unset h0 n0 e3 Z0 N3 F_e F_f V_a (by decide) (by decide) rfl (dcmpV_w (own_b53 b0) (own_b53 bw) .l) (fun q => c0 (own_gt.mp q))
  obtain ⟨T5, h5, L5, X5, e5, Z5, N5, ⟨E9, Fe9, Ff9, Fl9, V9⟩, st5⟩ := add_K431 l Z a0 hw hx hZ hby hml hown X4 r a k (0 : Int32) y0 y1 y2 y3 w .unset h0 n0 e4 Z0 N4 (by decide) (by decide) g_r g_a ne E_r F_e F_f F_l V_a
  obtain ⟨fs, hr, hrun, hended, hW, hsame⟩ := X5.leave (v := none) (fun _ => rfl)
  refine ⟨_, _, pre0 _ (st1 _ (st2 _ (st3 _ (st4 _ (st5 _ ?_))))), hrun, hended, _, _, rfl, ?_, ⟨_, rfl⟩, hW, hsame.mono (by decide) (by decide)⟩
  · exact X5.returnOut hx Bd.returns (hb hby d1_152) hr
  · show QP P n0 _ T5.heap _
    rw [e5]
    exact ⟨rfl, N5, Z5, hP _ ⟨a, k, g_r, g_a, ne, E9, Fe9, Ff9, Fl9, V9⟩⟩
set_option maxRecDepth 65536 in
set_option maxHeartbeats 40000000 in
theorem rmAdd_E2 (l : Launch) (Z : State) (a0 : Array Value) (hw : ∀ d ∈ tables_1, d.before a0 Z = true) (ws : List Jvm.Cond) (r : Addr) (y0 y1 y2 y3 : Int64) (w : Int64) (P : Heap → Prop) (h0 : Heap) (n0 : Nat) (Z0 : n0 ≤ h0.size) (hRE : own_RE Z n0 r (4 : Int32) (0 : Int32) (3 : Int32) [y0, y1, y2, y3] h0) (b1 : own_I y1) (b2 : own_I y2) (bw : own_I w) (c2 : w < y2) (c1 : ¬ w < y1) (hP : ∀ h, own_RE Z n0 r (4 : Int32) (0 : Int32) (4 : Int32) [y0, y1, w, y2] h → P h) :
    MetFree l (⟨"com/example/orrery/orrery/policy/RunningEnds", "add", "(D)V"⟩ : MethodName) (head1 (Jvm.Cond.code (⟨"com/example/orrery/orrery/policy/RunningEnds", "add", "(D)V"⟩ : MethodName) prog_11_method_3_code 5 none :: ws) ({ frames := 1, cells := 1, slots := 4, locals := 18 } : Room)) (fun a U => a = #[(.ref r), (.double (FP.l2d w))] ∧ Z.Warmed39 U.vm ∧ U.heap = h0) (fun _ _ _ _ _ => True) (fun _ U o U' => ∃ v L, o = .returned v ∧ QP P n0 v U'.heap L ∧ FrameEnd U o U' L ({ frames := 1, cells := 1, slots := 4, locals := 18 } : Room).cells ({ frames := 1, cells := 1, slots := 4, locals := 18 } : Room).slots) := by
  refine MetFree.of_bodySF (plainFor_of_name pn1) hisR ?_
  intro p e s m args below meth c s₁ Bd hml0 hP hK
  obtain ⟨rfl, hZ, hh⟩ := hP
  have hx := Bd.exec
  have hby := Bd.bytes
  have hml : c.maxLocals = 5 := hml0
  have hown : s.vm.findClass "com/example/orrery/orrery/policy/RunningEnds" = some m.cls := findClass_of_methodNamed Bd.named
  have hnm := (name_of_methodNamed Bd.named Bd.method).1
  have X0 : Stand p l e ({ frames := 1, cells := 1, slots := 4, locals := 18 } : Room) s m #[(.ref r), (.double (FP.l2d w))] below meth c s₁ [] 0 0 := Stand.of_body Bd
  have e0 : s₁.heap = h0 := by rw [← hh, Bd.state]; rfl
  have N0 := Fr.nil n0
  have pre0 : ∀ t, Steps p.tables e below (s₁.setTop (mkF m 0 #[.val (.ref r), .val (.double (FP.l2d w)), .second, .unset, .unset] [])) t → Steps p.tables e below (s₁.setTop (entryFrame m #[(.ref r), (.double (FP.l2d w))] 5)) t := fun t k => castTop (ef1 m r (FP.l2d w)) k
  obtain ⟨a, k, g_r, g_a, ne, E_r, F_e, F_f, F_l, V_a⟩ := hRE
  obtain ⟨T1, L1, X1, e1, N1, st1⟩ := add_E l Z a0 hw hx hZ hby hml hown X0 r a k (0 : Int32) (3 : Int32) (4 : Int32) _ (FP.l2d w) h0 n0 e0 Z0 N0 g_r g_a ne E_r F_e F_f F_l V_a (by decide)
  obtain ⟨T2, L2, X2, e2, N2, st2⟩ := add_T l Z a0 hw hx hZ hby hml hown X1 r a k (0 : Int32) (4 : Int32) (3 : Int32) _ (FP.l2d w) (FP.l2d y2) (lcmpW y2 w) .unset h0 n0 e1 Z0 N1 F_e F_f V_a (by decide) (by decide) rfl (dcmpV_w (own_b53 b2) (own_b53 bw) .l) (own_gt.mpr c2)
  obtain ⟨T3, L3, X3, e3, N3, st3⟩ := add_X2 l Z a0 hw hx hZ hby hml hown X2 r a k (0 : Int32) (4 : Int32) (2 : Int32) _ (FP.l2d w) (FP.l2d y1) (lcmpW y1 w) .unset h0 n0 e2 Z0 N2 F_e F_f V_a (by decide) (by decide) rfl (dcmpV_w (own_b53 b1) (own_b53 bw) .l) (fun q => c1 (own_gt.mp q))
  obtain ⟨T4, h4, L4, X4, e4, Z4, N4, ⟨E9, Fe9, Ff9, Fl9, V9⟩, st4⟩ := add_K432 l Z a0 hw hx hZ hby hml hown X3 r a k (0 : Int32) y0 y1 y2 y3 w .unset h0 n0 e3 Z0 N3 (by decide) (by decide) g_r g_a ne E_r F_e F_f F_l V_a
  obtain ⟨fs, hr, hrun, hended, hW, hsame⟩ := X4.leave (v := none) (fun _ => rfl)
  refine ⟨_, _, pre0 _ (st1 _ (st2 _ (st3 _ (st4 _ ?_)))), hrun, hended, _, _, rfl, ?_, ⟨_, rfl⟩, hW, hsame.mono (by decide) (by decide)⟩
  · exact X4.returnOut hx Bd.returns (hb hby d1_152) hr
  · show QP P n0 _ T4.heap _
    rw [e4]
    exact ⟨rfl, N4, Z4, hP _ ⟨a, k, g_r, g_a, ne, E9, Fe9, Ff9, Fl9, V9⟩⟩
set_option maxRecDepth 65536 in
set_option maxHeartbeats 40000000 in
theorem rmAdd_E3 (l : Launch) (Z : State) (a0 : Array Value) (hw : ∀ d ∈ tables_1, d.before a0 Z = true) (ws : List Jvm.Cond) (r : Addr) (y0 y1 y2 y3 : Int64) (w : Int64) (P : Heap → Prop) (h0 : Heap) (n0 : Nat) (Z0 : n0 ≤ h0.size) (hRE : own_RE Z n0 r (4 : Int32) (0 : Int32) (3 : Int32) [y0, y1, y2, y3] h0) (b2 : own_I y2) (bw : own_I w) (c2 : ¬ w < y2) (hP : ∀ h, own_RE Z n0 r (4 : Int32) (0 : Int32) (4 : Int32) [y0, y1, y2, w] h → P h) :
    MetFree l (⟨"com/example/orrery/orrery/policy/RunningEnds", "add", "(D)V"⟩ : MethodName) (head1 (Jvm.Cond.code (⟨"com/example/orrery/orrery/policy/RunningEnds", "add", "(D)V"⟩ : MethodName) prog_11_method_3_code 5 none :: ws) ({ frames := 1, cells := 1, slots := 4, locals := 18 } : Room)) (fun a U => a = #[(.ref r), (.double (FP.l2d w))] ∧ Z.Warmed39 U.vm ∧ U.heap = h0) (fun _ _ _ _ _ => True) (fun _ U o U' => ∃ v L, o = .returned v ∧ QP P n0 v U'.heap L ∧ FrameEnd U o U' L ({ frames := 1, cells := 1, slots := 4, locals := 18 } : Room).cells ({ frames := 1, cells := 1, slots := 4, locals := 18 } : Room).slots) := by
  refine MetFree.of_bodySF (plainFor_of_name pn1) hisR ?_
  intro p e s m args below meth c s₁ Bd hml0 hP hK
  obtain ⟨rfl, hZ, hh⟩ := hP
  have hx := Bd.exec
  have hby := Bd.bytes
  have hml : c.maxLocals = 5 := hml0
  have hown : s.vm.findClass "com/example/orrery/orrery/policy/RunningEnds" = some m.cls := findClass_of_methodNamed Bd.named
  have hnm := (name_of_methodNamed Bd.named Bd.method).1
  have X0 : Stand p l e ({ frames := 1, cells := 1, slots := 4, locals := 18 } : Room) s m #[(.ref r), (.double (FP.l2d w))] below meth c s₁ [] 0 0 := Stand.of_body Bd
  have e0 : s₁.heap = h0 := by rw [← hh, Bd.state]; rfl
  have N0 := Fr.nil n0
  have pre0 : ∀ t, Steps p.tables e below (s₁.setTop (mkF m 0 #[.val (.ref r), .val (.double (FP.l2d w)), .second, .unset, .unset] [])) t → Steps p.tables e below (s₁.setTop (entryFrame m #[(.ref r), (.double (FP.l2d w))] 5)) t := fun t k => castTop (ef1 m r (FP.l2d w)) k
  obtain ⟨a, k, g_r, g_a, ne, E_r, F_e, F_f, F_l, V_a⟩ := hRE
  obtain ⟨T1, L1, X1, e1, N1, st1⟩ := add_E l Z a0 hw hx hZ hby hml hown X0 r a k (0 : Int32) (3 : Int32) (4 : Int32) _ (FP.l2d w) h0 n0 e0 Z0 N0 g_r g_a ne E_r F_e F_f F_l V_a (by decide)
  obtain ⟨T2, L2, X2, e2, N2, st2⟩ := add_X2 l Z a0 hw hx hZ hby hml hown X1 r a k (0 : Int32) (4 : Int32) (3 : Int32) _ (FP.l2d w) (FP.l2d y2) (lcmpW y2 w) .unset h0 n0 e1 Z0 N1 F_e F_f V_a (by decide) (by decide) rfl (dcmpV_w (own_b53 b2) (own_b53 bw) .l) (fun q => c2 (own_gt.mp q))
  obtain ⟨T3, h3, L3, X3, e3, Z3, N3, ⟨E9, Fe9, Ff9, Fl9, V9⟩, st3⟩ := add_K433 l Z a0 hw hx hZ hby hml hown X2 r a k (0 : Int32) y0 y1 y2 y3 w .unset h0 n0 e2 Z0 N2 (by decide) (by decide) g_r g_a ne E_r F_e F_f F_l V_a
  obtain ⟨fs, hr, hrun, hended, hW, hsame⟩ := X3.leave (v := none) (fun _ => rfl)
  refine ⟨_, _, pre0 _ (st1 _ (st2 _ (st3 _ ?_))), hrun, hended, _, _, rfl, ?_, ⟨_, rfl⟩, hW, hsame.mono (by decide) (by decide)⟩
  · exact X3.returnOut hx Bd.returns (hb hby d1_152) hr
  · show QP P n0 _ T3.heap _
    rw [e3]
    exact ⟨rfl, N3, Z3, hP _ ⟨a, k, g_r, g_a, ne, E9, Fe9, Ff9, Fl9, V9⟩⟩
set_option maxRecDepth 65536 in
set_option maxHeartbeats 40000000 in
theorem rmAdd_F1 (l : Launch) (Z : State) (a0 : Array Value) (hw : ∀ d ∈ tables_1, d.before a0 Z = true) (ws : List Jvm.Cond) (r : Addr) (y0 y1 y2 y3 : Int64) (w : Int64) (P : Heap → Prop) (h0 : Heap) (n0 : Nat) (Z0 : n0 ≤ h0.size) (hRE : own_RE Z n0 r (4 : Int32) (1 : Int32) (3 : Int32) [y0, y1, y2, y3] h0) (b1 : own_I y1) (b2 : own_I y2) (bw : own_I w) (c1 : w < y1) (c2 : w < y2) (hP : ∀ h, own_RE Z n0 r (4 : Int32) (1 : Int32) (4 : Int32) [y0, w, y1, y2] h → P h) :
    MetFree l (⟨"com/example/orrery/orrery/policy/RunningEnds", "add", "(D)V"⟩ : MethodName) (head1 (Jvm.Cond.code (⟨"com/example/orrery/orrery/policy/RunningEnds", "add", "(D)V"⟩ : MethodName) prog_11_method_3_code 5 none :: ws) ({ frames := 1, cells := 1, slots := 4, locals := 18 } : Room)) (fun a U => a = #[(.ref r), (.double (FP.l2d w))] ∧ Z.Warmed39 U.vm ∧ U.heap = h0) (fun _ _ _ _ _ => True) (fun _ U o U' => ∃ v L, o = .returned v ∧ QP P n0 v U'.heap L ∧ FrameEnd U o U' L ({ frames := 1, cells := 1, slots := 4, locals := 18 } : Room).cells ({ frames := 1, cells := 1, slots := 4, locals := 18 } : Room).slots) := by
  refine MetFree.of_bodySF (plainFor_of_name pn1) hisR ?_
  intro p e s m args below meth c s₁ Bd hml0 hP hK
  obtain ⟨rfl, hZ, hh⟩ := hP
  have hx := Bd.exec
  have hby := Bd.bytes
  have hml : c.maxLocals = 5 := hml0
  have hown : s.vm.findClass "com/example/orrery/orrery/policy/RunningEnds" = some m.cls := findClass_of_methodNamed Bd.named
  have hnm := (name_of_methodNamed Bd.named Bd.method).1
  have X0 : Stand p l e ({ frames := 1, cells := 1, slots := 4, locals := 18 } : Room) s m #[(.ref r), (.double (FP.l2d w))] below meth c s₁ [] 0 0 := Stand.of_body Bd
  have e0 : s₁.heap = h0 := by rw [← hh, Bd.state]; rfl
  have N0 := Fr.nil n0
  have pre0 : ∀ t, Steps p.tables e below (s₁.setTop (mkF m 0 #[.val (.ref r), .val (.double (FP.l2d w)), .second, .unset, .unset] [])) t → Steps p.tables e below (s₁.setTop (entryFrame m #[(.ref r), (.double (FP.l2d w))] 5)) t := fun t k => castTop (ef1 m r (FP.l2d w)) k
  obtain ⟨a, k, g_r, g_a, ne, E_r, F_e, F_f, F_l, V_a⟩ := hRE
  obtain ⟨T1, L1, X1, e1, N1, st1⟩ := add_E l Z a0 hw hx hZ hby hml hown X0 r a k (1 : Int32) (3 : Int32) (4 : Int32) _ (FP.l2d w) h0 n0 e0 Z0 N0 g_r g_a ne E_r F_e F_f F_l V_a (by decide)
  obtain ⟨T2, L2, X2, e2, N2, st2⟩ := add_T l Z a0 hw hx hZ hby hml hown X1 r a k (1 : Int32) (4 : Int32) (3 : Int32) _ (FP.l2d w) (FP.l2d y2) (lcmpW y2 w) .unset h0 n0 e1 Z0 N1 F_e F_f V_a (by decide) (by decide) rfl (dcmpV_w (own_b53 b2) (own_b53 bw) .l) (own_gt.mpr c2)
  obtain ⟨T3, L3, X3, e3, N3, st3⟩ := add_T l Z a0 hw hx hZ hby hml hown X2 r a k (1 : Int32) (4 : Int32) (2 : Int32) _ (FP.l2d w) (FP.l2d y1) (lcmpW y1 w) .unset h0 n0 e2 Z0 N2 F_e F_f V_a (by decide) (by decide) rfl (dcmpV_w (own_b53 b1) (own_b53 bw) .l) (own_gt.mpr c1)
  obtain ⟨T4, L4, X4, e4, N4, st4⟩ := add_X1 l Z a0 hw hx hZ hby hml hown X3 r (1 : Int32) (1 : Int32) (FP.l2d w) .unset h0 n0 e3 Z0 N3 F_f (by decide)
  obtain ⟨T5, h5, L5, X5, e5, Z5, N5, ⟨E9, Fe9, Ff9, Fl9, V9⟩, st5⟩ := add_K431 l Z a0 hw hx hZ hby hml hown X4 r a k (1 : Int32) y0 y1 y2 y3 w .unset h0 n0 e4 Z0 N4 (by decide) (by decide) g_r g_a ne E_r F_e F_f F_l V_a
  obtain ⟨fs, hr, hrun, hended, hW, hsame⟩ := X5.leave (v := none) (fun _ => rfl)
  refine ⟨_, _, pre0 _ (st1 _ (st2 _ (st3 _ (st4 _ (st5 _ ?_))))), hrun, hended, _, _, rfl, ?_, ⟨_, rfl⟩, hW, hsame.mono (by decide) (by decide)⟩
  · exact X5.returnOut hx Bd.returns (hb hby d1_152) hr
  · show QP P n0 _ T5.heap _
    rw [e5]
    exact ⟨rfl, N5, Z5, hP _ ⟨a, k, g_r, g_a, ne, E9, Fe9, Ff9, Fl9, V9⟩⟩
set_option maxRecDepth 65536 in
set_option maxHeartbeats 40000000 in
theorem rmAdd_F2 (l : Launch) (Z : State) (a0 : Array Value) (hw : ∀ d ∈ tables_1, d.before a0 Z = true) (ws : List Jvm.Cond) (r : Addr) (y0 y1 y2 y3 : Int64) (w : Int64) (P : Heap → Prop) (h0 : Heap) (n0 : Nat) (Z0 : n0 ≤ h0.size) (hRE : own_RE Z n0 r (4 : Int32) (1 : Int32) (3 : Int32) [y0, y1, y2, y3] h0) (b1 : own_I y1) (b2 : own_I y2) (bw : own_I w) (c2 : w < y2) (c1 : ¬ w < y1) (hP : ∀ h, own_RE Z n0 r (4 : Int32) (1 : Int32) (4 : Int32) [y0, y1, w, y2] h → P h) :
    MetFree l (⟨"com/example/orrery/orrery/policy/RunningEnds", "add", "(D)V"⟩ : MethodName) (head1 (Jvm.Cond.code (⟨"com/example/orrery/orrery/policy/RunningEnds", "add", "(D)V"⟩ : MethodName) prog_11_method_3_code 5 none :: ws) ({ frames := 1, cells := 1, slots := 4, locals := 18 } : Room)) (fun a U => a = #[(.ref r), (.double (FP.l2d w))] ∧ Z.Warmed39 U.vm ∧ U.heap = h0) (fun _ _ _ _ _ => True) (fun _ U o U' => ∃ v L, o = .returned v ∧ QP P n0 v U'.heap L ∧ FrameEnd U o U' L ({ frames := 1, cells := 1, slots := 4, locals := 18 } : Room).cells ({ frames := 1, cells := 1, slots := 4, locals := 18 } : Room).slots) := by
  refine MetFree.of_bodySF (plainFor_of_name pn1) hisR ?_
  intro p e s m args below meth c s₁ Bd hml0 hP hK
  obtain ⟨rfl, hZ, hh⟩ := hP
  have hx := Bd.exec
  have hby := Bd.bytes
  have hml : c.maxLocals = 5 := hml0
  have hown : s.vm.findClass "com/example/orrery/orrery/policy/RunningEnds" = some m.cls := findClass_of_methodNamed Bd.named
  have hnm := (name_of_methodNamed Bd.named Bd.method).1
  have X0 : Stand p l e ({ frames := 1, cells := 1, slots := 4, locals := 18 } : Room) s m #[(.ref r), (.double (FP.l2d w))] below meth c s₁ [] 0 0 := Stand.of_body Bd
  have e0 : s₁.heap = h0 := by rw [← hh, Bd.state]; rfl
  have N0 := Fr.nil n0
  have pre0 : ∀ t, Steps p.tables e below (s₁.setTop (mkF m 0 #[.val (.ref r), .val (.double (FP.l2d w)), .second, .unset, .unset] [])) t → Steps p.tables e below (s₁.setTop (entryFrame m #[(.ref r), (.double (FP.l2d w))] 5)) t := fun t k => castTop (ef1 m r (FP.l2d w)) k
  obtain ⟨a, k, g_r, g_a, ne, E_r, F_e, F_f, F_l, V_a⟩ := hRE
  obtain ⟨T1, L1, X1, e1, N1, st1⟩ := add_E l Z a0 hw hx hZ hby hml hown X0 r a k (1 : Int32) (3 : Int32) (4 : Int32) _ (FP.l2d w) h0 n0 e0 Z0 N0 g_r g_a ne E_r F_e F_f F_l V_a (by decide)
  obtain ⟨T2, L2, X2, e2, N2, st2⟩ := add_T l Z a0 hw hx hZ hby hml hown X1 r a k (1 : Int32) (4 : Int32) (3 : Int32) _ (FP.l2d w) (FP.l2d y2) (lcmpW y2 w) .unset h0 n0 e1 Z0 N1 F_e F_f V_a (by decide) (by decide) rfl (dcmpV_w (own_b53 b2) (own_b53 bw) .l) (own_gt.mpr c2)
  obtain ⟨T3, L3, X3, e3, N3, st3⟩ := add_X2 l Z a0 hw hx hZ hby hml hown X2 r a k (1 : Int32) (4 : Int32) (2 : Int32) _ (FP.l2d w) (FP.l2d y1) (lcmpW y1 w) .unset h0 n0 e2 Z0 N2 F_e F_f V_a (by decide) (by decide) rfl (dcmpV_w (own_b53 b1) (own_b53 bw) .l) (fun q => c1 (own_gt.mp q))
  obtain ⟨T4, h4, L4, X4, e4, Z4, N4, ⟨E9, Fe9, Ff9, Fl9, V9⟩, st4⟩ := add_K432 l Z a0 hw hx hZ hby hml hown X3 r a k (1 : Int32) y0 y1 y2 y3 w .unset h0 n0 e3 Z0 N3 (by decide) (by decide) g_r g_a ne E_r F_e F_f F_l V_a
  obtain ⟨fs, hr, hrun, hended, hW, hsame⟩ := X4.leave (v := none) (fun _ => rfl)
  refine ⟨_, _, pre0 _ (st1 _ (st2 _ (st3 _ (st4 _ ?_)))), hrun, hended, _, _, rfl, ?_, ⟨_, rfl⟩, hW, hsame.mono (by decide) (by decide)⟩
  · exact X4.returnOut hx Bd.returns (hb hby d1_152) hr
  · show QP P n0 _ T4.heap _
    rw [e4]
    exact ⟨rfl, N4, Z4, hP _ ⟨a, k, g_r, g_a, ne, E9, Fe9, Ff9, Fl9, V9⟩⟩
set_option maxRecDepth 65536 in
set_option maxHeartbeats 40000000 in
theorem rmAdd_F3 (l : Launch) (Z : State) (a0 : Array Value) (hw : ∀ d ∈ tables_1, d.before a0 Z = true) (ws : List Jvm.Cond) (r : Addr) (y0 y1 y2 y3 : Int64) (w : Int64) (P : Heap → Prop) (h0 : Heap) (n0 : Nat) (Z0 : n0 ≤ h0.size) (hRE : own_RE Z n0 r (4 : Int32) (1 : Int32) (3 : Int32) [y0, y1, y2, y3] h0) (b2 : own_I y2) (bw : own_I w) (c2 : ¬ w < y2) (hP : ∀ h, own_RE Z n0 r (4 : Int32) (1 : Int32) (4 : Int32) [y0, y1, y2, w] h → P h) :
    MetFree l (⟨"com/example/orrery/orrery/policy/RunningEnds", "add", "(D)V"⟩ : MethodName) (head1 (Jvm.Cond.code (⟨"com/example/orrery/orrery/policy/RunningEnds", "add", "(D)V"⟩ : MethodName) prog_11_method_3_code 5 none :: ws) ({ frames := 1, cells := 1, slots := 4, locals := 18 } : Room)) (fun a U => a = #[(.ref r), (.double (FP.l2d w))] ∧ Z.Warmed39 U.vm ∧ U.heap = h0) (fun _ _ _ _ _ => True) (fun _ U o U' => ∃ v L, o = .returned v ∧ QP P n0 v U'.heap L ∧ FrameEnd U o U' L ({ frames := 1, cells := 1, slots := 4, locals := 18 } : Room).cells ({ frames := 1, cells := 1, slots := 4, locals := 18 } : Room).slots) := by
  refine MetFree.of_bodySF (plainFor_of_name pn1) hisR ?_
  intro p e s m args below meth c s₁ Bd hml0 hP hK
  obtain ⟨rfl, hZ, hh⟩ := hP
  have hx := Bd.exec
  have hby := Bd.bytes
  have hml : c.maxLocals = 5 := hml0
  have hown : s.vm.findClass "com/example/orrery/orrery/policy/RunningEnds" = some m.cls := findClass_of_methodNamed Bd.named
  have hnm := (name_of_methodNamed Bd.named Bd.method).1
  have X0 : Stand p l e ({ frames := 1, cells := 1, slots := 4, locals := 18 } : Room) s m #[(.ref r), (.double (FP.l2d w))] below meth c s₁ [] 0 0 := Stand.of_body Bd
  have e0 : s₁.heap = h0 := by rw [← hh, Bd.state]; rfl
  have N0 := Fr.nil n0
  have pre0 : ∀ t, Steps p.tables e below (s₁.setTop (mkF m 0 #[.val (.ref r), .val (.double (FP.l2d w)), .second, .unset, .unset] [])) t → Steps p.tables e below (s₁.setTop (entryFrame m #[(.ref r), (.double (FP.l2d w))] 5)) t := fun t k => castTop (ef1 m r (FP.l2d w)) k
  obtain ⟨a, k, g_r, g_a, ne, E_r, F_e, F_f, F_l, V_a⟩ := hRE
  obtain ⟨T1, L1, X1, e1, N1, st1⟩ := add_E l Z a0 hw hx hZ hby hml hown X0 r a k (1 : Int32) (3 : Int32) (4 : Int32) _ (FP.l2d w) h0 n0 e0 Z0 N0 g_r g_a ne E_r F_e F_f F_l V_a (by decide)
  obtain ⟨T2, L2, X2, e2, N2, st2⟩ := add_X2 l Z a0 hw hx hZ hby hml hown X1 r a k (1 : Int32) (4 : Int32) (3 : Int32) _ (FP.l2d w) (FP.l2d y2) (lcmpW y2 w) .unset h0 n0 e1 Z0 N1 F_e F_f V_a (by decide) (by decide) rfl (dcmpV_w (own_b53 b2) (own_b53 bw) .l) (fun q => c2 (own_gt.mp q))
  obtain ⟨T3, h3, L3, X3, e3, Z3, N3, ⟨E9, Fe9, Ff9, Fl9, V9⟩, st3⟩ := add_K433 l Z a0 hw hx hZ hby hml hown X2 r a k (1 : Int32) y0 y1 y2 y3 w .unset h0 n0 e2 Z0 N2 (by decide) (by decide) g_r g_a ne E_r F_e F_f F_l V_a
  obtain ⟨fs, hr, hrun, hended, hW, hsame⟩ := X3.leave (v := none) (fun _ => rfl)
  refine ⟨_, _, pre0 _ (st1 _ (st2 _ (st3 _ ?_))), hrun, hended, _, _, rfl, ?_, ⟨_, rfl⟩, hW, hsame.mono (by decide) (by decide)⟩
  · exact X3.returnOut hx Bd.returns (hb hby d1_152) hr
  · show QP P n0 _ T3.heap _
    rw [e3]
    exact ⟨rfl, N3, Z3, hP _ ⟨a, k, g_r, g_a, ne, E9, Fe9, Ff9, Fl9, V9⟩⟩
set_option maxRecDepth 65536 in
set_option maxHeartbeats 40000000 in
theorem lef_E (l : Launch) (Z : State) (a0 : Array Value) (hw : ∀ d ∈ tables_1, d.before a0 Z = true) {p : Program} {e : Env} {s : State} {m : MethodId} {args : Array Value} {below : List Frame} {meth : Method} {c : Code} (hx : p.tables.exec = Jvm.exec) (hZ : Z.Warmed39 s.vm) (hby : c.code = prog_11_method_7_code) (hml : c.maxLocals = 6) (hown : s.vm.findClass "com/example/orrery/orrery/policy/RunningEnds" = some m.cls) {T0 : State} {locs0 : List Loc} {R : Room} {cells0 slots0 : Nat} (X0 : Stand p l e R s m args below meth c T0 locs0 cells0 slots0) (r : Addr) (f : Int32) (nw : UInt64) (h0 : Heap) (n0 : Nat) (e0 : T0.heap = h0) (Z0 : n0 ≤ h0.size) (N0 : Fr n0 locs0) (F_f : Fld Z h0 r "com/example/orrery/orrery/policy/RunningEnds" "first" "I" (.int f)) :
    ∃ (T1 : State) (locs1 : List Loc), Stand p l e R s m args below meth c T1 locs1 cells0 slots0 ∧ T1.heap = h0 ∧ Fr n0 locs1 ∧ ∀ t, Steps p.tables e below (T1.setTop (mkF m 8 #[.val (.ref r), .val (.double nw), .second, .val (.double (FP.l2d 0)), .second, .val (.int f)] [])) t → Steps p.tables e below (T0.setTop (mkF m 0 #[.val (.ref r), .val (.double nw), .second, .unset, .unset, .unset] [])) t := by
  obtain ⟨T1, X1, e1, st1⟩ := getF X0 hx hZ hown (host := "") (Or.inl (hw _ (List.mem_of_getElem? (i := 20) rfl))) Via.refl e0 F_f (g := (mkF m 3 #[.val (.ref r), .val (.double nw), .second, .val (.double (FP.l2d 0)), .second, .unset] [(.ref r)])) rfl rfl (hb hby d4_3)
  refine ⟨T1, _, X1, e1, N0, fun t ht => ?_⟩
  show Steps p.tables e below (T0.setTop (mkF m 0 #[.val (.ref r), .val (.double nw), .second, .unset, .unset, .unset] [])) _
  refine XS.dconst0 X0.here hx rfl (v := (FP.l2d 0)) (hb hby d4_0) l2d_zero.symm ?_
  show Steps p.tables e below (T0.setTop (mkF m 1 #[.val (.ref r), .val (.double nw), .second, .unset, .unset, .unset] [(.double (FP.l2d 0))])) _
  refine XS.dstoreN X0.here hx rfl (hb hby d4_1) rfl (l' := #[.val (.ref r), .val (.double nw), .second, .val (.double (FP.l2d 0)), .second, .unset]) rfl ?_
  show Steps p.tables e below (T0.setTop (mkF m 2 #[.val (.ref r), .val (.double nw), .second, .val (.double (FP.l2d 0)), .second, .unset] [])) _
  refine XS.aloadN X0.here hx rfl (hb hby d4_2) rfl rfl ?_
  show Steps p.tables e below (T0.setTop (mkF m 3 #[.val (.ref r), .val (.double nw), .second, .val (.double (FP.l2d 0)), .second, .unset] [(.ref r)])) _
  refine st1 _ ?_
  show Steps p.tables e below (T1.setTop (mkF m 6 #[.val (.ref r), .val (.double nw), .second, .val (.double (FP.l2d 0)), .second, .unset] [(.int f)])) _
  refine XS.istore X1.here hx rfl (hb hby d4_6) rfl (l' := #[.val (.ref r), .val (.double nw), .second, .val (.double (FP.l2d 0)), .second, .val (.int f)]) rfl ?_
  show Steps p.tables e below (T1.setTop (mkF m 8 #[.val (.ref r), .val (.double nw), .second, .val (.double (FP.l2d 0)), .second, .val (.int f)] [])) _
  exact ht
set_option maxRecDepth 65536 in
set_option maxHeartbeats 40000000 in
theorem lef_T (l : Launch) (Z : State) (a0 : Array Value) (hw : ∀ d ∈ tables_1, d.before a0 Z = true) {p : Program} {e : Env} {s : State} {m : MethodId} {args : Array Value} {below : List Frame} {meth : Method} {c : Code} (hx : p.tables.exec = Jvm.exec) (hZ : Z.Warmed39 s.vm) (hby : c.code = prog_11_method_7_code) (hml : c.maxLocals = 6) (hown : s.vm.findClass "com/example/orrery/orrery/policy/RunningEnds" = some m.cls) {T0 : State} {locs0 : List Loc} {R : Room} {cells0 slots0 : Nat} (X0 : Stand p l e R s m args below meth c T0 locs0 cells0 slots0) (r a : Addr) (k : ClassId) (la cap at_ : Int32) (vs : List Value) (nw x lv d lv' : UInt64) (h0 : Heap) (n0 : Nat) (e0 : T0.heap = h0) (Z0 : n0 ≤ h0.size) (N0 : Fr n0 locs0) (F_e : Fld Z h0 r "com/example/orrery/orrery/policy/RunningEnds" "ends" "[D" (.ref a)) (F_l : Fld Z h0 r "com/example/orrery/orrery/policy/RunningEnds" "last" "I" (.int la)) (V_a : Arv Z h0 a k .double cap vs (.double (FP.l2d 0))) (hlt : at_ < la) (hin : ¬ at_ < 0 ∧ at_ < cap) (hval : vs.getD at_.toNatClampNeg (.double (FP.l2d 0)) = .double x) (hn26 : NoNaN64 (FP.dsub x nw)) (hv26 : FP.dsub x nw = d) (hn27 : NoNaN64 (FP.dadd lv d)) (hv27 : FP.dadd lv d = lv') :
    ∃ (T1 : State) (locs1 : List Loc), Stand p l e R s m args below meth c T1 locs1 cells0 slots0 ∧ T1.heap = h0 ∧ Fr n0 locs1 ∧ ∀ t, Steps p.tables e below (T1.setTop (mkF m 8 #[.val (.ref r), .val (.double nw), .second, .val (.double lv'), .second, .val (.int (at_ + (1 : Int32)))] [])) t → Steps p.tables e below (T0.setTop (mkF m 8 #[.val (.ref r), .val (.double nw), .second, .val (.double lv), .second, .val (.int at_)] [])) t := by
  obtain ⟨T1, X1, e1, st1⟩ := getF X0 hx hZ hown (host := "") (Or.inl (hw _ (List.mem_of_getElem? (i := 18) rfl))) Via.refl e0 F_l (g := (mkF m 11 #[.val (.ref r), .val (.double nw), .second, .val (.double lv), .second, .val (.int at_)] [(.ref r), (.int at_)])) rfl rfl (hb hby d4_11)
  obtain ⟨T2, X2, e2, st2⟩ := getF X1 hx hZ hown (host := "") (Or.inl (hw _ (List.mem_of_getElem? (i := 10) rfl))) Via.refl e1 F_e (g := (mkF m 19 #[.val (.ref r), .val (.double nw), .second, .val (.double lv), .second, .val (.int at_)] [(.ref r), (.double lv)])) rfl rfl (hb hby d4_19)
  obtain ⟨cl3, Ar3, q3, S3, M3, H3, G3⟩ := id V_a
  have in3 := inb_of (j := at_) S3 hin
  refine ⟨T2, _, X2, e2, N0, fun t ht => ?_⟩
  show Steps p.tables e below (T0.setTop (mkF m 8 #[.val (.ref r), .val (.double nw), .second, .val (.double lv), .second, .val (.int at_)] [])) _
  refine XS.iload X0.here hx rfl (hb hby d4_8) rfl ?_
  show Steps p.tables e below (T0.setTop (mkF m 10 #[.val (.ref r), .val (.double nw), .second, .val (.double lv), .second, .val (.int at_)] [(.int at_)])) _
  refine XS.aloadN X0.here hx rfl (hb hby d4_10) rfl rfl ?_
  show Steps p.tables e below (T0.setTop (mkF m 11 #[.val (.ref r), .val (.double nw), .second, .val (.double lv), .second, .val (.int at_)] [(.ref r), (.int at_)])) _
  refine st1 _ ?_
  show Steps p.tables e below (T1.setTop (mkF m 14 #[.val (.ref r), .val (.double nw), .second, .val (.double lv), .second, .val (.int at_)] [(.int la), (.int at_)])) _
  refine XS.icmpNo X1.here hx rfl (hb hby d4_14) rfl (tlt hlt).2.1 ?_
  show Steps p.tables e below (T1.setTop (mkF m 17 #[.val (.ref r), .val (.double nw), .second, .val (.double lv), .second, .val (.int at_)] [])) _
  refine XS.dloadN X1.here hx rfl (hb hby d4_17) rfl ?_
  show Steps p.tables e below (T1.setTop (mkF m 18 #[.val (.ref r), .val (.double nw), .second, .val (.double lv), .second, .val (.int at_)] [(.double lv)])) _
  refine XS.aloadN X1.here hx rfl (hb hby d4_18) rfl rfl ?_
  show Steps p.tables e below (T1.setTop (mkF m 19 #[.val (.ref r), .val (.double nw), .second, .val (.double lv), .second, .val (.int at_)] [(.ref r), (.double lv)])) _
  refine st2 _ ?_
  show Steps p.tables e below (T2.setTop (mkF m 22 #[.val (.ref r), .val (.double nw), .second, .val (.double lv), .second, .val (.int at_)] [(.ref a), (.double lv)])) _
  refine XS.iload X2.here hx rfl (hb hby d4_22) rfl ?_
  show Steps p.tables e below (T2.setTop (mkF m 24 #[.val (.ref r), .val (.double nw), .second, .val (.double lv), .second, .val (.int at_)] [(.int at_), (.ref a), (.double lv)])) _
  refine X2.daload hx (a := a) (cell := cl3) (j := at_) (v := (.double x)) (by rw [e2]; exact Ar3.1) (State.isArrayOf_alike hZ.alike Ar3.2.1) Ar3.2.2 in3 (Has.at H3 in3 hval) (g := (mkF m 24 #[.val (.ref r), .val (.double nw), .second, .val (.double lv), .second, .val (.int at_)] [(.int at_), (.ref a), (.double lv)])) rfl rfl (hb hby d4_24) _ ?_
  show Steps p.tables e below (T2.setTop (mkF m 25 #[.val (.ref r), .val (.double nw), .second, .val (.double lv), .second, .val (.int at_)] [(.double x), (.double lv)])) _
  refine XS.dloadN X2.here hx rfl (hb hby d4_25) rfl ?_
  show Steps p.tables e below (T2.setTop (mkF m 26 #[.val (.ref r), .val (.double nw), .second, .val (.double lv), .second, .val (.int at_)] [(.double nw), (.double x), (.double lv)])) _
  refine XS.dsubS X2.here hx rfl (v := d) (hb hby d4_26) rfl hn26 hv26 ?_
  show Steps p.tables e below (T2.setTop (mkF m 27 #[.val (.ref r), .val (.double nw), .second, .val (.double lv), .second, .val (.int at_)] [(.double d), (.double lv)])) _
  refine XS.daddS X2.here hx rfl (v := lv') (hb hby d4_27) rfl hn27 hv27 ?_
  show Steps p.tables e below (T2.setTop (mkF m 28 #[.val (.ref r), .val (.double nw), .second, .val (.double lv), .second, .val (.int at_)] [(.double lv')])) _
  refine XS.dstoreN X2.here hx rfl (hb hby d4_28) rfl (l' := #[.val (.ref r), .val (.double nw), .second, .val (.double lv'), .second, .val (.int at_)]) rfl ?_
  show Steps p.tables e below (T2.setTop (mkF m 29 #[.val (.ref r), .val (.double nw), .second, .val (.double lv'), .second, .val (.int at_)] [])) _
  refine XS.iinc X2.here hx rfl (hb hby d4_29) rfl (l' := #[.val (.ref r), .val (.double nw), .second, .val (.double lv'), .second, .val (.int (at_ + (1 : Int32)))]) rfl ?_
  show Steps p.tables e below (T2.setTop (mkF m 32 #[.val (.ref r), .val (.double nw), .second, .val (.double lv'), .second, .val (.int (at_ + (1 : Int32)))] [])) _
  refine XS.goto X2.here hx rfl (pc0 := 32) (pc' := 8) rfl (hb hby d4_32) (by decide) (by decide) ?_
  show Steps p.tables e below (T2.setTop (mkF m 8 #[.val (.ref r), .val (.double nw), .second, .val (.double lv'), .second, .val (.int (at_ + (1 : Int32)))] [])) _
  exact ht
set_option maxRecDepth 65536 in
set_option maxHeartbeats 40000000 in
theorem lef_X (l : Launch) (Z : State) (a0 : Array Value) (hw : ∀ d ∈ tables_1, d.before a0 Z = true) {p : Program} {e : Env} {s : State} {m : MethodId} {args : Array Value} {below : List Frame} {meth : Method} {c : Code} (hx : p.tables.exec = Jvm.exec) (hZ : Z.Warmed39 s.vm) (hby : c.code = prog_11_method_7_code) (hml : c.maxLocals = 6) (hown : s.vm.findClass "com/example/orrery/orrery/policy/RunningEnds" = some m.cls) {T0 : State} {locs0 : List Loc} {R : Room} {cells0 slots0 : Nat} (X0 : Stand p l e R s m args below meth c T0 locs0 cells0 slots0) (r : Addr) (la at_ : Int32) (nw lv : UInt64) (h0 : Heap) (n0 : Nat) (e0 : T0.heap = h0) (Z0 : n0 ≤ h0.size) (N0 : Fr n0 locs0) (F_l : Fld Z h0 r "com/example/orrery/orrery/policy/RunningEnds" "last" "I" (.int la)) (hge : ¬ (at_ < la)) :
    ∃ (T1 : State) (locs1 : List Loc), Stand p l e R s m args below meth c T1 locs1 cells0 slots0 ∧ T1.heap = h0 ∧ Fr n0 locs1 ∧ ∀ t, Steps p.tables e below (T1.setTop (mkF m 36 #[.val (.ref r), .val (.double nw), .second, .val (.double lv), .second, .val (.int at_)] [(.double lv)])) t → Steps p.tables e below (T0.setTop (mkF m 8 #[.val (.ref r), .val (.double nw), .second, .val (.double lv), .second, .val (.int at_)] [])) t := by
  obtain ⟨T1, X1, e1, st1⟩ := getF X0 hx hZ hown (host := "") (Or.inl (hw _ (List.mem_of_getElem? (i := 18) rfl))) Via.refl e0 F_l (g := (mkF m 11 #[.val (.ref r), .val (.double nw), .second, .val (.double lv), .second, .val (.int at_)] [(.ref r), (.int at_)])) rfl rfl (hb hby d4_11)
  refine ⟨T1, _, X1, e1, N0, fun t ht => ?_⟩
  show Steps p.tables e below (T0.setTop (mkF m 8 #[.val (.ref r), .val (.double nw), .second, .val (.double lv), .second, .val (.int at_)] [])) _
  refine XS.iload X0.here hx rfl (hb hby d4_8) rfl ?_
  show Steps p.tables e below (T0.setTop (mkF m 10 #[.val (.ref r), .val (.double nw), .second, .val (.double lv), .second, .val (.int at_)] [(.int at_)])) _
  refine XS.aloadN X0.here hx rfl (hb hby d4_10) rfl rfl ?_
  show Steps p.tables e below (T0.setTop (mkF m 11 #[.val (.ref r), .val (.double nw), .second, .val (.double lv), .second, .val (.int at_)] [(.ref r), (.int at_)])) _
  refine st1 _ ?_
  show Steps p.tables e below (T1.setTop (mkF m 14 #[.val (.ref r), .val (.double nw), .second, .val (.double lv), .second, .val (.int at_)] [(.int la), (.int at_)])) _
  refine XS.icmpYes X1.here hx rfl (pc0 := 14) (pc' := 35) rfl (hb hby d4_14) rfl (flt hge).2.1 (by decide) (by decide) ?_
  show Steps p.tables e below (T1.setTop (mkF m 35 #[.val (.ref r), .val (.double nw), .second, .val (.double lv), .second, .val (.int at_)] [])) _
  refine XS.dloadN X1.here hx rfl (hb hby d4_35) rfl ?_
  show Steps p.tables e below (T1.setTop (mkF m 36 #[.val (.ref r), .val (.double nw), .second, .val (.double lv), .second, .val (.int at_)] [(.double lv)])) _
  exact ht
def QL (r : UInt64) (h0 : Heap) (n0 : Nat) (v : Option Value) (h : Heap) (L : List Loc) : Prop := v = some (.double r) ∧ Fr n0 L ∧ h = h0
def own_okL (acc y nw acc' : Int64) : Prop := NoNaN64 (FP.dsub (FP.l2d y) (FP.l2d nw)) ∧ FP.dsub (FP.l2d y) (FP.l2d nw) = FP.l2d (y - nw) ∧ NoNaN64 (FP.dadd (FP.l2d acc) (FP.l2d (y - nw))) ∧ FP.dadd (FP.l2d acc) (FP.l2d (y - nw)) = FP.l2d acc'
set_option maxRecDepth 65536 in
set_option maxHeartbeats 40000000 in
theorem rmLeft_200 (l : Launch) (Z : State) (a0 : Array Value) (hw : ∀ d ∈ tables_1, d.before a0 Z = true) (ws : List Jvm.Cond) (r : Addr) (y0 y1 : Int64) (nw : Int64) (h0 : Heap) (n0 : Nat) (Z0 : n0 ≤ h0.size) (hRE : own_RE Z n0 r (2 : Int32) (0 : Int32) (0 : Int32) [y0, y1] h0) :
    MetFree l (⟨"com/example/orrery/orrery/policy/RunningEnds", "leftAt", "(D)D"⟩ : MethodName) (head1 (Jvm.Cond.code (⟨"com/example/orrery/orrery/policy/RunningEnds", "leftAt", "(D)D"⟩ : MethodName) prog_11_method_7_code 6 (some .double) :: ws) ({ frames := 0, cells := 0, slots := 0, locals := 0 } : Room)) (fun a U => a = #[(.ref r), (.double (FP.l2d nw))] ∧ Z.Warmed39 U.vm ∧ U.heap = h0) (fun _ _ _ _ _ => True) (fun _ U o U' => ∃ v L, o = .returned v ∧ QL (FP.l2d 0) h0 n0 v U'.heap L ∧ FrameEnd U o U' L ({ frames := 0, cells := 0, slots := 0, locals := 0 } : Room).cells ({ frames := 0, cells := 0, slots := 0, locals := 0 } : Room).slots) := by
  refine MetFree.of_bodySF (plainFor_of_name pn1) hisR ?_
  intro p e s m args below meth c s₁ Bd hml0 hP hK
  obtain ⟨rfl, hZ, hh⟩ := hP
  have hx := Bd.exec
  have hby := Bd.bytes
  have hml : c.maxLocals = 6 := hml0
  have hown : s.vm.findClass "com/example/orrery/orrery/policy/RunningEnds" = some m.cls := findClass_of_methodNamed Bd.named
  have hnm := (name_of_methodNamed Bd.named Bd.method).1
  have X0 : Stand p l e ({ frames := 0, cells := 0, slots := 0, locals := 0 } : Room) s m #[(.ref r), (.double (FP.l2d nw))] below meth c s₁ [] 0 0 := Stand.of_body Bd
  have e0 : s₁.heap = h0 := by rw [← hh, Bd.state]; rfl
  have N0 := Fr.nil n0
  have pre0 : ∀ t, Steps p.tables e below (s₁.setTop (mkF m 0 #[.val (.ref r), .val (.double (FP.l2d nw)), .second, .unset, .unset, .unset] [])) t → Steps p.tables e below (s₁.setTop (entryFrame m #[(.ref r), (.double (FP.l2d nw))] 6)) t := fun t k => castTop (ef2 m r (FP.l2d nw)) k
  obtain ⟨a, k, g_r, g_a, ne, E_r, F_e, F_f, F_l, V_a⟩ := hRE
  obtain ⟨T1, L1, X1, e1, N1, st1⟩ := lef_E l Z a0 hw hx hZ hby hml hown X0 r (0 : Int32) (FP.l2d nw) h0 n0 e0 Z0 N0 F_f
  obtain ⟨T2, L2, X2, e2, N2, st2⟩ := lef_X l Z a0 hw hx hZ hby hml hown X1 r (0 : Int32) (0 : Int32) (FP.l2d nw) (FP.l2d 0) h0 n0 e1 Z0 N1 F_l (by decide)
  obtain ⟨fs, hr, hrun, hended, hW, hsame⟩ := X2.leave (v := some (.double (FP.l2d 0))) (fun h => by rw [Bd.returns] at h; cases h)
  refine ⟨_, _, pre0 _ (st1 _ (st2 _ ?_)), hrun, hended, _, _, rfl, ?_, ⟨_, rfl⟩, hW, hsame.mono (by decide) (by decide)⟩
  · exact retOut X2 hx Bd.returns rfl (Or.inr (Or.inr (Or.inl ⟨rfl, rfl, _, rfl⟩))) (hb hby d4_36) hr
  · show QL (FP.l2d 0) h0 n0 _ T2.heap _
    rw [e2]
    exact ⟨rfl, N2, rfl⟩
set_option maxRecDepth 65536 in
set_option maxHeartbeats 40000000 in
theorem rmLeft_201 (l : Launch) (Z : State) (a0 : Array Value) (hw : ∀ d ∈ tables_1, d.before a0 Z = true) (ws : List Jvm.Cond) (r : Addr) (y0 y1 : Int64) (nw : Int64) (c0 : Int64) (h0 : Heap) (n0 : Nat) (Z0 : n0 ≤ h0.size) (hRE : own_RE Z n0 r (2 : Int32) (0 : Int32) (1 : Int32) [y0, y1] h0) (ok0 : own_okL 0 y0 nw c0) :
    MetFree l (⟨"com/example/orrery/orrery/policy/RunningEnds", "leftAt", "(D)D"⟩ : MethodName) (head1 (Jvm.Cond.code (⟨"com/example/orrery/orrery/policy/RunningEnds", "leftAt", "(D)D"⟩ : MethodName) prog_11_method_7_code 6 (some .double) :: ws) ({ frames := 0, cells := 0, slots := 0, locals := 0 } : Room)) (fun a U => a = #[(.ref r), (.double (FP.l2d nw))] ∧ Z.Warmed39 U.vm ∧ U.heap = h0) (fun _ _ _ _ _ => True) (fun _ U o U' => ∃ v L, o = .returned v ∧ QL (FP.l2d c0) h0 n0 v U'.heap L ∧ FrameEnd U o U' L ({ frames := 0, cells := 0, slots := 0, locals := 0 } : Room).cells ({ frames := 0, cells := 0, slots := 0, locals := 0 } : Room).slots) := by
  refine MetFree.of_bodySF (plainFor_of_name pn1) hisR ?_
  intro p e s m args below meth c s₁ Bd hml0 hP hK
  obtain ⟨rfl, hZ, hh⟩ := hP
  have hx := Bd.exec
  have hby := Bd.bytes
  have hml : c.maxLocals = 6 := hml0
  have hown : s.vm.findClass "com/example/orrery/orrery/policy/RunningEnds" = some m.cls := findClass_of_methodNamed Bd.named
  have hnm := (name_of_methodNamed Bd.named Bd.method).1
  have X0 : Stand p l e ({ frames := 0, cells := 0, slots := 0, locals := 0 } : Room) s m #[(.ref r), (.double (FP.l2d nw))] below meth c s₁ [] 0 0 := Stand.of_body Bd
  have e0 : s₁.heap = h0 := by rw [← hh, Bd.state]; rfl
  have N0 := Fr.nil n0
  have pre0 : ∀ t, Steps p.tables e below (s₁.setTop (mkF m 0 #[.val (.ref r), .val (.double (FP.l2d nw)), .second, .unset, .unset, .unset] [])) t → Steps p.tables e below (s₁.setTop (entryFrame m #[(.ref r), (.double (FP.l2d nw))] 6)) t := fun t k => castTop (ef2 m r (FP.l2d nw)) k
  obtain ⟨a, k, g_r, g_a, ne, E_r, F_e, F_f, F_l, V_a⟩ := hRE
  obtain ⟨T1, L1, X1, e1, N1, st1⟩ := lef_E l Z a0 hw hx hZ hby hml hown X0 r (0 : Int32) (FP.l2d nw) h0 n0 e0 Z0 N0 F_f
  obtain ⟨T2, L2, X2, e2, N2, st2⟩ := lef_T l Z a0 hw hx hZ hby hml hown X1 r a k (1 : Int32) (2 : Int32) (0 : Int32) _ (FP.l2d nw) (FP.l2d y0) (FP.l2d 0) (FP.l2d (y0 - nw)) (FP.l2d c0) h0 n0 e1 Z0 N1 F_e F_l V_a (by decide) (by decide) rfl ok0.1 ok0.2.1 ok0.2.2.1 ok0.2.2.2
  obtain ⟨T3, L3, X3, e3, N3, st3⟩ := lef_X l Z a0 hw hx hZ hby hml hown X2 r (1 : Int32) (1 : Int32) (FP.l2d nw) (FP.l2d c0) h0 n0 e2 Z0 N2 F_l (by decide)
  obtain ⟨fs, hr, hrun, hended, hW, hsame⟩ := X3.leave (v := some (.double (FP.l2d c0))) (fun h => by rw [Bd.returns] at h; cases h)
  refine ⟨_, _, pre0 _ (st1 _ (st2 _ (st3 _ ?_))), hrun, hended, _, _, rfl, ?_, ⟨_, rfl⟩, hW, hsame.mono (by decide) (by decide)⟩
  · exact retOut X3 hx Bd.returns rfl (Or.inr (Or.inr (Or.inl ⟨rfl, rfl, _, rfl⟩))) (hb hby d4_36) hr
  · show QL (FP.l2d c0) h0 n0 _ T3.heap _
    rw [e3]
    exact ⟨rfl, N3, rfl⟩
set_option maxRecDepth 65536 in
set_option maxHeartbeats 40000000 in
theorem rmLeft_202 (l : Launch) (Z : State) (a0 : Array Value) (hw : ∀ d ∈ tables_1, d.before a0 Z = true) (ws : List Jvm.Cond) (r : Addr) (y0 y1 : Int64) (nw : Int64) (c0 c1 : Int64) (h0 : Heap) (n0 : Nat) (Z0 : n0 ≤ h0.size) (hRE : own_RE Z n0 r (2 : Int32) (0 : Int32) (2 : Int32) [y0, y1] h0) (ok0 : own_okL 0 y0 nw c0) (ok1 : own_okL c0 y1 nw c1) :
    MetFree l (⟨"com/example/orrery/orrery/policy/RunningEnds", "leftAt", "(D)D"⟩ : MethodName) (head1 (Jvm.Cond.code (⟨"com/example/orrery/orrery/policy/RunningEnds", "leftAt", "(D)D"⟩ : MethodName) prog_11_method_7_code 6 (some .double) :: ws) ({ frames := 0, cells := 0, slots := 0, locals := 0 } : Room)) (fun a U => a = #[(.ref r), (.double (FP.l2d nw))] ∧ Z.Warmed39 U.vm ∧ U.heap = h0) (fun _ _ _ _ _ => True) (fun _ U o U' => ∃ v L, o = .returned v ∧ QL (FP.l2d c1) h0 n0 v U'.heap L ∧ FrameEnd U o U' L ({ frames := 0, cells := 0, slots := 0, locals := 0 } : Room).cells ({ frames := 0, cells := 0, slots := 0, locals := 0 } : Room).slots) := by
  refine MetFree.of_bodySF (plainFor_of_name pn1) hisR ?_
  intro p e s m args below meth c s₁ Bd hml0 hP hK
  obtain ⟨rfl, hZ, hh⟩ := hP
  have hx := Bd.exec
  have hby := Bd.bytes
  have hml : c.maxLocals = 6 := hml0
  have hown : s.vm.findClass "com/example/orrery/orrery/policy/RunningEnds" = some m.cls := findClass_of_methodNamed Bd.named
  have hnm := (name_of_methodNamed Bd.named Bd.method).1
  have X0 : Stand p l e ({ frames := 0, cells := 0, slots := 0, locals := 0 } : Room) s m #[(.ref r), (.double (FP.l2d nw))] below meth c s₁ [] 0 0 := Stand.of_body Bd
  have e0 : s₁.heap = h0 := by rw [← hh, Bd.state]; rfl
  have N0 := Fr.nil n0
  have pre0 : ∀ t, Steps p.tables e below (s₁.setTop (mkF m 0 #[.val (.ref r), .val (.double (FP.l2d nw)), .second, .unset, .unset, .unset] [])) t → Steps p.tables e below (s₁.setTop (entryFrame m #[(.ref r), (.double (FP.l2d nw))] 6)) t := fun t k => castTop (ef2 m r (FP.l2d nw)) k
  obtain ⟨a, k, g_r, g_a, ne, E_r, F_e, F_f, F_l, V_a⟩ := hRE
  obtain ⟨T1, L1, X1, e1, N1, st1⟩ := lef_E l Z a0 hw hx hZ hby hml hown X0 r (0 : Int32) (FP.l2d nw) h0 n0 e0 Z0 N0 F_f
  obtain ⟨T2, L2, X2, e2, N2, st2⟩ := lef_T l Z a0 hw hx hZ hby hml hown X1 r a k (2 : Int32) (2 : Int32) (0 : Int32) _ (FP.l2d nw) (FP.l2d y0) (FP.l2d 0) (FP.l2d (y0 - nw)) (FP.l2d c0) h0 n0 e1 Z0 N1 F_e F_l V_a (by decide) (by decide) rfl ok0.1 ok0.2.1 ok0.2.2.1 ok0.2.2.2
  obtain ⟨T3, L3, X3, e3, N3, st3⟩ := lef_T l Z a0 hw hx hZ hby hml hown X2 r a k (2 : Int32) (2 : Int32) (1 : Int32) _ (FP.l2d nw) (FP.l2d y1) (FP.l2d c0) (FP.l2d (y1 - nw)) (FP.l2d c1) h0 n0 e2 Z0 N2 F_e F_l V_a (by decide) (by decide) rfl ok1.1 ok1.2.1 ok1.2.2.1 ok1.2.2.2
  obtain ⟨T4, L4, X4, e4, N4, st4⟩ := lef_X l Z a0 hw hx hZ hby hml hown X3 r (2 : Int32) (2 : Int32) (FP.l2d nw) (FP.l2d c1) h0 n0 e3 Z0 N3 F_l (by decide)
  obtain ⟨fs, hr, hrun, hended, hW, hsame⟩ := X4.leave (v := some (.double (FP.l2d c1))) (fun h => by rw [Bd.returns] at h; cases h)
  refine ⟨_, _, pre0 _ (st1 _ (st2 _ (st3 _ (st4 _ ?_)))), hrun, hended, _, _, rfl, ?_, ⟨_, rfl⟩, hW, hsame.mono (by decide) (by decide)⟩
  · exact retOut X4 hx Bd.returns rfl (Or.inr (Or.inr (Or.inl ⟨rfl, rfl, _, rfl⟩))) (hb hby d4_36) hr
  · show QL (FP.l2d c1) h0 n0 _ T4.heap _
    rw [e4]
    exact ⟨rfl, N4, rfl⟩
set_option maxRecDepth 65536 in
set_option maxHeartbeats 40000000 in
theorem rmLeft_212 (l : Launch) (Z : State) (a0 : Array Value) (hw : ∀ d ∈ tables_1, d.before a0 Z = true) (ws : List Jvm.Cond) (r : Addr) (y0 y1 : Int64) (nw : Int64) (c1 : Int64) (h0 : Heap) (n0 : Nat) (Z0 : n0 ≤ h0.size) (hRE : own_RE Z n0 r (2 : Int32) (1 : Int32) (2 : Int32) [y0, y1] h0) (ok1 : own_okL 0 y1 nw c1) :
    MetFree l (⟨"com/example/orrery/orrery/policy/RunningEnds", "leftAt", "(D)D"⟩ : MethodName) (head1 (Jvm.Cond.code (⟨"com/example/orrery/orrery/policy/RunningEnds", "leftAt", "(D)D"⟩ : MethodName) prog_11_method_7_code 6 (some .double) :: ws) ({ frames := 0, cells := 0, slots := 0, locals := 0 } : Room)) (fun a U => a = #[(.ref r), (.double (FP.l2d nw))] ∧ Z.Warmed39 U.vm ∧ U.heap = h0) (fun _ _ _ _ _ => True) (fun _ U o U' => ∃ v L, o = .returned v ∧ QL (FP.l2d c1) h0 n0 v U'.heap L ∧ FrameEnd U o U' L ({ frames := 0, cells := 0, slots := 0, locals := 0 } : Room).cells ({ frames := 0, cells := 0, slots := 0, locals := 0 } : Room).slots) := by
  refine MetFree.of_bodySF (plainFor_of_name pn1) hisR ?_
  intro p e s m args below meth c s₁ Bd hml0 hP hK
  obtain ⟨rfl, hZ, hh⟩ := hP
  have hx := Bd.exec
  have hby := Bd.bytes
  have hml : c.maxLocals = 6 := hml0
  have hown : s.vm.findClass "com/example/orrery/orrery/policy/RunningEnds" = some m.cls := findClass_of_methodNamed Bd.named
  have hnm := (name_of_methodNamed Bd.named Bd.method).1
  have X0 : Stand p l e ({ frames := 0, cells := 0, slots := 0, locals := 0 } : Room) s m #[(.ref r), (.double (FP.l2d nw))] below meth c s₁ [] 0 0 := Stand.of_body Bd
  have e0 : s₁.heap = h0 := by rw [← hh, Bd.state]; rfl
  have N0 := Fr.nil n0
  have pre0 : ∀ t, Steps p.tables e below (s₁.setTop (mkF m 0 #[.val (.ref r), .val (.double (FP.l2d nw)), .second, .unset, .unset, .unset] [])) t → Steps p.tables e below (s₁.setTop (entryFrame m #[(.ref r), (.double (FP.l2d nw))] 6)) t := fun t k => castTop (ef2 m r (FP.l2d nw)) k
  obtain ⟨a, k, g_r, g_a, ne, E_r, F_e, F_f, F_l, V_a⟩ := hRE
  obtain ⟨T1, L1, X1, e1, N1, st1⟩ := lef_E l Z a0 hw hx hZ hby hml hown X0 r (1 : Int32) (FP.l2d nw) h0 n0 e0 Z0 N0 F_f
  obtain ⟨T2, L2, X2, e2, N2, st2⟩ := lef_T l Z a0 hw hx hZ hby hml hown X1 r a k (2 : Int32) (2 : Int32) (1 : Int32) _ (FP.l2d nw) (FP.l2d y1) (FP.l2d 0) (FP.l2d (y1 - nw)) (FP.l2d c1) h0 n0 e1 Z0 N1 F_e F_l V_a (by decide) (by decide) rfl ok1.1 ok1.2.1 ok1.2.2.1 ok1.2.2.2
  obtain ⟨T3, L3, X3, e3, N3, st3⟩ := lef_X l Z a0 hw hx hZ hby hml hown X2 r (2 : Int32) (2 : Int32) (FP.l2d nw) (FP.l2d c1) h0 n0 e2 Z0 N2 F_l (by decide)
  obtain ⟨fs, hr, hrun, hended, hW, hsame⟩ := X3.leave (v := some (.double (FP.l2d c1))) (fun h => by rw [Bd.returns] at h; cases h)
  refine ⟨_, _, pre0 _ (st1 _ (st2 _ (st3 _ ?_))), hrun, hended, _, _, rfl, ?_, ⟨_, rfl⟩, hW, hsame.mono (by decide) (by decide)⟩
  · exact retOut X3 hx Bd.returns rfl (Or.inr (Or.inr (Or.inl ⟨rfl, rfl, _, rfl⟩))) (hb hby d4_36) hr
  · show QL (FP.l2d c1) h0 n0 _ T3.heap _
    rw [e3]
    exact ⟨rfl, N3, rfl⟩
set_option maxRecDepth 65536 in
set_option maxHeartbeats 40000000 in
theorem rmLeft_402 (l : Launch) (Z : State) (a0 : Array Value) (hw : ∀ d ∈ tables_1, d.before a0 Z = true) (ws : List Jvm.Cond) (r : Addr) (y0 y1 y2 y3 : Int64) (nw : Int64) (c0 c1 : Int64) (h0 : Heap) (n0 : Nat) (Z0 : n0 ≤ h0.size) (hRE : own_RE Z n0 r (4 : Int32) (0 : Int32) (2 : Int32) [y0, y1, y2, y3] h0) (ok0 : own_okL 0 y0 nw c0) (ok1 : own_okL c0 y1 nw c1) :
    MetFree l (⟨"com/example/orrery/orrery/policy/RunningEnds", "leftAt", "(D)D"⟩ : MethodName) (head1 (Jvm.Cond.code (⟨"com/example/orrery/orrery/policy/RunningEnds", "leftAt", "(D)D"⟩ : MethodName) prog_11_method_7_code 6 (some .double) :: ws) ({ frames := 0, cells := 0, slots := 0, locals := 0 } : Room)) (fun a U => a = #[(.ref r), (.double (FP.l2d nw))] ∧ Z.Warmed39 U.vm ∧ U.heap = h0) (fun _ _ _ _ _ => True) (fun _ U o U' => ∃ v L, o = .returned v ∧ QL (FP.l2d c1) h0 n0 v U'.heap L ∧ FrameEnd U o U' L ({ frames := 0, cells := 0, slots := 0, locals := 0 } : Room).cells ({ frames := 0, cells := 0, slots := 0, locals := 0 } : Room).slots) := by
  refine MetFree.of_bodySF (plainFor_of_name pn1) hisR ?_
  intro p e s m args below meth c s₁ Bd hml0 hP hK
  obtain ⟨rfl, hZ, hh⟩ := hP
  have hx := Bd.exec
  have hby := Bd.bytes
  have hml : c.maxLocals = 6 := hml0
  have hown : s.vm.findClass "com/example/orrery/orrery/policy/RunningEnds" = some m.cls := findClass_of_methodNamed Bd.named
  have hnm := (name_of_methodNamed Bd.named Bd.method).1
  have X0 : Stand p l e ({ frames := 0, cells := 0, slots := 0, locals := 0 } : Room) s m #[(.ref r), (.double (FP.l2d nw))] below meth c s₁ [] 0 0 := Stand.of_body Bd
  have e0 : s₁.heap = h0 := by rw [← hh, Bd.state]; rfl
  have N0 := Fr.nil n0
  have pre0 : ∀ t, Steps p.tables e below (s₁.setTop (mkF m 0 #[.val (.ref r), .val (.double (FP.l2d nw)), .second, .unset, .unset, .unset] [])) t → Steps p.tables e below (s₁.setTop (entryFrame m #[(.ref r), (.double (FP.l2d nw))] 6)) t := fun t k => castTop (ef2 m r (FP.l2d nw)) k
  obtain ⟨a, k, g_r, g_a, ne, E_r, F_e, F_f, F_l, V_a⟩ := hRE
  obtain ⟨T1, L1, X1, e1, N1, st1⟩ := lef_E l Z a0 hw hx hZ hby hml hown X0 r (0 : Int32) (FP.l2d nw) h0 n0 e0 Z0 N0 F_f
  obtain ⟨T2, L2, X2, e2, N2, st2⟩ := lef_T l Z a0 hw hx hZ hby hml hown X1 r a k (2 : Int32) (4 : Int32) (0 : Int32) _ (FP.l2d nw) (FP.l2d y0) (FP.l2d 0) (FP.l2d (y0 - nw)) (FP.l2d c0) h0 n0 e1 Z0 N1 F_e F_l V_a (by decide) (by decide) rfl ok0.1 ok0.2.1 ok0.2.2.1 ok0.2.2.2
  obtain ⟨T3, L3, X3, e3, N3, st3⟩ := lef_T l Z a0 hw hx hZ hby hml hown X2 r a k (2 : Int32) (4 : Int32) (1 : Int32) _ (FP.l2d nw) (FP.l2d y1) (FP.l2d c0) (FP.l2d (y1 - nw)) (FP.l2d c1) h0 n0 e2 Z0 N2 F_e F_l V_a (by decide) (by decide) rfl ok1.1 ok1.2.1 ok1.2.2.1 ok1.2.2.2
  obtain ⟨T4, L4, X4, e4, N4, st4⟩ := lef_X l Z a0 hw hx hZ hby hml hown X3 r (2 : Int32) (2 : Int32) (FP.l2d nw) (FP.l2d c1) h0 n0 e3 Z0 N3 F_l (by decide)
  obtain ⟨fs, hr, hrun, hended, hW, hsame⟩ := X4.leave (v := some (.double (FP.l2d c1))) (fun h => by rw [Bd.returns] at h; cases h)
  refine ⟨_, _, pre0 _ (st1 _ (st2 _ (st3 _ (st4 _ ?_)))), hrun, hended, _, _, rfl, ?_, ⟨_, rfl⟩, hW, hsame.mono (by decide) (by decide)⟩
  · exact retOut X4 hx Bd.returns rfl (Or.inr (Or.inr (Or.inl ⟨rfl, rfl, _, rfl⟩))) (hb hby d4_36) hr
  · show QL (FP.l2d c1) h0 n0 _ T4.heap _
    rw [e4]
    exact ⟨rfl, N4, rfl⟩
set_option maxRecDepth 65536 in
set_option maxHeartbeats 40000000 in
theorem rmLeft_403 (l : Launch) (Z : State) (a0 : Array Value) (hw : ∀ d ∈ tables_1, d.before a0 Z = true) (ws : List Jvm.Cond) (r : Addr) (y0 y1 y2 y3 : Int64) (nw : Int64) (c0 c1 c2 : Int64) (h0 : Heap) (n0 : Nat) (Z0 : n0 ≤ h0.size) (hRE : own_RE Z n0 r (4 : Int32) (0 : Int32) (3 : Int32) [y0, y1, y2, y3] h0) (ok0 : own_okL 0 y0 nw c0) (ok1 : own_okL c0 y1 nw c1) (ok2 : own_okL c1 y2 nw c2) :
    MetFree l (⟨"com/example/orrery/orrery/policy/RunningEnds", "leftAt", "(D)D"⟩ : MethodName) (head1 (Jvm.Cond.code (⟨"com/example/orrery/orrery/policy/RunningEnds", "leftAt", "(D)D"⟩ : MethodName) prog_11_method_7_code 6 (some .double) :: ws) ({ frames := 0, cells := 0, slots := 0, locals := 0 } : Room)) (fun a U => a = #[(.ref r), (.double (FP.l2d nw))] ∧ Z.Warmed39 U.vm ∧ U.heap = h0) (fun _ _ _ _ _ => True) (fun _ U o U' => ∃ v L, o = .returned v ∧ QL (FP.l2d c2) h0 n0 v U'.heap L ∧ FrameEnd U o U' L ({ frames := 0, cells := 0, slots := 0, locals := 0 } : Room).cells ({ frames := 0, cells := 0, slots := 0, locals := 0 } : Room).slots) := by
  refine MetFree.of_bodySF (plainFor_of_name pn1) hisR ?_
  intro p e s m args below meth c s₁ Bd hml0 hP hK
  obtain ⟨rfl, hZ, hh⟩ := hP
  have hx := Bd.exec
  have hby := Bd.bytes
  have hml : c.maxLocals = 6 := hml0
  have hown : s.vm.findClass "com/example/orrery/orrery/policy/RunningEnds" = some m.cls := findClass_of_methodNamed Bd.named
  have hnm := (name_of_methodNamed Bd.named Bd.method).1
  have X0 : Stand p l e ({ frames := 0, cells := 0, slots := 0, locals := 0 } : Room) s m #[(.ref r), (.double (FP.l2d nw))] below meth c s₁ [] 0 0 := Stand.of_body Bd
  have e0 : s₁.heap = h0 := by rw [← hh, Bd.state]; rfl
  have N0 := Fr.nil n0
  have pre0 : ∀ t, Steps p.tables e below (s₁.setTop (mkF m 0 #[.val (.ref r), .val (.double (FP.l2d nw)), .second, .unset, .unset, .unset] [])) t → Steps p.tables e below (s₁.setTop (entryFrame m #[(.ref r), (.double (FP.l2d nw))] 6)) t := fun t k => castTop (ef2 m r (FP.l2d nw)) k
  obtain ⟨a, k, g_r, g_a, ne, E_r, F_e, F_f, F_l, V_a⟩ := hRE
  obtain ⟨T1, L1, X1, e1, N1, st1⟩ := lef_E l Z a0 hw hx hZ hby hml hown X0 r (0 : Int32) (FP.l2d nw) h0 n0 e0 Z0 N0 F_f
  obtain ⟨T2, L2, X2, e2, N2, st2⟩ := lef_T l Z a0 hw hx hZ hby hml hown X1 r a k (3 : Int32) (4 : Int32) (0 : Int32) _ (FP.l2d nw) (FP.l2d y0) (FP.l2d 0) (FP.l2d (y0 - nw)) (FP.l2d c0) h0 n0 e1 Z0 N1 F_e F_l V_a (by decide) (by decide) rfl ok0.1 ok0.2.1 ok0.2.2.1 ok0.2.2.2
  obtain ⟨T3, L3, X3, e3, N3, st3⟩ := lef_T l Z a0 hw hx hZ hby hml hown X2 r a k (3 : Int32) (4 : Int32) (1 : Int32) _ (FP.l2d nw) (FP.l2d y1) (FP.l2d c0) (FP.l2d (y1 - nw)) (FP.l2d c1) h0 n0 e2 Z0 N2 F_e F_l V_a (by decide) (by decide) rfl ok1.1 ok1.2.1 ok1.2.2.1 ok1.2.2.2
  obtain ⟨T4, L4, X4, e4, N4, st4⟩ := lef_T l Z a0 hw hx hZ hby hml hown X3 r a k (3 : Int32) (4 : Int32) (2 : Int32) _ (FP.l2d nw) (FP.l2d y2) (FP.l2d c1) (FP.l2d (y2 - nw)) (FP.l2d c2) h0 n0 e3 Z0 N3 F_e F_l V_a (by decide) (by decide) rfl ok2.1 ok2.2.1 ok2.2.2.1 ok2.2.2.2
  obtain ⟨T5, L5, X5, e5, N5, st5⟩ := lef_X l Z a0 hw hx hZ hby hml hown X4 r (3 : Int32) (3 : Int32) (FP.l2d nw) (FP.l2d c2) h0 n0 e4 Z0 N4 F_l (by decide)
  obtain ⟨fs, hr, hrun, hended, hW, hsame⟩ := X5.leave (v := some (.double (FP.l2d c2))) (fun h => by rw [Bd.returns] at h; cases h)
  refine ⟨_, _, pre0 _ (st1 _ (st2 _ (st3 _ (st4 _ (st5 _ ?_))))), hrun, hended, _, _, rfl, ?_, ⟨_, rfl⟩, hW, hsame.mono (by decide) (by decide)⟩
  · exact retOut X5 hx Bd.returns rfl (Or.inr (Or.inr (Or.inl ⟨rfl, rfl, _, rfl⟩))) (hb hby d4_36) hr
  · show QL (FP.l2d c2) h0 n0 _ T5.heap _
    rw [e5]
    exact ⟨rfl, N5, rfl⟩
set_option maxRecDepth 65536 in
set_option maxHeartbeats 40000000 in
theorem rmLeft_413 (l : Launch) (Z : State) (a0 : Array Value) (hw : ∀ d ∈ tables_1, d.before a0 Z = true) (ws : List Jvm.Cond) (r : Addr) (y0 y1 y2 y3 : Int64) (nw : Int64) (c1 c2 : Int64) (h0 : Heap) (n0 : Nat) (Z0 : n0 ≤ h0.size) (hRE : own_RE Z n0 r (4 : Int32) (1 : Int32) (3 : Int32) [y0, y1, y2, y3] h0) (ok1 : own_okL 0 y1 nw c1) (ok2 : own_okL c1 y2 nw c2) :
    MetFree l (⟨"com/example/orrery/orrery/policy/RunningEnds", "leftAt", "(D)D"⟩ : MethodName) (head1 (Jvm.Cond.code (⟨"com/example/orrery/orrery/policy/RunningEnds", "leftAt", "(D)D"⟩ : MethodName) prog_11_method_7_code 6 (some .double) :: ws) ({ frames := 0, cells := 0, slots := 0, locals := 0 } : Room)) (fun a U => a = #[(.ref r), (.double (FP.l2d nw))] ∧ Z.Warmed39 U.vm ∧ U.heap = h0) (fun _ _ _ _ _ => True) (fun _ U o U' => ∃ v L, o = .returned v ∧ QL (FP.l2d c2) h0 n0 v U'.heap L ∧ FrameEnd U o U' L ({ frames := 0, cells := 0, slots := 0, locals := 0 } : Room).cells ({ frames := 0, cells := 0, slots := 0, locals := 0 } : Room).slots) := by
  refine MetFree.of_bodySF (plainFor_of_name pn1) hisR ?_
  intro p e s m args below meth c s₁ Bd hml0 hP hK
  obtain ⟨rfl, hZ, hh⟩ := hP
  have hx := Bd.exec
  have hby := Bd.bytes
  have hml : c.maxLocals = 6 := hml0
  have hown : s.vm.findClass "com/example/orrery/orrery/policy/RunningEnds" = some m.cls := findClass_of_methodNamed Bd.named
  have hnm := (name_of_methodNamed Bd.named Bd.method).1
  have X0 : Stand p l e ({ frames := 0, cells := 0, slots := 0, locals := 0 } : Room) s m #[(.ref r), (.double (FP.l2d nw))] below meth c s₁ [] 0 0 := Stand.of_body Bd
  have e0 : s₁.heap = h0 := by rw [← hh, Bd.state]; rfl
  have N0 := Fr.nil n0
  have pre0 : ∀ t, Steps p.tables e below (s₁.setTop (mkF m 0 #[.val (.ref r), .val (.double (FP.l2d nw)), .second, .unset, .unset, .unset] [])) t → Steps p.tables e below (s₁.setTop (entryFrame m #[(.ref r), (.double (FP.l2d nw))] 6)) t := fun t k => castTop (ef2 m r (FP.l2d nw)) k
  obtain ⟨a, k, g_r, g_a, ne, E_r, F_e, F_f, F_l, V_a⟩ := hRE
  obtain ⟨T1, L1, X1, e1, N1, st1⟩ := lef_E l Z a0 hw hx hZ hby hml hown X0 r (1 : Int32) (FP.l2d nw) h0 n0 e0 Z0 N0 F_f
  obtain ⟨T2, L2, X2, e2, N2, st2⟩ := lef_T l Z a0 hw hx hZ hby hml hown X1 r a k (3 : Int32) (4 : Int32) (1 : Int32) _ (FP.l2d nw) (FP.l2d y1) (FP.l2d 0) (FP.l2d (y1 - nw)) (FP.l2d c1) h0 n0 e1 Z0 N1 F_e F_l V_a (by decide) (by decide) rfl ok1.1 ok1.2.1 ok1.2.2.1 ok1.2.2.2
  obtain ⟨T3, L3, X3, e3, N3, st3⟩ := lef_T l Z a0 hw hx hZ hby hml hown X2 r a k (3 : Int32) (4 : Int32) (2 : Int32) _ (FP.l2d nw) (FP.l2d y2) (FP.l2d c1) (FP.l2d (y2 - nw)) (FP.l2d c2) h0 n0 e2 Z0 N2 F_e F_l V_a (by decide) (by decide) rfl ok2.1 ok2.2.1 ok2.2.2.1 ok2.2.2.2
  obtain ⟨T4, L4, X4, e4, N4, st4⟩ := lef_X l Z a0 hw hx hZ hby hml hown X3 r (3 : Int32) (3 : Int32) (FP.l2d nw) (FP.l2d c2) h0 n0 e3 Z0 N3 F_l (by decide)
  obtain ⟨fs, hr, hrun, hended, hW, hsame⟩ := X4.leave (v := some (.double (FP.l2d c2))) (fun h => by rw [Bd.returns] at h; cases h)
  refine ⟨_, _, pre0 _ (st1 _ (st2 _ (st3 _ (st4 _ ?_)))), hrun, hended, _, _, rfl, ?_, ⟨_, rfl⟩, hW, hsame.mono (by decide) (by decide)⟩
  · exact retOut X4 hx Bd.returns rfl (Or.inr (Or.inr (Or.inl ⟨rfl, rfl, _, rfl⟩))) (hb hby d4_36) hr
  · show QL (FP.l2d c2) h0 n0 _ T4.heap _
    rw [e4]
    exact ⟨rfl, N4, rfl⟩
set_option maxRecDepth 65536 in
set_option maxHeartbeats 40000000 in
theorem rmLeft_404 (l : Launch) (Z : State) (a0 : Array Value) (hw : ∀ d ∈ tables_1, d.before a0 Z = true) (ws : List Jvm.Cond) (r : Addr) (y0 y1 y2 y3 : Int64) (nw : Int64) (c0 c1 c2 c3 : Int64) (h0 : Heap) (n0 : Nat) (Z0 : n0 ≤ h0.size) (hRE : own_RE Z n0 r (4 : Int32) (0 : Int32) (4 : Int32) [y0, y1, y2, y3] h0) (ok0 : own_okL 0 y0 nw c0) (ok1 : own_okL c0 y1 nw c1) (ok2 : own_okL c1 y2 nw c2) (ok3 : own_okL c2 y3 nw c3) :
    MetFree l (⟨"com/example/orrery/orrery/policy/RunningEnds", "leftAt", "(D)D"⟩ : MethodName) (head1 (Jvm.Cond.code (⟨"com/example/orrery/orrery/policy/RunningEnds", "leftAt", "(D)D"⟩ : MethodName) prog_11_method_7_code 6 (some .double) :: ws) ({ frames := 0, cells := 0, slots := 0, locals := 0 } : Room)) (fun a U => a = #[(.ref r), (.double (FP.l2d nw))] ∧ Z.Warmed39 U.vm ∧ U.heap = h0) (fun _ _ _ _ _ => True) (fun _ U o U' => ∃ v L, o = .returned v ∧ QL (FP.l2d c3) h0 n0 v U'.heap L ∧ FrameEnd U o U' L ({ frames := 0, cells := 0, slots := 0, locals := 0 } : Room).cells ({ frames := 0, cells := 0, slots := 0, locals := 0 } : Room).slots) := by
  refine MetFree.of_bodySF (plainFor_of_name pn1) hisR ?_
  intro p e s m args below meth c s₁ Bd hml0 hP hK
  obtain ⟨rfl, hZ, hh⟩ := hP
  have hx := Bd.exec
  have hby := Bd.bytes
  have hml : c.maxLocals = 6 := hml0
  have hown : s.vm.findClass "com/example/orrery/orrery/policy/RunningEnds" = some m.cls := findClass_of_methodNamed Bd.named
  have hnm := (name_of_methodNamed Bd.named Bd.method).1
  have X0 : Stand p l e ({ frames := 0, cells := 0, slots := 0, locals := 0 } : Room) s m #[(.ref r), (.double (FP.l2d nw))] below meth c s₁ [] 0 0 := Stand.of_body Bd
  have e0 : s₁.heap = h0 := by rw [← hh, Bd.state]; rfl
  have N0 := Fr.nil n0
  have pre0 : ∀ t, Steps p.tables e below (s₁.setTop (mkF m 0 #[.val (.ref r), .val (.double (FP.l2d nw)), .second, .unset, .unset, .unset] [])) t → Steps p.tables e below (s₁.setTop (entryFrame m #[(.ref r), (.double (FP.l2d nw))] 6)) t := fun t k => castTop (ef2 m r (FP.l2d nw)) k
  obtain ⟨a, k, g_r, g_a, ne, E_r, F_e, F_f, F_l, V_a⟩ := hRE
  obtain ⟨T1, L1, X1, e1, N1, st1⟩ := lef_E l Z a0 hw hx hZ hby hml hown X0 r (0 : Int32) (FP.l2d nw) h0 n0 e0 Z0 N0 F_f
  obtain ⟨T2, L2, X2, e2, N2, st2⟩ := lef_T l Z a0 hw hx hZ hby hml hown X1 r a k (4 : Int32) (4 : Int32) (0 : Int32) _ (FP.l2d nw) (FP.l2d y0) (FP.l2d 0) (FP.l2d (y0 - nw)) (FP.l2d c0) h0 n0 e1 Z0 N1 F_e F_l V_a (by decide) (by decide) rfl ok0.1 ok0.2.1 ok0.2.2.1 ok0.2.2.2
  obtain ⟨T3, L3, X3, e3, N3, st3⟩ := lef_T l Z a0 hw hx hZ hby hml hown X2 r a k (4 : Int32) (4 : Int32) (1 : Int32) _ (FP.l2d nw) (FP.l2d y1) (FP.l2d c0) (FP.l2d (y1 - nw)) (FP.l2d c1) h0 n0 e2 Z0 N2 F_e F_l V_a (by decide) (by decide) rfl ok1.1 ok1.2.1 ok1.2.2.1 ok1.2.2.2
  obtain ⟨T4, L4, X4, e4, N4, st4⟩ := lef_T l Z a0 hw hx hZ hby hml hown X3 r a k (4 : Int32) (4 : Int32) (2 : Int32) _ (FP.l2d nw) (FP.l2d y2) (FP.l2d c1) (FP.l2d (y2 - nw)) (FP.l2d c2) h0 n0 e3 Z0 N3 F_e F_l V_a (by decide) (by decide) rfl ok2.1 ok2.2.1 ok2.2.2.1 ok2.2.2.2
  obtain ⟨T5, L5, X5, e5, N5, st5⟩ := lef_T l Z a0 hw hx hZ hby hml hown X4 r a k (4 : Int32) (4 : Int32) (3 : Int32) _ (FP.l2d nw) (FP.l2d y3) (FP.l2d c2) (FP.l2d (y3 - nw)) (FP.l2d c3) h0 n0 e4 Z0 N4 F_e F_l V_a (by decide) (by decide) rfl ok3.1 ok3.2.1 ok3.2.2.1 ok3.2.2.2
  obtain ⟨T6, L6, X6, e6, N6, st6⟩ := lef_X l Z a0 hw hx hZ hby hml hown X5 r (4 : Int32) (4 : Int32) (FP.l2d nw) (FP.l2d c3) h0 n0 e5 Z0 N5 F_l (by decide)
  obtain ⟨fs, hr, hrun, hended, hW, hsame⟩ := X6.leave (v := some (.double (FP.l2d c3))) (fun h => by rw [Bd.returns] at h; cases h)
  refine ⟨_, _, pre0 _ (st1 _ (st2 _ (st3 _ (st4 _ (st5 _ (st6 _ ?_)))))), hrun, hended, _, _, rfl, ?_, ⟨_, rfl⟩, hW, hsame.mono (by decide) (by decide)⟩
  · exact retOut X6 hx Bd.returns rfl (Or.inr (Or.inr (Or.inl ⟨rfl, rfl, _, rfl⟩))) (hb hby d4_36) hr
  · show QL (FP.l2d c3) h0 n0 _ T6.heap _
    rw [e6]
    exact ⟨rfl, N6, rfl⟩
set_option maxRecDepth 65536 in
set_option maxHeartbeats 40000000 in
theorem rmLeft_414 (l : Launch) (Z : State) (a0 : Array Value) (hw : ∀ d ∈ tables_1, d.before a0 Z = true) (ws : List Jvm.Cond) (r : Addr) (y0 y1 y2 y3 : Int64) (nw : Int64) (c1 c2 c3 : Int64) (h0 : Heap) (n0 : Nat) (Z0 : n0 ≤ h0.size) (hRE : own_RE Z n0 r (4 : Int32) (1 : Int32) (4 : Int32) [y0, y1, y2, y3] h0) (ok1 : own_okL 0 y1 nw c1) (ok2 : own_okL c1 y2 nw c2) (ok3 : own_okL c2 y3 nw c3) :
    MetFree l (⟨"com/example/orrery/orrery/policy/RunningEnds", "leftAt", "(D)D"⟩ : MethodName) (head1 (Jvm.Cond.code (⟨"com/example/orrery/orrery/policy/RunningEnds", "leftAt", "(D)D"⟩ : MethodName) prog_11_method_7_code 6 (some .double) :: ws) ({ frames := 0, cells := 0, slots := 0, locals := 0 } : Room)) (fun a U => a = #[(.ref r), (.double (FP.l2d nw))] ∧ Z.Warmed39 U.vm ∧ U.heap = h0) (fun _ _ _ _ _ => True) (fun _ U o U' => ∃ v L, o = .returned v ∧ QL (FP.l2d c3) h0 n0 v U'.heap L ∧ FrameEnd U o U' L ({ frames := 0, cells := 0, slots := 0, locals := 0 } : Room).cells ({ frames := 0, cells := 0, slots := 0, locals := 0 } : Room).slots) := by
  refine MetFree.of_bodySF (plainFor_of_name pn1) hisR ?_
  intro p e s m args below meth c s₁ Bd hml0 hP hK
  obtain ⟨rfl, hZ, hh⟩ := hP
  have hx := Bd.exec
  have hby := Bd.bytes
  have hml : c.maxLocals = 6 := hml0
  have hown : s.vm.findClass "com/example/orrery/orrery/policy/RunningEnds" = some m.cls := findClass_of_methodNamed Bd.named
  have hnm := (name_of_methodNamed Bd.named Bd.method).1
  have X0 : Stand p l e ({ frames := 0, cells := 0, slots := 0, locals := 0 } : Room) s m #[(.ref r), (.double (FP.l2d nw))] below meth c s₁ [] 0 0 := Stand.of_body Bd
  have e0 : s₁.heap = h0 := by rw [← hh, Bd.state]; rfl
  have N0 := Fr.nil n0
  have pre0 : ∀ t, Steps p.tables e below (s₁.setTop (mkF m 0 #[.val (.ref r), .val (.double (FP.l2d nw)), .second, .unset, .unset, .unset] [])) t → Steps p.tables e below (s₁.setTop (entryFrame m #[(.ref r), (.double (FP.l2d nw))] 6)) t := fun t k => castTop (ef2 m r (FP.l2d nw)) k
  obtain ⟨a, k, g_r, g_a, ne, E_r, F_e, F_f, F_l, V_a⟩ := hRE
  obtain ⟨T1, L1, X1, e1, N1, st1⟩ := lef_E l Z a0 hw hx hZ hby hml hown X0 r (1 : Int32) (FP.l2d nw) h0 n0 e0 Z0 N0 F_f
  obtain ⟨T2, L2, X2, e2, N2, st2⟩ := lef_T l Z a0 hw hx hZ hby hml hown X1 r a k (4 : Int32) (4 : Int32) (1 : Int32) _ (FP.l2d nw) (FP.l2d y1) (FP.l2d 0) (FP.l2d (y1 - nw)) (FP.l2d c1) h0 n0 e1 Z0 N1 F_e F_l V_a (by decide) (by decide) rfl ok1.1 ok1.2.1 ok1.2.2.1 ok1.2.2.2
  obtain ⟨T3, L3, X3, e3, N3, st3⟩ := lef_T l Z a0 hw hx hZ hby hml hown X2 r a k (4 : Int32) (4 : Int32) (2 : Int32) _ (FP.l2d nw) (FP.l2d y2) (FP.l2d c1) (FP.l2d (y2 - nw)) (FP.l2d c2) h0 n0 e2 Z0 N2 F_e F_l V_a (by decide) (by decide) rfl ok2.1 ok2.2.1 ok2.2.2.1 ok2.2.2.2
  obtain ⟨T4, L4, X4, e4, N4, st4⟩ := lef_T l Z a0 hw hx hZ hby hml hown X3 r a k (4 : Int32) (4 : Int32) (3 : Int32) _ (FP.l2d nw) (FP.l2d y3) (FP.l2d c2) (FP.l2d (y3 - nw)) (FP.l2d c3) h0 n0 e3 Z0 N3 F_e F_l V_a (by decide) (by decide) rfl ok3.1 ok3.2.1 ok3.2.2.1 ok3.2.2.2
  obtain ⟨T5, L5, X5, e5, N5, st5⟩ := lef_X l Z a0 hw hx hZ hby hml hown X4 r (4 : Int32) (4 : Int32) (FP.l2d nw) (FP.l2d c3) h0 n0 e4 Z0 N4 F_l (by decide)
  obtain ⟨fs, hr, hrun, hended, hW, hsame⟩ := X5.leave (v := some (.double (FP.l2d c3))) (fun h => by rw [Bd.returns] at h; cases h)
  refine ⟨_, _, pre0 _ (st1 _ (st2 _ (st3 _ (st4 _ (st5 _ ?_))))), hrun, hended, _, _, rfl, ?_, ⟨_, rfl⟩, hW, hsame.mono (by decide) (by decide)⟩
  · exact retOut X5 hx Bd.returns rfl (Or.inr (Or.inr (Or.inl ⟨rfl, rfl, _, rfl⟩))) (hb hby d4_36) hr
  · show QL (FP.l2d c3) h0 n0 _ T5.heap _
    rw [e5]
    exact ⟨rfl, N5, rfl⟩
set_option maxRecDepth 65536 in
set_option maxHeartbeats 40000000 in
theorem rmRem_21 (l : Launch) (Z : State) (a0 : Array Value) (hw : ∀ d ∈ tables_1, d.before a0 Z = true) (ws : List Jvm.Cond) (r : Addr) (y0 y1 : Int64) (w : Int64) (P : Heap → Prop) (h0 : Heap) (n0 : Nat) (Z0 : n0 ≤ h0.size) (hRE : own_RE Z n0 r (2 : Int32) (0 : Int32) (1 : Int32) [y0, y1] h0) (hcm : cmpValue (FP.dcmp (FP.l2d y0) (FP.l2d w)) .l = 0) (hP : ∀ h, own_RE Z n0 r (2 : Int32) (0 : Int32) (0 : Int32) [y0, y1] h → P h) :
    MetFree l (⟨"com/example/orrery/orrery/policy/RunningEnds", "removeFirst", "(D)V"⟩ : MethodName) (head1 (Jvm.Cond.code (⟨"com/example/orrery/orrery/policy/RunningEnds", "removeFirst", "(D)V"⟩ : MethodName) prog_11_method_4_code 3 none :: ws) ({ frames := 0, cells := 0, slots := 0, locals := 0 } : Room)) (fun a U => a = #[(.ref r), (.double (FP.l2d w))] ∧ Z.Warmed39 U.vm ∧ U.heap = h0) (fun _ _ _ _ _ => True) (fun _ U o U' => ∃ v L, o = .returned v ∧ QP P n0 v U'.heap L ∧ FrameEnd U o U' L ({ frames := 0, cells := 0, slots := 0, locals := 0 } : Room).cells ({ frames := 0, cells := 0, slots := 0, locals := 0 } : Room).slots) := by
  refine MetFree.of_bodySF (plainFor_of_name pn1) hisR ?_
  intro p e s m args below meth c s₁ Bd hml0 hP hK
  obtain ⟨rfl, hZ, hh⟩ := hP
  have hx := Bd.exec
  have hby := Bd.bytes
  have hml : c.maxLocals = 3 := hml0
  have hown : s.vm.findClass "com/example/orrery/orrery/policy/RunningEnds" = some m.cls := findClass_of_methodNamed Bd.named
  have hnm := (name_of_methodNamed Bd.named Bd.method).1
  have X0 : Stand p l e ({ frames := 0, cells := 0, slots := 0, locals := 0 } : Room) s m #[(.ref r), (.double (FP.l2d w))] below meth c s₁ [] 0 0 := Stand.of_body Bd
  have e0 : s₁.heap = h0 := by rw [← hh, Bd.state]; rfl
  have N0 := Fr.nil n0
  have pre0 : ∀ t, Steps p.tables e below (s₁.setTop (mkF m 0 #[.val (.ref r), .val (.double (FP.l2d w)), .second] [])) t → Steps p.tables e below (s₁.setTop (entryFrame m #[(.ref r), (.double (FP.l2d w))] 3)) t := fun t k => castTop (ef3 m r (FP.l2d w)) k
  obtain ⟨a, k, g_r, g_a, ne, E_r, F_e, F_f, F_l, V_a⟩ := hRE
  obtain ⟨T1, X1, e1, st1⟩ := getF X0 hx hZ hown (host := "") (Or.inl (hw _ (List.mem_of_getElem? (i := 20) rfl))) Via.refl e0 F_f (g := (mkF m 1 #[.val (.ref r), .val (.double (FP.l2d w)), .second] [(.ref r)])) rfl rfl (hb hby d6_1)
  obtain ⟨T2, X2, e2, st2⟩ := getF X1 hx hZ hown (host := "") (Or.inl (hw _ (List.mem_of_getElem? (i := 18) rfl))) Via.refl e1 F_l (g := (mkF m 5 #[.val (.ref r), .val (.double (FP.l2d w)), .second] [(.ref r), (.int (0 : Int32))])) rfl rfl (hb hby d6_5)
  obtain ⟨T3, X3, e3, st3⟩ := getF X2 hx hZ hown (host := "") (Or.inl (hw _ (List.mem_of_getElem? (i := 10) rfl))) Via.refl e2 F_e (g := (mkF m 12 #[.val (.ref r), .val (.double (FP.l2d w)), .second] [(.ref r)])) rfl rfl (hb hby d6_12)
  obtain ⟨T4, X4, e4, st4⟩ := getF X3 hx hZ hown (host := "") (Or.inl (hw _ (List.mem_of_getElem? (i := 20) rfl))) Via.refl e3 F_f (g := (mkF m 16 #[.val (.ref r), .val (.double (FP.l2d w)), .second] [(.ref r), (.ref a)])) rfl rfl (hb hby d6_16)
  obtain ⟨cl5, Ar5, q5, S5, M5, H5, G5⟩ := id V_a
  have in5 := inb_of (j := (0 : Int32)) S5 (by decide)
  obtain ⟨T6, X6, e6, st6⟩ := getF X4 hx hZ hown (host := "") (Or.inl (hw _ (List.mem_of_getElem? (i := 20) rfl))) Via.refl e4 F_f (g := (mkF m 32 #[.val (.ref r), .val (.double (FP.l2d w)), .second] [(.ref r), (.ref r)])) rfl rfl (hb hby d6_32)
  obtain ⟨T7, h7, X7, e7, W7, st7⟩ := putF X6 hx hZ hown (host := "") (Or.inl (hw _ (List.mem_of_getElem? (i := 20) rfl))) Via.refl e6 F_f E_r (Or.inl (hw _ (List.mem_of_getElem? (i := 21) rfl))) (hw _ (List.mem_of_getElem? (i := 1) rfl)) (ty := .int) (by decide) rfl rfl (g := (mkF m 37 #[.val (.ref r), .val (.double (FP.l2d w)), .second] [(.int (1 : Int32)), (.ref r)])) rfl rfl (hb hby d6_37)
  have N8 := Fr.snoc X7 N0 g_r
  have K8 : Keep h0 h7 [r] := Keep.wr (Keep.refl h0 [r]) W7 (Or.inl (List.mem_of_getElem? (i := 0) rfl))
  have Zc8 : n0 ≤ h7.size := by rw [Wr.size W7]; exact Z0
  have Fw7 : Fld Z h7 r "com/example/orrery/orrery/policy/RunningEnds" "first" "I" (.int (1 : Int32)) := Fld.same W7 F_f
  obtain ⟨T9, X9, e9, st9⟩ := getF X7 hx hZ hown (host := "") (Or.inl (hw _ (List.mem_of_getElem? (i := 20) rfl))) Via.refl e7 Fw7 (g := (mkF m 41 #[.val (.ref r), .val (.double (FP.l2d w)), .second] [(.ref r)])) rfl rfl (hb hby d6_41)
  have f10 : Fld Z h7 r "com/example/orrery/orrery/policy/RunningEnds" "last" "I" (.int (1 : Int32)) := (Fld.other W7 F_l (Or.inr (slot_ne (t := .int) (t' := .int) (Or.inl (hw _ (List.mem_of_getElem? (i := 19) rfl))) (Or.inl (hw _ (List.mem_of_getElem? (i := 21) rfl))) (by decide) (by decide) (by decide))))
  obtain ⟨T11, X11, e11, st11⟩ := getF X9 hx hZ hown (host := "") (Or.inl (hw _ (List.mem_of_getElem? (i := 18) rfl))) Via.refl e9 f10 (g := (mkF m 45 #[.val (.ref r), .val (.double (FP.l2d w)), .second] [(.ref r), (.int (1 : Int32))])) rfl rfl (hb hby d6_45)
  have f12 : Exa Z h7 r "com/example/orrery/orrery/policy/RunningEnds" := (Exa.wr W7 E_r)
  obtain ⟨T13, h13, X13, e13, W13, st13⟩ := putF X11 hx hZ hown (host := "") (Or.inl (hw _ (List.mem_of_getElem? (i := 20) rfl))) Via.refl e11 Fw7 f12 (Or.inl (hw _ (List.mem_of_getElem? (i := 21) rfl))) (hw _ (List.mem_of_getElem? (i := 1) rfl)) (ty := .int) (by decide) rfl rfl (g := (mkF m 53 #[.val (.ref r), .val (.double (FP.l2d w)), .second] [(.int (0 : Int32)), (.ref r)])) rfl rfl (hb hby d6_53)
  have N14 := Fr.snoc X13 N8 g_r
  have K14 : Keep h0 h13 [r] := Keep.wr K8 W13 (Or.inl (List.mem_of_getElem? (i := 0) rfl))
  have Zc14 : n0 ≤ h13.size := by rw [Wr.size W13]; exact Zc8
  have Fw13 : Fld Z h13 r "com/example/orrery/orrery/policy/RunningEnds" "first" "I" (.int (0 : Int32)) := Fld.same W13 Fw7
  have f15 : Fld Z h13 r "com/example/orrery/orrery/policy/RunningEnds" "last" "I" (.int (1 : Int32)) := (Fld.other W13 f10 (Or.inr (slot_ne (t := .int) (t' := .int) (Or.inl (hw _ (List.mem_of_getElem? (i := 19) rfl))) (Or.inl (hw _ (List.mem_of_getElem? (i := 21) rfl))) (by decide) (by decide) (by decide))))
  have f16 : Exa Z h13 r "com/example/orrery/orrery/policy/RunningEnds" := (Exa.wr W13 f12)
  obtain ⟨T17, h17, X17, e17, W17, st17⟩ := putF X13 hx hZ hown (host := "") (Or.inl (hw _ (List.mem_of_getElem? (i := 18) rfl))) Via.refl e13 f15 f16 (Or.inl (hw _ (List.mem_of_getElem? (i := 19) rfl))) (hw _ (List.mem_of_getElem? (i := 1) rfl)) (ty := .int) (by decide) rfl rfl (g := (mkF m 58 #[.val (.ref r), .val (.double (FP.l2d w)), .second] [(.int (0 : Int32)), (.ref r)])) rfl rfl (hb hby d6_58)
  have N18 := Fr.snoc X17 N14 g_r
  have K18 : Keep h0 h17 [r] := Keep.wr K14 W17 (Or.inl (List.mem_of_getElem? (i := 0) rfl))
  have Zc18 : n0 ≤ h17.size := by rw [Wr.size W17]; exact Zc14
  have Fw17 : Fld Z h17 r "com/example/orrery/orrery/policy/RunningEnds" "last" "I" (.int (0 : Int32)) := Fld.same W17 f15
  have f19 : Exa Z h17 r "com/example/orrery/orrery/policy/RunningEnds" := (Exa.wr W17 f16)
  have f20 : Fld Z h17 r "com/example/orrery/orrery/policy/RunningEnds" "ends" "[D" (.ref a) := (Fld.other W17 (Fld.other W13 (Fld.other W7 F_e (Or.inr (slot_ne (t := (.array .double)) (t' := .int) (Or.inl (hw _ (List.mem_of_getElem? (i := 11) rfl))) (Or.inl (hw _ (List.mem_of_getElem? (i := 21) rfl))) (by decide) (by decide) (by decide)))) (Or.inr (slot_ne (t := (.array .double)) (t' := .int) (Or.inl (hw _ (List.mem_of_getElem? (i := 11) rfl))) (Or.inl (hw _ (List.mem_of_getElem? (i := 21) rfl))) (by decide) (by decide) (by decide)))) (Or.inr (slot_ne (t := (.array .double)) (t' := .int) (Or.inl (hw _ (List.mem_of_getElem? (i := 11) rfl))) (Or.inl (hw _ (List.mem_of_getElem? (i := 19) rfl))) (by decide) (by decide) (by decide))))
  have f21 : Fld Z h17 r "com/example/orrery/orrery/policy/RunningEnds" "first" "I" (.int (0 : Int32)) := (Fld.other W17 Fw13 (Or.inr (slot_ne (t := .int) (t' := .int) (Or.inl (hw _ (List.mem_of_getElem? (i := 21) rfl))) (Or.inl (hw _ (List.mem_of_getElem? (i := 19) rfl))) (by decide) (by decide) (by decide))))
  have f22 : Arv Z h17 a k .double (2 : Int32) [(.double (FP.l2d y0)), (.double (FP.l2d y1))] (.double (FP.l2d 0)) := (Arv.other (Arv.other (Arv.other V_a W7 (Ne.symm ne)) W13 (Ne.symm ne)) W17 (Ne.symm ne))
  obtain ⟨fs, hr, hrun, hended, hW, hsame⟩ := X17.leave (v := none) (fun _ => rfl)
  refine ⟨_, _, pre0 _ ?_, hrun, hended, _, _, rfl, ?_, ⟨_, rfl⟩, hW, hsame.mono (by decide) (by decide)⟩
  · show Steps p.tables e below (s₁.setTop (mkF m 0 #[.val (.ref r), .val (.double (FP.l2d w)), .second] [])) _
    refine XS.aloadN X0.here hx rfl (hb hby d6_0) rfl rfl ?_
    show Steps p.tables e below (s₁.setTop (mkF m 1 #[.val (.ref r), .val (.double (FP.l2d w)), .second] [(.ref r)])) _
    refine st1 _ ?_
    show Steps p.tables e below (T1.setTop (mkF m 4 #[.val (.ref r), .val (.double (FP.l2d w)), .second] [(.int (0 : Int32))])) _
    refine XS.aloadN X1.here hx rfl (hb hby d6_4) rfl rfl ?_
    show Steps p.tables e below (T1.setTop (mkF m 5 #[.val (.ref r), .val (.double (FP.l2d w)), .second] [(.ref r), (.int (0 : Int32))])) _
    refine st2 _ ?_
    show Steps p.tables e below (T2.setTop (mkF m 8 #[.val (.ref r), .val (.double (FP.l2d w)), .second] [(.int (1 : Int32)), (.int (0 : Int32))])) _
    refine XS.icmpNo X2.here hx rfl (hb hby d6_8) rfl (feq (by decide)).1 ?_
    show Steps p.tables e below (T2.setTop (mkF m 11 #[.val (.ref r), .val (.double (FP.l2d w)), .second] [])) _
    refine XS.aloadN X2.here hx rfl (hb hby d6_11) rfl rfl ?_
    show Steps p.tables e below (T2.setTop (mkF m 12 #[.val (.ref r), .val (.double (FP.l2d w)), .second] [(.ref r)])) _
    refine st3 _ ?_
    show Steps p.tables e below (T3.setTop (mkF m 15 #[.val (.ref r), .val (.double (FP.l2d w)), .second] [(.ref a)])) _
    refine XS.aloadN X3.here hx rfl (hb hby d6_15) rfl rfl ?_
    show Steps p.tables e below (T3.setTop (mkF m 16 #[.val (.ref r), .val (.double (FP.l2d w)), .second] [(.ref r), (.ref a)])) _
    refine st4 _ ?_
    show Steps p.tables e below (T4.setTop (mkF m 19 #[.val (.ref r), .val (.double (FP.l2d w)), .second] [(.int (0 : Int32)), (.ref a)])) _
    refine X4.daload hx (a := a) (cell := cl5) (j := (0 : Int32)) (v := (.double (FP.l2d y0))) (by rw [e4]; exact Ar5.1) (State.isArrayOf_alike hZ.alike Ar5.2.1) Ar5.2.2 in5 (Has.at H5 in5 rfl) (g := (mkF m 19 #[.val (.ref r), .val (.double (FP.l2d w)), .second] [(.int (0 : Int32)), (.ref a)])) rfl rfl (hb hby d6_19) _ ?_
    show Steps p.tables e below (T4.setTop (mkF m 20 #[.val (.ref r), .val (.double (FP.l2d w)), .second] [(.double (FP.l2d y0))])) _
    refine XS.dloadN X4.here hx rfl (hb hby d6_20) rfl ?_
    show Steps p.tables e below (T4.setTop (mkF m 21 #[.val (.ref r), .val (.double (FP.l2d w)), .second] [(.double (FP.l2d w)), (.double (FP.l2d y0))])) _
    refine XS.dcmpS X4.here hx rfl (v := (0 : Int32)) (hb hby d6_21) rfl hcm ?_
    show Steps p.tables e below (T4.setTop (mkF m 22 #[.val (.ref r), .val (.double (FP.l2d w)), .second] [(.int (0 : Int32))])) _
    refine XS.ifYes X4.here hx rfl (pc0 := 22) (pc' := 30) rfl (hb hby d6_22) rfl ((if0 _ _).trans (teq rfl).1) (by decide) (by decide) ?_
    show Steps p.tables e below (T4.setTop (mkF m 30 #[.val (.ref r), .val (.double (FP.l2d w)), .second] [])) _
    refine XS.aloadN X4.here hx rfl (hb hby d6_30) rfl rfl ?_
    show Steps p.tables e below (T4.setTop (mkF m 31 #[.val (.ref r), .val (.double (FP.l2d w)), .second] [(.ref r)])) _
    refine XS.dup X4.here hx rfl (hb hby d6_31) rfl rfl ?_
    show Steps p.tables e below (T4.setTop (mkF m 32 #[.val (.ref r), .val (.double (FP.l2d w)), .second] [(.ref r), (.ref r)])) _
    refine st6 _ ?_
    show Steps p.tables e below (T6.setTop (mkF m 35 #[.val (.ref r), .val (.double (FP.l2d w)), .second] [(.int (0 : Int32)), (.ref r)])) _
    refine XS.iconst X6.here hx rfl (hb hby d6_35) ?_
    show Steps p.tables e below (T6.setTop (mkF m 36 #[.val (.ref r), .val (.double (FP.l2d w)), .second] [(.int (1 : Int32)), (.int (0 : Int32)), (.ref r)])) _
    refine XS.iadd X6.here hx rfl (hb hby d6_36) rfl ?_
    show Steps p.tables e below (T6.setTop (mkF m 37 #[.val (.ref r), .val (.double (FP.l2d w)), .second] [(.int (1 : Int32)), (.ref r)])) _
    refine st7 _ ?_
    show Steps p.tables e below (T7.setTop (mkF m 40 #[.val (.ref r), .val (.double (FP.l2d w)), .second] [])) _
    refine XS.aloadN X7.here hx rfl (hb hby d6_40) rfl rfl ?_
    show Steps p.tables e below (T7.setTop (mkF m 41 #[.val (.ref r), .val (.double (FP.l2d w)), .second] [(.ref r)])) _
    refine st9 _ ?_
    show Steps p.tables e below (T9.setTop (mkF m 44 #[.val (.ref r), .val (.double (FP.l2d w)), .second] [(.int (1 : Int32))])) _
    refine XS.aloadN X9.here hx rfl (hb hby d6_44) rfl rfl ?_
    show Steps p.tables e below (T9.setTop (mkF m 45 #[.val (.ref r), .val (.double (FP.l2d w)), .second] [(.ref r), (.int (1 : Int32))])) _
    refine st11 _ ?_
    show Steps p.tables e below (T11.setTop (mkF m 48 #[.val (.ref r), .val (.double (FP.l2d w)), .second] [(.int (1 : Int32)), (.int (1 : Int32))])) _
    refine XS.icmpNo X11.here hx rfl (hb hby d6_48) rfl (teq rfl).2 ?_
    show Steps p.tables e below (T11.setTop (mkF m 51 #[.val (.ref r), .val (.double (FP.l2d w)), .second] [])) _
    refine XS.aloadN X11.here hx rfl (hb hby d6_51) rfl rfl ?_
    show Steps p.tables e below (T11.setTop (mkF m 52 #[.val (.ref r), .val (.double (FP.l2d w)), .second] [(.ref r)])) _
    refine XS.iconst X11.here hx rfl (hb hby d6_52) ?_
    show Steps p.tables e below (T11.setTop (mkF m 53 #[.val (.ref r), .val (.double (FP.l2d w)), .second] [(.int (0 : Int32)), (.ref r)])) _
    refine st13 _ ?_
    show Steps p.tables e below (T13.setTop (mkF m 56 #[.val (.ref r), .val (.double (FP.l2d w)), .second] [])) _
    refine XS.aloadN X13.here hx rfl (hb hby d6_56) rfl rfl ?_
    show Steps p.tables e below (T13.setTop (mkF m 57 #[.val (.ref r), .val (.double (FP.l2d w)), .second] [(.ref r)])) _
    refine XS.iconst X13.here hx rfl (hb hby d6_57) ?_
    show Steps p.tables e below (T13.setTop (mkF m 58 #[.val (.ref r), .val (.double (FP.l2d w)), .second] [(.int (0 : Int32)), (.ref r)])) _
    refine st17 _ ?_
    show Steps p.tables e below (T17.setTop (mkF m 61 #[.val (.ref r), .val (.double (FP.l2d w)), .second] [])) _
    exact X17.returnOut hx Bd.returns (hb hby d6_61) hr
  · show QP P n0 _ T17.heap _
    rw [e17]
    exact ⟨rfl, N18, Zc18, hP _ ⟨a, k, g_r, g_a, ne, f19, f20, f21, Fw17, f22⟩⟩
set_option maxRecDepth 65536 in
set_option maxHeartbeats 40000000 in
theorem rmRem_22 (l : Launch) (Z : State) (a0 : Array Value) (hw : ∀ d ∈ tables_1, d.before a0 Z = true) (ws : List Jvm.Cond) (r : Addr) (y0 y1 : Int64) (w : Int64) (P : Heap → Prop) (h0 : Heap) (n0 : Nat) (Z0 : n0 ≤ h0.size) (hRE : own_RE Z n0 r (2 : Int32) (0 : Int32) (2 : Int32) [y0, y1] h0) (hcm : cmpValue (FP.dcmp (FP.l2d y0) (FP.l2d w)) .l = 0) (hP : ∀ h, own_RE Z n0 r (2 : Int32) (1 : Int32) (2 : Int32) [y0, y1] h → P h) :
    MetFree l (⟨"com/example/orrery/orrery/policy/RunningEnds", "removeFirst", "(D)V"⟩ : MethodName) (head1 (Jvm.Cond.code (⟨"com/example/orrery/orrery/policy/RunningEnds", "removeFirst", "(D)V"⟩ : MethodName) prog_11_method_4_code 3 none :: ws) ({ frames := 0, cells := 0, slots := 0, locals := 0 } : Room)) (fun a U => a = #[(.ref r), (.double (FP.l2d w))] ∧ Z.Warmed39 U.vm ∧ U.heap = h0) (fun _ _ _ _ _ => True) (fun _ U o U' => ∃ v L, o = .returned v ∧ QP P n0 v U'.heap L ∧ FrameEnd U o U' L ({ frames := 0, cells := 0, slots := 0, locals := 0 } : Room).cells ({ frames := 0, cells := 0, slots := 0, locals := 0 } : Room).slots) := by
  refine MetFree.of_bodySF (plainFor_of_name pn1) hisR ?_
  intro p e s m args below meth c s₁ Bd hml0 hP hK
  obtain ⟨rfl, hZ, hh⟩ := hP
  have hx := Bd.exec
  have hby := Bd.bytes
  have hml : c.maxLocals = 3 := hml0
  have hown : s.vm.findClass "com/example/orrery/orrery/policy/RunningEnds" = some m.cls := findClass_of_methodNamed Bd.named
  have hnm := (name_of_methodNamed Bd.named Bd.method).1
  have X0 : Stand p l e ({ frames := 0, cells := 0, slots := 0, locals := 0 } : Room) s m #[(.ref r), (.double (FP.l2d w))] below meth c s₁ [] 0 0 := Stand.of_body Bd
  have e0 : s₁.heap = h0 := by rw [← hh, Bd.state]; rfl
  have N0 := Fr.nil n0
  have pre0 : ∀ t, Steps p.tables e below (s₁.setTop (mkF m 0 #[.val (.ref r), .val (.double (FP.l2d w)), .second] [])) t → Steps p.tables e below (s₁.setTop (entryFrame m #[(.ref r), (.double (FP.l2d w))] 3)) t := fun t k => castTop (ef3 m r (FP.l2d w)) k
  obtain ⟨a, k, g_r, g_a, ne, E_r, F_e, F_f, F_l, V_a⟩ := hRE
  obtain ⟨T1, X1, e1, st1⟩ := getF X0 hx hZ hown (host := "") (Or.inl (hw _ (List.mem_of_getElem? (i := 20) rfl))) Via.refl e0 F_f (g := (mkF m 1 #[.val (.ref r), .val (.double (FP.l2d w)), .second] [(.ref r)])) rfl rfl (hb hby d6_1)
  obtain ⟨T2, X2, e2, st2⟩ := getF X1 hx hZ hown (host := "") (Or.inl (hw _ (List.mem_of_getElem? (i := 18) rfl))) Via.refl e1 F_l (g := (mkF m 5 #[.val (.ref r), .val (.double (FP.l2d w)), .second] [(.ref r), (.int (0 : Int32))])) rfl rfl (hb hby d6_5)
  obtain ⟨T3, X3, e3, st3⟩ := getF X2 hx hZ hown (host := "") (Or.inl (hw _ (List.mem_of_getElem? (i := 10) rfl))) Via.refl e2 F_e (g := (mkF m 12 #[.val (.ref r), .val (.double (FP.l2d w)), .second] [(.ref r)])) rfl rfl (hb hby d6_12)
  obtain ⟨T4, X4, e4, st4⟩ := getF X3 hx hZ hown (host := "") (Or.inl (hw _ (List.mem_of_getElem? (i := 20) rfl))) Via.refl e3 F_f (g := (mkF m 16 #[.val (.ref r), .val (.double (FP.l2d w)), .second] [(.ref r), (.ref a)])) rfl rfl (hb hby d6_16)
  obtain ⟨cl5, Ar5, q5, S5, M5, H5, G5⟩ := id V_a
  have in5 := inb_of (j := (0 : Int32)) S5 (by decide)
  obtain ⟨T6, X6, e6, st6⟩ := getF X4 hx hZ hown (host := "") (Or.inl (hw _ (List.mem_of_getElem? (i := 20) rfl))) Via.refl e4 F_f (g := (mkF m 32 #[.val (.ref r), .val (.double (FP.l2d w)), .second] [(.ref r), (.ref r)])) rfl rfl (hb hby d6_32)
  obtain ⟨T7, h7, X7, e7, W7, st7⟩ := putF X6 hx hZ hown (host := "") (Or.inl (hw _ (List.mem_of_getElem? (i := 20) rfl))) Via.refl e6 F_f E_r (Or.inl (hw _ (List.mem_of_getElem? (i := 21) rfl))) (hw _ (List.mem_of_getElem? (i := 1) rfl)) (ty := .int) (by decide) rfl rfl (g := (mkF m 37 #[.val (.ref r), .val (.double (FP.l2d w)), .second] [(.int (1 : Int32)), (.ref r)])) rfl rfl (hb hby d6_37)
  have N8 := Fr.snoc X7 N0 g_r
  have K8 : Keep h0 h7 [r] := Keep.wr (Keep.refl h0 [r]) W7 (Or.inl (List.mem_of_getElem? (i := 0) rfl))
  have Zc8 : n0 ≤ h7.size := by rw [Wr.size W7]; exact Z0
  have Fw7 : Fld Z h7 r "com/example/orrery/orrery/policy/RunningEnds" "first" "I" (.int (1 : Int32)) := Fld.same W7 F_f
  obtain ⟨T9, X9, e9, st9⟩ := getF X7 hx hZ hown (host := "") (Or.inl (hw _ (List.mem_of_getElem? (i := 20) rfl))) Via.refl e7 Fw7 (g := (mkF m 41 #[.val (.ref r), .val (.double (FP.l2d w)), .second] [(.ref r)])) rfl rfl (hb hby d6_41)
  have f10 : Fld Z h7 r "com/example/orrery/orrery/policy/RunningEnds" "last" "I" (.int (2 : Int32)) := (Fld.other W7 F_l (Or.inr (slot_ne (t := .int) (t' := .int) (Or.inl (hw _ (List.mem_of_getElem? (i := 19) rfl))) (Or.inl (hw _ (List.mem_of_getElem? (i := 21) rfl))) (by decide) (by decide) (by decide))))
  obtain ⟨T11, X11, e11, st11⟩ := getF X9 hx hZ hown (host := "") (Or.inl (hw _ (List.mem_of_getElem? (i := 18) rfl))) Via.refl e9 f10 (g := (mkF m 45 #[.val (.ref r), .val (.double (FP.l2d w)), .second] [(.ref r), (.int (1 : Int32))])) rfl rfl (hb hby d6_45)
  have f12 : Exa Z h7 r "com/example/orrery/orrery/policy/RunningEnds" := (Exa.wr W7 E_r)
  have f13 : Fld Z h7 r "com/example/orrery/orrery/policy/RunningEnds" "ends" "[D" (.ref a) := (Fld.other W7 F_e (Or.inr (slot_ne (t := (.array .double)) (t' := .int) (Or.inl (hw _ (List.mem_of_getElem? (i := 11) rfl))) (Or.inl (hw _ (List.mem_of_getElem? (i := 21) rfl))) (by decide) (by decide) (by decide))))
  have f14 : Arv Z h7 a k .double (2 : Int32) [(.double (FP.l2d y0)), (.double (FP.l2d y1))] (.double (FP.l2d 0)) := (Arv.other V_a W7 (Ne.symm ne))
  obtain ⟨fs, hr, hrun, hended, hW, hsame⟩ := X11.leave (v := none) (fun _ => rfl)
  refine ⟨_, _, pre0 _ ?_, hrun, hended, _, _, rfl, ?_, ⟨_, rfl⟩, hW, hsame.mono (by decide) (by decide)⟩
  · show Steps p.tables e below (s₁.setTop (mkF m 0 #[.val (.ref r), .val (.double (FP.l2d w)), .second] [])) _
    refine XS.aloadN X0.here hx rfl (hb hby d6_0) rfl rfl ?_
    show Steps p.tables e below (s₁.setTop (mkF m 1 #[.val (.ref r), .val (.double (FP.l2d w)), .second] [(.ref r)])) _
    refine st1 _ ?_
    show Steps p.tables e below (T1.setTop (mkF m 4 #[.val (.ref r), .val (.double (FP.l2d w)), .second] [(.int (0 : Int32))])) _
    refine XS.aloadN X1.here hx rfl (hb hby d6_4) rfl rfl ?_
    show Steps p.tables e below (T1.setTop (mkF m 5 #[.val (.ref r), .val (.double (FP.l2d w)), .second] [(.ref r), (.int (0 : Int32))])) _
    refine st2 _ ?_
    show Steps p.tables e below (T2.setTop (mkF m 8 #[.val (.ref r), .val (.double (FP.l2d w)), .second] [(.int (2 : Int32)), (.int (0 : Int32))])) _
    refine XS.icmpNo X2.here hx rfl (hb hby d6_8) rfl (feq (by decide)).1 ?_
    show Steps p.tables e below (T2.setTop (mkF m 11 #[.val (.ref r), .val (.double (FP.l2d w)), .second] [])) _
    refine XS.aloadN X2.here hx rfl (hb hby d6_11) rfl rfl ?_
    show Steps p.tables e below (T2.setTop (mkF m 12 #[.val (.ref r), .val (.double (FP.l2d w)), .second] [(.ref r)])) _
    refine st3 _ ?_
    show Steps p.tables e below (T3.setTop (mkF m 15 #[.val (.ref r), .val (.double (FP.l2d w)), .second] [(.ref a)])) _
    refine XS.aloadN X3.here hx rfl (hb hby d6_15) rfl rfl ?_
    show Steps p.tables e below (T3.setTop (mkF m 16 #[.val (.ref r), .val (.double (FP.l2d w)), .second] [(.ref r), (.ref a)])) _
    refine st4 _ ?_
    show Steps p.tables e below (T4.setTop (mkF m 19 #[.val (.ref r), .val (.double (FP.l2d w)), .second] [(.int (0 : Int32)), (.ref a)])) _
    refine X4.daload hx (a := a) (cell := cl5) (j := (0 : Int32)) (v := (.double (FP.l2d y0))) (by rw [e4]; exact Ar5.1) (State.isArrayOf_alike hZ.alike Ar5.2.1) Ar5.2.2 in5 (Has.at H5 in5 rfl) (g := (mkF m 19 #[.val (.ref r), .val (.double (FP.l2d w)), .second] [(.int (0 : Int32)), (.ref a)])) rfl rfl (hb hby d6_19) _ ?_
    show Steps p.tables e below (T4.setTop (mkF m 20 #[.val (.ref r), .val (.double (FP.l2d w)), .second] [(.double (FP.l2d y0))])) _
    refine XS.dloadN X4.here hx rfl (hb hby d6_20) rfl ?_
    show Steps p.tables e below (T4.setTop (mkF m 21 #[.val (.ref r), .val (.double (FP.l2d w)), .second] [(.double (FP.l2d w)), (.double (FP.l2d y0))])) _
    refine XS.dcmpS X4.here hx rfl (v := (0 : Int32)) (hb hby d6_21) rfl hcm ?_
    show Steps p.tables e below (T4.setTop (mkF m 22 #[.val (.ref r), .val (.double (FP.l2d w)), .second] [(.int (0 : Int32))])) _
    refine XS.ifYes X4.here hx rfl (pc0 := 22) (pc' := 30) rfl (hb hby d6_22) rfl ((if0 _ _).trans (teq rfl).1) (by decide) (by decide) ?_
    show Steps p.tables e below (T4.setTop (mkF m 30 #[.val (.ref r), .val (.double (FP.l2d w)), .second] [])) _
    refine XS.aloadN X4.here hx rfl (hb hby d6_30) rfl rfl ?_
    show Steps p.tables e below (T4.setTop (mkF m 31 #[.val (.ref r), .val (.double (FP.l2d w)), .second] [(.ref r)])) _
    refine XS.dup X4.here hx rfl (hb hby d6_31) rfl rfl ?_
    show Steps p.tables e below (T4.setTop (mkF m 32 #[.val (.ref r), .val (.double (FP.l2d w)), .second] [(.ref r), (.ref r)])) _
    refine st6 _ ?_
    show Steps p.tables e below (T6.setTop (mkF m 35 #[.val (.ref r), .val (.double (FP.l2d w)), .second] [(.int (0 : Int32)), (.ref r)])) _
    refine XS.iconst X6.here hx rfl (hb hby d6_35) ?_
    show Steps p.tables e below (T6.setTop (mkF m 36 #[.val (.ref r), .val (.double (FP.l2d w)), .second] [(.int (1 : Int32)), (.int (0 : Int32)), (.ref r)])) _
    refine XS.iadd X6.here hx rfl (hb hby d6_36) rfl ?_
    show Steps p.tables e below (T6.setTop (mkF m 37 #[.val (.ref r), .val (.double (FP.l2d w)), .second] [(.int (1 : Int32)), (.ref r)])) _
    refine st7 _ ?_
    show Steps p.tables e below (T7.setTop (mkF m 40 #[.val (.ref r), .val (.double (FP.l2d w)), .second] [])) _
    refine XS.aloadN X7.here hx rfl (hb hby d6_40) rfl rfl ?_
    show Steps p.tables e below (T7.setTop (mkF m 41 #[.val (.ref r), .val (.double (FP.l2d w)), .second] [(.ref r)])) _
    refine st9 _ ?_
    show Steps p.tables e below (T9.setTop (mkF m 44 #[.val (.ref r), .val (.double (FP.l2d w)), .second] [(.int (1 : Int32))])) _
    refine XS.aloadN X9.here hx rfl (hb hby d6_44) rfl rfl ?_
    show Steps p.tables e below (T9.setTop (mkF m 45 #[.val (.ref r), .val (.double (FP.l2d w)), .second] [(.ref r), (.int (1 : Int32))])) _
    refine st11 _ ?_
    show Steps p.tables e below (T11.setTop (mkF m 48 #[.val (.ref r), .val (.double (FP.l2d w)), .second] [(.int (2 : Int32)), (.int (1 : Int32))])) _
    refine XS.icmpYes X11.here hx rfl (pc0 := 48) (pc' := 61) rfl (hb hby d6_48) rfl (feq (by decide)).2 (by decide) (by decide) ?_
    show Steps p.tables e below (T11.setTop (mkF m 61 #[.val (.ref r), .val (.double (FP.l2d w)), .second] [])) _
    exact X11.returnOut hx Bd.returns (hb hby d6_61) hr
  · show QP P n0 _ T11.heap _
    rw [e11]
    exact ⟨rfl, N8, Zc8, hP _ ⟨a, k, g_r, g_a, ne, f12, f13, Fw7, f10, f14⟩⟩
set_option maxRecDepth 65536 in
set_option maxHeartbeats 40000000 in
theorem rmRem_43 (l : Launch) (Z : State) (a0 : Array Value) (hw : ∀ d ∈ tables_1, d.before a0 Z = true) (ws : List Jvm.Cond) (r : Addr) (y0 y1 y2 y3 : Int64) (w : Int64) (P : Heap → Prop) (h0 : Heap) (n0 : Nat) (Z0 : n0 ≤ h0.size) (hRE : own_RE Z n0 r (4 : Int32) (0 : Int32) (3 : Int32) [y0, y1, y2, y3] h0) (hcm : cmpValue (FP.dcmp (FP.l2d y0) (FP.l2d w)) .l = 0) (hP : ∀ h, own_RE Z n0 r (4 : Int32) (1 : Int32) (3 : Int32) [y0, y1, y2, y3] h → P h) :
    MetFree l (⟨"com/example/orrery/orrery/policy/RunningEnds", "removeFirst", "(D)V"⟩ : MethodName) (head1 (Jvm.Cond.code (⟨"com/example/orrery/orrery/policy/RunningEnds", "removeFirst", "(D)V"⟩ : MethodName) prog_11_method_4_code 3 none :: ws) ({ frames := 0, cells := 0, slots := 0, locals := 0 } : Room)) (fun a U => a = #[(.ref r), (.double (FP.l2d w))] ∧ Z.Warmed39 U.vm ∧ U.heap = h0) (fun _ _ _ _ _ => True) (fun _ U o U' => ∃ v L, o = .returned v ∧ QP P n0 v U'.heap L ∧ FrameEnd U o U' L ({ frames := 0, cells := 0, slots := 0, locals := 0 } : Room).cells ({ frames := 0, cells := 0, slots := 0, locals := 0 } : Room).slots) := by
  refine MetFree.of_bodySF (plainFor_of_name pn1) hisR ?_
  intro p e s m args below meth c s₁ Bd hml0 hP hK
  obtain ⟨rfl, hZ, hh⟩ := hP
  have hx := Bd.exec
  have hby := Bd.bytes
  have hml : c.maxLocals = 3 := hml0
  have hown : s.vm.findClass "com/example/orrery/orrery/policy/RunningEnds" = some m.cls := findClass_of_methodNamed Bd.named
  have hnm := (name_of_methodNamed Bd.named Bd.method).1
  have X0 : Stand p l e ({ frames := 0, cells := 0, slots := 0, locals := 0 } : Room) s m #[(.ref r), (.double (FP.l2d w))] below meth c s₁ [] 0 0 := Stand.of_body Bd
  have e0 : s₁.heap = h0 := by rw [← hh, Bd.state]; rfl
  have N0 := Fr.nil n0
  have pre0 : ∀ t, Steps p.tables e below (s₁.setTop (mkF m 0 #[.val (.ref r), .val (.double (FP.l2d w)), .second] [])) t → Steps p.tables e below (s₁.setTop (entryFrame m #[(.ref r), (.double (FP.l2d w))] 3)) t := fun t k => castTop (ef3 m r (FP.l2d w)) k
  obtain ⟨a, k, g_r, g_a, ne, E_r, F_e, F_f, F_l, V_a⟩ := hRE
  obtain ⟨T1, X1, e1, st1⟩ := getF X0 hx hZ hown (host := "") (Or.inl (hw _ (List.mem_of_getElem? (i := 20) rfl))) Via.refl e0 F_f (g := (mkF m 1 #[.val (.ref r), .val (.double (FP.l2d w)), .second] [(.ref r)])) rfl rfl (hb hby d6_1)
  obtain ⟨T2, X2, e2, st2⟩ := getF X1 hx hZ hown (host := "") (Or.inl (hw _ (List.mem_of_getElem? (i := 18) rfl))) Via.refl e1 F_l (g := (mkF m 5 #[.val (.ref r), .val (.double (FP.l2d w)), .second] [(.ref r), (.int (0 : Int32))])) rfl rfl (hb hby d6_5)
  obtain ⟨T3, X3, e3, st3⟩ := getF X2 hx hZ hown (host := "") (Or.inl (hw _ (List.mem_of_getElem? (i := 10) rfl))) Via.refl e2 F_e (g := (mkF m 12 #[.val (.ref r), .val (.double (FP.l2d w)), .second] [(.ref r)])) rfl rfl (hb hby d6_12)
  obtain ⟨T4, X4, e4, st4⟩ := getF X3 hx hZ hown (host := "") (Or.inl (hw _ (List.mem_of_getElem? (i := 20) rfl))) Via.refl e3 F_f (g := (mkF m 16 #[.val (.ref r), .val (.double (FP.l2d w)), .second] [(.ref r), (.ref a)])) rfl rfl (hb hby d6_16)
  obtain ⟨cl5, Ar5, q5, S5, M5, H5, G5⟩ := id V_a
  have in5 := inb_of (j := (0 : Int32)) S5 (by decide)
  obtain ⟨T6, X6, e6, st6⟩ := getF X4 hx hZ hown (host := "") (Or.inl (hw _ (List.mem_of_getElem? (i := 20) rfl))) Via.refl e4 F_f (g := (mkF m 32 #[.val (.ref r), .val (.double (FP.l2d w)), .second] [(.ref r), (.ref r)])) rfl rfl (hb hby d6_32)
  obtain ⟨T7, h7, X7, e7, W7, st7⟩ := putF X6 hx hZ hown (host := "") (Or.inl (hw _ (List.mem_of_getElem? (i := 20) rfl))) Via.refl e6 F_f E_r (Or.inl (hw _ (List.mem_of_getElem? (i := 21) rfl))) (hw _ (List.mem_of_getElem? (i := 1) rfl)) (ty := .int) (by decide) rfl rfl (g := (mkF m 37 #[.val (.ref r), .val (.double (FP.l2d w)), .second] [(.int (1 : Int32)), (.ref r)])) rfl rfl (hb hby d6_37)
  have N8 := Fr.snoc X7 N0 g_r
  have K8 : Keep h0 h7 [r] := Keep.wr (Keep.refl h0 [r]) W7 (Or.inl (List.mem_of_getElem? (i := 0) rfl))
  have Zc8 : n0 ≤ h7.size := by rw [Wr.size W7]; exact Z0
  have Fw7 : Fld Z h7 r "com/example/orrery/orrery/policy/RunningEnds" "first" "I" (.int (1 : Int32)) := Fld.same W7 F_f
  obtain ⟨T9, X9, e9, st9⟩ := getF X7 hx hZ hown (host := "") (Or.inl (hw _ (List.mem_of_getElem? (i := 20) rfl))) Via.refl e7 Fw7 (g := (mkF m 41 #[.val (.ref r), .val (.double (FP.l2d w)), .second] [(.ref r)])) rfl rfl (hb hby d6_41)
  have f10 : Fld Z h7 r "com/example/orrery/orrery/policy/RunningEnds" "last" "I" (.int (3 : Int32)) := (Fld.other W7 F_l (Or.inr (slot_ne (t := .int) (t' := .int) (Or.inl (hw _ (List.mem_of_getElem? (i := 19) rfl))) (Or.inl (hw _ (List.mem_of_getElem? (i := 21) rfl))) (by decide) (by decide) (by decide))))
  obtain ⟨T11, X11, e11, st11⟩ := getF X9 hx hZ hown (host := "") (Or.inl (hw _ (List.mem_of_getElem? (i := 18) rfl))) Via.refl e9 f10 (g := (mkF m 45 #[.val (.ref r), .val (.double (FP.l2d w)), .second] [(.ref r), (.int (1 : Int32))])) rfl rfl (hb hby d6_45)
  have f12 : Exa Z h7 r "com/example/orrery/orrery/policy/RunningEnds" := (Exa.wr W7 E_r)
  have f13 : Fld Z h7 r "com/example/orrery/orrery/policy/RunningEnds" "ends" "[D" (.ref a) := (Fld.other W7 F_e (Or.inr (slot_ne (t := (.array .double)) (t' := .int) (Or.inl (hw _ (List.mem_of_getElem? (i := 11) rfl))) (Or.inl (hw _ (List.mem_of_getElem? (i := 21) rfl))) (by decide) (by decide) (by decide))))
  have f14 : Arv Z h7 a k .double (4 : Int32) [(.double (FP.l2d y0)), (.double (FP.l2d y1)), (.double (FP.l2d y2)), (.double (FP.l2d y3))] (.double (FP.l2d 0)) := (Arv.other V_a W7 (Ne.symm ne))
  obtain ⟨fs, hr, hrun, hended, hW, hsame⟩ := X11.leave (v := none) (fun _ => rfl)
  refine ⟨_, _, pre0 _ ?_, hrun, hended, _, _, rfl, ?_, ⟨_, rfl⟩, hW, hsame.mono (by decide) (by decide)⟩
  · show Steps p.tables e below (s₁.setTop (mkF m 0 #[.val (.ref r), .val (.double (FP.l2d w)), .second] [])) _
    refine XS.aloadN X0.here hx rfl (hb hby d6_0) rfl rfl ?_
    show Steps p.tables e below (s₁.setTop (mkF m 1 #[.val (.ref r), .val (.double (FP.l2d w)), .second] [(.ref r)])) _
    refine st1 _ ?_
    show Steps p.tables e below (T1.setTop (mkF m 4 #[.val (.ref r), .val (.double (FP.l2d w)), .second] [(.int (0 : Int32))])) _
    refine XS.aloadN X1.here hx rfl (hb hby d6_4) rfl rfl ?_
    show Steps p.tables e below (T1.setTop (mkF m 5 #[.val (.ref r), .val (.double (FP.l2d w)), .second] [(.ref r), (.int (0 : Int32))])) _
    refine st2 _ ?_
    show Steps p.tables e below (T2.setTop (mkF m 8 #[.val (.ref r), .val (.double (FP.l2d w)), .second] [(.int (3 : Int32)), (.int (0 : Int32))])) _
    refine XS.icmpNo X2.here hx rfl (hb hby d6_8) rfl (feq (by decide)).1 ?_
    show Steps p.tables e below (T2.setTop (mkF m 11 #[.val (.ref r), .val (.double (FP.l2d w)), .second] [])) _
    refine XS.aloadN X2.here hx rfl (hb hby d6_11) rfl rfl ?_
    show Steps p.tables e below (T2.setTop (mkF m 12 #[.val (.ref r), .val (.double (FP.l2d w)), .second] [(.ref r)])) _
    refine st3 _ ?_
    show Steps p.tables e below (T3.setTop (mkF m 15 #[.val (.ref r), .val (.double (FP.l2d w)), .second] [(.ref a)])) _
    refine XS.aloadN X3.here hx rfl (hb hby d6_15) rfl rfl ?_
    show Steps p.tables e below (T3.setTop (mkF m 16 #[.val (.ref r), .val (.double (FP.l2d w)), .second] [(.ref r), (.ref a)])) _
    refine st4 _ ?_
    show Steps p.tables e below (T4.setTop (mkF m 19 #[.val (.ref r), .val (.double (FP.l2d w)), .second] [(.int (0 : Int32)), (.ref a)])) _
    refine X4.daload hx (a := a) (cell := cl5) (j := (0 : Int32)) (v := (.double (FP.l2d y0))) (by rw [e4]; exact Ar5.1) (State.isArrayOf_alike hZ.alike Ar5.2.1) Ar5.2.2 in5 (Has.at H5 in5 rfl) (g := (mkF m 19 #[.val (.ref r), .val (.double (FP.l2d w)), .second] [(.int (0 : Int32)), (.ref a)])) rfl rfl (hb hby d6_19) _ ?_
    show Steps p.tables e below (T4.setTop (mkF m 20 #[.val (.ref r), .val (.double (FP.l2d w)), .second] [(.double (FP.l2d y0))])) _
    refine XS.dloadN X4.here hx rfl (hb hby d6_20) rfl ?_
    show Steps p.tables e below (T4.setTop (mkF m 21 #[.val (.ref r), .val (.double (FP.l2d w)), .second] [(.double (FP.l2d w)), (.double (FP.l2d y0))])) _
    refine XS.dcmpS X4.here hx rfl (v := (0 : Int32)) (hb hby d6_21) rfl hcm ?_
    show Steps p.tables e below (T4.setTop (mkF m 22 #[.val (.ref r), .val (.double (FP.l2d w)), .second] [(.int (0 : Int32))])) _
    refine XS.ifYes X4.here hx rfl (pc0 := 22) (pc' := 30) rfl (hb hby d6_22) rfl ((if0 _ _).trans (teq rfl).1) (by decide) (by decide) ?_
    show Steps p.tables e below (T4.setTop (mkF m 30 #[.val (.ref r), .val (.double (FP.l2d w)), .second] [])) _
    refine XS.aloadN X4.here hx rfl (hb hby d6_30) rfl rfl ?_
    show Steps p.tables e below (T4.setTop (mkF m 31 #[.val (.ref r), .val (.double (FP.l2d w)), .second] [(.ref r)])) _
    refine XS.dup X4.here hx rfl (hb hby d6_31) rfl rfl ?_
    show Steps p.tables e below (T4.setTop (mkF m 32 #[.val (.ref r), .val (.double (FP.l2d w)), .second] [(.ref r), (.ref r)])) _
    refine st6 _ ?_
    show Steps p.tables e below (T6.setTop (mkF m 35 #[.val (.ref r), .val (.double (FP.l2d w)), .second] [(.int (0 : Int32)), (.ref r)])) _
    refine XS.iconst X6.here hx rfl (hb hby d6_35) ?_
    show Steps p.tables e below (T6.setTop (mkF m 36 #[.val (.ref r), .val (.double (FP.l2d w)), .second] [(.int (1 : Int32)), (.int (0 : Int32)), (.ref r)])) _
    refine XS.iadd X6.here hx rfl (hb hby d6_36) rfl ?_
    show Steps p.tables e below (T6.setTop (mkF m 37 #[.val (.ref r), .val (.double (FP.l2d w)), .second] [(.int (1 : Int32)), (.ref r)])) _
    refine st7 _ ?_
    show Steps p.tables e below (T7.setTop (mkF m 40 #[.val (.ref r), .val (.double (FP.l2d w)), .second] [])) _
    refine XS.aloadN X7.here hx rfl (hb hby d6_40) rfl rfl ?_
    show Steps p.tables e below (T7.setTop (mkF m 41 #[.val (.ref r), .val (.double (FP.l2d w)), .second] [(.ref r)])) _
    refine st9 _ ?_
    show Steps p.tables e below (T9.setTop (mkF m 44 #[.val (.ref r), .val (.double (FP.l2d w)), .second] [(.int (1 : Int32))])) _
    refine XS.aloadN X9.here hx rfl (hb hby d6_44) rfl rfl ?_
    show Steps p.tables e below (T9.setTop (mkF m 45 #[.val (.ref r), .val (.double (FP.l2d w)), .second] [(.ref r), (.int (1 : Int32))])) _
    refine st11 _ ?_
    show Steps p.tables e below (T11.setTop (mkF m 48 #[.val (.ref r), .val (.double (FP.l2d w)), .second] [(.int (3 : Int32)), (.int (1 : Int32))])) _
    refine XS.icmpYes X11.here hx rfl (pc0 := 48) (pc' := 61) rfl (hb hby d6_48) rfl (feq (by decide)).2 (by decide) (by decide) ?_
    show Steps p.tables e below (T11.setTop (mkF m 61 #[.val (.ref r), .val (.double (FP.l2d w)), .second] [])) _
    exact X11.returnOut hx Bd.returns (hb hby d6_61) hr
  · show QP P n0 _ T11.heap _
    rw [e11]
    exact ⟨rfl, N8, Zc8, hP _ ⟨a, k, g_r, g_a, ne, f12, f13, Fw7, f10, f14⟩⟩
set_option maxRecDepth 65536 in
set_option maxHeartbeats 40000000 in
theorem rmI (l : Launch) (Z : State) (a0 : Array Value) (hw : ∀ d ∈ tables_1, d.before a0 Z = true) (ws : List Jvm.Cond) (r : Addr) (h0 : Heap) (n0 : Nat) (Z0 : n0 ≤ h0.size) (g_r : n0 ≤ r) (E_r : Exa Z h0 r "com/example/orrery/orrery/policy/RunningEnds") (F_e : Fld Z h0 r "com/example/orrery/orrery/policy/RunningEnds" "ends" "[D" .null) (F_f : Fld Z h0 r "com/example/orrery/orrery/policy/RunningEnds" "first" "I" (.int (0 : Int32))) (F_l : Fld Z h0 r "com/example/orrery/orrery/policy/RunningEnds" "last" "I" (.int (0 : Int32))) :
    MetFree l (⟨"com/example/orrery/orrery/policy/RunningEnds", "<init>", "()V"⟩ : MethodName) (head1 (Jvm.Cond.code (⟨"com/example/orrery/orrery/policy/RunningEnds", "<init>", "()V"⟩ : MethodName) prog_11_method_1_code 1 none :: ws) ({ frames := 1, cells := 1, slots := 2, locals := 12 } : Room)) (fun a U => a = #[(.ref r)] ∧ Z.Warmed39 U.vm ∧ U.heap = h0) (fun _ _ _ _ _ => True) (fun _ U o U' => ∃ v L, o = .returned v ∧ QP (own_RE Z n0 r (2 : Int32) (0 : Int32) (0 : Int32) [0, 0]) n0 v U'.heap L ∧ FrameEnd U o U' L ({ frames := 1, cells := 1, slots := 2, locals := 12 } : Room).cells ({ frames := 1, cells := 1, slots := 2, locals := 12 } : Room).slots) := by
  refine MetFree.of_bodySF (plainFor_of_name pn1) hisR ?_
  intro p e s m args below meth c s₁ Bd hml0 hP hK
  obtain ⟨rfl, hZ, hh⟩ := hP
  have hx := Bd.exec
  have hby := Bd.bytes
  have hml : c.maxLocals = 1 := hml0
  have hown : s.vm.findClass "com/example/orrery/orrery/policy/RunningEnds" = some m.cls := findClass_of_methodNamed Bd.named
  have hnm := (name_of_methodNamed Bd.named Bd.method).1
  have X0 : Stand p l e ({ frames := 1, cells := 1, slots := 2, locals := 12 } : Room) s m #[(.ref r)] below meth c s₁ [] 0 0 := Stand.of_body Bd
  have e0 : s₁.heap = h0 := by rw [← hh, Bd.state]; rfl
  have N0 := Fr.nil n0
  have pre0 : ∀ t, Steps p.tables e below (s₁.setTop (mkF m 0 #[.val (.ref r)] [])) t → Steps p.tables e below (s₁.setTop (entryFrame m #[(.ref r)] 1)) t := fun t k => castTop (ef4 m r) k
  obtain ⟨T1, X1, e1, st1⟩ := initO X0 hx hZ hown (hw _ (List.mem_of_getElem? (i := 6) rfl)) (hw _ (List.mem_of_getElem? (i := 7) rfl)) (hw _ (List.mem_of_getElem? (i := 8) rfl)) e0 (g := (mkF m 1 #[.val (.ref r)] [(.ref r)])) rfl (by rw [hml]; rfl) rfl (hb hby d8_1) (by decide) (W := 0) (by show 2 * 0 + _ ≤ _; exact Nat.le_of_eq rfl) (by decide)
  obtain ⟨T2, h2, k2, X2, e2, E2, A2, st2⟩ := newP X1 hx hZ (hw _ (List.mem_of_getElem? (i := 9) rfl)) e1 (g := (mkF m 6 #[.val (.ref r)] [(.int (2 : Int32)), (.ref r)])) rfl (hb hby d8_6) rfl (by decide) (cap := 2) (by decide) (by decide) (by decide) (by decide)
  obtain ⟨b2, g2⟩ : ∃ z, z = h0.size := ⟨_, rfl⟩
  rw [← g2] at A2 st2
  have ne_r_b2 : r ≠ b2 := by rw [g2]; exact Nat.ne_of_lt E_r.lt
  have g_b2 : n0 ≤ b2 := Nat.le_trans Z0 (Nat.le_of_eq g2.symm)
  have sz_b2 : h0.size ≤ b2 := Nat.le_trans (Keep.refl h0 [r]).1 (Nat.le_of_eq g2.symm)
  have K3 : Keep h0 h2 [r] := Keep.ext (Keep.refl h0 [r]) E2
  have Zc3 : n0 ≤ h2.size := Nat.le_trans Z0 E2.1
  have V2 : Arv Z h2 b2 k2 .double (2 : Int32) [(.double (FP.l2d 0)), (.double (FP.l2d 0))] (.double (FP.l2d 0)) := Arv.pad (Arv.newD A2 (by decide)) (pad_rep [] _ 2)
  have f4 : Fld Z h2 r "com/example/orrery/orrery/policy/RunningEnds" "ends" "[D" .null := (Fld.ext E2 F_e)
  have f5 : Exa Z h2 r "com/example/orrery/orrery/policy/RunningEnds" := (Exa.ext E2 E_r)
  obtain ⟨T6, h6, X6, e6, W6, st6⟩ := putF X2 hx hZ hown (host := "") (Or.inl (hw _ (List.mem_of_getElem? (i := 10) rfl))) Via.refl e2 f4 f5 (Or.inl (hw _ (List.mem_of_getElem? (i := 11) rfl))) (hw _ (List.mem_of_getElem? (i := 1) rfl)) (ty := (.array .double)) (by decide) rfl rfl (g := (mkF m 8 #[.val (.ref r)] [(.ref b2), (.ref r)])) rfl rfl (hb hby d8_8)
  have N7 := Fr.snoc X6 N0 g_r
  have K7 : Keep h0 h6 [r] := Keep.wr K3 W6 (Or.inl (List.mem_of_getElem? (i := 0) rfl))
  have Zc7 : n0 ≤ h6.size := by rw [Wr.size W6]; exact Zc3
  have Fw6 : Fld Z h6 r "com/example/orrery/orrery/policy/RunningEnds" "ends" "[D" (.ref b2) := Fld.same W6 f4
  have f8 : Exa Z h6 r "com/example/orrery/orrery/policy/RunningEnds" := (Exa.wr W6 f5)
  have f9 : Fld Z h6 r "com/example/orrery/orrery/policy/RunningEnds" "first" "I" (.int (0 : Int32)) := (Fld.other W6 (Fld.ext E2 F_f) (Or.inr (slot_ne (t := .int) (t' := (.array .double)) (Or.inl (hw _ (List.mem_of_getElem? (i := 21) rfl))) (Or.inl (hw _ (List.mem_of_getElem? (i := 11) rfl))) (by decide) (by decide) (by decide))))
  have f10 : Fld Z h6 r "com/example/orrery/orrery/policy/RunningEnds" "last" "I" (.int (0 : Int32)) := (Fld.other W6 (Fld.ext E2 F_l) (Or.inr (slot_ne (t := .int) (t' := (.array .double)) (Or.inl (hw _ (List.mem_of_getElem? (i := 19) rfl))) (Or.inl (hw _ (List.mem_of_getElem? (i := 11) rfl))) (by decide) (by decide) (by decide))))
  have f11 : Arv Z h6 b2 k2 .double (2 : Int32) [(.double (FP.l2d 0)), (.double (FP.l2d 0))] (.double (FP.l2d 0)) := (Arv.other V2 W6 (Ne.symm ne_r_b2))
  obtain ⟨fs, hr, hrun, hended, hW, hsame⟩ := X6.leave (v := none) (fun _ => rfl)
  refine ⟨_, _, pre0 _ ?_, hrun, hended, _, _, rfl, ?_, ⟨_, rfl⟩, hW, hsame.mono (by decide) (by decide)⟩
  · show Steps p.tables e below (s₁.setTop (mkF m 0 #[.val (.ref r)] [])) _
    refine XS.aloadN X0.here hx rfl (hb hby d8_0) rfl rfl ?_
    show Steps p.tables e below (s₁.setTop (mkF m 1 #[.val (.ref r)] [(.ref r)])) _
    refine st1 _ ?_
    show Steps p.tables e below (T1.setTop (mkF m 4 #[.val (.ref r)] [])) _
    refine XS.aloadN X1.here hx rfl (hb hby d8_4) rfl rfl ?_
    show Steps p.tables e below (T1.setTop (mkF m 5 #[.val (.ref r)] [(.ref r)])) _
    refine XS.iconst X1.here hx rfl (hb hby d8_5) ?_
    show Steps p.tables e below (T1.setTop (mkF m 6 #[.val (.ref r)] [(.int (2 : Int32)), (.ref r)])) _
    refine st2 _ ?_
    show Steps p.tables e below (T2.setTop (mkF m 8 #[.val (.ref r)] [(.ref b2), (.ref r)])) _
    refine st6 _ ?_
    show Steps p.tables e below (T6.setTop (mkF m 11 #[.val (.ref r)] [])) _
    exact X6.returnOut hx Bd.returns (hb hby d8_11) hr
  · show QP (own_RE Z n0 r (2 : Int32) (0 : Int32) (0 : Int32) [0, 0]) n0 _ T6.heap _
    rw [e6]
    exact ⟨rfl, N7, Zc7, ⟨b2, k2, g_r, g_b2, ne_r_b2, f8, Fw6, f9, f10, f11⟩⟩
def own_min (p q : Int32) : Int32 := if q < p then q else p
def QM (r : Int32) (h0 : Heap) (n0 : Nat) (v : Option Value) (h : Heap) (L : List Loc) : Prop := v = some (.int r) ∧ Fr n0 L ∧ h = h0
set_option maxRecDepth 65536 in
set_option maxHeartbeats 40000000 in
theorem rmMin_t (l : Launch) (Z : State) (a0 : Array Value) (hw : ∀ d ∈ tables_1, d.before a0 Z = true) (ws : List Jvm.Cond) (p q : Int32) (h0 : Heap) (n0 : Nat) (Z0 : n0 ≤ h0.size) (hc : q < p) :
    MetFree l (⟨"java/lang/Math", "min", "(II)I"⟩ : MethodName) (head1 (Jvm.Cond.code (⟨"java/lang/Math", "min", "(II)I"⟩ : MethodName) jdk_29_method_69_code 2 (some .int) :: ws) ({ frames := 0, cells := 0, slots := 0, locals := 0 } : Room)) (fun a U => a = #[(.int p), (.int q)] ∧ Z.Warmed39 U.vm ∧ U.heap = h0) (fun _ _ _ _ _ => True) (fun _ U o U' => ∃ v L, o = .returned v ∧ QM q h0 n0 v U'.heap L ∧ FrameEnd U o U' L ({ frames := 0, cells := 0, slots := 0, locals := 0 } : Room).cells ({ frames := 0, cells := 0, slots := 0, locals := 0 } : Room).slots) := by
  refine MetFree.of_bodySF (Jvm.Free.JP.mathPlain rfl (by decide +kernel)) hisR ?_
  intro p' e s m args below meth c s₁ Bd hml0 hP hK
  obtain ⟨rfl, hZ, hh⟩ := hP
  have hx := Bd.exec
  have hby := Bd.bytes
  have hml : c.maxLocals = 2 := hml0
  have hown : s.vm.findClass "java/lang/Math" = some m.cls := findClass_of_methodNamed Bd.named
  have hnm := (name_of_methodNamed Bd.named Bd.method).1
  have X0 : Stand p' l e ({ frames := 0, cells := 0, slots := 0, locals := 0 } : Room) s m #[(.int p), (.int q)] below meth c s₁ [] 0 0 := Stand.of_body Bd
  have e0 : s₁.heap = h0 := by rw [← hh, Bd.state]; rfl
  have N0 := Fr.nil n0
  have pre0 : ∀ t, Steps p'.tables e below (s₁.setTop (mkF m 0 #[.val (.int p), .val (.int q)] [])) t → Steps p'.tables e below (s₁.setTop (entryFrame m #[(.int p), (.int q)] 2)) t := fun t k => castTop (ef5 m p q) k
  obtain ⟨fs, hr, hrun, hended, hW, hsame⟩ := X0.leave (v := some (.int q)) (fun h => by rw [Bd.returns] at h; cases h)
  refine ⟨_, _, pre0 _ ?_, hrun, hended, _, _, rfl, ?_, ⟨_, rfl⟩, hW, hsame.mono (by decide) (by decide)⟩
  · show Steps p'.tables e below (s₁.setTop (mkF m 0 #[.val (.int p), .val (.int q)] [])) _
    refine XS.iloadN X0.here hx rfl (hb hby d10_0) rfl ?_
    show Steps p'.tables e below (s₁.setTop (mkF m 1 #[.val (.int p), .val (.int q)] [(.int p)])) _
    refine XS.iloadN X0.here hx rfl (hb hby d10_1) rfl ?_
    show Steps p'.tables e below (s₁.setTop (mkF m 2 #[.val (.int p), .val (.int q)] [(.int q), (.int p)])) _
    refine XS.icmpYes X0.here hx rfl (pc0 := 2) (pc' := 9) rfl (hb hby d10_2) rfl (tlt hc).2.2.1 (by decide) (by decide) ?_
    show Steps p'.tables e below (s₁.setTop (mkF m 9 #[.val (.int p), .val (.int q)] [])) _
    refine XS.iloadN X0.here hx rfl (hb hby d10_9) rfl ?_
    show Steps p'.tables e below (s₁.setTop (mkF m 10 #[.val (.int p), .val (.int q)] [(.int q)])) _
    exact retOut X0 hx Bd.returns rfl (Or.inl ⟨rfl, Or.inl rfl, _, rfl⟩) (hb hby d10_10) hr
  · show QM q h0 n0 _ s₁.heap _
    rw [e0]
    exact ⟨rfl, N0, rfl⟩
set_option maxRecDepth 65536 in
set_option maxHeartbeats 40000000 in
theorem rmMin_f (l : Launch) (Z : State) (a0 : Array Value) (hw : ∀ d ∈ tables_1, d.before a0 Z = true) (ws : List Jvm.Cond) (p q : Int32) (h0 : Heap) (n0 : Nat) (Z0 : n0 ≤ h0.size) (hc : ¬ q < p) :
    MetFree l (⟨"java/lang/Math", "min", "(II)I"⟩ : MethodName) (head1 (Jvm.Cond.code (⟨"java/lang/Math", "min", "(II)I"⟩ : MethodName) jdk_29_method_69_code 2 (some .int) :: ws) ({ frames := 0, cells := 0, slots := 0, locals := 0 } : Room)) (fun a U => a = #[(.int p), (.int q)] ∧ Z.Warmed39 U.vm ∧ U.heap = h0) (fun _ _ _ _ _ => True) (fun _ U o U' => ∃ v L, o = .returned v ∧ QM p h0 n0 v U'.heap L ∧ FrameEnd U o U' L ({ frames := 0, cells := 0, slots := 0, locals := 0 } : Room).cells ({ frames := 0, cells := 0, slots := 0, locals := 0 } : Room).slots) := by
  refine MetFree.of_bodySF (Jvm.Free.JP.mathPlain rfl (by decide +kernel)) hisR ?_
  intro p' e s m args below meth c s₁ Bd hml0 hP hK
  obtain ⟨rfl, hZ, hh⟩ := hP
  have hx := Bd.exec
  have hby := Bd.bytes
  have hml : c.maxLocals = 2 := hml0
  have hown : s.vm.findClass "java/lang/Math" = some m.cls := findClass_of_methodNamed Bd.named
  have hnm := (name_of_methodNamed Bd.named Bd.method).1
  have X0 : Stand p' l e ({ frames := 0, cells := 0, slots := 0, locals := 0 } : Room) s m #[(.int p), (.int q)] below meth c s₁ [] 0 0 := Stand.of_body Bd
  have e0 : s₁.heap = h0 := by rw [← hh, Bd.state]; rfl
  have N0 := Fr.nil n0
  have pre0 : ∀ t, Steps p'.tables e below (s₁.setTop (mkF m 0 #[.val (.int p), .val (.int q)] [])) t → Steps p'.tables e below (s₁.setTop (entryFrame m #[(.int p), (.int q)] 2)) t := fun t k => castTop (ef5 m p q) k
  obtain ⟨fs, hr, hrun, hended, hW, hsame⟩ := X0.leave (v := some (.int p)) (fun h => by rw [Bd.returns] at h; cases h)
  refine ⟨_, _, pre0 _ ?_, hrun, hended, _, _, rfl, ?_, ⟨_, rfl⟩, hW, hsame.mono (by decide) (by decide)⟩
  · show Steps p'.tables e below (s₁.setTop (mkF m 0 #[.val (.int p), .val (.int q)] [])) _
    refine XS.iloadN X0.here hx rfl (hb hby d10_0) rfl ?_
    show Steps p'.tables e below (s₁.setTop (mkF m 1 #[.val (.int p), .val (.int q)] [(.int p)])) _
    refine XS.iloadN X0.here hx rfl (hb hby d10_1) rfl ?_
    show Steps p'.tables e below (s₁.setTop (mkF m 2 #[.val (.int p), .val (.int q)] [(.int q), (.int p)])) _
    refine XS.icmpNo X0.here hx rfl (hb hby d10_2) rfl (flt hc).2.2.1 ?_
    show Steps p'.tables e below (s₁.setTop (mkF m 5 #[.val (.int p), .val (.int q)] [])) _
    refine XS.iloadN X0.here hx rfl (hb hby d10_5) rfl ?_
    show Steps p'.tables e below (s₁.setTop (mkF m 6 #[.val (.int p), .val (.int q)] [(.int p)])) _
    refine XS.goto X0.here hx rfl (pc0 := 6) (pc' := 10) rfl (hb hby d10_6) (by decide) (by decide) ?_
    show Steps p'.tables e below (s₁.setTop (mkF m 10 #[.val (.int p), .val (.int q)] [(.int p)])) _
    exact retOut X0 hx Bd.returns rfl (Or.inl ⟨rfl, Or.inl rfl, _, rfl⟩) (hb hby d10_10) hr
  · show QM p h0 n0 _ s₁.heap _
    rw [e0]
    exact ⟨rfl, N0, rfl⟩
theorem rmMin (l : Launch) (Z : State) (a0 : Array Value) (hw : ∀ d ∈ tables_1, d.before a0 Z = true) (ws : List Jvm.Cond) (p q : Int32) (h0 : Heap) (n0 : Nat) (Z0 : n0 ≤ h0.size) :
    MetFree l (⟨"java/lang/Math", "min", "(II)I"⟩ : MethodName) (head1 (Jvm.Cond.code (⟨"java/lang/Math", "min", "(II)I"⟩ : MethodName) jdk_29_method_69_code 2 (some .int) :: ws) ({ frames := 0, cells := 0, slots := 0, locals := 0 } : Room)) (fun a U => a = #[(.int p), (.int q)] ∧ Z.Warmed39 U.vm ∧ U.heap = h0) (fun _ _ _ _ _ => True) (fun _ U o U' => ∃ v L, o = .returned v ∧ QM (own_min p q) h0 n0 v U'.heap L ∧ FrameEnd U o U' L ({ frames := 0, cells := 0, slots := 0, locals := 0 } : Room).cells ({ frames := 0, cells := 0, slots := 0, locals := 0 } : Room).slots) := by
  by_cases hc : q < p
  · rw [show own_min p q = q from if_pos hc]; exact rmMin_t l Z a0 hw ws p q h0 n0 Z0 hc
  · rw [show own_min p q = p from if_neg hc]; exact rmMin_f l Z a0 hw ws p q h0 n0 Z0 hc
set_option maxRecDepth 65536 in
set_option maxHeartbeats 40000000 in
theorem law_r0 (l : Launch) (Z : State) (a0 : Array Value) (hw : ∀ d ∈ tables_1, d.before a0 Z = true) {p : Program} {e : Env} {s : State} {m : MethodId} {args : Array Value} {below : List Frame} {meth : Method} {c : Code} (hx : p.tables.exec = Jvm.exec) (hZ : Z.Warmed39 s.vm) (hby : c.code = code) (hml : c.maxLocals = 19) (hown : s.vm.findClass "com/example/orrery/orrery/policy/RunningEndsLeftAtPinLaw" = some m.cls) {T0 : State} {locs0 : List Loc} {R : Room} {cells0 slots0 : Nat} (X0 : Stand p l e R s m args below meth c T0 locs0 cells0 slots0) (v1 v2 v3 v4 nw cl : Int32) (h0 : Heap) (n0 : Nat) (e0 : T0.heap = h0) (Z0 : n0 ≤ h0.size) (N0 : Fr n0 locs0) (hb2 : (((cl.toUInt32 >>> ((2 : Int32) &&& 31).toUInt32).toInt32) &&& (1 : Int32)) = 0) :
    ∃ (T1 : State) (locs1 : List Loc), Stand p l e R s m args below meth c T1 locs1 cells0 slots0 ∧ T1.heap = h0 ∧ Fr n0 locs1 ∧ ∀ t, Steps p.tables e below (T1.setTop (mkF m 27 #[.val (.int v1), .val (.int v2), .val (.int v3), .val (.int v4), .val (.int nw), .val (.int cl), .val (.int (cl &&& (3 : Int32))), .val (.int (0 : Int32)), .unset, .unset, .unset, .unset, .unset, .unset, .unset, .unset, .unset, .unset, .unset] [])) t → Steps p.tables e below (T0.setTop (mkF m 0 #[.val (.int v1), .val (.int v2), .val (.int v3), .val (.int v4), .val (.int nw), .val (.int cl), .unset, .unset, .unset, .unset, .unset, .unset, .unset, .unset, .unset, .unset, .unset, .unset, .unset] [])) t := by
  refine ⟨T0, _, X0, e0, N0, fun t ht => ?_⟩
  show Steps p.tables e below (T0.setTop (mkF m 0 #[.val (.int v1), .val (.int v2), .val (.int v3), .val (.int v4), .val (.int nw), .val (.int cl), .unset, .unset, .unset, .unset, .unset, .unset, .unset, .unset, .unset, .unset, .unset, .unset, .unset] [])) _
  refine XS.iload X0.here hx rfl (hb hby at_0) rfl ?_
  show Steps p.tables e below (T0.setTop (mkF m 2 #[.val (.int v1), .val (.int v2), .val (.int v3), .val (.int v4), .val (.int nw), .val (.int cl), .unset, .unset, .unset, .unset, .unset, .unset, .unset, .unset, .unset, .unset, .unset, .unset, .unset] [(.int cl)])) _
  refine XS.iconst X0.here hx rfl (hb hby at_2) ?_
  show Steps p.tables e below (T0.setTop (mkF m 3 #[.val (.int v1), .val (.int v2), .val (.int v3), .val (.int v4), .val (.int nw), .val (.int cl), .unset, .unset, .unset, .unset, .unset, .unset, .unset, .unset, .unset, .unset, .unset, .unset, .unset] [(.int (3 : Int32)), (.int cl)])) _
  refine XS.iand X0.here hx rfl (hb hby at_3) rfl ?_
  show Steps p.tables e below (T0.setTop (mkF m 4 #[.val (.int v1), .val (.int v2), .val (.int v3), .val (.int v4), .val (.int nw), .val (.int cl), .unset, .unset, .unset, .unset, .unset, .unset, .unset, .unset, .unset, .unset, .unset, .unset, .unset] [(.int (cl &&& (3 : Int32)))])) _
  refine XS.istore X0.here hx rfl (hb hby at_4) rfl (l' := #[.val (.int v1), .val (.int v2), .val (.int v3), .val (.int v4), .val (.int nw), .val (.int cl), .val (.int (cl &&& (3 : Int32))), .unset, .unset, .unset, .unset, .unset, .unset, .unset, .unset, .unset, .unset, .unset, .unset]) rfl ?_
  show Steps p.tables e below (T0.setTop (mkF m 6 #[.val (.int v1), .val (.int v2), .val (.int v3), .val (.int v4), .val (.int nw), .val (.int cl), .val (.int (cl &&& (3 : Int32))), .unset, .unset, .unset, .unset, .unset, .unset, .unset, .unset, .unset, .unset, .unset, .unset] [])) _
  refine XS.iload X0.here hx rfl (hb hby at_6) rfl ?_
  show Steps p.tables e below (T0.setTop (mkF m 8 #[.val (.int v1), .val (.int v2), .val (.int v3), .val (.int v4), .val (.int nw), .val (.int cl), .val (.int (cl &&& (3 : Int32))), .unset, .unset, .unset, .unset, .unset, .unset, .unset, .unset, .unset, .unset, .unset, .unset] [(.int cl)])) _
  refine XS.iconst X0.here hx rfl (hb hby at_8) ?_
  show Steps p.tables e below (T0.setTop (mkF m 9 #[.val (.int v1), .val (.int v2), .val (.int v3), .val (.int v4), .val (.int nw), .val (.int cl), .val (.int (cl &&& (3 : Int32))), .unset, .unset, .unset, .unset, .unset, .unset, .unset, .unset, .unset, .unset, .unset, .unset] [(.int (2 : Int32)), (.int cl)])) _
  refine XS.iushr X0.here hx rfl (hb hby at_9) rfl ?_
  show Steps p.tables e below (T0.setTop (mkF m 10 #[.val (.int v1), .val (.int v2), .val (.int v3), .val (.int v4), .val (.int nw), .val (.int cl), .val (.int (cl &&& (3 : Int32))), .unset, .unset, .unset, .unset, .unset, .unset, .unset, .unset, .unset, .unset, .unset, .unset] [(.int ((cl.toUInt32 >>> ((2 : Int32) &&& 31).toUInt32).toInt32))])) _
  refine XS.iconst X0.here hx rfl (hb hby at_10) ?_
  show Steps p.tables e below (T0.setTop (mkF m 11 #[.val (.int v1), .val (.int v2), .val (.int v3), .val (.int v4), .val (.int nw), .val (.int cl), .val (.int (cl &&& (3 : Int32))), .unset, .unset, .unset, .unset, .unset, .unset, .unset, .unset, .unset, .unset, .unset, .unset] [(.int (1 : Int32)), (.int ((cl.toUInt32 >>> ((2 : Int32) &&& 31).toUInt32).toInt32))])) _
  refine XS.iand X0.here hx rfl (hb hby at_11) rfl ?_
  show Steps p.tables e below (T0.setTop (mkF m 12 #[.val (.int v1), .val (.int v2), .val (.int v3), .val (.int v4), .val (.int nw), .val (.int cl), .val (.int (cl &&& (3 : Int32))), .unset, .unset, .unset, .unset, .unset, .unset, .unset, .unset, .unset, .unset, .unset, .unset] [(.int (((cl.toUInt32 >>> ((2 : Int32) &&& 31).toUInt32).toInt32) &&& (1 : Int32)))])) _
  refine XS.ifYes X0.here hx rfl (pc0 := 12) (pc' := 24) rfl (hb hby at_12) rfl ((if0 _ _).trans (teq hb2).1) (by decide) (by decide) ?_
  show Steps p.tables e below (T0.setTop (mkF m 24 #[.val (.int v1), .val (.int v2), .val (.int v3), .val (.int v4), .val (.int nw), .val (.int cl), .val (.int (cl &&& (3 : Int32))), .unset, .unset, .unset, .unset, .unset, .unset, .unset, .unset, .unset, .unset, .unset, .unset] [])) _
  refine XS.iconst X0.here hx rfl (hb hby at_24) ?_
  show Steps p.tables e below (T0.setTop (mkF m 25 #[.val (.int v1), .val (.int v2), .val (.int v3), .val (.int v4), .val (.int nw), .val (.int cl), .val (.int (cl &&& (3 : Int32))), .unset, .unset, .unset, .unset, .unset, .unset, .unset, .unset, .unset, .unset, .unset, .unset] [(.int (0 : Int32))])) _
  refine XS.istore X0.here hx rfl (hb hby at_25) rfl (l' := #[.val (.int v1), .val (.int v2), .val (.int v3), .val (.int v4), .val (.int nw), .val (.int cl), .val (.int (cl &&& (3 : Int32))), .val (.int (0 : Int32)), .unset, .unset, .unset, .unset, .unset, .unset, .unset, .unset, .unset, .unset, .unset]) rfl ?_
  show Steps p.tables e below (T0.setTop (mkF m 27 #[.val (.int v1), .val (.int v2), .val (.int v3), .val (.int v4), .val (.int nw), .val (.int cl), .val (.int (cl &&& (3 : Int32))), .val (.int (0 : Int32)), .unset, .unset, .unset, .unset, .unset, .unset, .unset, .unset, .unset, .unset, .unset] [])) _
  exact ht
set_option maxRecDepth 65536 in
set_option maxHeartbeats 40000000 in
theorem law_r1 (l : Launch) (Z : State) (a0 : Array Value) (hw : ∀ d ∈ tables_1, d.before a0 Z = true) {p : Program} {e : Env} {s : State} {m : MethodId} {args : Array Value} {below : List Frame} {meth : Method} {c : Code} (hx : p.tables.exec = Jvm.exec) (hZ : Z.Warmed39 s.vm) (hby : c.code = code) (hml : c.maxLocals = 19) (hown : s.vm.findClass "com/example/orrery/orrery/policy/RunningEndsLeftAtPinLaw" = some m.cls) {T0 : State} {locs0 : List Loc} {R : Room} {cells0 slots0 : Nat} (X0 : Stand p l e R s m args below meth c T0 locs0 cells0 slots0) (v1 v2 v3 v4 nw cl : Int32) (h0 : Heap) (n0 : Nat) (e0 : T0.heap = h0) (Z0 : n0 ≤ h0.size) (N0 : Fr n0 locs0) (hb2 : ¬ ((((cl.toUInt32 >>> ((2 : Int32) &&& 31).toUInt32).toInt32) &&& (1 : Int32)) = 0)) (hn : 0 < (cl &&& (3 : Int32))) :
    ∃ (T1 : State) (locs1 : List Loc), Stand p l e R s m args below meth c T1 locs1 cells0 slots0 ∧ T1.heap = h0 ∧ Fr n0 locs1 ∧ ∀ t, Steps p.tables e below (T1.setTop (mkF m 27 #[.val (.int v1), .val (.int v2), .val (.int v3), .val (.int v4), .val (.int nw), .val (.int cl), .val (.int (cl &&& (3 : Int32))), .val (.int (1 : Int32)), .unset, .unset, .unset, .unset, .unset, .unset, .unset, .unset, .unset, .unset, .unset] [])) t → Steps p.tables e below (T0.setTop (mkF m 0 #[.val (.int v1), .val (.int v2), .val (.int v3), .val (.int v4), .val (.int nw), .val (.int cl), .unset, .unset, .unset, .unset, .unset, .unset, .unset, .unset, .unset, .unset, .unset, .unset, .unset] [])) t := by
  refine ⟨T0, _, X0, e0, N0, fun t ht => ?_⟩
  show Steps p.tables e below (T0.setTop (mkF m 0 #[.val (.int v1), .val (.int v2), .val (.int v3), .val (.int v4), .val (.int nw), .val (.int cl), .unset, .unset, .unset, .unset, .unset, .unset, .unset, .unset, .unset, .unset, .unset, .unset, .unset] [])) _
  refine XS.iload X0.here hx rfl (hb hby at_0) rfl ?_
  show Steps p.tables e below (T0.setTop (mkF m 2 #[.val (.int v1), .val (.int v2), .val (.int v3), .val (.int v4), .val (.int nw), .val (.int cl), .unset, .unset, .unset, .unset, .unset, .unset, .unset, .unset, .unset, .unset, .unset, .unset, .unset] [(.int cl)])) _
  refine XS.iconst X0.here hx rfl (hb hby at_2) ?_
  show Steps p.tables e below (T0.setTop (mkF m 3 #[.val (.int v1), .val (.int v2), .val (.int v3), .val (.int v4), .val (.int nw), .val (.int cl), .unset, .unset, .unset, .unset, .unset, .unset, .unset, .unset, .unset, .unset, .unset, .unset, .unset] [(.int (3 : Int32)), (.int cl)])) _
  refine XS.iand X0.here hx rfl (hb hby at_3) rfl ?_
  show Steps p.tables e below (T0.setTop (mkF m 4 #[.val (.int v1), .val (.int v2), .val (.int v3), .val (.int v4), .val (.int nw), .val (.int cl), .unset, .unset, .unset, .unset, .unset, .unset, .unset, .unset, .unset, .unset, .unset, .unset, .unset] [(.int (cl &&& (3 : Int32)))])) _
  refine XS.istore X0.here hx rfl (hb hby at_4) rfl (l' := #[.val (.int v1), .val (.int v2), .val (.int v3), .val (.int v4), .val (.int nw), .val (.int cl), .val (.int (cl &&& (3 : Int32))), .unset, .unset, .unset, .unset, .unset, .unset, .unset, .unset, .unset, .unset, .unset, .unset]) rfl ?_
  show Steps p.tables e below (T0.setTop (mkF m 6 #[.val (.int v1), .val (.int v2), .val (.int v3), .val (.int v4), .val (.int nw), .val (.int cl), .val (.int (cl &&& (3 : Int32))), .unset, .unset, .unset, .unset, .unset, .unset, .unset, .unset, .unset, .unset, .unset, .unset] [])) _
  refine XS.iload X0.here hx rfl (hb hby at_6) rfl ?_
  show Steps p.tables e below (T0.setTop (mkF m 8 #[.val (.int v1), .val (.int v2), .val (.int v3), .val (.int v4), .val (.int nw), .val (.int cl), .val (.int (cl &&& (3 : Int32))), .unset, .unset, .unset, .unset, .unset, .unset, .unset, .unset, .unset, .unset, .unset, .unset] [(.int cl)])) _
  refine XS.iconst X0.here hx rfl (hb hby at_8) ?_
  show Steps p.tables e below (T0.setTop (mkF m 9 #[.val (.int v1), .val (.int v2), .val (.int v3), .val (.int v4), .val (.int nw), .val (.int cl), .val (.int (cl &&& (3 : Int32))), .unset, .unset, .unset, .unset, .unset, .unset, .unset, .unset, .unset, .unset, .unset, .unset] [(.int (2 : Int32)), (.int cl)])) _
  refine XS.iushr X0.here hx rfl (hb hby at_9) rfl ?_
  show Steps p.tables e below (T0.setTop (mkF m 10 #[.val (.int v1), .val (.int v2), .val (.int v3), .val (.int v4), .val (.int nw), .val (.int cl), .val (.int (cl &&& (3 : Int32))), .unset, .unset, .unset, .unset, .unset, .unset, .unset, .unset, .unset, .unset, .unset, .unset] [(.int ((cl.toUInt32 >>> ((2 : Int32) &&& 31).toUInt32).toInt32))])) _
  refine XS.iconst X0.here hx rfl (hb hby at_10) ?_
  show Steps p.tables e below (T0.setTop (mkF m 11 #[.val (.int v1), .val (.int v2), .val (.int v3), .val (.int v4), .val (.int nw), .val (.int cl), .val (.int (cl &&& (3 : Int32))), .unset, .unset, .unset, .unset, .unset, .unset, .unset, .unset, .unset, .unset, .unset, .unset] [(.int (1 : Int32)), (.int ((cl.toUInt32 >>> ((2 : Int32) &&& 31).toUInt32).toInt32))])) _
  refine XS.iand X0.here hx rfl (hb hby at_11) rfl ?_
  show Steps p.tables e below (T0.setTop (mkF m 12 #[.val (.int v1), .val (.int v2), .val (.int v3), .val (.int v4), .val (.int nw), .val (.int cl), .val (.int (cl &&& (3 : Int32))), .unset, .unset, .unset, .unset, .unset, .unset, .unset, .unset, .unset, .unset, .unset, .unset] [(.int (((cl.toUInt32 >>> ((2 : Int32) &&& 31).toUInt32).toInt32) &&& (1 : Int32)))])) _
  refine XS.ifNo X0.here hx rfl (hb hby at_12) rfl ((if0 _ _).trans (feq hb2).1) ?_
  show Steps p.tables e below (T0.setTop (mkF m 15 #[.val (.int v1), .val (.int v2), .val (.int v3), .val (.int v4), .val (.int nw), .val (.int cl), .val (.int (cl &&& (3 : Int32))), .unset, .unset, .unset, .unset, .unset, .unset, .unset, .unset, .unset, .unset, .unset, .unset] [])) _
  refine XS.iload X0.here hx rfl (hb hby at_15) rfl ?_
  show Steps p.tables e below (T0.setTop (mkF m 17 #[.val (.int v1), .val (.int v2), .val (.int v3), .val (.int v4), .val (.int nw), .val (.int cl), .val (.int (cl &&& (3 : Int32))), .unset, .unset, .unset, .unset, .unset, .unset, .unset, .unset, .unset, .unset, .unset, .unset] [(.int (cl &&& (3 : Int32)))])) _
  refine XS.ifNo X0.here hx rfl (hb hby at_17) rfl ((if0 _ _).trans (tlt hn).2.2.2) ?_
  show Steps p.tables e below (T0.setTop (mkF m 20 #[.val (.int v1), .val (.int v2), .val (.int v3), .val (.int v4), .val (.int nw), .val (.int cl), .val (.int (cl &&& (3 : Int32))), .unset, .unset, .unset, .unset, .unset, .unset, .unset, .unset, .unset, .unset, .unset, .unset] [])) _
  refine XS.iconst X0.here hx rfl (hb hby at_20) ?_
  show Steps p.tables e below (T0.setTop (mkF m 21 #[.val (.int v1), .val (.int v2), .val (.int v3), .val (.int v4), .val (.int nw), .val (.int cl), .val (.int (cl &&& (3 : Int32))), .unset, .unset, .unset, .unset, .unset, .unset, .unset, .unset, .unset, .unset, .unset, .unset] [(.int (1 : Int32))])) _
  refine XS.goto X0.here hx rfl (pc0 := 21) (pc' := 25) rfl (hb hby at_21) (by decide) (by decide) ?_
  show Steps p.tables e below (T0.setTop (mkF m 25 #[.val (.int v1), .val (.int v2), .val (.int v3), .val (.int v4), .val (.int nw), .val (.int cl), .val (.int (cl &&& (3 : Int32))), .unset, .unset, .unset, .unset, .unset, .unset, .unset, .unset, .unset, .unset, .unset, .unset] [(.int (1 : Int32))])) _
  refine XS.istore X0.here hx rfl (hb hby at_25) rfl (l' := #[.val (.int v1), .val (.int v2), .val (.int v3), .val (.int v4), .val (.int nw), .val (.int cl), .val (.int (cl &&& (3 : Int32))), .val (.int (1 : Int32)), .unset, .unset, .unset, .unset, .unset, .unset, .unset, .unset, .unset, .unset, .unset]) rfl ?_
  show Steps p.tables e below (T0.setTop (mkF m 27 #[.val (.int v1), .val (.int v2), .val (.int v3), .val (.int v4), .val (.int nw), .val (.int cl), .val (.int (cl &&& (3 : Int32))), .val (.int (1 : Int32)), .unset, .unset, .unset, .unset, .unset, .unset, .unset, .unset, .unset, .unset, .unset] [])) _
  exact ht
set_option maxRecDepth 65536 in
set_option maxHeartbeats 40000000 in
theorem law_rn (l : Launch) (Z : State) (a0 : Array Value) (hw : ∀ d ∈ tables_1, d.before a0 Z = true) {p : Program} {e : Env} {s : State} {m : MethodId} {args : Array Value} {below : List Frame} {meth : Method} {c : Code} (hx : p.tables.exec = Jvm.exec) (hZ : Z.Warmed39 s.vm) (hby : c.code = code) (hml : c.maxLocals = 19) (hown : s.vm.findClass "com/example/orrery/orrery/policy/RunningEndsLeftAtPinLaw" = some m.cls) {T0 : State} {locs0 : List Loc} {R : Room} {cells0 slots0 : Nat} (X0 : Stand p l e R s m args below meth c T0 locs0 cells0 slots0) (v1 v2 v3 v4 nw cl : Int32) (h0 : Heap) (n0 : Nat) (e0 : T0.heap = h0) (Z0 : n0 ≤ h0.size) (N0 : Fr n0 locs0) (hb2 : ¬ ((((cl.toUInt32 >>> ((2 : Int32) &&& 31).toUInt32).toInt32) &&& (1 : Int32)) = 0)) (hn : ¬ (0 < (cl &&& (3 : Int32)))) :
    ∃ (T1 : State) (locs1 : List Loc), Stand p l e R s m args below meth c T1 locs1 cells0 slots0 ∧ T1.heap = h0 ∧ Fr n0 locs1 ∧ ∀ t, Steps p.tables e below (T1.setTop (mkF m 27 #[.val (.int v1), .val (.int v2), .val (.int v3), .val (.int v4), .val (.int nw), .val (.int cl), .val (.int (cl &&& (3 : Int32))), .val (.int (0 : Int32)), .unset, .unset, .unset, .unset, .unset, .unset, .unset, .unset, .unset, .unset, .unset] [])) t → Steps p.tables e below (T0.setTop (mkF m 0 #[.val (.int v1), .val (.int v2), .val (.int v3), .val (.int v4), .val (.int nw), .val (.int cl), .unset, .unset, .unset, .unset, .unset, .unset, .unset, .unset, .unset, .unset, .unset, .unset, .unset] [])) t := by
  refine ⟨T0, _, X0, e0, N0, fun t ht => ?_⟩
  show Steps p.tables e below (T0.setTop (mkF m 0 #[.val (.int v1), .val (.int v2), .val (.int v3), .val (.int v4), .val (.int nw), .val (.int cl), .unset, .unset, .unset, .unset, .unset, .unset, .unset, .unset, .unset, .unset, .unset, .unset, .unset] [])) _
  refine XS.iload X0.here hx rfl (hb hby at_0) rfl ?_
  show Steps p.tables e below (T0.setTop (mkF m 2 #[.val (.int v1), .val (.int v2), .val (.int v3), .val (.int v4), .val (.int nw), .val (.int cl), .unset, .unset, .unset, .unset, .unset, .unset, .unset, .unset, .unset, .unset, .unset, .unset, .unset] [(.int cl)])) _
  refine XS.iconst X0.here hx rfl (hb hby at_2) ?_
  show Steps p.tables e below (T0.setTop (mkF m 3 #[.val (.int v1), .val (.int v2), .val (.int v3), .val (.int v4), .val (.int nw), .val (.int cl), .unset, .unset, .unset, .unset, .unset, .unset, .unset, .unset, .unset, .unset, .unset, .unset, .unset] [(.int (3 : Int32)), (.int cl)])) _
  refine XS.iand X0.here hx rfl (hb hby at_3) rfl ?_
  show Steps p.tables e below (T0.setTop (mkF m 4 #[.val (.int v1), .val (.int v2), .val (.int v3), .val (.int v4), .val (.int nw), .val (.int cl), .unset, .unset, .unset, .unset, .unset, .unset, .unset, .unset, .unset, .unset, .unset, .unset, .unset] [(.int (cl &&& (3 : Int32)))])) _
  refine XS.istore X0.here hx rfl (hb hby at_4) rfl (l' := #[.val (.int v1), .val (.int v2), .val (.int v3), .val (.int v4), .val (.int nw), .val (.int cl), .val (.int (cl &&& (3 : Int32))), .unset, .unset, .unset, .unset, .unset, .unset, .unset, .unset, .unset, .unset, .unset, .unset]) rfl ?_
  show Steps p.tables e below (T0.setTop (mkF m 6 #[.val (.int v1), .val (.int v2), .val (.int v3), .val (.int v4), .val (.int nw), .val (.int cl), .val (.int (cl &&& (3 : Int32))), .unset, .unset, .unset, .unset, .unset, .unset, .unset, .unset, .unset, .unset, .unset, .unset] [])) _
  refine XS.iload X0.here hx rfl (hb hby at_6) rfl ?_
  show Steps p.tables e below (T0.setTop (mkF m 8 #[.val (.int v1), .val (.int v2), .val (.int v3), .val (.int v4), .val (.int nw), .val (.int cl), .val (.int (cl &&& (3 : Int32))), .unset, .unset, .unset, .unset, .unset, .unset, .unset, .unset, .unset, .unset, .unset, .unset] [(.int cl)])) _
  refine XS.iconst X0.here hx rfl (hb hby at_8) ?_
  show Steps p.tables e below (T0.setTop (mkF m 9 #[.val (.int v1), .val (.int v2), .val (.int v3), .val (.int v4), .val (.int nw), .val (.int cl), .val (.int (cl &&& (3 : Int32))), .unset, .unset, .unset, .unset, .unset, .unset, .unset, .unset, .unset, .unset, .unset, .unset] [(.int (2 : Int32)), (.int cl)])) _
  refine XS.iushr X0.here hx rfl (hb hby at_9) rfl ?_
  show Steps p.tables e below (T0.setTop (mkF m 10 #[.val (.int v1), .val (.int v2), .val (.int v3), .val (.int v4), .val (.int nw), .val (.int cl), .val (.int (cl &&& (3 : Int32))), .unset, .unset, .unset, .unset, .unset, .unset, .unset, .unset, .unset, .unset, .unset, .unset] [(.int ((cl.toUInt32 >>> ((2 : Int32) &&& 31).toUInt32).toInt32))])) _
  refine XS.iconst X0.here hx rfl (hb hby at_10) ?_
  show Steps p.tables e below (T0.setTop (mkF m 11 #[.val (.int v1), .val (.int v2), .val (.int v3), .val (.int v4), .val (.int nw), .val (.int cl), .val (.int (cl &&& (3 : Int32))), .unset, .unset, .unset, .unset, .unset, .unset, .unset, .unset, .unset, .unset, .unset, .unset] [(.int (1 : Int32)), (.int ((cl.toUInt32 >>> ((2 : Int32) &&& 31).toUInt32).toInt32))])) _
  refine XS.iand X0.here hx rfl (hb hby at_11) rfl ?_
  show Steps p.tables e below (T0.setTop (mkF m 12 #[.val (.int v1), .val (.int v2), .val (.int v3), .val (.int v4), .val (.int nw), .val (.int cl), .val (.int (cl &&& (3 : Int32))), .unset, .unset, .unset, .unset, .unset, .unset, .unset, .unset, .unset, .unset, .unset, .unset] [(.int (((cl.toUInt32 >>> ((2 : Int32) &&& 31).toUInt32).toInt32) &&& (1 : Int32)))])) _
  refine XS.ifNo X0.here hx rfl (hb hby at_12) rfl ((if0 _ _).trans (feq hb2).1) ?_
  show Steps p.tables e below (T0.setTop (mkF m 15 #[.val (.int v1), .val (.int v2), .val (.int v3), .val (.int v4), .val (.int nw), .val (.int cl), .val (.int (cl &&& (3 : Int32))), .unset, .unset, .unset, .unset, .unset, .unset, .unset, .unset, .unset, .unset, .unset, .unset] [])) _
  refine XS.iload X0.here hx rfl (hb hby at_15) rfl ?_
  show Steps p.tables e below (T0.setTop (mkF m 17 #[.val (.int v1), .val (.int v2), .val (.int v3), .val (.int v4), .val (.int nw), .val (.int cl), .val (.int (cl &&& (3 : Int32))), .unset, .unset, .unset, .unset, .unset, .unset, .unset, .unset, .unset, .unset, .unset, .unset] [(.int (cl &&& (3 : Int32)))])) _
  refine XS.ifYes X0.here hx rfl (pc0 := 17) (pc' := 24) rfl (hb hby at_17) rfl ((if0 _ _).trans (flt hn).2.2.2) (by decide) (by decide) ?_
  show Steps p.tables e below (T0.setTop (mkF m 24 #[.val (.int v1), .val (.int v2), .val (.int v3), .val (.int v4), .val (.int nw), .val (.int cl), .val (.int (cl &&& (3 : Int32))), .unset, .unset, .unset, .unset, .unset, .unset, .unset, .unset, .unset, .unset, .unset, .unset] [])) _
  refine XS.iconst X0.here hx rfl (hb hby at_24) ?_
  show Steps p.tables e below (T0.setTop (mkF m 25 #[.val (.int v1), .val (.int v2), .val (.int v3), .val (.int v4), .val (.int nw), .val (.int cl), .val (.int (cl &&& (3 : Int32))), .unset, .unset, .unset, .unset, .unset, .unset, .unset, .unset, .unset, .unset, .unset, .unset] [(.int (0 : Int32))])) _
  refine XS.istore X0.here hx rfl (hb hby at_25) rfl (l' := #[.val (.int v1), .val (.int v2), .val (.int v3), .val (.int v4), .val (.int nw), .val (.int cl), .val (.int (cl &&& (3 : Int32))), .val (.int (0 : Int32)), .unset, .unset, .unset, .unset, .unset, .unset, .unset, .unset, .unset, .unset, .unset]) rfl ?_
  show Steps p.tables e below (T0.setTop (mkF m 27 #[.val (.int v1), .val (.int v2), .val (.int v3), .val (.int v4), .val (.int nw), .val (.int cl), .val (.int (cl &&& (3 : Int32))), .val (.int (0 : Int32)), .unset, .unset, .unset, .unset, .unset, .unset, .unset, .unset, .unset, .unset, .unset] [])) _
  exact ht
set_option maxRecDepth 65536 in
set_option maxHeartbeats 40000000 in
theorem law_x0 (l : Launch) (Z : State) (a0 : Array Value) (hw : ∀ d ∈ tables_1, d.before a0 Z = true) {p : Program} {e : Env} {s : State} {m : MethodId} {args : Array Value} {below : List Frame} {meth : Method} {c : Code} (hx : p.tables.exec = Jvm.exec) (hZ : Z.Warmed39 s.vm) (hby : c.code = code) (hml : c.maxLocals = 19) (hown : s.vm.findClass "com/example/orrery/orrery/policy/RunningEndsLeftAtPinLaw" = some m.cls) {T0 : State} {locs0 : List Loc} {R : Room} {cells0 slots0 : Nat} (X0 : Stand p l e R s m args below meth c T0 locs0 cells0 slots0) (v1 v2 v3 v4 nw cl : Int32) (nn rm : Int32) (h0 : Heap) (n0 : Nat) (e0 : T0.heap = h0) (Z0 : n0 ≤ h0.size) (N0 : Fr n0 locs0) (hb3 : (((cl.toUInt32 >>> ((3 : Int32) &&& 31).toUInt32).toInt32) &&& (1 : Int32)) = 0) :
    ∃ (T1 : State) (locs1 : List Loc), Stand p l e R s m args below meth c T1 locs1 cells0 slots0 ∧ T1.heap = h0 ∧ Fr n0 locs1 ∧ ∀ t, Steps p.tables e below (T1.setTop (mkF m 43 #[.val (.int v1), .val (.int v2), .val (.int v3), .val (.int v4), .val (.int nw), .val (.int cl), .val (.int nn), .val (.int rm), .val (.int (0 : Int32)), .unset, .unset, .unset, .unset, .unset, .unset, .unset, .unset, .unset, .unset] [])) t → Steps p.tables e below (T0.setTop (mkF m 27 #[.val (.int v1), .val (.int v2), .val (.int v3), .val (.int v4), .val (.int nw), .val (.int cl), .val (.int nn), .val (.int rm), .unset, .unset, .unset, .unset, .unset, .unset, .unset, .unset, .unset, .unset, .unset] [])) t := by
  refine ⟨T0, _, X0, e0, N0, fun t ht => ?_⟩
  show Steps p.tables e below (T0.setTop (mkF m 27 #[.val (.int v1), .val (.int v2), .val (.int v3), .val (.int v4), .val (.int nw), .val (.int cl), .val (.int nn), .val (.int rm), .unset, .unset, .unset, .unset, .unset, .unset, .unset, .unset, .unset, .unset, .unset] [])) _
  refine XS.iload X0.here hx rfl (hb hby at_27) rfl ?_
  show Steps p.tables e below (T0.setTop (mkF m 29 #[.val (.int v1), .val (.int v2), .val (.int v3), .val (.int v4), .val (.int nw), .val (.int cl), .val (.int nn), .val (.int rm), .unset, .unset, .unset, .unset, .unset, .unset, .unset, .unset, .unset, .unset, .unset] [(.int cl)])) _
  refine XS.iconst X0.here hx rfl (hb hby at_29) ?_
  show Steps p.tables e below (T0.setTop (mkF m 30 #[.val (.int v1), .val (.int v2), .val (.int v3), .val (.int v4), .val (.int nw), .val (.int cl), .val (.int nn), .val (.int rm), .unset, .unset, .unset, .unset, .unset, .unset, .unset, .unset, .unset, .unset, .unset] [(.int (3 : Int32)), (.int cl)])) _
  refine XS.iushr X0.here hx rfl (hb hby at_30) rfl ?_
  show Steps p.tables e below (T0.setTop (mkF m 31 #[.val (.int v1), .val (.int v2), .val (.int v3), .val (.int v4), .val (.int nw), .val (.int cl), .val (.int nn), .val (.int rm), .unset, .unset, .unset, .unset, .unset, .unset, .unset, .unset, .unset, .unset, .unset] [(.int ((cl.toUInt32 >>> ((3 : Int32) &&& 31).toUInt32).toInt32))])) _
  refine XS.iconst X0.here hx rfl (hb hby at_31) ?_
  show Steps p.tables e below (T0.setTop (mkF m 32 #[.val (.int v1), .val (.int v2), .val (.int v3), .val (.int v4), .val (.int nw), .val (.int cl), .val (.int nn), .val (.int rm), .unset, .unset, .unset, .unset, .unset, .unset, .unset, .unset, .unset, .unset, .unset] [(.int (1 : Int32)), (.int ((cl.toUInt32 >>> ((3 : Int32) &&& 31).toUInt32).toInt32))])) _
  refine XS.iand X0.here hx rfl (hb hby at_32) rfl ?_
  show Steps p.tables e below (T0.setTop (mkF m 33 #[.val (.int v1), .val (.int v2), .val (.int v3), .val (.int v4), .val (.int nw), .val (.int cl), .val (.int nn), .val (.int rm), .unset, .unset, .unset, .unset, .unset, .unset, .unset, .unset, .unset, .unset, .unset] [(.int (((cl.toUInt32 >>> ((3 : Int32) &&& 31).toUInt32).toInt32) &&& (1 : Int32)))])) _
  refine XS.ifYes X0.here hx rfl (pc0 := 33) (pc' := 40) rfl (hb hby at_33) rfl ((if0 _ _).trans (teq hb3).1) (by decide) (by decide) ?_
  show Steps p.tables e below (T0.setTop (mkF m 40 #[.val (.int v1), .val (.int v2), .val (.int v3), .val (.int v4), .val (.int nw), .val (.int cl), .val (.int nn), .val (.int rm), .unset, .unset, .unset, .unset, .unset, .unset, .unset, .unset, .unset, .unset, .unset] [])) _
  refine XS.iconst X0.here hx rfl (hb hby at_40) ?_
  show Steps p.tables e below (T0.setTop (mkF m 41 #[.val (.int v1), .val (.int v2), .val (.int v3), .val (.int v4), .val (.int nw), .val (.int cl), .val (.int nn), .val (.int rm), .unset, .unset, .unset, .unset, .unset, .unset, .unset, .unset, .unset, .unset, .unset] [(.int (0 : Int32))])) _
  refine XS.istore X0.here hx rfl (hb hby at_41) rfl (l' := #[.val (.int v1), .val (.int v2), .val (.int v3), .val (.int v4), .val (.int nw), .val (.int cl), .val (.int nn), .val (.int rm), .val (.int (0 : Int32)), .unset, .unset, .unset, .unset, .unset, .unset, .unset, .unset, .unset, .unset]) rfl ?_
  show Steps p.tables e below (T0.setTop (mkF m 43 #[.val (.int v1), .val (.int v2), .val (.int v3), .val (.int v4), .val (.int nw), .val (.int cl), .val (.int nn), .val (.int rm), .val (.int (0 : Int32)), .unset, .unset, .unset, .unset, .unset, .unset, .unset, .unset, .unset, .unset] [])) _
  exact ht
set_option maxRecDepth 65536 in
set_option maxHeartbeats 40000000 in
theorem law_x1 (l : Launch) (Z : State) (a0 : Array Value) (hw : ∀ d ∈ tables_1, d.before a0 Z = true) {p : Program} {e : Env} {s : State} {m : MethodId} {args : Array Value} {below : List Frame} {meth : Method} {c : Code} (hx : p.tables.exec = Jvm.exec) (hZ : Z.Warmed39 s.vm) (hby : c.code = code) (hml : c.maxLocals = 19) (hown : s.vm.findClass "com/example/orrery/orrery/policy/RunningEndsLeftAtPinLaw" = some m.cls) {T0 : State} {locs0 : List Loc} {R : Room} {cells0 slots0 : Nat} (X0 : Stand p l e R s m args below meth c T0 locs0 cells0 slots0) (v1 v2 v3 v4 nw cl : Int32) (nn rm : Int32) (h0 : Heap) (n0 : Nat) (e0 : T0.heap = h0) (Z0 : n0 ≤ h0.size) (N0 : Fr n0 locs0) (hb3 : ¬ ((((cl.toUInt32 >>> ((3 : Int32) &&& 31).toUInt32).toInt32) &&& (1 : Int32)) = 0)) :
    ∃ (T1 : State) (locs1 : List Loc), Stand p l e R s m args below meth c T1 locs1 cells0 slots0 ∧ T1.heap = h0 ∧ Fr n0 locs1 ∧ ∀ t, Steps p.tables e below (T1.setTop (mkF m 43 #[.val (.int v1), .val (.int v2), .val (.int v3), .val (.int v4), .val (.int nw), .val (.int cl), .val (.int nn), .val (.int rm), .val (.int (1 : Int32)), .unset, .unset, .unset, .unset, .unset, .unset, .unset, .unset, .unset, .unset] [])) t → Steps p.tables e below (T0.setTop (mkF m 27 #[.val (.int v1), .val (.int v2), .val (.int v3), .val (.int v4), .val (.int nw), .val (.int cl), .val (.int nn), .val (.int rm), .unset, .unset, .unset, .unset, .unset, .unset, .unset, .unset, .unset, .unset, .unset] [])) t := by
  refine ⟨T0, _, X0, e0, N0, fun t ht => ?_⟩
  show Steps p.tables e below (T0.setTop (mkF m 27 #[.val (.int v1), .val (.int v2), .val (.int v3), .val (.int v4), .val (.int nw), .val (.int cl), .val (.int nn), .val (.int rm), .unset, .unset, .unset, .unset, .unset, .unset, .unset, .unset, .unset, .unset, .unset] [])) _
  refine XS.iload X0.here hx rfl (hb hby at_27) rfl ?_
  show Steps p.tables e below (T0.setTop (mkF m 29 #[.val (.int v1), .val (.int v2), .val (.int v3), .val (.int v4), .val (.int nw), .val (.int cl), .val (.int nn), .val (.int rm), .unset, .unset, .unset, .unset, .unset, .unset, .unset, .unset, .unset, .unset, .unset] [(.int cl)])) _
  refine XS.iconst X0.here hx rfl (hb hby at_29) ?_
  show Steps p.tables e below (T0.setTop (mkF m 30 #[.val (.int v1), .val (.int v2), .val (.int v3), .val (.int v4), .val (.int nw), .val (.int cl), .val (.int nn), .val (.int rm), .unset, .unset, .unset, .unset, .unset, .unset, .unset, .unset, .unset, .unset, .unset] [(.int (3 : Int32)), (.int cl)])) _
  refine XS.iushr X0.here hx rfl (hb hby at_30) rfl ?_
  show Steps p.tables e below (T0.setTop (mkF m 31 #[.val (.int v1), .val (.int v2), .val (.int v3), .val (.int v4), .val (.int nw), .val (.int cl), .val (.int nn), .val (.int rm), .unset, .unset, .unset, .unset, .unset, .unset, .unset, .unset, .unset, .unset, .unset] [(.int ((cl.toUInt32 >>> ((3 : Int32) &&& 31).toUInt32).toInt32))])) _
  refine XS.iconst X0.here hx rfl (hb hby at_31) ?_
  show Steps p.tables e below (T0.setTop (mkF m 32 #[.val (.int v1), .val (.int v2), .val (.int v3), .val (.int v4), .val (.int nw), .val (.int cl), .val (.int nn), .val (.int rm), .unset, .unset, .unset, .unset, .unset, .unset, .unset, .unset, .unset, .unset, .unset] [(.int (1 : Int32)), (.int ((cl.toUInt32 >>> ((3 : Int32) &&& 31).toUInt32).toInt32))])) _
  refine XS.iand X0.here hx rfl (hb hby at_32) rfl ?_
  show Steps p.tables e below (T0.setTop (mkF m 33 #[.val (.int v1), .val (.int v2), .val (.int v3), .val (.int v4), .val (.int nw), .val (.int cl), .val (.int nn), .val (.int rm), .unset, .unset, .unset, .unset, .unset, .unset, .unset, .unset, .unset, .unset, .unset] [(.int (((cl.toUInt32 >>> ((3 : Int32) &&& 31).toUInt32).toInt32) &&& (1 : Int32)))])) _
  refine XS.ifNo X0.here hx rfl (hb hby at_33) rfl ((if0 _ _).trans (feq hb3).1) ?_
  show Steps p.tables e below (T0.setTop (mkF m 36 #[.val (.int v1), .val (.int v2), .val (.int v3), .val (.int v4), .val (.int nw), .val (.int cl), .val (.int nn), .val (.int rm), .unset, .unset, .unset, .unset, .unset, .unset, .unset, .unset, .unset, .unset, .unset] [])) _
  refine XS.iconst X0.here hx rfl (hb hby at_36) ?_
  show Steps p.tables e below (T0.setTop (mkF m 37 #[.val (.int v1), .val (.int v2), .val (.int v3), .val (.int v4), .val (.int nw), .val (.int cl), .val (.int nn), .val (.int rm), .unset, .unset, .unset, .unset, .unset, .unset, .unset, .unset, .unset, .unset, .unset] [(.int (1 : Int32))])) _
  refine XS.goto X0.here hx rfl (pc0 := 37) (pc' := 41) rfl (hb hby at_37) (by decide) (by decide) ?_
  show Steps p.tables e below (T0.setTop (mkF m 41 #[.val (.int v1), .val (.int v2), .val (.int v3), .val (.int v4), .val (.int nw), .val (.int cl), .val (.int nn), .val (.int rm), .unset, .unset, .unset, .unset, .unset, .unset, .unset, .unset, .unset, .unset, .unset] [(.int (1 : Int32))])) _
  refine XS.istore X0.here hx rfl (hb hby at_41) rfl (l' := #[.val (.int v1), .val (.int v2), .val (.int v3), .val (.int v4), .val (.int nw), .val (.int cl), .val (.int nn), .val (.int rm), .val (.int (1 : Int32)), .unset, .unset, .unset, .unset, .unset, .unset, .unset, .unset, .unset, .unset]) rfl ?_
  show Steps p.tables e below (T0.setTop (mkF m 43 #[.val (.int v1), .val (.int v2), .val (.int v3), .val (.int v4), .val (.int nw), .val (.int cl), .val (.int nn), .val (.int rm), .val (.int (1 : Int32)), .unset, .unset, .unset, .unset, .unset, .unset, .unset, .unset, .unset, .unset] [])) _
  exact ht
set_option maxRecDepth 65536 in
set_option maxHeartbeats 40000000 in
theorem law_N (l : Launch) (Z : State) (a0 : Array Value) (hw : ∀ d ∈ tables_1, d.before a0 Z = true) {p : Program} {e : Env} {s : State} {m : MethodId} {args : Array Value} {below : List Frame} {meth : Method} {c : Code} (hx : p.tables.exec = Jvm.exec) (hZ : Z.Warmed39 s.vm) (hby : c.code = code) (hml : c.maxLocals = 19) (hown : s.vm.findClass "com/example/orrery/orrery/policy/RunningEndsLeftAtPinLaw" = some m.cls) {T0 : State} {locs0 : List Loc} {R : Room} {cells0 slots0 : Nat} (X0 : Stand p l e R s m args below meth c T0 locs0 cells0 slots0) (v1 v2 v3 v4 nw cl : Int32) (nn rm ex : Int32) (h0 : Heap) (n0 : Nat) (e0 : T0.heap = h0) (Z0 : n0 ≤ h0.size) (N0 : Fr n0 locs0) (hRf : 2 ≤ R.frames) (hRl : 25 ≤ R.locals) (hRc : cells0 + 2 ≤ R.cells) (hRs : slots0 + 5 ≤ R.slots)  :
    ∃ (r : Addr) (T1 : State) (h1 : Heap) (locs1 : List Loc), Stand p l e R s m args below meth c T1 locs1 (cells0 + 2) (slots0 + 5) ∧ T1.heap = h1 ∧ n0 ≤ h1.size ∧ Fr n0 locs1 ∧ (own_RE Z n0 r (2 : Int32) (0 : Int32) (0 : Int32) [0, 0] h1) ∧ ∀ t, Steps p.tables e below (T1.setTop (mkF m 62 #[.val (.int v1), .val (.int v2), .val (.int v3), .val (.int v4), .val (.int nw), .val (.int cl), .val (.int nn), .val (.int rm), .val (.int ex), .val (.ref r), .val (.long (0 : Int64)), .second, .val (.long (0 : Int64)), .second, .val (.int (2147483647 : Int32)), .unset, .unset, .unset, .unset] [])) t → Steps p.tables e below (T0.setTop (mkF m 43 #[.val (.int v1), .val (.int v2), .val (.int v3), .val (.int v4), .val (.int nw), .val (.int cl), .val (.int nn), .val (.int rm), .val (.int ex), .unset, .unset, .unset, .unset, .unset, .unset, .unset, .unset, .unset, .unset] [])) t := by
  obtain ⟨T1, h1, X1, e1, E1, A1, D1, -, st1⟩ := newO X0 hx hZ hown (hw _ (List.mem_of_getElem? (i := 0) rfl)) (hw _ (List.mem_of_getElem? (i := 1) rfl)) (hw _ (List.mem_of_getElem? (i := 2) rfl)) e0 (g := (mkF m 43 #[.val (.int v1), .val (.int v2), .val (.int v3), .val (.int v4), .val (.int nw), .val (.int cl), .val (.int nn), .val (.int rm), .val (.int ex), .unset, .unset, .unset, .unset, .unset, .unset, .unset, .unset, .unset, .unset] [])) rfl (hb hby at_43) (by omega) (by omega)
  obtain ⟨b1, g1⟩ : ∃ z, z = h0.size := ⟨_, rfl⟩
  rw [← g1] at A1 D1 st1
  have g_b1 : n0 ≤ b1 := Nat.le_trans Z0 (Nat.le_of_eq g1.symm)
  have Zc2 : n0 ≤ h1.size := Nat.le_trans Z0 E1.1
  have F1_ends : Fld Z h1 b1 "com/example/orrery/orrery/policy/RunningEnds" "ends" "[D" .null := D1 (Or.inl (hw _ (List.mem_of_getElem? (i := 11) rfl))) (ty := (.array .double)) (by decide)
  have F1_last : Fld Z h1 b1 "com/example/orrery/orrery/policy/RunningEnds" "last" "I" (.int (0 : Int32)) := D1 (Or.inl (hw _ (List.mem_of_getElem? (i := 19) rfl))) (ty := .int) (by decide)
  have F1_first : Fld Z h1 b1 "com/example/orrery/orrery/policy/RunningEnds" "first" "I" (.int (0 : Int32)) := D1 (Or.inl (hw _ (List.mem_of_getElem? (i := 21) rfl))) (ty := .int) (by decide)
  obtain ⟨_, _, ⟨T3, L3, k3, n3⟩, -, X3, ⟨Lc3, hQ3, l3, y3, z3⟩, st3⟩ := X1.specialBack hx (y := (⟨"com/example/orrery/orrery/policy/RunningEnds", "<init>", "()V"⟩ : MethodName)) rfl hown (mvT hZ (hw _ (List.mem_of_getElem? (i := 3) rfl))) (mvT hZ (hw _ (List.mem_of_getElem? (i := 4) rfl))) (mvT hZ (hw _ (List.mem_of_getElem? (i := 5) rfl))) (by decide) (backOf (W := 1) (rmI l Z a0 hw [] b1 h1 n0 Zc2 g_b1 A1 F1_ends F1_first F1_last) hZ (hw _ (List.mem_of_getElem? (i := 5) rfl)) (hw _ (List.mem_of_getElem? (i := 2) rfl)) (Nat.le_trans (by decide : _ ≤ 2) hRf) (Nat.le_trans (by decide : _ ≤ 25) hRl)) (g := (mkF m 47 #[.val (.int v1), .val (.int v2), .val (.int v3), .val (.int v4), .val (.int nw), .val (.int cl), .val (.int nn), .val (.int rm), .val (.int ex), .unset, .unset, .unset, .unset, .unset, .unset, .unset, .unset, .unset, .unset] [(.ref b1), (.ref b1)])) rfl (by rw [hml]; rfl) (Steps.refl _) (a := b1) (argsL := []) (rest := [(.ref b1)]) (lenOf pd1 rfl) rfl (by show 2 * 0 + _ ≤ _; exact Nat.le_of_eq rfl) (hb hby at_47) (fun _ _ => ⟨rfl, e1, (by show cells0 + 1 + 1 ≤ _; omega), (by show slots0 + 3 + 2 ≤ _; omega)⟩)
  dsimp only [Pt.U, Pt.locs, Pt.cells, Pt.slots] at X3 l3 y3 z3 st3 hQ3
  subst l3 y3 z3
  obtain ⟨rfl, Nc3, Zq3, P3⟩ := hQ3
  have N3 := Fr.app N0 Nc3
  refine ⟨b1, T3, T3.heap, _, X3, rfl, Zq3, N3, P3, fun t ht => ?_⟩
  show Steps p.tables e below (T0.setTop (mkF m 43 #[.val (.int v1), .val (.int v2), .val (.int v3), .val (.int v4), .val (.int nw), .val (.int cl), .val (.int nn), .val (.int rm), .val (.int ex), .unset, .unset, .unset, .unset, .unset, .unset, .unset, .unset, .unset, .unset] [])) _
  refine st1 _ ?_
  show Steps p.tables e below (T1.setTop (mkF m 46 #[.val (.int v1), .val (.int v2), .val (.int v3), .val (.int v4), .val (.int nw), .val (.int cl), .val (.int nn), .val (.int rm), .val (.int ex), .unset, .unset, .unset, .unset, .unset, .unset, .unset, .unset, .unset, .unset] [(.ref b1)])) _
  refine XS.dup X1.here hx rfl (hb hby at_46) rfl rfl ?_
  show Steps p.tables e below (T1.setTop (mkF m 47 #[.val (.int v1), .val (.int v2), .val (.int v3), .val (.int v4), .val (.int nw), .val (.int cl), .val (.int nn), .val (.int rm), .val (.int ex), .unset, .unset, .unset, .unset, .unset, .unset, .unset, .unset, .unset, .unset] [(.ref b1), (.ref b1)])) _
  refine st3.trans ?_
  show Steps p.tables e below (T3.setTop (mkF m 50 #[.val (.int v1), .val (.int v2), .val (.int v3), .val (.int v4), .val (.int nw), .val (.int cl), .val (.int nn), .val (.int rm), .val (.int ex), .unset, .unset, .unset, .unset, .unset, .unset, .unset, .unset, .unset, .unset] [(.ref b1)])) _
  refine XS.astore X3.here hx rfl (hb hby at_50) rfl rfl (l' := #[.val (.int v1), .val (.int v2), .val (.int v3), .val (.int v4), .val (.int nw), .val (.int cl), .val (.int nn), .val (.int rm), .val (.int ex), .val (.ref b1), .unset, .unset, .unset, .unset, .unset, .unset, .unset, .unset, .unset]) rfl ?_
  show Steps p.tables e below (T3.setTop (mkF m 52 #[.val (.int v1), .val (.int v2), .val (.int v3), .val (.int v4), .val (.int nw), .val (.int cl), .val (.int nn), .val (.int rm), .val (.int ex), .val (.ref b1), .unset, .unset, .unset, .unset, .unset, .unset, .unset, .unset, .unset] [])) _
  refine XS.lconst X3.here hx rfl (hb hby at_52) ?_
  show Steps p.tables e below (T3.setTop (mkF m 53 #[.val (.int v1), .val (.int v2), .val (.int v3), .val (.int v4), .val (.int nw), .val (.int cl), .val (.int nn), .val (.int rm), .val (.int ex), .val (.ref b1), .unset, .unset, .unset, .unset, .unset, .unset, .unset, .unset, .unset] [(.long (0 : Int64))])) _
  refine XS.lstore X3.here hx rfl (hb hby at_53) rfl (l' := #[.val (.int v1), .val (.int v2), .val (.int v3), .val (.int v4), .val (.int nw), .val (.int cl), .val (.int nn), .val (.int rm), .val (.int ex), .val (.ref b1), .val (.long (0 : Int64)), .second, .unset, .unset, .unset, .unset, .unset, .unset, .unset]) rfl ?_
  show Steps p.tables e below (T3.setTop (mkF m 55 #[.val (.int v1), .val (.int v2), .val (.int v3), .val (.int v4), .val (.int nw), .val (.int cl), .val (.int nn), .val (.int rm), .val (.int ex), .val (.ref b1), .val (.long (0 : Int64)), .second, .unset, .unset, .unset, .unset, .unset, .unset, .unset] [])) _
  refine XS.lconst X3.here hx rfl (hb hby at_55) ?_
  show Steps p.tables e below (T3.setTop (mkF m 56 #[.val (.int v1), .val (.int v2), .val (.int v3), .val (.int v4), .val (.int nw), .val (.int cl), .val (.int nn), .val (.int rm), .val (.int ex), .val (.ref b1), .val (.long (0 : Int64)), .second, .unset, .unset, .unset, .unset, .unset, .unset, .unset] [(.long (0 : Int64))])) _
  refine XS.lstore X3.here hx rfl (hb hby at_56) rfl (l' := #[.val (.int v1), .val (.int v2), .val (.int v3), .val (.int v4), .val (.int nw), .val (.int cl), .val (.int nn), .val (.int rm), .val (.int ex), .val (.ref b1), .val (.long (0 : Int64)), .second, .val (.long (0 : Int64)), .second, .unset, .unset, .unset, .unset, .unset]) rfl ?_
  show Steps p.tables e below (T3.setTop (mkF m 58 #[.val (.int v1), .val (.int v2), .val (.int v3), .val (.int v4), .val (.int nw), .val (.int cl), .val (.int nn), .val (.int rm), .val (.int ex), .val (.ref b1), .val (.long (0 : Int64)), .second, .val (.long (0 : Int64)), .second, .unset, .unset, .unset, .unset, .unset] [])) _
  refine X3.ldcInt hx hown (mvT hZ (hw _ (List.mem_of_getElem? (i := 12) rfl))) (g := (mkF m 58 #[.val (.int v1), .val (.int v2), .val (.int v3), .val (.int v4), .val (.int nw), .val (.int cl), .val (.int nn), .val (.int rm), .val (.int ex), .val (.ref b1), .val (.long (0 : Int64)), .second, .val (.long (0 : Int64)), .second, .unset, .unset, .unset, .unset, .unset] [])) rfl (hb hby at_58) _ ?_
  show Steps p.tables e below (T3.setTop (mkF m 60 #[.val (.int v1), .val (.int v2), .val (.int v3), .val (.int v4), .val (.int nw), .val (.int cl), .val (.int nn), .val (.int rm), .val (.int ex), .val (.ref b1), .val (.long (0 : Int64)), .second, .val (.long (0 : Int64)), .second, .unset, .unset, .unset, .unset, .unset] [(.int (2147483647 : Int32))])) _
  refine XS.istore X3.here hx rfl (hb hby at_60) rfl (l' := #[.val (.int v1), .val (.int v2), .val (.int v3), .val (.int v4), .val (.int nw), .val (.int cl), .val (.int nn), .val (.int rm), .val (.int ex), .val (.ref b1), .val (.long (0 : Int64)), .second, .val (.long (0 : Int64)), .second, .val (.int (2147483647 : Int32)), .unset, .unset, .unset, .unset]) rfl ?_
  show Steps p.tables e below (T3.setTop (mkF m 62 #[.val (.int v1), .val (.int v2), .val (.int v3), .val (.int v4), .val (.int nw), .val (.int cl), .val (.int nn), .val (.int rm), .val (.int ex), .val (.ref b1), .val (.long (0 : Int64)), .second, .val (.long (0 : Int64)), .second, .val (.int (2147483647 : Int32)), .unset, .unset, .unset, .unset] [])) _
  exact ht
set_option maxRecDepth 65536 in
set_option maxHeartbeats 40000000 in
theorem law_s1 (l : Launch) (Z : State) (a0 : Array Value) (hw : ∀ d ∈ tables_1, d.before a0 Z = true) {p : Program} {e : Env} {s : State} {m : MethodId} {args : Array Value} {below : List Frame} {meth : Method} {c : Code} (hx : p.tables.exec = Jvm.exec) (hZ : Z.Warmed39 s.vm) (hby : c.code = code) (hml : c.maxLocals = 19) (hown : s.vm.findClass "com/example/orrery/orrery/policy/RunningEndsLeftAtPinLaw" = some m.cls) {T0 : State} {locs0 : List Loc} {R : Room} {cells0 slots0 : Nat} (X0 : Stand p l e R s m args below meth c T0 locs0 cells0 slots0) (v1 v2 v3 v4 nw cl : Int32) (nn rm ex : Int32) (r : Addr) (sm ct : Int64) (mn : Int32) (h0 : Heap) (n0 : Nat) (e0 : T0.heap = h0) (Z0 : n0 ≤ h0.size) (N0 : Fr n0 locs0) (hn : nn < (1 : Int32)) :
    ∃ (T1 : State) (locs1 : List Loc), Stand p l e R s m args below meth c T1 locs1 cells0 slots0 ∧ T1.heap = h0 ∧ Fr n0 locs1 ∧ ∀ t, Steps p.tables e below (T1.setTop (mkF m 91 #[.val (.int v1), .val (.int v2), .val (.int v3), .val (.int v4), .val (.int nw), .val (.int cl), .val (.int nn), .val (.int rm), .val (.int ex), .val (.ref r), .val (.long sm), .second, .val (.long ct), .second, .val (.int mn), .unset, .unset, .unset, .unset] [])) t → Steps p.tables e below (T0.setTop (mkF m 62 #[.val (.int v1), .val (.int v2), .val (.int v3), .val (.int v4), .val (.int nw), .val (.int cl), .val (.int nn), .val (.int rm), .val (.int ex), .val (.ref r), .val (.long sm), .second, .val (.long ct), .second, .val (.int mn), .unset, .unset, .unset, .unset] [])) t := by
  refine ⟨T0, _, X0, e0, N0, fun t ht => ?_⟩
  show Steps p.tables e below (T0.setTop (mkF m 62 #[.val (.int v1), .val (.int v2), .val (.int v3), .val (.int v4), .val (.int nw), .val (.int cl), .val (.int nn), .val (.int rm), .val (.int ex), .val (.ref r), .val (.long sm), .second, .val (.long ct), .second, .val (.int mn), .unset, .unset, .unset, .unset] [])) _
  refine XS.iload X0.here hx rfl (hb hby at_62) rfl ?_
  show Steps p.tables e below (T0.setTop (mkF m 64 #[.val (.int v1), .val (.int v2), .val (.int v3), .val (.int v4), .val (.int nw), .val (.int cl), .val (.int nn), .val (.int rm), .val (.int ex), .val (.ref r), .val (.long sm), .second, .val (.long ct), .second, .val (.int mn), .unset, .unset, .unset, .unset] [(.int nn)])) _
  refine XS.iconst X0.here hx rfl (hb hby at_64) ?_
  show Steps p.tables e below (T0.setTop (mkF m 65 #[.val (.int v1), .val (.int v2), .val (.int v3), .val (.int v4), .val (.int nw), .val (.int cl), .val (.int nn), .val (.int rm), .val (.int ex), .val (.ref r), .val (.long sm), .second, .val (.long ct), .second, .val (.int mn), .unset, .unset, .unset, .unset] [(.int (1 : Int32)), (.int nn)])) _
  refine XS.icmpYes X0.here hx rfl (pc0 := 65) (pc' := 91) rfl (hb hby at_65) rfl (tlt hn).1 (by decide) (by decide) ?_
  show Steps p.tables e below (T0.setTop (mkF m 91 #[.val (.int v1), .val (.int v2), .val (.int v3), .val (.int v4), .val (.int nw), .val (.int cl), .val (.int nn), .val (.int rm), .val (.int ex), .val (.ref r), .val (.long sm), .second, .val (.long ct), .second, .val (.int mn), .unset, .unset, .unset, .unset] [])) _
  exact ht
set_option maxRecDepth 65536 in
set_option maxHeartbeats 40000000 in
theorem law_a1 (l : Launch) (Z : State) (a0 : Array Value) (hw : ∀ d ∈ tables_1, d.before a0 Z = true) {p : Program} {e : Env} {s : State} {m : MethodId} {args : Array Value} {below : List Frame} {meth : Method} {c : Code} (hx : p.tables.exec = Jvm.exec) (hZ : Z.Warmed39 s.vm) (hby : c.code = code) (hml : c.maxLocals = 19) (hown : s.vm.findClass "com/example/orrery/orrery/policy/RunningEndsLeftAtPinLaw" = some m.cls) {T0 : State} {locs0 : List Loc} {R : Room} {cells0 slots0 : Nat} (X0 : Stand p l e R s m args below meth c T0 locs0 cells0 slots0) (v1 v2 v3 v4 nw cl : Int32) (nn rm ex : Int32) (r : Addr) (sm ct : Int64) (mn : Int32) (P : Heap → Prop) (h0 : Heap) (n0 : Nat) (e0 : T0.heap = h0) (Z0 : n0 ≤ h0.size) (N0 : Fr n0 locs0) (hRf : 2 ≤ R.frames) (hRl : 34 ≤ R.locals) (hRc : cells0 + 1 ≤ R.cells) (hRs : slots0 + 4 ≤ R.slots) (hn : ¬ (nn < (1 : Int32))) (E_r : Exa Z h0 r "com/example/orrery/orrery/policy/RunningEnds") (hC : MetFree l (⟨"com/example/orrery/orrery/policy/RunningEnds", "add", "(D)V"⟩ : MethodName) (head1 [Jvm.Cond.code (⟨"com/example/orrery/orrery/policy/RunningEnds", "add", "(D)V"⟩ : MethodName) prog_11_method_3_code 5 none] ({ frames := 1, cells := 1, slots := 4, locals := 18 } : Room)) (fun a U => a = #[(.ref r), (.double (FP.l2d (Int32.toInt64 v1)))] ∧ Z.Warmed39 U.vm ∧ U.heap = h0) (fun _ _ _ _ _ => True) (fun _ U o U' => ∃ v L, o = .returned v ∧ QP P n0 v U'.heap L ∧ FrameEnd U o U' L ({ frames := 1, cells := 1, slots := 4, locals := 18 } : Room).cells ({ frames := 1, cells := 1, slots := 4, locals := 18 } : Room).slots)) :
    ∃ (T1 : State) (h1 : Heap) (locs1 : List Loc), Stand p l e R s m args below meth c T1 locs1 (cells0 + 1) (slots0 + 4) ∧ T1.heap = h1 ∧ n0 ≤ h1.size ∧ Fr n0 locs1 ∧ (P h1) ∧ ∀ t, Steps p.tables e below (T1.setTop (mkF m 91 #[.val (.int v1), .val (.int v2), .val (.int v3), .val (.int v4), .val (.int nw), .val (.int cl), .val (.int nn), .val (.int rm), .val (.int ex), .val (.ref r), .val (.long (sm + (Int32.toInt64 v1))), .second, .val (.long (ct + (1 : Int64))), .second, .val (.int v1), .unset, .unset, .unset, .unset] [])) t → Steps p.tables e below (T0.setTop (mkF m 62 #[.val (.int v1), .val (.int v2), .val (.int v3), .val (.int v4), .val (.int nw), .val (.int cl), .val (.int nn), .val (.int rm), .val (.int ex), .val (.ref r), .val (.long sm), .second, .val (.long ct), .second, .val (.int mn), .unset, .unset, .unset, .unset] [])) t := by
  obtain ⟨cq1, kq1, qa1, qb1, qc1⟩ := isOf hZ e0 E_r
  obtain ⟨_, _, ⟨T1, L1, k1, n1⟩, -, X1, ⟨Lc1, hQ1, l1, y1, z1⟩, st1⟩ := X0.virtualBack hx (y := (⟨"com/example/orrery/orrery/policy/RunningEnds", "add", "(D)V"⟩ : MethodName)) (z := (⟨"com/example/orrery/orrery/policy/RunningEnds", "add", "(D)V"⟩ : MethodName)) hown (mvT hZ (hw _ (List.mem_of_getElem? (i := 13) rfl))) (mvT hZ (hw _ (List.mem_of_getElem? (i := 14) rfl))) (notFace_of_selects (args := #[]) (mvT hZ (hw _ (List.mem_of_getElem? (i := 16) rfl)))) (mvT hZ (hw _ (List.mem_of_getElem? (i := 16) rfl))) (mvT hZ (hw _ (List.mem_of_getElem? (i := 15) rfl))) (by decide) (backOf (W := 0) (hC) hZ (hw _ (List.mem_of_getElem? (i := 17) rfl)) (hw _ (List.mem_of_getElem? (i := 2) rfl)) (Nat.le_trans (by decide : _ ≤ 2) hRf) (Nat.le_trans (by decide : _ ≤ 34) hRl)) qa1 qc1 (g := (mkF m 72 #[.val (.int v1), .val (.int v2), .val (.int v3), .val (.int v4), .val (.int nw), .val (.int cl), .val (.int nn), .val (.int rm), .val (.int ex), .val (.ref r), .val (.long sm), .second, .val (.long ct), .second, .val (.int mn), .unset, .unset, .unset, .unset] [(.double (FP.l2d (Int32.toInt64 v1))), (.ref r)])) rfl (by rw [hml]; rfl) (Steps.refl _) (argsL := [(.double (FP.l2d (Int32.toInt64 v1)))]) (rest := []) (lenOf pd2 rfl) rfl (by show 2 * 0 + _ ≤ _; exact Nat.le_of_eq rfl) (hb hby at_72) (fun _ _ => ⟨rfl, e0, (by show cells0 + 0 + 1 ≤ _; omega), (by show slots0 + 0 + 4 ≤ _; omega)⟩)
  dsimp only [Pt.U, Pt.locs, Pt.cells, Pt.slots] at X1 l1 y1 z1 st1 hQ1
  subst l1 y1 z1
  obtain ⟨rfl, Nc1, Zq1, P1⟩ := hQ1
  have N1 := Fr.app N0 Nc1
  refine ⟨T1, T1.heap, _, X1, rfl, Zq1, N1, P1, fun t ht => ?_⟩
  show Steps p.tables e below (T0.setTop (mkF m 62 #[.val (.int v1), .val (.int v2), .val (.int v3), .val (.int v4), .val (.int nw), .val (.int cl), .val (.int nn), .val (.int rm), .val (.int ex), .val (.ref r), .val (.long sm), .second, .val (.long ct), .second, .val (.int mn), .unset, .unset, .unset, .unset] [])) _
  refine XS.iload X0.here hx rfl (hb hby at_62) rfl ?_
  show Steps p.tables e below (T0.setTop (mkF m 64 #[.val (.int v1), .val (.int v2), .val (.int v3), .val (.int v4), .val (.int nw), .val (.int cl), .val (.int nn), .val (.int rm), .val (.int ex), .val (.ref r), .val (.long sm), .second, .val (.long ct), .second, .val (.int mn), .unset, .unset, .unset, .unset] [(.int nn)])) _
  refine XS.iconst X0.here hx rfl (hb hby at_64) ?_
  show Steps p.tables e below (T0.setTop (mkF m 65 #[.val (.int v1), .val (.int v2), .val (.int v3), .val (.int v4), .val (.int nw), .val (.int cl), .val (.int nn), .val (.int rm), .val (.int ex), .val (.ref r), .val (.long sm), .second, .val (.long ct), .second, .val (.int mn), .unset, .unset, .unset, .unset] [(.int (1 : Int32)), (.int nn)])) _
  refine XS.icmpNo X0.here hx rfl (hb hby at_65) rfl (flt hn).1 ?_
  show Steps p.tables e below (T0.setTop (mkF m 68 #[.val (.int v1), .val (.int v2), .val (.int v3), .val (.int v4), .val (.int nw), .val (.int cl), .val (.int nn), .val (.int rm), .val (.int ex), .val (.ref r), .val (.long sm), .second, .val (.long ct), .second, .val (.int mn), .unset, .unset, .unset, .unset] [])) _
  refine XS.aload X0.here hx rfl (hb hby at_68) rfl rfl ?_
  show Steps p.tables e below (T0.setTop (mkF m 70 #[.val (.int v1), .val (.int v2), .val (.int v3), .val (.int v4), .val (.int nw), .val (.int cl), .val (.int nn), .val (.int rm), .val (.int ex), .val (.ref r), .val (.long sm), .second, .val (.long ct), .second, .val (.int mn), .unset, .unset, .unset, .unset] [(.ref r)])) _
  refine XS.iloadN X0.here hx rfl (hb hby at_70) rfl ?_
  show Steps p.tables e below (T0.setTop (mkF m 71 #[.val (.int v1), .val (.int v2), .val (.int v3), .val (.int v4), .val (.int nw), .val (.int cl), .val (.int nn), .val (.int rm), .val (.int ex), .val (.ref r), .val (.long sm), .second, .val (.long ct), .second, .val (.int mn), .unset, .unset, .unset, .unset] [(.int v1), (.ref r)])) _
  refine XS.i2dS X0.here hx rfl (v := (FP.l2d (Int32.toInt64 v1))) (hb hby at_71) rfl (i2d_w v1) ?_
  show Steps p.tables e below (T0.setTop (mkF m 72 #[.val (.int v1), .val (.int v2), .val (.int v3), .val (.int v4), .val (.int nw), .val (.int cl), .val (.int nn), .val (.int rm), .val (.int ex), .val (.ref r), .val (.long sm), .second, .val (.long ct), .second, .val (.int mn), .unset, .unset, .unset, .unset] [(.double (FP.l2d (Int32.toInt64 v1))), (.ref r)])) _
  refine st1.trans ?_
  show Steps p.tables e below (T1.setTop (mkF m 75 #[.val (.int v1), .val (.int v2), .val (.int v3), .val (.int v4), .val (.int nw), .val (.int cl), .val (.int nn), .val (.int rm), .val (.int ex), .val (.ref r), .val (.long sm), .second, .val (.long ct), .second, .val (.int mn), .unset, .unset, .unset, .unset] [])) _
  refine XS.lload X1.here hx rfl (hb hby at_75) rfl ?_
  show Steps p.tables e below (T1.setTop (mkF m 77 #[.val (.int v1), .val (.int v2), .val (.int v3), .val (.int v4), .val (.int nw), .val (.int cl), .val (.int nn), .val (.int rm), .val (.int ex), .val (.ref r), .val (.long sm), .second, .val (.long ct), .second, .val (.int mn), .unset, .unset, .unset, .unset] [(.long sm)])) _
  refine XS.iloadN X1.here hx rfl (hb hby at_77) rfl ?_
  show Steps p.tables e below (T1.setTop (mkF m 78 #[.val (.int v1), .val (.int v2), .val (.int v3), .val (.int v4), .val (.int nw), .val (.int cl), .val (.int nn), .val (.int rm), .val (.int ex), .val (.ref r), .val (.long sm), .second, .val (.long ct), .second, .val (.int mn), .unset, .unset, .unset, .unset] [(.int v1), (.long sm)])) _
  refine XS.i2l X1.here hx rfl (hb hby at_78) rfl ?_
  show Steps p.tables e below (T1.setTop (mkF m 79 #[.val (.int v1), .val (.int v2), .val (.int v3), .val (.int v4), .val (.int nw), .val (.int cl), .val (.int nn), .val (.int rm), .val (.int ex), .val (.ref r), .val (.long sm), .second, .val (.long ct), .second, .val (.int mn), .unset, .unset, .unset, .unset] [(.long (Int32.toInt64 v1)), (.long sm)])) _
  refine XS.ladd X1.here hx rfl (hb hby at_79) rfl ?_
  show Steps p.tables e below (T1.setTop (mkF m 80 #[.val (.int v1), .val (.int v2), .val (.int v3), .val (.int v4), .val (.int nw), .val (.int cl), .val (.int nn), .val (.int rm), .val (.int ex), .val (.ref r), .val (.long sm), .second, .val (.long ct), .second, .val (.int mn), .unset, .unset, .unset, .unset] [(.long (sm + (Int32.toInt64 v1)))])) _
  refine XS.lstore X1.here hx rfl (hb hby at_80) rfl (l' := #[.val (.int v1), .val (.int v2), .val (.int v3), .val (.int v4), .val (.int nw), .val (.int cl), .val (.int nn), .val (.int rm), .val (.int ex), .val (.ref r), .val (.long (sm + (Int32.toInt64 v1))), .second, .val (.long ct), .second, .val (.int mn), .unset, .unset, .unset, .unset]) rfl ?_
  show Steps p.tables e below (T1.setTop (mkF m 82 #[.val (.int v1), .val (.int v2), .val (.int v3), .val (.int v4), .val (.int nw), .val (.int cl), .val (.int nn), .val (.int rm), .val (.int ex), .val (.ref r), .val (.long (sm + (Int32.toInt64 v1))), .second, .val (.long ct), .second, .val (.int mn), .unset, .unset, .unset, .unset] [])) _
  refine XS.lload X1.here hx rfl (hb hby at_82) rfl ?_
  show Steps p.tables e below (T1.setTop (mkF m 84 #[.val (.int v1), .val (.int v2), .val (.int v3), .val (.int v4), .val (.int nw), .val (.int cl), .val (.int nn), .val (.int rm), .val (.int ex), .val (.ref r), .val (.long (sm + (Int32.toInt64 v1))), .second, .val (.long ct), .second, .val (.int mn), .unset, .unset, .unset, .unset] [(.long ct)])) _
  refine XS.lconst X1.here hx rfl (hb hby at_84) ?_
  show Steps p.tables e below (T1.setTop (mkF m 85 #[.val (.int v1), .val (.int v2), .val (.int v3), .val (.int v4), .val (.int nw), .val (.int cl), .val (.int nn), .val (.int rm), .val (.int ex), .val (.ref r), .val (.long (sm + (Int32.toInt64 v1))), .second, .val (.long ct), .second, .val (.int mn), .unset, .unset, .unset, .unset] [(.long (1 : Int64)), (.long ct)])) _
  refine XS.ladd X1.here hx rfl (hb hby at_85) rfl ?_
  show Steps p.tables e below (T1.setTop (mkF m 86 #[.val (.int v1), .val (.int v2), .val (.int v3), .val (.int v4), .val (.int nw), .val (.int cl), .val (.int nn), .val (.int rm), .val (.int ex), .val (.ref r), .val (.long (sm + (Int32.toInt64 v1))), .second, .val (.long ct), .second, .val (.int mn), .unset, .unset, .unset, .unset] [(.long (ct + (1 : Int64)))])) _
  refine XS.lstore X1.here hx rfl (hb hby at_86) rfl (l' := #[.val (.int v1), .val (.int v2), .val (.int v3), .val (.int v4), .val (.int nw), .val (.int cl), .val (.int nn), .val (.int rm), .val (.int ex), .val (.ref r), .val (.long (sm + (Int32.toInt64 v1))), .second, .val (.long (ct + (1 : Int64))), .second, .val (.int mn), .unset, .unset, .unset, .unset]) rfl ?_
  show Steps p.tables e below (T1.setTop (mkF m 88 #[.val (.int v1), .val (.int v2), .val (.int v3), .val (.int v4), .val (.int nw), .val (.int cl), .val (.int nn), .val (.int rm), .val (.int ex), .val (.ref r), .val (.long (sm + (Int32.toInt64 v1))), .second, .val (.long (ct + (1 : Int64))), .second, .val (.int mn), .unset, .unset, .unset, .unset] [])) _
  refine XS.iloadN X1.here hx rfl (hb hby at_88) rfl ?_
  show Steps p.tables e below (T1.setTop (mkF m 89 #[.val (.int v1), .val (.int v2), .val (.int v3), .val (.int v4), .val (.int nw), .val (.int cl), .val (.int nn), .val (.int rm), .val (.int ex), .val (.ref r), .val (.long (sm + (Int32.toInt64 v1))), .second, .val (.long (ct + (1 : Int64))), .second, .val (.int mn), .unset, .unset, .unset, .unset] [(.int v1)])) _
  refine XS.istore X1.here hx rfl (hb hby at_89) rfl (l' := #[.val (.int v1), .val (.int v2), .val (.int v3), .val (.int v4), .val (.int nw), .val (.int cl), .val (.int nn), .val (.int rm), .val (.int ex), .val (.ref r), .val (.long (sm + (Int32.toInt64 v1))), .second, .val (.long (ct + (1 : Int64))), .second, .val (.int v1), .unset, .unset, .unset, .unset]) rfl ?_
  show Steps p.tables e below (T1.setTop (mkF m 91 #[.val (.int v1), .val (.int v2), .val (.int v3), .val (.int v4), .val (.int nw), .val (.int cl), .val (.int nn), .val (.int rm), .val (.int ex), .val (.ref r), .val (.long (sm + (Int32.toInt64 v1))), .second, .val (.long (ct + (1 : Int64))), .second, .val (.int v1), .unset, .unset, .unset, .unset] [])) _
  exact ht
set_option maxRecDepth 65536 in
set_option maxHeartbeats 40000000 in
theorem law_s2 (l : Launch) (Z : State) (a0 : Array Value) (hw : ∀ d ∈ tables_1, d.before a0 Z = true) {p : Program} {e : Env} {s : State} {m : MethodId} {args : Array Value} {below : List Frame} {meth : Method} {c : Code} (hx : p.tables.exec = Jvm.exec) (hZ : Z.Warmed39 s.vm) (hby : c.code = code) (hml : c.maxLocals = 19) (hown : s.vm.findClass "com/example/orrery/orrery/policy/RunningEndsLeftAtPinLaw" = some m.cls) {T0 : State} {locs0 : List Loc} {R : Room} {cells0 slots0 : Nat} (X0 : Stand p l e R s m args below meth c T0 locs0 cells0 slots0) (v1 v2 v3 v4 nw cl : Int32) (nn rm ex : Int32) (r : Addr) (sm ct : Int64) (mn : Int32) (h0 : Heap) (n0 : Nat) (e0 : T0.heap = h0) (Z0 : n0 ≤ h0.size) (N0 : Fr n0 locs0) (hn : nn < (2 : Int32)) :
    ∃ (T1 : State) (locs1 : List Loc), Stand p l e R s m args below meth c T1 locs1 cells0 slots0 ∧ T1.heap = h0 ∧ Fr n0 locs1 ∧ ∀ t, Steps p.tables e below (T1.setTop (mkF m 125 #[.val (.int v1), .val (.int v2), .val (.int v3), .val (.int v4), .val (.int nw), .val (.int cl), .val (.int nn), .val (.int rm), .val (.int ex), .val (.ref r), .val (.long sm), .second, .val (.long ct), .second, .val (.int mn), .unset, .unset, .unset, .unset] [])) t → Steps p.tables e below (T0.setTop (mkF m 91 #[.val (.int v1), .val (.int v2), .val (.int v3), .val (.int v4), .val (.int nw), .val (.int cl), .val (.int nn), .val (.int rm), .val (.int ex), .val (.ref r), .val (.long sm), .second, .val (.long ct), .second, .val (.int mn), .unset, .unset, .unset, .unset] [])) t := by
  refine ⟨T0, _, X0, e0, N0, fun t ht => ?_⟩
  show Steps p.tables e below (T0.setTop (mkF m 91 #[.val (.int v1), .val (.int v2), .val (.int v3), .val (.int v4), .val (.int nw), .val (.int cl), .val (.int nn), .val (.int rm), .val (.int ex), .val (.ref r), .val (.long sm), .second, .val (.long ct), .second, .val (.int mn), .unset, .unset, .unset, .unset] [])) _
  refine XS.iload X0.here hx rfl (hb hby at_91) rfl ?_
  show Steps p.tables e below (T0.setTop (mkF m 93 #[.val (.int v1), .val (.int v2), .val (.int v3), .val (.int v4), .val (.int nw), .val (.int cl), .val (.int nn), .val (.int rm), .val (.int ex), .val (.ref r), .val (.long sm), .second, .val (.long ct), .second, .val (.int mn), .unset, .unset, .unset, .unset] [(.int nn)])) _
  refine XS.iconst X0.here hx rfl (hb hby at_93) ?_
  show Steps p.tables e below (T0.setTop (mkF m 94 #[.val (.int v1), .val (.int v2), .val (.int v3), .val (.int v4), .val (.int nw), .val (.int cl), .val (.int nn), .val (.int rm), .val (.int ex), .val (.ref r), .val (.long sm), .second, .val (.long ct), .second, .val (.int mn), .unset, .unset, .unset, .unset] [(.int (2 : Int32)), (.int nn)])) _
  refine XS.icmpYes X0.here hx rfl (pc0 := 94) (pc' := 125) rfl (hb hby at_94) rfl (tlt hn).1 (by decide) (by decide) ?_
  show Steps p.tables e below (T0.setTop (mkF m 125 #[.val (.int v1), .val (.int v2), .val (.int v3), .val (.int v4), .val (.int nw), .val (.int cl), .val (.int nn), .val (.int rm), .val (.int ex), .val (.ref r), .val (.long sm), .second, .val (.long ct), .second, .val (.int mn), .unset, .unset, .unset, .unset] [])) _
  exact ht
set_option maxRecDepth 65536 in
set_option maxHeartbeats 40000000 in
theorem law_a2 (l : Launch) (Z : State) (a0 : Array Value) (hw : ∀ d ∈ tables_1, d.before a0 Z = true) {p : Program} {e : Env} {s : State} {m : MethodId} {args : Array Value} {below : List Frame} {meth : Method} {c : Code} (hx : p.tables.exec = Jvm.exec) (hZ : Z.Warmed39 s.vm) (hby : c.code = code) (hml : c.maxLocals = 19) (hown : s.vm.findClass "com/example/orrery/orrery/policy/RunningEndsLeftAtPinLaw" = some m.cls) {T0 : State} {locs0 : List Loc} {R : Room} {cells0 slots0 : Nat} (X0 : Stand p l e R s m args below meth c T0 locs0 cells0 slots0) (v1 v2 v3 v4 nw cl : Int32) (nn rm ex : Int32) (r : Addr) (sm ct : Int64) (mn : Int32) (P : Heap → Prop) (h0 : Heap) (n0 : Nat) (e0 : T0.heap = h0) (Z0 : n0 ≤ h0.size) (N0 : Fr n0 locs0) (hRf : 2 ≤ R.frames) (hRl : 34 ≤ R.locals) (hRc : cells0 + 1 ≤ R.cells) (hRs : slots0 + 4 ≤ R.slots) (hn : ¬ (nn < (2 : Int32))) (E_r : Exa Z h0 r "com/example/orrery/orrery/policy/RunningEnds") (hC : MetFree l (⟨"com/example/orrery/orrery/policy/RunningEnds", "add", "(D)V"⟩ : MethodName) (head1 [Jvm.Cond.code (⟨"com/example/orrery/orrery/policy/RunningEnds", "add", "(D)V"⟩ : MethodName) prog_11_method_3_code 5 none] ({ frames := 1, cells := 1, slots := 4, locals := 18 } : Room)) (fun a U => a = #[(.ref r), (.double (FP.l2d (Int32.toInt64 v2)))] ∧ Z.Warmed39 U.vm ∧ U.heap = h0) (fun _ _ _ _ _ => True) (fun _ U o U' => ∃ v L, o = .returned v ∧ QP P n0 v U'.heap L ∧ FrameEnd U o U' L ({ frames := 1, cells := 1, slots := 4, locals := 18 } : Room).cells ({ frames := 1, cells := 1, slots := 4, locals := 18 } : Room).slots)) :
    ∃ (T1 : State) (h1 : Heap) (locs1 : List Loc), Stand p l e R s m args below meth c T1 locs1 (cells0 + 1) (slots0 + 4) ∧ T1.heap = h1 ∧ n0 ≤ h1.size ∧ Fr n0 locs1 ∧ (P h1) ∧ ∀ t, Steps p.tables e below (T1.setTop (mkF m 125 #[.val (.int v1), .val (.int v2), .val (.int v3), .val (.int v4), .val (.int nw), .val (.int cl), .val (.int nn), .val (.int rm), .val (.int ex), .val (.ref r), .val (.long (sm + (Int32.toInt64 v2))), .second, .val (.long (ct + (1 : Int64))), .second, .val (.int (own_min mn v2)), .unset, .unset, .unset, .unset] [])) t → Steps p.tables e below (T0.setTop (mkF m 91 #[.val (.int v1), .val (.int v2), .val (.int v3), .val (.int v4), .val (.int nw), .val (.int cl), .val (.int nn), .val (.int rm), .val (.int ex), .val (.ref r), .val (.long sm), .second, .val (.long ct), .second, .val (.int mn), .unset, .unset, .unset, .unset] [])) t := by
  obtain ⟨cq1, kq1, qa1, qb1, qc1⟩ := isOf hZ e0 E_r
  obtain ⟨_, _, ⟨T1, L1, k1, n1⟩, -, X1, ⟨Lc1, hQ1, l1, y1, z1⟩, st1⟩ := X0.virtualBack hx (y := (⟨"com/example/orrery/orrery/policy/RunningEnds", "add", "(D)V"⟩ : MethodName)) (z := (⟨"com/example/orrery/orrery/policy/RunningEnds", "add", "(D)V"⟩ : MethodName)) hown (mvT hZ (hw _ (List.mem_of_getElem? (i := 13) rfl))) (mvT hZ (hw _ (List.mem_of_getElem? (i := 14) rfl))) (notFace_of_selects (args := #[]) (mvT hZ (hw _ (List.mem_of_getElem? (i := 16) rfl)))) (mvT hZ (hw _ (List.mem_of_getElem? (i := 16) rfl))) (mvT hZ (hw _ (List.mem_of_getElem? (i := 15) rfl))) (by decide) (backOf (W := 0) (hC) hZ (hw _ (List.mem_of_getElem? (i := 17) rfl)) (hw _ (List.mem_of_getElem? (i := 2) rfl)) (Nat.le_trans (by decide : _ ≤ 2) hRf) (Nat.le_trans (by decide : _ ≤ 34) hRl)) qa1 qc1 (g := (mkF m 101 #[.val (.int v1), .val (.int v2), .val (.int v3), .val (.int v4), .val (.int nw), .val (.int cl), .val (.int nn), .val (.int rm), .val (.int ex), .val (.ref r), .val (.long sm), .second, .val (.long ct), .second, .val (.int mn), .unset, .unset, .unset, .unset] [(.double (FP.l2d (Int32.toInt64 v2))), (.ref r)])) rfl (by rw [hml]; rfl) (Steps.refl _) (argsL := [(.double (FP.l2d (Int32.toInt64 v2)))]) (rest := []) (lenOf pd2 rfl) rfl (by show 2 * 0 + _ ≤ _; exact Nat.le_of_eq rfl) (hb hby at_101) (fun _ _ => ⟨rfl, e0, (by show cells0 + 0 + 1 ≤ _; omega), (by show slots0 + 0 + 4 ≤ _; omega)⟩)
  dsimp only [Pt.U, Pt.locs, Pt.cells, Pt.slots] at X1 l1 y1 z1 st1 hQ1
  subst l1 y1 z1
  obtain ⟨rfl, Nc1, Zq1, P1⟩ := hQ1
  have N1 := Fr.app N0 Nc1
  obtain ⟨_, _, ⟨T2, L2, k2, n2⟩, -, X2, ⟨Lc2, hQ2, l2, y2, z2⟩, st2⟩ := Jvm.LawKit.callS X1 hx (y := (⟨"java/lang/Math", "min", "(II)I"⟩ : MethodName)) hown (mvT hZ (hw _ (List.mem_of_getElem? (i := 26) rfl))) (mvT hZ (hw _ (List.mem_of_getElem? (i := 27) rfl))) (mvT hZ (hw _ (List.mem_of_getElem? (i := 28) rfl))) (mvT hZ (hw _ (List.mem_of_getElem? (i := 29) rfl))) (by decide) (backOf (W := 0) (rmMin l Z a0 hw [] mn v2 T1.heap n0 Zq1) hZ (hw _ (List.mem_of_getElem? (i := 29) rfl)) (hw _ (List.mem_of_getElem? (i := 28) rfl)) (Nat.le_trans (by decide : _ ≤ 2) hRf) (Nat.le_trans (by decide : _ ≤ 34) hRl)) (g := (mkF m 120 #[.val (.int v1), .val (.int v2), .val (.int v3), .val (.int v4), .val (.int nw), .val (.int cl), .val (.int nn), .val (.int rm), .val (.int ex), .val (.ref r), .val (.long (sm + (Int32.toInt64 v2))), .second, .val (.long (ct + (1 : Int64))), .second, .val (.int mn), .unset, .unset, .unset, .unset] [(.int v2), (.int mn)])) rfl (by rw [hml]; rfl) (argsL := [(.int mn), (.int v2)]) (rest := []) (lenOf pd3 rfl) rfl (by show 2 * 0 + _ ≤ _; exact Nat.le_of_eq rfl) (hb hby at_120) (fun _ _ => ⟨rfl, rfl, (by show cells0 + 1 + 0 ≤ _; omega), (by show slots0 + 4 + 0 ≤ _; omega)⟩)
  dsimp only [Pt.U, Pt.locs, Pt.cells, Pt.slots] at X2 l2 y2 z2 st2 hQ2
  subst l2 y2 z2
  obtain ⟨rfl, Nc2, ec2⟩ := hQ2
  have N2 := Fr.app N1 Nc2
  refine ⟨T2, T1.heap, _, X2, ec2, Zq1, N2, P1, fun t ht => ?_⟩
  show Steps p.tables e below (T0.setTop (mkF m 91 #[.val (.int v1), .val (.int v2), .val (.int v3), .val (.int v4), .val (.int nw), .val (.int cl), .val (.int nn), .val (.int rm), .val (.int ex), .val (.ref r), .val (.long sm), .second, .val (.long ct), .second, .val (.int mn), .unset, .unset, .unset, .unset] [])) _
  refine XS.iload X0.here hx rfl (hb hby at_91) rfl ?_
  show Steps p.tables e below (T0.setTop (mkF m 93 #[.val (.int v1), .val (.int v2), .val (.int v3), .val (.int v4), .val (.int nw), .val (.int cl), .val (.int nn), .val (.int rm), .val (.int ex), .val (.ref r), .val (.long sm), .second, .val (.long ct), .second, .val (.int mn), .unset, .unset, .unset, .unset] [(.int nn)])) _
  refine XS.iconst X0.here hx rfl (hb hby at_93) ?_
  show Steps p.tables e below (T0.setTop (mkF m 94 #[.val (.int v1), .val (.int v2), .val (.int v3), .val (.int v4), .val (.int nw), .val (.int cl), .val (.int nn), .val (.int rm), .val (.int ex), .val (.ref r), .val (.long sm), .second, .val (.long ct), .second, .val (.int mn), .unset, .unset, .unset, .unset] [(.int (2 : Int32)), (.int nn)])) _
  refine XS.icmpNo X0.here hx rfl (hb hby at_94) rfl (flt hn).1 ?_
  show Steps p.tables e below (T0.setTop (mkF m 97 #[.val (.int v1), .val (.int v2), .val (.int v3), .val (.int v4), .val (.int nw), .val (.int cl), .val (.int nn), .val (.int rm), .val (.int ex), .val (.ref r), .val (.long sm), .second, .val (.long ct), .second, .val (.int mn), .unset, .unset, .unset, .unset] [])) _
  refine XS.aload X0.here hx rfl (hb hby at_97) rfl rfl ?_
  show Steps p.tables e below (T0.setTop (mkF m 99 #[.val (.int v1), .val (.int v2), .val (.int v3), .val (.int v4), .val (.int nw), .val (.int cl), .val (.int nn), .val (.int rm), .val (.int ex), .val (.ref r), .val (.long sm), .second, .val (.long ct), .second, .val (.int mn), .unset, .unset, .unset, .unset] [(.ref r)])) _
  refine XS.iloadN X0.here hx rfl (hb hby at_99) rfl ?_
  show Steps p.tables e below (T0.setTop (mkF m 100 #[.val (.int v1), .val (.int v2), .val (.int v3), .val (.int v4), .val (.int nw), .val (.int cl), .val (.int nn), .val (.int rm), .val (.int ex), .val (.ref r), .val (.long sm), .second, .val (.long ct), .second, .val (.int mn), .unset, .unset, .unset, .unset] [(.int v2), (.ref r)])) _
  refine XS.i2dS X0.here hx rfl (v := (FP.l2d (Int32.toInt64 v2))) (hb hby at_100) rfl (i2d_w v2) ?_
  show Steps p.tables e below (T0.setTop (mkF m 101 #[.val (.int v1), .val (.int v2), .val (.int v3), .val (.int v4), .val (.int nw), .val (.int cl), .val (.int nn), .val (.int rm), .val (.int ex), .val (.ref r), .val (.long sm), .second, .val (.long ct), .second, .val (.int mn), .unset, .unset, .unset, .unset] [(.double (FP.l2d (Int32.toInt64 v2))), (.ref r)])) _
  refine st1.trans ?_
  show Steps p.tables e below (T1.setTop (mkF m 104 #[.val (.int v1), .val (.int v2), .val (.int v3), .val (.int v4), .val (.int nw), .val (.int cl), .val (.int nn), .val (.int rm), .val (.int ex), .val (.ref r), .val (.long sm), .second, .val (.long ct), .second, .val (.int mn), .unset, .unset, .unset, .unset] [])) _
  refine XS.lload X1.here hx rfl (hb hby at_104) rfl ?_
  show Steps p.tables e below (T1.setTop (mkF m 106 #[.val (.int v1), .val (.int v2), .val (.int v3), .val (.int v4), .val (.int nw), .val (.int cl), .val (.int nn), .val (.int rm), .val (.int ex), .val (.ref r), .val (.long sm), .second, .val (.long ct), .second, .val (.int mn), .unset, .unset, .unset, .unset] [(.long sm)])) _
  refine XS.iloadN X1.here hx rfl (hb hby at_106) rfl ?_
  show Steps p.tables e below (T1.setTop (mkF m 107 #[.val (.int v1), .val (.int v2), .val (.int v3), .val (.int v4), .val (.int nw), .val (.int cl), .val (.int nn), .val (.int rm), .val (.int ex), .val (.ref r), .val (.long sm), .second, .val (.long ct), .second, .val (.int mn), .unset, .unset, .unset, .unset] [(.int v2), (.long sm)])) _
  refine XS.i2l X1.here hx rfl (hb hby at_107) rfl ?_
  show Steps p.tables e below (T1.setTop (mkF m 108 #[.val (.int v1), .val (.int v2), .val (.int v3), .val (.int v4), .val (.int nw), .val (.int cl), .val (.int nn), .val (.int rm), .val (.int ex), .val (.ref r), .val (.long sm), .second, .val (.long ct), .second, .val (.int mn), .unset, .unset, .unset, .unset] [(.long (Int32.toInt64 v2)), (.long sm)])) _
  refine XS.ladd X1.here hx rfl (hb hby at_108) rfl ?_
  show Steps p.tables e below (T1.setTop (mkF m 109 #[.val (.int v1), .val (.int v2), .val (.int v3), .val (.int v4), .val (.int nw), .val (.int cl), .val (.int nn), .val (.int rm), .val (.int ex), .val (.ref r), .val (.long sm), .second, .val (.long ct), .second, .val (.int mn), .unset, .unset, .unset, .unset] [(.long (sm + (Int32.toInt64 v2)))])) _
  refine XS.lstore X1.here hx rfl (hb hby at_109) rfl (l' := #[.val (.int v1), .val (.int v2), .val (.int v3), .val (.int v4), .val (.int nw), .val (.int cl), .val (.int nn), .val (.int rm), .val (.int ex), .val (.ref r), .val (.long (sm + (Int32.toInt64 v2))), .second, .val (.long ct), .second, .val (.int mn), .unset, .unset, .unset, .unset]) rfl ?_
  show Steps p.tables e below (T1.setTop (mkF m 111 #[.val (.int v1), .val (.int v2), .val (.int v3), .val (.int v4), .val (.int nw), .val (.int cl), .val (.int nn), .val (.int rm), .val (.int ex), .val (.ref r), .val (.long (sm + (Int32.toInt64 v2))), .second, .val (.long ct), .second, .val (.int mn), .unset, .unset, .unset, .unset] [])) _
  refine XS.lload X1.here hx rfl (hb hby at_111) rfl ?_
  show Steps p.tables e below (T1.setTop (mkF m 113 #[.val (.int v1), .val (.int v2), .val (.int v3), .val (.int v4), .val (.int nw), .val (.int cl), .val (.int nn), .val (.int rm), .val (.int ex), .val (.ref r), .val (.long (sm + (Int32.toInt64 v2))), .second, .val (.long ct), .second, .val (.int mn), .unset, .unset, .unset, .unset] [(.long ct)])) _
  refine XS.lconst X1.here hx rfl (hb hby at_113) ?_
  show Steps p.tables e below (T1.setTop (mkF m 114 #[.val (.int v1), .val (.int v2), .val (.int v3), .val (.int v4), .val (.int nw), .val (.int cl), .val (.int nn), .val (.int rm), .val (.int ex), .val (.ref r), .val (.long (sm + (Int32.toInt64 v2))), .second, .val (.long ct), .second, .val (.int mn), .unset, .unset, .unset, .unset] [(.long (1 : Int64)), (.long ct)])) _
  refine XS.ladd X1.here hx rfl (hb hby at_114) rfl ?_
  show Steps p.tables e below (T1.setTop (mkF m 115 #[.val (.int v1), .val (.int v2), .val (.int v3), .val (.int v4), .val (.int nw), .val (.int cl), .val (.int nn), .val (.int rm), .val (.int ex), .val (.ref r), .val (.long (sm + (Int32.toInt64 v2))), .second, .val (.long ct), .second, .val (.int mn), .unset, .unset, .unset, .unset] [(.long (ct + (1 : Int64)))])) _
  refine XS.lstore X1.here hx rfl (hb hby at_115) rfl (l' := #[.val (.int v1), .val (.int v2), .val (.int v3), .val (.int v4), .val (.int nw), .val (.int cl), .val (.int nn), .val (.int rm), .val (.int ex), .val (.ref r), .val (.long (sm + (Int32.toInt64 v2))), .second, .val (.long (ct + (1 : Int64))), .second, .val (.int mn), .unset, .unset, .unset, .unset]) rfl ?_
  show Steps p.tables e below (T1.setTop (mkF m 117 #[.val (.int v1), .val (.int v2), .val (.int v3), .val (.int v4), .val (.int nw), .val (.int cl), .val (.int nn), .val (.int rm), .val (.int ex), .val (.ref r), .val (.long (sm + (Int32.toInt64 v2))), .second, .val (.long (ct + (1 : Int64))), .second, .val (.int mn), .unset, .unset, .unset, .unset] [])) _
  refine XS.iload X1.here hx rfl (hb hby at_117) rfl ?_
  show Steps p.tables e below (T1.setTop (mkF m 119 #[.val (.int v1), .val (.int v2), .val (.int v3), .val (.int v4), .val (.int nw), .val (.int cl), .val (.int nn), .val (.int rm), .val (.int ex), .val (.ref r), .val (.long (sm + (Int32.toInt64 v2))), .second, .val (.long (ct + (1 : Int64))), .second, .val (.int mn), .unset, .unset, .unset, .unset] [(.int mn)])) _
  refine XS.iloadN X1.here hx rfl (hb hby at_119) rfl ?_
  show Steps p.tables e below (T1.setTop (mkF m 120 #[.val (.int v1), .val (.int v2), .val (.int v3), .val (.int v4), .val (.int nw), .val (.int cl), .val (.int nn), .val (.int rm), .val (.int ex), .val (.ref r), .val (.long (sm + (Int32.toInt64 v2))), .second, .val (.long (ct + (1 : Int64))), .second, .val (.int mn), .unset, .unset, .unset, .unset] [(.int v2), (.int mn)])) _
  refine st2 _ ?_
  show Steps p.tables e below (T2.setTop (mkF m 123 #[.val (.int v1), .val (.int v2), .val (.int v3), .val (.int v4), .val (.int nw), .val (.int cl), .val (.int nn), .val (.int rm), .val (.int ex), .val (.ref r), .val (.long (sm + (Int32.toInt64 v2))), .second, .val (.long (ct + (1 : Int64))), .second, .val (.int mn), .unset, .unset, .unset, .unset] [(.int (own_min mn v2))])) _
  refine XS.istore X2.here hx rfl (hb hby at_123) rfl (l' := #[.val (.int v1), .val (.int v2), .val (.int v3), .val (.int v4), .val (.int nw), .val (.int cl), .val (.int nn), .val (.int rm), .val (.int ex), .val (.ref r), .val (.long (sm + (Int32.toInt64 v2))), .second, .val (.long (ct + (1 : Int64))), .second, .val (.int (own_min mn v2)), .unset, .unset, .unset, .unset]) rfl ?_
  show Steps p.tables e below (T2.setTop (mkF m 125 #[.val (.int v1), .val (.int v2), .val (.int v3), .val (.int v4), .val (.int nw), .val (.int cl), .val (.int nn), .val (.int rm), .val (.int ex), .val (.ref r), .val (.long (sm + (Int32.toInt64 v2))), .second, .val (.long (ct + (1 : Int64))), .second, .val (.int (own_min mn v2)), .unset, .unset, .unset, .unset] [])) _
  exact ht
set_option maxRecDepth 65536 in
set_option maxHeartbeats 40000000 in
theorem law_s3 (l : Launch) (Z : State) (a0 : Array Value) (hw : ∀ d ∈ tables_1, d.before a0 Z = true) {p : Program} {e : Env} {s : State} {m : MethodId} {args : Array Value} {below : List Frame} {meth : Method} {c : Code} (hx : p.tables.exec = Jvm.exec) (hZ : Z.Warmed39 s.vm) (hby : c.code = code) (hml : c.maxLocals = 19) (hown : s.vm.findClass "com/example/orrery/orrery/policy/RunningEndsLeftAtPinLaw" = some m.cls) {T0 : State} {locs0 : List Loc} {R : Room} {cells0 slots0 : Nat} (X0 : Stand p l e R s m args below meth c T0 locs0 cells0 slots0) (v1 v2 v3 v4 nw cl : Int32) (nn rm ex : Int32) (r : Addr) (sm ct : Int64) (mn : Int32) (h0 : Heap) (n0 : Nat) (e0 : T0.heap = h0) (Z0 : n0 ≤ h0.size) (N0 : Fr n0 locs0) (hn : nn < (3 : Int32)) :
    ∃ (T1 : State) (locs1 : List Loc), Stand p l e R s m args below meth c T1 locs1 cells0 slots0 ∧ T1.heap = h0 ∧ Fr n0 locs1 ∧ ∀ t, Steps p.tables e below (T1.setTop (mkF m 159 #[.val (.int v1), .val (.int v2), .val (.int v3), .val (.int v4), .val (.int nw), .val (.int cl), .val (.int nn), .val (.int rm), .val (.int ex), .val (.ref r), .val (.long sm), .second, .val (.long ct), .second, .val (.int mn), .unset, .unset, .unset, .unset] [])) t → Steps p.tables e below (T0.setTop (mkF m 125 #[.val (.int v1), .val (.int v2), .val (.int v3), .val (.int v4), .val (.int nw), .val (.int cl), .val (.int nn), .val (.int rm), .val (.int ex), .val (.ref r), .val (.long sm), .second, .val (.long ct), .second, .val (.int mn), .unset, .unset, .unset, .unset] [])) t := by
  refine ⟨T0, _, X0, e0, N0, fun t ht => ?_⟩
  show Steps p.tables e below (T0.setTop (mkF m 125 #[.val (.int v1), .val (.int v2), .val (.int v3), .val (.int v4), .val (.int nw), .val (.int cl), .val (.int nn), .val (.int rm), .val (.int ex), .val (.ref r), .val (.long sm), .second, .val (.long ct), .second, .val (.int mn), .unset, .unset, .unset, .unset] [])) _
  refine XS.iload X0.here hx rfl (hb hby at_125) rfl ?_
  show Steps p.tables e below (T0.setTop (mkF m 127 #[.val (.int v1), .val (.int v2), .val (.int v3), .val (.int v4), .val (.int nw), .val (.int cl), .val (.int nn), .val (.int rm), .val (.int ex), .val (.ref r), .val (.long sm), .second, .val (.long ct), .second, .val (.int mn), .unset, .unset, .unset, .unset] [(.int nn)])) _
  refine XS.iconst X0.here hx rfl (hb hby at_127) ?_
  show Steps p.tables e below (T0.setTop (mkF m 128 #[.val (.int v1), .val (.int v2), .val (.int v3), .val (.int v4), .val (.int nw), .val (.int cl), .val (.int nn), .val (.int rm), .val (.int ex), .val (.ref r), .val (.long sm), .second, .val (.long ct), .second, .val (.int mn), .unset, .unset, .unset, .unset] [(.int (3 : Int32)), (.int nn)])) _
  refine XS.icmpYes X0.here hx rfl (pc0 := 128) (pc' := 159) rfl (hb hby at_128) rfl (tlt hn).1 (by decide) (by decide) ?_
  show Steps p.tables e below (T0.setTop (mkF m 159 #[.val (.int v1), .val (.int v2), .val (.int v3), .val (.int v4), .val (.int nw), .val (.int cl), .val (.int nn), .val (.int rm), .val (.int ex), .val (.ref r), .val (.long sm), .second, .val (.long ct), .second, .val (.int mn), .unset, .unset, .unset, .unset] [])) _
  exact ht
set_option maxRecDepth 65536 in
set_option maxHeartbeats 40000000 in
theorem law_a3 (l : Launch) (Z : State) (a0 : Array Value) (hw : ∀ d ∈ tables_1, d.before a0 Z = true) {p : Program} {e : Env} {s : State} {m : MethodId} {args : Array Value} {below : List Frame} {meth : Method} {c : Code} (hx : p.tables.exec = Jvm.exec) (hZ : Z.Warmed39 s.vm) (hby : c.code = code) (hml : c.maxLocals = 19) (hown : s.vm.findClass "com/example/orrery/orrery/policy/RunningEndsLeftAtPinLaw" = some m.cls) {T0 : State} {locs0 : List Loc} {R : Room} {cells0 slots0 : Nat} (X0 : Stand p l e R s m args below meth c T0 locs0 cells0 slots0) (v1 v2 v3 v4 nw cl : Int32) (nn rm ex : Int32) (r : Addr) (sm ct : Int64) (mn : Int32) (P : Heap → Prop) (h0 : Heap) (n0 : Nat) (e0 : T0.heap = h0) (Z0 : n0 ≤ h0.size) (N0 : Fr n0 locs0) (hRf : 2 ≤ R.frames) (hRl : 34 ≤ R.locals) (hRc : cells0 + 1 ≤ R.cells) (hRs : slots0 + 4 ≤ R.slots) (hn : ¬ (nn < (3 : Int32))) (E_r : Exa Z h0 r "com/example/orrery/orrery/policy/RunningEnds") (hC : MetFree l (⟨"com/example/orrery/orrery/policy/RunningEnds", "add", "(D)V"⟩ : MethodName) (head1 [Jvm.Cond.code (⟨"com/example/orrery/orrery/policy/RunningEnds", "add", "(D)V"⟩ : MethodName) prog_11_method_3_code 5 none] ({ frames := 1, cells := 1, slots := 4, locals := 18 } : Room)) (fun a U => a = #[(.ref r), (.double (FP.l2d (Int32.toInt64 v3)))] ∧ Z.Warmed39 U.vm ∧ U.heap = h0) (fun _ _ _ _ _ => True) (fun _ U o U' => ∃ v L, o = .returned v ∧ QP P n0 v U'.heap L ∧ FrameEnd U o U' L ({ frames := 1, cells := 1, slots := 4, locals := 18 } : Room).cells ({ frames := 1, cells := 1, slots := 4, locals := 18 } : Room).slots)) :
    ∃ (T1 : State) (h1 : Heap) (locs1 : List Loc), Stand p l e R s m args below meth c T1 locs1 (cells0 + 1) (slots0 + 4) ∧ T1.heap = h1 ∧ n0 ≤ h1.size ∧ Fr n0 locs1 ∧ (P h1) ∧ ∀ t, Steps p.tables e below (T1.setTop (mkF m 159 #[.val (.int v1), .val (.int v2), .val (.int v3), .val (.int v4), .val (.int nw), .val (.int cl), .val (.int nn), .val (.int rm), .val (.int ex), .val (.ref r), .val (.long (sm + (Int32.toInt64 v3))), .second, .val (.long (ct + (1 : Int64))), .second, .val (.int (own_min mn v3)), .unset, .unset, .unset, .unset] [])) t → Steps p.tables e below (T0.setTop (mkF m 125 #[.val (.int v1), .val (.int v2), .val (.int v3), .val (.int v4), .val (.int nw), .val (.int cl), .val (.int nn), .val (.int rm), .val (.int ex), .val (.ref r), .val (.long sm), .second, .val (.long ct), .second, .val (.int mn), .unset, .unset, .unset, .unset] [])) t := by
  obtain ⟨cq1, kq1, qa1, qb1, qc1⟩ := isOf hZ e0 E_r
  obtain ⟨_, _, ⟨T1, L1, k1, n1⟩, -, X1, ⟨Lc1, hQ1, l1, y1, z1⟩, st1⟩ := X0.virtualBack hx (y := (⟨"com/example/orrery/orrery/policy/RunningEnds", "add", "(D)V"⟩ : MethodName)) (z := (⟨"com/example/orrery/orrery/policy/RunningEnds", "add", "(D)V"⟩ : MethodName)) hown (mvT hZ (hw _ (List.mem_of_getElem? (i := 13) rfl))) (mvT hZ (hw _ (List.mem_of_getElem? (i := 14) rfl))) (notFace_of_selects (args := #[]) (mvT hZ (hw _ (List.mem_of_getElem? (i := 16) rfl)))) (mvT hZ (hw _ (List.mem_of_getElem? (i := 16) rfl))) (mvT hZ (hw _ (List.mem_of_getElem? (i := 15) rfl))) (by decide) (backOf (W := 0) (hC) hZ (hw _ (List.mem_of_getElem? (i := 17) rfl)) (hw _ (List.mem_of_getElem? (i := 2) rfl)) (Nat.le_trans (by decide : _ ≤ 2) hRf) (Nat.le_trans (by decide : _ ≤ 34) hRl)) qa1 qc1 (g := (mkF m 135 #[.val (.int v1), .val (.int v2), .val (.int v3), .val (.int v4), .val (.int nw), .val (.int cl), .val (.int nn), .val (.int rm), .val (.int ex), .val (.ref r), .val (.long sm), .second, .val (.long ct), .second, .val (.int mn), .unset, .unset, .unset, .unset] [(.double (FP.l2d (Int32.toInt64 v3))), (.ref r)])) rfl (by rw [hml]; rfl) (Steps.refl _) (argsL := [(.double (FP.l2d (Int32.toInt64 v3)))]) (rest := []) (lenOf pd2 rfl) rfl (by show 2 * 0 + _ ≤ _; exact Nat.le_of_eq rfl) (hb hby at_135) (fun _ _ => ⟨rfl, e0, (by show cells0 + 0 + 1 ≤ _; omega), (by show slots0 + 0 + 4 ≤ _; omega)⟩)
  dsimp only [Pt.U, Pt.locs, Pt.cells, Pt.slots] at X1 l1 y1 z1 st1 hQ1
  subst l1 y1 z1
  obtain ⟨rfl, Nc1, Zq1, P1⟩ := hQ1
  have N1 := Fr.app N0 Nc1
  obtain ⟨_, _, ⟨T2, L2, k2, n2⟩, -, X2, ⟨Lc2, hQ2, l2, y2, z2⟩, st2⟩ := Jvm.LawKit.callS X1 hx (y := (⟨"java/lang/Math", "min", "(II)I"⟩ : MethodName)) hown (mvT hZ (hw _ (List.mem_of_getElem? (i := 26) rfl))) (mvT hZ (hw _ (List.mem_of_getElem? (i := 27) rfl))) (mvT hZ (hw _ (List.mem_of_getElem? (i := 28) rfl))) (mvT hZ (hw _ (List.mem_of_getElem? (i := 29) rfl))) (by decide) (backOf (W := 0) (rmMin l Z a0 hw [] mn v3 T1.heap n0 Zq1) hZ (hw _ (List.mem_of_getElem? (i := 29) rfl)) (hw _ (List.mem_of_getElem? (i := 28) rfl)) (Nat.le_trans (by decide : _ ≤ 2) hRf) (Nat.le_trans (by decide : _ ≤ 34) hRl)) (g := (mkF m 154 #[.val (.int v1), .val (.int v2), .val (.int v3), .val (.int v4), .val (.int nw), .val (.int cl), .val (.int nn), .val (.int rm), .val (.int ex), .val (.ref r), .val (.long (sm + (Int32.toInt64 v3))), .second, .val (.long (ct + (1 : Int64))), .second, .val (.int mn), .unset, .unset, .unset, .unset] [(.int v3), (.int mn)])) rfl (by rw [hml]; rfl) (argsL := [(.int mn), (.int v3)]) (rest := []) (lenOf pd3 rfl) rfl (by show 2 * 0 + _ ≤ _; exact Nat.le_of_eq rfl) (hb hby at_154) (fun _ _ => ⟨rfl, rfl, (by show cells0 + 1 + 0 ≤ _; omega), (by show slots0 + 4 + 0 ≤ _; omega)⟩)
  dsimp only [Pt.U, Pt.locs, Pt.cells, Pt.slots] at X2 l2 y2 z2 st2 hQ2
  subst l2 y2 z2
  obtain ⟨rfl, Nc2, ec2⟩ := hQ2
  have N2 := Fr.app N1 Nc2
  refine ⟨T2, T1.heap, _, X2, ec2, Zq1, N2, P1, fun t ht => ?_⟩
  show Steps p.tables e below (T0.setTop (mkF m 125 #[.val (.int v1), .val (.int v2), .val (.int v3), .val (.int v4), .val (.int nw), .val (.int cl), .val (.int nn), .val (.int rm), .val (.int ex), .val (.ref r), .val (.long sm), .second, .val (.long ct), .second, .val (.int mn), .unset, .unset, .unset, .unset] [])) _
  refine XS.iload X0.here hx rfl (hb hby at_125) rfl ?_
  show Steps p.tables e below (T0.setTop (mkF m 127 #[.val (.int v1), .val (.int v2), .val (.int v3), .val (.int v4), .val (.int nw), .val (.int cl), .val (.int nn), .val (.int rm), .val (.int ex), .val (.ref r), .val (.long sm), .second, .val (.long ct), .second, .val (.int mn), .unset, .unset, .unset, .unset] [(.int nn)])) _
  refine XS.iconst X0.here hx rfl (hb hby at_127) ?_
  show Steps p.tables e below (T0.setTop (mkF m 128 #[.val (.int v1), .val (.int v2), .val (.int v3), .val (.int v4), .val (.int nw), .val (.int cl), .val (.int nn), .val (.int rm), .val (.int ex), .val (.ref r), .val (.long sm), .second, .val (.long ct), .second, .val (.int mn), .unset, .unset, .unset, .unset] [(.int (3 : Int32)), (.int nn)])) _
  refine XS.icmpNo X0.here hx rfl (hb hby at_128) rfl (flt hn).1 ?_
  show Steps p.tables e below (T0.setTop (mkF m 131 #[.val (.int v1), .val (.int v2), .val (.int v3), .val (.int v4), .val (.int nw), .val (.int cl), .val (.int nn), .val (.int rm), .val (.int ex), .val (.ref r), .val (.long sm), .second, .val (.long ct), .second, .val (.int mn), .unset, .unset, .unset, .unset] [])) _
  refine XS.aload X0.here hx rfl (hb hby at_131) rfl rfl ?_
  show Steps p.tables e below (T0.setTop (mkF m 133 #[.val (.int v1), .val (.int v2), .val (.int v3), .val (.int v4), .val (.int nw), .val (.int cl), .val (.int nn), .val (.int rm), .val (.int ex), .val (.ref r), .val (.long sm), .second, .val (.long ct), .second, .val (.int mn), .unset, .unset, .unset, .unset] [(.ref r)])) _
  refine XS.iloadN X0.here hx rfl (hb hby at_133) rfl ?_
  show Steps p.tables e below (T0.setTop (mkF m 134 #[.val (.int v1), .val (.int v2), .val (.int v3), .val (.int v4), .val (.int nw), .val (.int cl), .val (.int nn), .val (.int rm), .val (.int ex), .val (.ref r), .val (.long sm), .second, .val (.long ct), .second, .val (.int mn), .unset, .unset, .unset, .unset] [(.int v3), (.ref r)])) _
  refine XS.i2dS X0.here hx rfl (v := (FP.l2d (Int32.toInt64 v3))) (hb hby at_134) rfl (i2d_w v3) ?_
  show Steps p.tables e below (T0.setTop (mkF m 135 #[.val (.int v1), .val (.int v2), .val (.int v3), .val (.int v4), .val (.int nw), .val (.int cl), .val (.int nn), .val (.int rm), .val (.int ex), .val (.ref r), .val (.long sm), .second, .val (.long ct), .second, .val (.int mn), .unset, .unset, .unset, .unset] [(.double (FP.l2d (Int32.toInt64 v3))), (.ref r)])) _
  refine st1.trans ?_
  show Steps p.tables e below (T1.setTop (mkF m 138 #[.val (.int v1), .val (.int v2), .val (.int v3), .val (.int v4), .val (.int nw), .val (.int cl), .val (.int nn), .val (.int rm), .val (.int ex), .val (.ref r), .val (.long sm), .second, .val (.long ct), .second, .val (.int mn), .unset, .unset, .unset, .unset] [])) _
  refine XS.lload X1.here hx rfl (hb hby at_138) rfl ?_
  show Steps p.tables e below (T1.setTop (mkF m 140 #[.val (.int v1), .val (.int v2), .val (.int v3), .val (.int v4), .val (.int nw), .val (.int cl), .val (.int nn), .val (.int rm), .val (.int ex), .val (.ref r), .val (.long sm), .second, .val (.long ct), .second, .val (.int mn), .unset, .unset, .unset, .unset] [(.long sm)])) _
  refine XS.iloadN X1.here hx rfl (hb hby at_140) rfl ?_
  show Steps p.tables e below (T1.setTop (mkF m 141 #[.val (.int v1), .val (.int v2), .val (.int v3), .val (.int v4), .val (.int nw), .val (.int cl), .val (.int nn), .val (.int rm), .val (.int ex), .val (.ref r), .val (.long sm), .second, .val (.long ct), .second, .val (.int mn), .unset, .unset, .unset, .unset] [(.int v3), (.long sm)])) _
  refine XS.i2l X1.here hx rfl (hb hby at_141) rfl ?_
  show Steps p.tables e below (T1.setTop (mkF m 142 #[.val (.int v1), .val (.int v2), .val (.int v3), .val (.int v4), .val (.int nw), .val (.int cl), .val (.int nn), .val (.int rm), .val (.int ex), .val (.ref r), .val (.long sm), .second, .val (.long ct), .second, .val (.int mn), .unset, .unset, .unset, .unset] [(.long (Int32.toInt64 v3)), (.long sm)])) _
  refine XS.ladd X1.here hx rfl (hb hby at_142) rfl ?_
  show Steps p.tables e below (T1.setTop (mkF m 143 #[.val (.int v1), .val (.int v2), .val (.int v3), .val (.int v4), .val (.int nw), .val (.int cl), .val (.int nn), .val (.int rm), .val (.int ex), .val (.ref r), .val (.long sm), .second, .val (.long ct), .second, .val (.int mn), .unset, .unset, .unset, .unset] [(.long (sm + (Int32.toInt64 v3)))])) _
  refine XS.lstore X1.here hx rfl (hb hby at_143) rfl (l' := #[.val (.int v1), .val (.int v2), .val (.int v3), .val (.int v4), .val (.int nw), .val (.int cl), .val (.int nn), .val (.int rm), .val (.int ex), .val (.ref r), .val (.long (sm + (Int32.toInt64 v3))), .second, .val (.long ct), .second, .val (.int mn), .unset, .unset, .unset, .unset]) rfl ?_
  show Steps p.tables e below (T1.setTop (mkF m 145 #[.val (.int v1), .val (.int v2), .val (.int v3), .val (.int v4), .val (.int nw), .val (.int cl), .val (.int nn), .val (.int rm), .val (.int ex), .val (.ref r), .val (.long (sm + (Int32.toInt64 v3))), .second, .val (.long ct), .second, .val (.int mn), .unset, .unset, .unset, .unset] [])) _
  refine XS.lload X1.here hx rfl (hb hby at_145) rfl ?_
  show Steps p.tables e below (T1.setTop (mkF m 147 #[.val (.int v1), .val (.int v2), .val (.int v3), .val (.int v4), .val (.int nw), .val (.int cl), .val (.int nn), .val (.int rm), .val (.int ex), .val (.ref r), .val (.long (sm + (Int32.toInt64 v3))), .second, .val (.long ct), .second, .val (.int mn), .unset, .unset, .unset, .unset] [(.long ct)])) _
  refine XS.lconst X1.here hx rfl (hb hby at_147) ?_
  show Steps p.tables e below (T1.setTop (mkF m 148 #[.val (.int v1), .val (.int v2), .val (.int v3), .val (.int v4), .val (.int nw), .val (.int cl), .val (.int nn), .val (.int rm), .val (.int ex), .val (.ref r), .val (.long (sm + (Int32.toInt64 v3))), .second, .val (.long ct), .second, .val (.int mn), .unset, .unset, .unset, .unset] [(.long (1 : Int64)), (.long ct)])) _
  refine XS.ladd X1.here hx rfl (hb hby at_148) rfl ?_
  show Steps p.tables e below (T1.setTop (mkF m 149 #[.val (.int v1), .val (.int v2), .val (.int v3), .val (.int v4), .val (.int nw), .val (.int cl), .val (.int nn), .val (.int rm), .val (.int ex), .val (.ref r), .val (.long (sm + (Int32.toInt64 v3))), .second, .val (.long ct), .second, .val (.int mn), .unset, .unset, .unset, .unset] [(.long (ct + (1 : Int64)))])) _
  refine XS.lstore X1.here hx rfl (hb hby at_149) rfl (l' := #[.val (.int v1), .val (.int v2), .val (.int v3), .val (.int v4), .val (.int nw), .val (.int cl), .val (.int nn), .val (.int rm), .val (.int ex), .val (.ref r), .val (.long (sm + (Int32.toInt64 v3))), .second, .val (.long (ct + (1 : Int64))), .second, .val (.int mn), .unset, .unset, .unset, .unset]) rfl ?_
  show Steps p.tables e below (T1.setTop (mkF m 151 #[.val (.int v1), .val (.int v2), .val (.int v3), .val (.int v4), .val (.int nw), .val (.int cl), .val (.int nn), .val (.int rm), .val (.int ex), .val (.ref r), .val (.long (sm + (Int32.toInt64 v3))), .second, .val (.long (ct + (1 : Int64))), .second, .val (.int mn), .unset, .unset, .unset, .unset] [])) _
  refine XS.iload X1.here hx rfl (hb hby at_151) rfl ?_
  show Steps p.tables e below (T1.setTop (mkF m 153 #[.val (.int v1), .val (.int v2), .val (.int v3), .val (.int v4), .val (.int nw), .val (.int cl), .val (.int nn), .val (.int rm), .val (.int ex), .val (.ref r), .val (.long (sm + (Int32.toInt64 v3))), .second, .val (.long (ct + (1 : Int64))), .second, .val (.int mn), .unset, .unset, .unset, .unset] [(.int mn)])) _
  refine XS.iloadN X1.here hx rfl (hb hby at_153) rfl ?_
  show Steps p.tables e below (T1.setTop (mkF m 154 #[.val (.int v1), .val (.int v2), .val (.int v3), .val (.int v4), .val (.int nw), .val (.int cl), .val (.int nn), .val (.int rm), .val (.int ex), .val (.ref r), .val (.long (sm + (Int32.toInt64 v3))), .second, .val (.long (ct + (1 : Int64))), .second, .val (.int mn), .unset, .unset, .unset, .unset] [(.int v3), (.int mn)])) _
  refine st2 _ ?_
  show Steps p.tables e below (T2.setTop (mkF m 157 #[.val (.int v1), .val (.int v2), .val (.int v3), .val (.int v4), .val (.int nw), .val (.int cl), .val (.int nn), .val (.int rm), .val (.int ex), .val (.ref r), .val (.long (sm + (Int32.toInt64 v3))), .second, .val (.long (ct + (1 : Int64))), .second, .val (.int mn), .unset, .unset, .unset, .unset] [(.int (own_min mn v3))])) _
  refine XS.istore X2.here hx rfl (hb hby at_157) rfl (l' := #[.val (.int v1), .val (.int v2), .val (.int v3), .val (.int v4), .val (.int nw), .val (.int cl), .val (.int nn), .val (.int rm), .val (.int ex), .val (.ref r), .val (.long (sm + (Int32.toInt64 v3))), .second, .val (.long (ct + (1 : Int64))), .second, .val (.int (own_min mn v3)), .unset, .unset, .unset, .unset]) rfl ?_
  show Steps p.tables e below (T2.setTop (mkF m 159 #[.val (.int v1), .val (.int v2), .val (.int v3), .val (.int v4), .val (.int nw), .val (.int cl), .val (.int nn), .val (.int rm), .val (.int ex), .val (.ref r), .val (.long (sm + (Int32.toInt64 v3))), .second, .val (.long (ct + (1 : Int64))), .second, .val (.int (own_min mn v3)), .unset, .unset, .unset, .unset] [])) _
  exact ht
set_option maxRecDepth 65536 in
set_option maxHeartbeats 40000000 in
theorem law_q0 (l : Launch) (Z : State) (a0 : Array Value) (hw : ∀ d ∈ tables_1, d.before a0 Z = true) {p : Program} {e : Env} {s : State} {m : MethodId} {args : Array Value} {below : List Frame} {meth : Method} {c : Code} (hx : p.tables.exec = Jvm.exec) (hZ : Z.Warmed39 s.vm) (hby : c.code = code) (hml : c.maxLocals = 19) (hown : s.vm.findClass "com/example/orrery/orrery/policy/RunningEndsLeftAtPinLaw" = some m.cls) {T0 : State} {locs0 : List Loc} {R : Room} {cells0 slots0 : Nat} (X0 : Stand p l e R s m args below meth c T0 locs0 cells0 slots0) (v1 v2 v3 v4 nw cl : Int32) (nn rm ex : Int32) (r : Addr) (sm ct : Int64) (mn : Int32) (h0 : Heap) (n0 : Nat) (e0 : T0.heap = h0) (Z0 : n0 ≤ h0.size) (N0 : Fr n0 locs0) (hr : rm = 0) :
    ∃ (T1 : State) (locs1 : List Loc), Stand p l e R s m args below meth c T1 locs1 cells0 slots0 ∧ T1.heap = h0 ∧ Fr n0 locs1 ∧ ∀ t, Steps p.tables e below (T1.setTop (mkF m 186 #[.val (.int v1), .val (.int v2), .val (.int v3), .val (.int v4), .val (.int nw), .val (.int cl), .val (.int nn), .val (.int rm), .val (.int ex), .val (.ref r), .val (.long sm), .second, .val (.long ct), .second, .val (.int mn), .unset, .unset, .unset, .unset] [])) t → Steps p.tables e below (T0.setTop (mkF m 159 #[.val (.int v1), .val (.int v2), .val (.int v3), .val (.int v4), .val (.int nw), .val (.int cl), .val (.int nn), .val (.int rm), .val (.int ex), .val (.ref r), .val (.long sm), .second, .val (.long ct), .second, .val (.int mn), .unset, .unset, .unset, .unset] [])) t := by
  refine ⟨T0, _, X0, e0, N0, fun t ht => ?_⟩
  show Steps p.tables e below (T0.setTop (mkF m 159 #[.val (.int v1), .val (.int v2), .val (.int v3), .val (.int v4), .val (.int nw), .val (.int cl), .val (.int nn), .val (.int rm), .val (.int ex), .val (.ref r), .val (.long sm), .second, .val (.long ct), .second, .val (.int mn), .unset, .unset, .unset, .unset] [])) _
  refine XS.iload X0.here hx rfl (hb hby at_159) rfl ?_
  show Steps p.tables e below (T0.setTop (mkF m 161 #[.val (.int v1), .val (.int v2), .val (.int v3), .val (.int v4), .val (.int nw), .val (.int cl), .val (.int nn), .val (.int rm), .val (.int ex), .val (.ref r), .val (.long sm), .second, .val (.long ct), .second, .val (.int mn), .unset, .unset, .unset, .unset] [(.int rm)])) _
  refine XS.ifYes X0.here hx rfl (pc0 := 161) (pc' := 186) rfl (hb hby at_161) rfl ((if0 _ _).trans (teq hr).1) (by decide) (by decide) ?_
  show Steps p.tables e below (T0.setTop (mkF m 186 #[.val (.int v1), .val (.int v2), .val (.int v3), .val (.int v4), .val (.int nw), .val (.int cl), .val (.int nn), .val (.int rm), .val (.int ex), .val (.ref r), .val (.long sm), .second, .val (.long ct), .second, .val (.int mn), .unset, .unset, .unset, .unset] [])) _
  exact ht
set_option maxRecDepth 65536 in
set_option maxHeartbeats 40000000 in
theorem law_q1 (l : Launch) (Z : State) (a0 : Array Value) (hw : ∀ d ∈ tables_1, d.before a0 Z = true) {p : Program} {e : Env} {s : State} {m : MethodId} {args : Array Value} {below : List Frame} {meth : Method} {c : Code} (hx : p.tables.exec = Jvm.exec) (hZ : Z.Warmed39 s.vm) (hby : c.code = code) (hml : c.maxLocals = 19) (hown : s.vm.findClass "com/example/orrery/orrery/policy/RunningEndsLeftAtPinLaw" = some m.cls) {T0 : State} {locs0 : List Loc} {R : Room} {cells0 slots0 : Nat} (X0 : Stand p l e R s m args below meth c T0 locs0 cells0 slots0) (v1 v2 v3 v4 nw cl : Int32) (nn rm ex : Int32) (r : Addr) (sm ct : Int64) (mn : Int32) (P : Heap → Prop) (h0 : Heap) (n0 : Nat) (e0 : T0.heap = h0) (Z0 : n0 ≤ h0.size) (N0 : Fr n0 locs0) (hRf : 1 ≤ R.frames) (hRl : 14 ≤ R.locals) (hRc : cells0 + 0 ≤ R.cells) (hRs : slots0 + 0 ≤ R.slots) (hr : ¬ (rm = 0)) (E_r : Exa Z h0 r "com/example/orrery/orrery/policy/RunningEnds") (hC : MetFree l (⟨"com/example/orrery/orrery/policy/RunningEnds", "removeFirst", "(D)V"⟩ : MethodName) (head1 [Jvm.Cond.code (⟨"com/example/orrery/orrery/policy/RunningEnds", "removeFirst", "(D)V"⟩ : MethodName) prog_11_method_4_code 3 none] ({ frames := 0, cells := 0, slots := 0, locals := 0 } : Room)) (fun a U => a = #[(.ref r), (.double (FP.l2d (Int32.toInt64 mn)))] ∧ Z.Warmed39 U.vm ∧ U.heap = h0) (fun _ _ _ _ _ => True) (fun _ U o U' => ∃ v L, o = .returned v ∧ QP P n0 v U'.heap L ∧ FrameEnd U o U' L ({ frames := 0, cells := 0, slots := 0, locals := 0 } : Room).cells ({ frames := 0, cells := 0, slots := 0, locals := 0 } : Room).slots)) :
    ∃ (T1 : State) (h1 : Heap) (locs1 : List Loc), Stand p l e R s m args below meth c T1 locs1 cells0 slots0 ∧ T1.heap = h1 ∧ n0 ≤ h1.size ∧ Fr n0 locs1 ∧ (P h1) ∧ ∀ t, Steps p.tables e below (T1.setTop (mkF m 186 #[.val (.int v1), .val (.int v2), .val (.int v3), .val (.int v4), .val (.int nw), .val (.int cl), .val (.int nn), .val (.int rm), .val (.int ex), .val (.ref r), .val (.long (sm - (Int32.toInt64 mn))), .second, .val (.long (ct - (1 : Int64))), .second, .val (.int mn), .unset, .unset, .unset, .unset] [])) t → Steps p.tables e below (T0.setTop (mkF m 159 #[.val (.int v1), .val (.int v2), .val (.int v3), .val (.int v4), .val (.int nw), .val (.int cl), .val (.int nn), .val (.int rm), .val (.int ex), .val (.ref r), .val (.long sm), .second, .val (.long ct), .second, .val (.int mn), .unset, .unset, .unset, .unset] [])) t := by
  obtain ⟨cq1, kq1, qa1, qb1, qc1⟩ := isOf hZ e0 E_r
  obtain ⟨_, _, ⟨T1, L1, k1, n1⟩, -, X1, ⟨Lc1, hQ1, l1, y1, z1⟩, st1⟩ := X0.virtualBack hx (y := (⟨"com/example/orrery/orrery/policy/RunningEnds", "removeFirst", "(D)V"⟩ : MethodName)) (z := (⟨"com/example/orrery/orrery/policy/RunningEnds", "removeFirst", "(D)V"⟩ : MethodName)) hown (mvT hZ (hw _ (List.mem_of_getElem? (i := 35) rfl))) (mvT hZ (hw _ (List.mem_of_getElem? (i := 36) rfl))) (notFace_of_selects (args := #[]) (mvT hZ (hw _ (List.mem_of_getElem? (i := 38) rfl)))) (mvT hZ (hw _ (List.mem_of_getElem? (i := 38) rfl))) (mvT hZ (hw _ (List.mem_of_getElem? (i := 37) rfl))) (by decide) (backOf (W := 0) (hC) hZ (hw _ (List.mem_of_getElem? (i := 39) rfl)) (hw _ (List.mem_of_getElem? (i := 2) rfl)) (Nat.le_trans (by decide : _ ≤ 1) hRf) (Nat.le_trans (by decide : _ ≤ 14) hRl)) qa1 qc1 (g := (mkF m 169 #[.val (.int v1), .val (.int v2), .val (.int v3), .val (.int v4), .val (.int nw), .val (.int cl), .val (.int nn), .val (.int rm), .val (.int ex), .val (.ref r), .val (.long sm), .second, .val (.long ct), .second, .val (.int mn), .unset, .unset, .unset, .unset] [(.double (FP.l2d (Int32.toInt64 mn))), (.ref r)])) rfl (by rw [hml]; rfl) (Steps.refl _) (argsL := [(.double (FP.l2d (Int32.toInt64 mn)))]) (rest := []) (lenOf pd2 rfl) rfl (by show 2 * 0 + _ ≤ _; exact Nat.le_of_eq rfl) (hb hby at_169) (fun _ _ => ⟨rfl, e0, (by show cells0 + 0 + 0 ≤ _; omega), (by show slots0 + 0 + 0 ≤ _; omega)⟩)
  dsimp only [Pt.U, Pt.locs, Pt.cells, Pt.slots] at X1 l1 y1 z1 st1 hQ1
  subst l1 y1 z1
  obtain ⟨rfl, Nc1, Zq1, P1⟩ := hQ1
  have N1 := Fr.app N0 Nc1
  refine ⟨T1, T1.heap, _, X1, rfl, Zq1, N1, P1, fun t ht => ?_⟩
  show Steps p.tables e below (T0.setTop (mkF m 159 #[.val (.int v1), .val (.int v2), .val (.int v3), .val (.int v4), .val (.int nw), .val (.int cl), .val (.int nn), .val (.int rm), .val (.int ex), .val (.ref r), .val (.long sm), .second, .val (.long ct), .second, .val (.int mn), .unset, .unset, .unset, .unset] [])) _
  refine XS.iload X0.here hx rfl (hb hby at_159) rfl ?_
  show Steps p.tables e below (T0.setTop (mkF m 161 #[.val (.int v1), .val (.int v2), .val (.int v3), .val (.int v4), .val (.int nw), .val (.int cl), .val (.int nn), .val (.int rm), .val (.int ex), .val (.ref r), .val (.long sm), .second, .val (.long ct), .second, .val (.int mn), .unset, .unset, .unset, .unset] [(.int rm)])) _
  refine XS.ifNo X0.here hx rfl (hb hby at_161) rfl ((if0 _ _).trans (feq hr).1) ?_
  show Steps p.tables e below (T0.setTop (mkF m 164 #[.val (.int v1), .val (.int v2), .val (.int v3), .val (.int v4), .val (.int nw), .val (.int cl), .val (.int nn), .val (.int rm), .val (.int ex), .val (.ref r), .val (.long sm), .second, .val (.long ct), .second, .val (.int mn), .unset, .unset, .unset, .unset] [])) _
  refine XS.aload X0.here hx rfl (hb hby at_164) rfl rfl ?_
  show Steps p.tables e below (T0.setTop (mkF m 166 #[.val (.int v1), .val (.int v2), .val (.int v3), .val (.int v4), .val (.int nw), .val (.int cl), .val (.int nn), .val (.int rm), .val (.int ex), .val (.ref r), .val (.long sm), .second, .val (.long ct), .second, .val (.int mn), .unset, .unset, .unset, .unset] [(.ref r)])) _
  refine XS.iload X0.here hx rfl (hb hby at_166) rfl ?_
  show Steps p.tables e below (T0.setTop (mkF m 168 #[.val (.int v1), .val (.int v2), .val (.int v3), .val (.int v4), .val (.int nw), .val (.int cl), .val (.int nn), .val (.int rm), .val (.int ex), .val (.ref r), .val (.long sm), .second, .val (.long ct), .second, .val (.int mn), .unset, .unset, .unset, .unset] [(.int mn), (.ref r)])) _
  refine XS.i2dS X0.here hx rfl (v := (FP.l2d (Int32.toInt64 mn))) (hb hby at_168) rfl (i2d_w mn) ?_
  show Steps p.tables e below (T0.setTop (mkF m 169 #[.val (.int v1), .val (.int v2), .val (.int v3), .val (.int v4), .val (.int nw), .val (.int cl), .val (.int nn), .val (.int rm), .val (.int ex), .val (.ref r), .val (.long sm), .second, .val (.long ct), .second, .val (.int mn), .unset, .unset, .unset, .unset] [(.double (FP.l2d (Int32.toInt64 mn))), (.ref r)])) _
  refine st1.trans ?_
  show Steps p.tables e below (T1.setTop (mkF m 172 #[.val (.int v1), .val (.int v2), .val (.int v3), .val (.int v4), .val (.int nw), .val (.int cl), .val (.int nn), .val (.int rm), .val (.int ex), .val (.ref r), .val (.long sm), .second, .val (.long ct), .second, .val (.int mn), .unset, .unset, .unset, .unset] [])) _
  refine XS.lload X1.here hx rfl (hb hby at_172) rfl ?_
  show Steps p.tables e below (T1.setTop (mkF m 174 #[.val (.int v1), .val (.int v2), .val (.int v3), .val (.int v4), .val (.int nw), .val (.int cl), .val (.int nn), .val (.int rm), .val (.int ex), .val (.ref r), .val (.long sm), .second, .val (.long ct), .second, .val (.int mn), .unset, .unset, .unset, .unset] [(.long sm)])) _
  refine XS.iload X1.here hx rfl (hb hby at_174) rfl ?_
  show Steps p.tables e below (T1.setTop (mkF m 176 #[.val (.int v1), .val (.int v2), .val (.int v3), .val (.int v4), .val (.int nw), .val (.int cl), .val (.int nn), .val (.int rm), .val (.int ex), .val (.ref r), .val (.long sm), .second, .val (.long ct), .second, .val (.int mn), .unset, .unset, .unset, .unset] [(.int mn), (.long sm)])) _
  refine XS.i2l X1.here hx rfl (hb hby at_176) rfl ?_
  show Steps p.tables e below (T1.setTop (mkF m 177 #[.val (.int v1), .val (.int v2), .val (.int v3), .val (.int v4), .val (.int nw), .val (.int cl), .val (.int nn), .val (.int rm), .val (.int ex), .val (.ref r), .val (.long sm), .second, .val (.long ct), .second, .val (.int mn), .unset, .unset, .unset, .unset] [(.long (Int32.toInt64 mn)), (.long sm)])) _
  refine XS.lsub X1.here hx rfl (hb hby at_177) rfl ?_
  show Steps p.tables e below (T1.setTop (mkF m 178 #[.val (.int v1), .val (.int v2), .val (.int v3), .val (.int v4), .val (.int nw), .val (.int cl), .val (.int nn), .val (.int rm), .val (.int ex), .val (.ref r), .val (.long sm), .second, .val (.long ct), .second, .val (.int mn), .unset, .unset, .unset, .unset] [(.long (sm - (Int32.toInt64 mn)))])) _
  refine XS.lstore X1.here hx rfl (hb hby at_178) rfl (l' := #[.val (.int v1), .val (.int v2), .val (.int v3), .val (.int v4), .val (.int nw), .val (.int cl), .val (.int nn), .val (.int rm), .val (.int ex), .val (.ref r), .val (.long (sm - (Int32.toInt64 mn))), .second, .val (.long ct), .second, .val (.int mn), .unset, .unset, .unset, .unset]) rfl ?_
  show Steps p.tables e below (T1.setTop (mkF m 180 #[.val (.int v1), .val (.int v2), .val (.int v3), .val (.int v4), .val (.int nw), .val (.int cl), .val (.int nn), .val (.int rm), .val (.int ex), .val (.ref r), .val (.long (sm - (Int32.toInt64 mn))), .second, .val (.long ct), .second, .val (.int mn), .unset, .unset, .unset, .unset] [])) _
  refine XS.lload X1.here hx rfl (hb hby at_180) rfl ?_
  show Steps p.tables e below (T1.setTop (mkF m 182 #[.val (.int v1), .val (.int v2), .val (.int v3), .val (.int v4), .val (.int nw), .val (.int cl), .val (.int nn), .val (.int rm), .val (.int ex), .val (.ref r), .val (.long (sm - (Int32.toInt64 mn))), .second, .val (.long ct), .second, .val (.int mn), .unset, .unset, .unset, .unset] [(.long ct)])) _
  refine XS.lconst X1.here hx rfl (hb hby at_182) ?_
  show Steps p.tables e below (T1.setTop (mkF m 183 #[.val (.int v1), .val (.int v2), .val (.int v3), .val (.int v4), .val (.int nw), .val (.int cl), .val (.int nn), .val (.int rm), .val (.int ex), .val (.ref r), .val (.long (sm - (Int32.toInt64 mn))), .second, .val (.long ct), .second, .val (.int mn), .unset, .unset, .unset, .unset] [(.long (1 : Int64)), (.long ct)])) _
  refine XS.lsub X1.here hx rfl (hb hby at_183) rfl ?_
  show Steps p.tables e below (T1.setTop (mkF m 184 #[.val (.int v1), .val (.int v2), .val (.int v3), .val (.int v4), .val (.int nw), .val (.int cl), .val (.int nn), .val (.int rm), .val (.int ex), .val (.ref r), .val (.long (sm - (Int32.toInt64 mn))), .second, .val (.long ct), .second, .val (.int mn), .unset, .unset, .unset, .unset] [(.long (ct - (1 : Int64)))])) _
  refine XS.lstore X1.here hx rfl (hb hby at_184) rfl (l' := #[.val (.int v1), .val (.int v2), .val (.int v3), .val (.int v4), .val (.int nw), .val (.int cl), .val (.int nn), .val (.int rm), .val (.int ex), .val (.ref r), .val (.long (sm - (Int32.toInt64 mn))), .second, .val (.long (ct - (1 : Int64))), .second, .val (.int mn), .unset, .unset, .unset, .unset]) rfl ?_
  show Steps p.tables e below (T1.setTop (mkF m 186 #[.val (.int v1), .val (.int v2), .val (.int v3), .val (.int v4), .val (.int nw), .val (.int cl), .val (.int nn), .val (.int rm), .val (.int ex), .val (.ref r), .val (.long (sm - (Int32.toInt64 mn))), .second, .val (.long (ct - (1 : Int64))), .second, .val (.int mn), .unset, .unset, .unset, .unset] [])) _
  exact ht
set_option maxRecDepth 65536 in
set_option maxHeartbeats 40000000 in
theorem law_y0 (l : Launch) (Z : State) (a0 : Array Value) (hw : ∀ d ∈ tables_1, d.before a0 Z = true) {p : Program} {e : Env} {s : State} {m : MethodId} {args : Array Value} {below : List Frame} {meth : Method} {c : Code} (hx : p.tables.exec = Jvm.exec) (hZ : Z.Warmed39 s.vm) (hby : c.code = code) (hml : c.maxLocals = 19) (hown : s.vm.findClass "com/example/orrery/orrery/policy/RunningEndsLeftAtPinLaw" = some m.cls) {T0 : State} {locs0 : List Loc} {R : Room} {cells0 slots0 : Nat} (X0 : Stand p l e R s m args below meth c T0 locs0 cells0 slots0) (v1 v2 v3 v4 nw cl : Int32) (nn rm ex : Int32) (r : Addr) (sm ct : Int64) (mn : Int32) (h0 : Heap) (n0 : Nat) (e0 : T0.heap = h0) (Z0 : n0 ≤ h0.size) (N0 : Fr n0 locs0) (hx4 : ex = 0) :
    ∃ (T1 : State) (locs1 : List Loc), Stand p l e R s m args below meth c T1 locs1 cells0 slots0 ∧ T1.heap = h0 ∧ Fr n0 locs1 ∧ ∀ t, Steps p.tables e below (T1.setTop (mkF m 211 #[.val (.int v1), .val (.int v2), .val (.int v3), .val (.int v4), .val (.int nw), .val (.int cl), .val (.int nn), .val (.int rm), .val (.int ex), .val (.ref r), .val (.long sm), .second, .val (.long ct), .second, .val (.int mn), .unset, .unset, .unset, .unset] [])) t → Steps p.tables e below (T0.setTop (mkF m 186 #[.val (.int v1), .val (.int v2), .val (.int v3), .val (.int v4), .val (.int nw), .val (.int cl), .val (.int nn), .val (.int rm), .val (.int ex), .val (.ref r), .val (.long sm), .second, .val (.long ct), .second, .val (.int mn), .unset, .unset, .unset, .unset] [])) t := by
  refine ⟨T0, _, X0, e0, N0, fun t ht => ?_⟩
  show Steps p.tables e below (T0.setTop (mkF m 186 #[.val (.int v1), .val (.int v2), .val (.int v3), .val (.int v4), .val (.int nw), .val (.int cl), .val (.int nn), .val (.int rm), .val (.int ex), .val (.ref r), .val (.long sm), .second, .val (.long ct), .second, .val (.int mn), .unset, .unset, .unset, .unset] [])) _
  refine XS.iload X0.here hx rfl (hb hby at_186) rfl ?_
  show Steps p.tables e below (T0.setTop (mkF m 188 #[.val (.int v1), .val (.int v2), .val (.int v3), .val (.int v4), .val (.int nw), .val (.int cl), .val (.int nn), .val (.int rm), .val (.int ex), .val (.ref r), .val (.long sm), .second, .val (.long ct), .second, .val (.int mn), .unset, .unset, .unset, .unset] [(.int ex)])) _
  refine XS.ifYes X0.here hx rfl (pc0 := 188) (pc' := 211) rfl (hb hby at_188) rfl ((if0 _ _).trans (teq hx4).1) (by decide) (by decide) ?_
  show Steps p.tables e below (T0.setTop (mkF m 211 #[.val (.int v1), .val (.int v2), .val (.int v3), .val (.int v4), .val (.int nw), .val (.int cl), .val (.int nn), .val (.int rm), .val (.int ex), .val (.ref r), .val (.long sm), .second, .val (.long ct), .second, .val (.int mn), .unset, .unset, .unset, .unset] [])) _
  exact ht
set_option maxRecDepth 65536 in
set_option maxHeartbeats 40000000 in
theorem law_y1 (l : Launch) (Z : State) (a0 : Array Value) (hw : ∀ d ∈ tables_1, d.before a0 Z = true) {p : Program} {e : Env} {s : State} {m : MethodId} {args : Array Value} {below : List Frame} {meth : Method} {c : Code} (hx : p.tables.exec = Jvm.exec) (hZ : Z.Warmed39 s.vm) (hby : c.code = code) (hml : c.maxLocals = 19) (hown : s.vm.findClass "com/example/orrery/orrery/policy/RunningEndsLeftAtPinLaw" = some m.cls) {T0 : State} {locs0 : List Loc} {R : Room} {cells0 slots0 : Nat} (X0 : Stand p l e R s m args below meth c T0 locs0 cells0 slots0) (v1 v2 v3 v4 nw cl : Int32) (nn rm ex : Int32) (r : Addr) (sm ct : Int64) (mn : Int32) (P : Heap → Prop) (h0 : Heap) (n0 : Nat) (e0 : T0.heap = h0) (Z0 : n0 ≤ h0.size) (N0 : Fr n0 locs0) (hRf : 2 ≤ R.frames) (hRl : 34 ≤ R.locals) (hRc : cells0 + 1 ≤ R.cells) (hRs : slots0 + 4 ≤ R.slots) (hx4 : ¬ (ex = 0)) (E_r : Exa Z h0 r "com/example/orrery/orrery/policy/RunningEnds") (hC : MetFree l (⟨"com/example/orrery/orrery/policy/RunningEnds", "add", "(D)V"⟩ : MethodName) (head1 [Jvm.Cond.code (⟨"com/example/orrery/orrery/policy/RunningEnds", "add", "(D)V"⟩ : MethodName) prog_11_method_3_code 5 none] ({ frames := 1, cells := 1, slots := 4, locals := 18 } : Room)) (fun a U => a = #[(.ref r), (.double (FP.l2d (Int32.toInt64 v4)))] ∧ Z.Warmed39 U.vm ∧ U.heap = h0) (fun _ _ _ _ _ => True) (fun _ U o U' => ∃ v L, o = .returned v ∧ QP P n0 v U'.heap L ∧ FrameEnd U o U' L ({ frames := 1, cells := 1, slots := 4, locals := 18 } : Room).cells ({ frames := 1, cells := 1, slots := 4, locals := 18 } : Room).slots)) :
    ∃ (T1 : State) (h1 : Heap) (locs1 : List Loc), Stand p l e R s m args below meth c T1 locs1 (cells0 + 1) (slots0 + 4) ∧ T1.heap = h1 ∧ n0 ≤ h1.size ∧ Fr n0 locs1 ∧ (P h1) ∧ ∀ t, Steps p.tables e below (T1.setTop (mkF m 211 #[.val (.int v1), .val (.int v2), .val (.int v3), .val (.int v4), .val (.int nw), .val (.int cl), .val (.int nn), .val (.int rm), .val (.int ex), .val (.ref r), .val (.long (sm + (Int32.toInt64 v4))), .second, .val (.long (ct + (1 : Int64))), .second, .val (.int mn), .unset, .unset, .unset, .unset] [])) t → Steps p.tables e below (T0.setTop (mkF m 186 #[.val (.int v1), .val (.int v2), .val (.int v3), .val (.int v4), .val (.int nw), .val (.int cl), .val (.int nn), .val (.int rm), .val (.int ex), .val (.ref r), .val (.long sm), .second, .val (.long ct), .second, .val (.int mn), .unset, .unset, .unset, .unset] [])) t := by
  obtain ⟨cq1, kq1, qa1, qb1, qc1⟩ := isOf hZ e0 E_r
  obtain ⟨_, _, ⟨T1, L1, k1, n1⟩, -, X1, ⟨Lc1, hQ1, l1, y1, z1⟩, st1⟩ := X0.virtualBack hx (y := (⟨"com/example/orrery/orrery/policy/RunningEnds", "add", "(D)V"⟩ : MethodName)) (z := (⟨"com/example/orrery/orrery/policy/RunningEnds", "add", "(D)V"⟩ : MethodName)) hown (mvT hZ (hw _ (List.mem_of_getElem? (i := 13) rfl))) (mvT hZ (hw _ (List.mem_of_getElem? (i := 14) rfl))) (notFace_of_selects (args := #[]) (mvT hZ (hw _ (List.mem_of_getElem? (i := 16) rfl)))) (mvT hZ (hw _ (List.mem_of_getElem? (i := 16) rfl))) (mvT hZ (hw _ (List.mem_of_getElem? (i := 15) rfl))) (by decide) (backOf (W := 0) (hC) hZ (hw _ (List.mem_of_getElem? (i := 17) rfl)) (hw _ (List.mem_of_getElem? (i := 2) rfl)) (Nat.le_trans (by decide : _ ≤ 2) hRf) (Nat.le_trans (by decide : _ ≤ 34) hRl)) qa1 qc1 (g := (mkF m 195 #[.val (.int v1), .val (.int v2), .val (.int v3), .val (.int v4), .val (.int nw), .val (.int cl), .val (.int nn), .val (.int rm), .val (.int ex), .val (.ref r), .val (.long sm), .second, .val (.long ct), .second, .val (.int mn), .unset, .unset, .unset, .unset] [(.double (FP.l2d (Int32.toInt64 v4))), (.ref r)])) rfl (by rw [hml]; rfl) (Steps.refl _) (argsL := [(.double (FP.l2d (Int32.toInt64 v4)))]) (rest := []) (lenOf pd2 rfl) rfl (by show 2 * 0 + _ ≤ _; exact Nat.le_of_eq rfl) (hb hby at_195) (fun _ _ => ⟨rfl, e0, (by show cells0 + 0 + 1 ≤ _; omega), (by show slots0 + 0 + 4 ≤ _; omega)⟩)
  dsimp only [Pt.U, Pt.locs, Pt.cells, Pt.slots] at X1 l1 y1 z1 st1 hQ1
  subst l1 y1 z1
  obtain ⟨rfl, Nc1, Zq1, P1⟩ := hQ1
  have N1 := Fr.app N0 Nc1
  refine ⟨T1, T1.heap, _, X1, rfl, Zq1, N1, P1, fun t ht => ?_⟩
  show Steps p.tables e below (T0.setTop (mkF m 186 #[.val (.int v1), .val (.int v2), .val (.int v3), .val (.int v4), .val (.int nw), .val (.int cl), .val (.int nn), .val (.int rm), .val (.int ex), .val (.ref r), .val (.long sm), .second, .val (.long ct), .second, .val (.int mn), .unset, .unset, .unset, .unset] [])) _
  refine XS.iload X0.here hx rfl (hb hby at_186) rfl ?_
  show Steps p.tables e below (T0.setTop (mkF m 188 #[.val (.int v1), .val (.int v2), .val (.int v3), .val (.int v4), .val (.int nw), .val (.int cl), .val (.int nn), .val (.int rm), .val (.int ex), .val (.ref r), .val (.long sm), .second, .val (.long ct), .second, .val (.int mn), .unset, .unset, .unset, .unset] [(.int ex)])) _
  refine XS.ifNo X0.here hx rfl (hb hby at_188) rfl ((if0 _ _).trans (feq hx4).1) ?_
  show Steps p.tables e below (T0.setTop (mkF m 191 #[.val (.int v1), .val (.int v2), .val (.int v3), .val (.int v4), .val (.int nw), .val (.int cl), .val (.int nn), .val (.int rm), .val (.int ex), .val (.ref r), .val (.long sm), .second, .val (.long ct), .second, .val (.int mn), .unset, .unset, .unset, .unset] [])) _
  refine XS.aload X0.here hx rfl (hb hby at_191) rfl rfl ?_
  show Steps p.tables e below (T0.setTop (mkF m 193 #[.val (.int v1), .val (.int v2), .val (.int v3), .val (.int v4), .val (.int nw), .val (.int cl), .val (.int nn), .val (.int rm), .val (.int ex), .val (.ref r), .val (.long sm), .second, .val (.long ct), .second, .val (.int mn), .unset, .unset, .unset, .unset] [(.ref r)])) _
  refine XS.iloadN X0.here hx rfl (hb hby at_193) rfl ?_
  show Steps p.tables e below (T0.setTop (mkF m 194 #[.val (.int v1), .val (.int v2), .val (.int v3), .val (.int v4), .val (.int nw), .val (.int cl), .val (.int nn), .val (.int rm), .val (.int ex), .val (.ref r), .val (.long sm), .second, .val (.long ct), .second, .val (.int mn), .unset, .unset, .unset, .unset] [(.int v4), (.ref r)])) _
  refine XS.i2dS X0.here hx rfl (v := (FP.l2d (Int32.toInt64 v4))) (hb hby at_194) rfl (i2d_w v4) ?_
  show Steps p.tables e below (T0.setTop (mkF m 195 #[.val (.int v1), .val (.int v2), .val (.int v3), .val (.int v4), .val (.int nw), .val (.int cl), .val (.int nn), .val (.int rm), .val (.int ex), .val (.ref r), .val (.long sm), .second, .val (.long ct), .second, .val (.int mn), .unset, .unset, .unset, .unset] [(.double (FP.l2d (Int32.toInt64 v4))), (.ref r)])) _
  refine st1.trans ?_
  show Steps p.tables e below (T1.setTop (mkF m 198 #[.val (.int v1), .val (.int v2), .val (.int v3), .val (.int v4), .val (.int nw), .val (.int cl), .val (.int nn), .val (.int rm), .val (.int ex), .val (.ref r), .val (.long sm), .second, .val (.long ct), .second, .val (.int mn), .unset, .unset, .unset, .unset] [])) _
  refine XS.lload X1.here hx rfl (hb hby at_198) rfl ?_
  show Steps p.tables e below (T1.setTop (mkF m 200 #[.val (.int v1), .val (.int v2), .val (.int v3), .val (.int v4), .val (.int nw), .val (.int cl), .val (.int nn), .val (.int rm), .val (.int ex), .val (.ref r), .val (.long sm), .second, .val (.long ct), .second, .val (.int mn), .unset, .unset, .unset, .unset] [(.long sm)])) _
  refine XS.iloadN X1.here hx rfl (hb hby at_200) rfl ?_
  show Steps p.tables e below (T1.setTop (mkF m 201 #[.val (.int v1), .val (.int v2), .val (.int v3), .val (.int v4), .val (.int nw), .val (.int cl), .val (.int nn), .val (.int rm), .val (.int ex), .val (.ref r), .val (.long sm), .second, .val (.long ct), .second, .val (.int mn), .unset, .unset, .unset, .unset] [(.int v4), (.long sm)])) _
  refine XS.i2l X1.here hx rfl (hb hby at_201) rfl ?_
  show Steps p.tables e below (T1.setTop (mkF m 202 #[.val (.int v1), .val (.int v2), .val (.int v3), .val (.int v4), .val (.int nw), .val (.int cl), .val (.int nn), .val (.int rm), .val (.int ex), .val (.ref r), .val (.long sm), .second, .val (.long ct), .second, .val (.int mn), .unset, .unset, .unset, .unset] [(.long (Int32.toInt64 v4)), (.long sm)])) _
  refine XS.ladd X1.here hx rfl (hb hby at_202) rfl ?_
  show Steps p.tables e below (T1.setTop (mkF m 203 #[.val (.int v1), .val (.int v2), .val (.int v3), .val (.int v4), .val (.int nw), .val (.int cl), .val (.int nn), .val (.int rm), .val (.int ex), .val (.ref r), .val (.long sm), .second, .val (.long ct), .second, .val (.int mn), .unset, .unset, .unset, .unset] [(.long (sm + (Int32.toInt64 v4)))])) _
  refine XS.lstore X1.here hx rfl (hb hby at_203) rfl (l' := #[.val (.int v1), .val (.int v2), .val (.int v3), .val (.int v4), .val (.int nw), .val (.int cl), .val (.int nn), .val (.int rm), .val (.int ex), .val (.ref r), .val (.long (sm + (Int32.toInt64 v4))), .second, .val (.long ct), .second, .val (.int mn), .unset, .unset, .unset, .unset]) rfl ?_
  show Steps p.tables e below (T1.setTop (mkF m 205 #[.val (.int v1), .val (.int v2), .val (.int v3), .val (.int v4), .val (.int nw), .val (.int cl), .val (.int nn), .val (.int rm), .val (.int ex), .val (.ref r), .val (.long (sm + (Int32.toInt64 v4))), .second, .val (.long ct), .second, .val (.int mn), .unset, .unset, .unset, .unset] [])) _
  refine XS.lload X1.here hx rfl (hb hby at_205) rfl ?_
  show Steps p.tables e below (T1.setTop (mkF m 207 #[.val (.int v1), .val (.int v2), .val (.int v3), .val (.int v4), .val (.int nw), .val (.int cl), .val (.int nn), .val (.int rm), .val (.int ex), .val (.ref r), .val (.long (sm + (Int32.toInt64 v4))), .second, .val (.long ct), .second, .val (.int mn), .unset, .unset, .unset, .unset] [(.long ct)])) _
  refine XS.lconst X1.here hx rfl (hb hby at_207) ?_
  show Steps p.tables e below (T1.setTop (mkF m 208 #[.val (.int v1), .val (.int v2), .val (.int v3), .val (.int v4), .val (.int nw), .val (.int cl), .val (.int nn), .val (.int rm), .val (.int ex), .val (.ref r), .val (.long (sm + (Int32.toInt64 v4))), .second, .val (.long ct), .second, .val (.int mn), .unset, .unset, .unset, .unset] [(.long (1 : Int64)), (.long ct)])) _
  refine XS.ladd X1.here hx rfl (hb hby at_208) rfl ?_
  show Steps p.tables e below (T1.setTop (mkF m 209 #[.val (.int v1), .val (.int v2), .val (.int v3), .val (.int v4), .val (.int nw), .val (.int cl), .val (.int nn), .val (.int rm), .val (.int ex), .val (.ref r), .val (.long (sm + (Int32.toInt64 v4))), .second, .val (.long ct), .second, .val (.int mn), .unset, .unset, .unset, .unset] [(.long (ct + (1 : Int64)))])) _
  refine XS.lstore X1.here hx rfl (hb hby at_209) rfl (l' := #[.val (.int v1), .val (.int v2), .val (.int v3), .val (.int v4), .val (.int nw), .val (.int cl), .val (.int nn), .val (.int rm), .val (.int ex), .val (.ref r), .val (.long (sm + (Int32.toInt64 v4))), .second, .val (.long (ct + (1 : Int64))), .second, .val (.int mn), .unset, .unset, .unset, .unset]) rfl ?_
  show Steps p.tables e below (T1.setTop (mkF m 211 #[.val (.int v1), .val (.int v2), .val (.int v3), .val (.int v4), .val (.int nw), .val (.int cl), .val (.int nn), .val (.int rm), .val (.int ex), .val (.ref r), .val (.long (sm + (Int32.toInt64 v4))), .second, .val (.long (ct + (1 : Int64))), .second, .val (.int mn), .unset, .unset, .unset, .unset] [])) _
  exact ht
set_option maxRecDepth 65536 in
set_option maxHeartbeats 40000000 in
theorem law_end (l : Launch) (Z : State) (a0 : Array Value) (hw : ∀ d ∈ tables_1, d.before a0 Z = true) {p : Program} {e : Env} {s : State} {m : MethodId} {args : Array Value} {below : List Frame} {meth : Method} {c : Code} (hx : p.tables.exec = Jvm.exec) (hZ : Z.Warmed39 s.vm) (hby : c.code = code) (hml : c.maxLocals = 19) (hown : s.vm.findClass "com/example/orrery/orrery/policy/RunningEndsLeftAtPinLaw" = some m.cls) {T0 : State} {locs0 : List Loc} {R : Room} {cells0 slots0 : Nat} (X0 : Stand p l e R s m args below meth c T0 locs0 cells0 slots0) (v1 v2 v3 v4 nw cl : Int32) (nn rm ex : Int32) (r : Addr) (sm ct : Int64) (mn : Int32) (res : UInt64) (h0 : Heap) (n0 : Nat) (e0 : T0.heap = h0) (Z0 : n0 ≤ h0.size) (N0 : Fr n0 locs0) (hRf : 1 ≤ R.frames) (hRl : 17 ≤ R.locals) (hRc : cells0 + 0 ≤ R.cells) (hRs : slots0 + 0 ≤ R.slots) (E_r : Exa Z h0 r "com/example/orrery/orrery/policy/RunningEnds") (hC : MetFree l (⟨"com/example/orrery/orrery/policy/RunningEnds", "leftAt", "(D)D"⟩ : MethodName) (head1 [Jvm.Cond.code (⟨"com/example/orrery/orrery/policy/RunningEnds", "leftAt", "(D)D"⟩ : MethodName) prog_11_method_7_code 6 (some .double)] ({ frames := 0, cells := 0, slots := 0, locals := 0 } : Room)) (fun a U => a = #[(.ref r), (.double (FP.l2d (Int32.toInt64 nw)))] ∧ Z.Warmed39 U.vm ∧ U.heap = h0) (fun _ _ _ _ _ => True) (fun _ U o U' => ∃ v L, o = .returned v ∧ QL res h0 n0 v U'.heap L ∧ FrameEnd U o U' L ({ frames := 0, cells := 0, slots := 0, locals := 0 } : Room).cells ({ frames := 0, cells := 0, slots := 0, locals := 0 } : Room).slots)) (hcm : cmpValue (FP.dcmp res (FP.l2d (sm - (ct * (Int32.toInt64 nw))))) .l = 0) :
    ∃ (T1 : State) (locs1 : List Loc), Stand p l e R s m args below meth c T1 locs1 cells0 slots0 ∧ T1.heap = h0 ∧ Fr n0 locs1 ∧ ∀ t, Steps p.tables e below (T1.setTop (mkF m 246 #[.val (.int v1), .val (.int v2), .val (.int v3), .val (.int v4), .val (.int nw), .val (.int cl), .val (.int nn), .val (.int rm), .val (.int ex), .val (.ref r), .val (.long sm), .second, .val (.long ct), .second, .val (.int mn), .val (.long (sm - (ct * (Int32.toInt64 nw)))), .second, .val (.double res), .second] [(.int (1 : Int32))])) t → Steps p.tables e below (T0.setTop (mkF m 211 #[.val (.int v1), .val (.int v2), .val (.int v3), .val (.int v4), .val (.int nw), .val (.int cl), .val (.int nn), .val (.int rm), .val (.int ex), .val (.ref r), .val (.long sm), .second, .val (.long ct), .second, .val (.int mn), .unset, .unset, .unset, .unset] [])) t := by
  obtain ⟨cq1, kq1, qa1, qb1, qc1⟩ := isOf hZ e0 E_r
  obtain ⟨_, _, ⟨T1, L1, k1, n1⟩, -, X1, ⟨Lc1, hQ1, l1, y1, z1⟩, st1⟩ := X0.virtualBack hx (y := (⟨"com/example/orrery/orrery/policy/RunningEnds", "leftAt", "(D)D"⟩ : MethodName)) (z := (⟨"com/example/orrery/orrery/policy/RunningEnds", "leftAt", "(D)D"⟩ : MethodName)) hown (mvT hZ (hw _ (List.mem_of_getElem? (i := 30) rfl))) (mvT hZ (hw _ (List.mem_of_getElem? (i := 31) rfl))) (notFace_of_selects (args := #[]) (mvT hZ (hw _ (List.mem_of_getElem? (i := 33) rfl)))) (mvT hZ (hw _ (List.mem_of_getElem? (i := 33) rfl))) (mvT hZ (hw _ (List.mem_of_getElem? (i := 32) rfl))) (by decide) (backOf (W := 0) (hC) hZ (hw _ (List.mem_of_getElem? (i := 34) rfl)) (hw _ (List.mem_of_getElem? (i := 2) rfl)) (Nat.le_trans (by decide : _ ≤ 1) hRf) (Nat.le_trans (by decide : _ ≤ 17) hRl)) qa1 qc1 (g := (mkF m 227 #[.val (.int v1), .val (.int v2), .val (.int v3), .val (.int v4), .val (.int nw), .val (.int cl), .val (.int nn), .val (.int rm), .val (.int ex), .val (.ref r), .val (.long sm), .second, .val (.long ct), .second, .val (.int mn), .val (.long (sm - (ct * (Int32.toInt64 nw)))), .second, .unset, .unset] [(.double (FP.l2d (Int32.toInt64 nw))), (.ref r)])) rfl (by rw [hml]; rfl) (Steps.refl _) (argsL := [(.double (FP.l2d (Int32.toInt64 nw)))]) (rest := []) (lenOf pd4 rfl) rfl (by show 2 * 0 + _ ≤ _; exact Nat.le_of_eq rfl) (hb hby at_227) (fun _ _ => ⟨rfl, e0, (by show cells0 + 0 + 0 ≤ _; omega), (by show slots0 + 0 + 0 ≤ _; omega)⟩)
  dsimp only [Pt.U, Pt.locs, Pt.cells, Pt.slots] at X1 l1 y1 z1 st1 hQ1
  subst l1 y1 z1
  obtain ⟨rfl, Nc1, ec1⟩ := hQ1
  have N1 := Fr.app N0 Nc1
  refine ⟨T1, _, X1, ec1, N1, fun t ht => ?_⟩
  show Steps p.tables e below (T0.setTop (mkF m 211 #[.val (.int v1), .val (.int v2), .val (.int v3), .val (.int v4), .val (.int nw), .val (.int cl), .val (.int nn), .val (.int rm), .val (.int ex), .val (.ref r), .val (.long sm), .second, .val (.long ct), .second, .val (.int mn), .unset, .unset, .unset, .unset] [])) _
  refine XS.lload X0.here hx rfl (hb hby at_211) rfl ?_
  show Steps p.tables e below (T0.setTop (mkF m 213 #[.val (.int v1), .val (.int v2), .val (.int v3), .val (.int v4), .val (.int nw), .val (.int cl), .val (.int nn), .val (.int rm), .val (.int ex), .val (.ref r), .val (.long sm), .second, .val (.long ct), .second, .val (.int mn), .unset, .unset, .unset, .unset] [(.long sm)])) _
  refine XS.lload X0.here hx rfl (hb hby at_213) rfl ?_
  show Steps p.tables e below (T0.setTop (mkF m 215 #[.val (.int v1), .val (.int v2), .val (.int v3), .val (.int v4), .val (.int nw), .val (.int cl), .val (.int nn), .val (.int rm), .val (.int ex), .val (.ref r), .val (.long sm), .second, .val (.long ct), .second, .val (.int mn), .unset, .unset, .unset, .unset] [(.long ct), (.long sm)])) _
  refine XS.iload X0.here hx rfl (hb hby at_215) rfl ?_
  show Steps p.tables e below (T0.setTop (mkF m 217 #[.val (.int v1), .val (.int v2), .val (.int v3), .val (.int v4), .val (.int nw), .val (.int cl), .val (.int nn), .val (.int rm), .val (.int ex), .val (.ref r), .val (.long sm), .second, .val (.long ct), .second, .val (.int mn), .unset, .unset, .unset, .unset] [(.int nw), (.long ct), (.long sm)])) _
  refine XS.i2l X0.here hx rfl (hb hby at_217) rfl ?_
  show Steps p.tables e below (T0.setTop (mkF m 218 #[.val (.int v1), .val (.int v2), .val (.int v3), .val (.int v4), .val (.int nw), .val (.int cl), .val (.int nn), .val (.int rm), .val (.int ex), .val (.ref r), .val (.long sm), .second, .val (.long ct), .second, .val (.int mn), .unset, .unset, .unset, .unset] [(.long (Int32.toInt64 nw)), (.long ct), (.long sm)])) _
  refine XS.lmul X0.here hx rfl (hb hby at_218) rfl ?_
  show Steps p.tables e below (T0.setTop (mkF m 219 #[.val (.int v1), .val (.int v2), .val (.int v3), .val (.int v4), .val (.int nw), .val (.int cl), .val (.int nn), .val (.int rm), .val (.int ex), .val (.ref r), .val (.long sm), .second, .val (.long ct), .second, .val (.int mn), .unset, .unset, .unset, .unset] [(.long (ct * (Int32.toInt64 nw))), (.long sm)])) _
  refine XS.lsub X0.here hx rfl (hb hby at_219) rfl ?_
  show Steps p.tables e below (T0.setTop (mkF m 220 #[.val (.int v1), .val (.int v2), .val (.int v3), .val (.int v4), .val (.int nw), .val (.int cl), .val (.int nn), .val (.int rm), .val (.int ex), .val (.ref r), .val (.long sm), .second, .val (.long ct), .second, .val (.int mn), .unset, .unset, .unset, .unset] [(.long (sm - (ct * (Int32.toInt64 nw))))])) _
  refine XS.lstore X0.here hx rfl (hb hby at_220) rfl (l' := #[.val (.int v1), .val (.int v2), .val (.int v3), .val (.int v4), .val (.int nw), .val (.int cl), .val (.int nn), .val (.int rm), .val (.int ex), .val (.ref r), .val (.long sm), .second, .val (.long ct), .second, .val (.int mn), .val (.long (sm - (ct * (Int32.toInt64 nw)))), .second, .unset, .unset]) rfl ?_
  show Steps p.tables e below (T0.setTop (mkF m 222 #[.val (.int v1), .val (.int v2), .val (.int v3), .val (.int v4), .val (.int nw), .val (.int cl), .val (.int nn), .val (.int rm), .val (.int ex), .val (.ref r), .val (.long sm), .second, .val (.long ct), .second, .val (.int mn), .val (.long (sm - (ct * (Int32.toInt64 nw)))), .second, .unset, .unset] [])) _
  refine XS.aload X0.here hx rfl (hb hby at_222) rfl rfl ?_
  show Steps p.tables e below (T0.setTop (mkF m 224 #[.val (.int v1), .val (.int v2), .val (.int v3), .val (.int v4), .val (.int nw), .val (.int cl), .val (.int nn), .val (.int rm), .val (.int ex), .val (.ref r), .val (.long sm), .second, .val (.long ct), .second, .val (.int mn), .val (.long (sm - (ct * (Int32.toInt64 nw)))), .second, .unset, .unset] [(.ref r)])) _
  refine XS.iload X0.here hx rfl (hb hby at_224) rfl ?_
  show Steps p.tables e below (T0.setTop (mkF m 226 #[.val (.int v1), .val (.int v2), .val (.int v3), .val (.int v4), .val (.int nw), .val (.int cl), .val (.int nn), .val (.int rm), .val (.int ex), .val (.ref r), .val (.long sm), .second, .val (.long ct), .second, .val (.int mn), .val (.long (sm - (ct * (Int32.toInt64 nw)))), .second, .unset, .unset] [(.int nw), (.ref r)])) _
  refine XS.i2dS X0.here hx rfl (v := (FP.l2d (Int32.toInt64 nw))) (hb hby at_226) rfl (i2d_w nw) ?_
  show Steps p.tables e below (T0.setTop (mkF m 227 #[.val (.int v1), .val (.int v2), .val (.int v3), .val (.int v4), .val (.int nw), .val (.int cl), .val (.int nn), .val (.int rm), .val (.int ex), .val (.ref r), .val (.long sm), .second, .val (.long ct), .second, .val (.int mn), .val (.long (sm - (ct * (Int32.toInt64 nw)))), .second, .unset, .unset] [(.double (FP.l2d (Int32.toInt64 nw))), (.ref r)])) _
  refine st1.trans ?_
  show Steps p.tables e below (T1.setTop (mkF m 230 #[.val (.int v1), .val (.int v2), .val (.int v3), .val (.int v4), .val (.int nw), .val (.int cl), .val (.int nn), .val (.int rm), .val (.int ex), .val (.ref r), .val (.long sm), .second, .val (.long ct), .second, .val (.int mn), .val (.long (sm - (ct * (Int32.toInt64 nw)))), .second, .unset, .unset] [(.double res)])) _
  refine XS.dstore X1.here hx rfl (hb hby at_230) rfl (l' := #[.val (.int v1), .val (.int v2), .val (.int v3), .val (.int v4), .val (.int nw), .val (.int cl), .val (.int nn), .val (.int rm), .val (.int ex), .val (.ref r), .val (.long sm), .second, .val (.long ct), .second, .val (.int mn), .val (.long (sm - (ct * (Int32.toInt64 nw)))), .second, .val (.double res), .second]) rfl ?_
  show Steps p.tables e below (T1.setTop (mkF m 232 #[.val (.int v1), .val (.int v2), .val (.int v3), .val (.int v4), .val (.int nw), .val (.int cl), .val (.int nn), .val (.int rm), .val (.int ex), .val (.ref r), .val (.long sm), .second, .val (.long ct), .second, .val (.int mn), .val (.long (sm - (ct * (Int32.toInt64 nw)))), .second, .val (.double res), .second] [])) _
  refine XS.dload X1.here hx rfl (hb hby at_232) rfl ?_
  show Steps p.tables e below (T1.setTop (mkF m 234 #[.val (.int v1), .val (.int v2), .val (.int v3), .val (.int v4), .val (.int nw), .val (.int cl), .val (.int nn), .val (.int rm), .val (.int ex), .val (.ref r), .val (.long sm), .second, .val (.long ct), .second, .val (.int mn), .val (.long (sm - (ct * (Int32.toInt64 nw)))), .second, .val (.double res), .second] [(.double res)])) _
  refine XS.lload X1.here hx rfl (hb hby at_234) rfl ?_
  show Steps p.tables e below (T1.setTop (mkF m 236 #[.val (.int v1), .val (.int v2), .val (.int v3), .val (.int v4), .val (.int nw), .val (.int cl), .val (.int nn), .val (.int rm), .val (.int ex), .val (.ref r), .val (.long sm), .second, .val (.long ct), .second, .val (.int mn), .val (.long (sm - (ct * (Int32.toInt64 nw)))), .second, .val (.double res), .second] [(.long (sm - (ct * (Int32.toInt64 nw)))), (.double res)])) _
  refine XS.l2dS X1.here hx rfl (v := (FP.l2d (sm - (ct * (Int32.toInt64 nw))))) (hb hby at_236) rfl rfl ?_
  show Steps p.tables e below (T1.setTop (mkF m 237 #[.val (.int v1), .val (.int v2), .val (.int v3), .val (.int v4), .val (.int nw), .val (.int cl), .val (.int nn), .val (.int rm), .val (.int ex), .val (.ref r), .val (.long sm), .second, .val (.long ct), .second, .val (.int mn), .val (.long (sm - (ct * (Int32.toInt64 nw)))), .second, .val (.double res), .second] [(.double (FP.l2d (sm - (ct * (Int32.toInt64 nw))))), (.double res)])) _
  refine XS.dcmpS X1.here hx rfl (v := (0 : Int32)) (hb hby at_237) rfl hcm ?_
  show Steps p.tables e below (T1.setTop (mkF m 238 #[.val (.int v1), .val (.int v2), .val (.int v3), .val (.int v4), .val (.int nw), .val (.int cl), .val (.int nn), .val (.int rm), .val (.int ex), .val (.ref r), .val (.long sm), .second, .val (.long ct), .second, .val (.int mn), .val (.long (sm - (ct * (Int32.toInt64 nw)))), .second, .val (.double res), .second] [(.int (0 : Int32))])) _
  refine XS.ifNo X1.here hx rfl (hb hby at_238) rfl ((if0 _ _).trans (teq rfl).2) ?_
  show Steps p.tables e below (T1.setTop (mkF m 241 #[.val (.int v1), .val (.int v2), .val (.int v3), .val (.int v4), .val (.int nw), .val (.int cl), .val (.int nn), .val (.int rm), .val (.int ex), .val (.ref r), .val (.long sm), .second, .val (.long ct), .second, .val (.int mn), .val (.long (sm - (ct * (Int32.toInt64 nw)))), .second, .val (.double res), .second] [])) _
  refine XS.iconst X1.here hx rfl (hb hby at_241) ?_
  show Steps p.tables e below (T1.setTop (mkF m 242 #[.val (.int v1), .val (.int v2), .val (.int v3), .val (.int v4), .val (.int nw), .val (.int cl), .val (.int nn), .val (.int rm), .val (.int ex), .val (.ref r), .val (.long sm), .second, .val (.long ct), .second, .val (.int mn), .val (.long (sm - (ct * (Int32.toInt64 nw)))), .second, .val (.double res), .second] [(.int (1 : Int32))])) _
  refine XS.goto X1.here hx rfl (pc0 := 242) (pc' := 246) rfl (hb hby at_242) (by decide) (by decide) ?_
  show Steps p.tables e below (T1.setTop (mkF m 246 #[.val (.int v1), .val (.int v2), .val (.int v3), .val (.int v4), .val (.int nw), .val (.int cl), .val (.int nn), .val (.int rm), .val (.int ex), .val (.ref r), .val (.long sm), .second, .val (.long ct), .second, .val (.int mn), .val (.long (sm - (ct * (Int32.toInt64 nw)))), .second, .val (.double res), .second] [(.int (1 : Int32))])) _
  exact ht
def Q0 (n0 : Nat) (v : Option Value) (L : List Loc) : Prop := v = some (.int 1) ∧ Fr n0 L
def own_insR (w : Int64) : List Int64 → List Int64
  | [] => [w]
  | y :: ys => if w < y then y :: own_insR w ys else w :: y :: ys
def own_ins (w : Int64) (xs : List Int64) : List Int64 := (own_insR w xs.reverse).reverse
def own_S (Z : State) (n0 : Nat) (r : Addr) (cap f la : Int32) (xs : List Int64) (h : Heap) : Prop := ∃ ys : List Int64, own_RE Z n0 r cap f la ys h ∧ ys.length = cap.toNatClampNeg ∧ (∀ y ∈ ys, own_I y) ∧ (ys.drop f.toNatClampNeg).take (la.toNatClampNeg - f.toNatClampNeg) = xs
theorem own_S.exa {Z : State} {n0 : Nat} {r : Addr} {cap f la : Int32} {xs : List Int64} {h : Heap} (q : own_S Z n0 r cap f la xs h) : Exa Z h r "com/example/orrery/orrery/policy/RunningEnds" := by
  obtain ⟨ys, ⟨a, k, g1, g2, g3, E, -⟩, -⟩ := q; exact E
theorem own_two {ys : List Int64} (h : ys.length = (2 : Int32).toNatClampNeg) : ∃ y0 y1, ys = [y0, y1] := by
  match ys, h with
  | [y0, y1], _ => exact ⟨y0, y1, rfl⟩
theorem own_quad {ys : List Int64} (h : ys.length = (4 : Int32).toNatClampNeg) : ∃ y0 y1 y2 y3, ys = [y0, y1, y2, y3] := by
  match ys, h with
  | [y0, y1, y2, y3], _ => exact ⟨y0, y1, y2, y3, rfl⟩
theorem own_z : own_I 0 := ⟨by decide, by decide⟩
set_option maxHeartbeats 4000000 in
theorem rmAdd_A (l : Launch) (Z : State) (a0 : Array Value) (hw : ∀ d ∈ tables_1, d.before a0 Z = true) (ws : List Jvm.Cond) (r : Addr) (xs : List Int64) (w : Int64) (h0 : Heap) (n0 : Nat) (Z0 : n0 ≤ h0.size) (hS : own_S Z n0 r (2 : Int32) (0 : Int32) (0 : Int32) xs h0) (bw : own_I w) :
    MetFree l (⟨"com/example/orrery/orrery/policy/RunningEnds", "add", "(D)V"⟩ : MethodName) (head1 (Jvm.Cond.code (⟨"com/example/orrery/orrery/policy/RunningEnds", "add", "(D)V"⟩ : MethodName) prog_11_method_3_code 5 none :: ws) ({ frames := 1, cells := 1, slots := 4, locals := 18 } : Room)) (fun a U => a = #[(.ref r), (.double (FP.l2d w))] ∧ Z.Warmed39 U.vm ∧ U.heap = h0) (fun _ _ _ _ _ => True) (fun _ U o U' => ∃ v L, o = .returned v ∧ QP (own_S Z n0 r (2 : Int32) (0 : Int32) (1 : Int32) (own_ins w xs)) n0 v U'.heap L ∧ FrameEnd U o U' L ({ frames := 1, cells := 1, slots := 4, locals := 18 } : Room).cells ({ frames := 1, cells := 1, slots := 4, locals := 18 } : Room).slots) := by
  obtain ⟨ys, hRE, hl, hI, rfl⟩ := hS
  obtain ⟨y0, y1, rfl⟩ := own_two hl
  have i0 : own_I y0 := hI _ (by simp)
  have i1 : own_I y1 := hI _ (by simp)
  have iz := own_z
  exact rmAdd_A0 l Z a0 hw ws r y0 y1 w _ h0 n0 Z0 hRE  bw  (fun h q => ⟨[w, y1], q, rfl, (by intro y hy; simp only [List.mem_cons, List.not_mem_nil, or_false] at hy; rcases hy with rfl | rfl <;> assumption), (by show [w] = own_ins w []; simp [own_ins, own_insR])⟩)
set_option maxHeartbeats 4000000 in
theorem rmAdd_B (l : Launch) (Z : State) (a0 : Array Value) (hw : ∀ d ∈ tables_1, d.before a0 Z = true) (ws : List Jvm.Cond) (r : Addr) (xs : List Int64) (w : Int64) (h0 : Heap) (n0 : Nat) (Z0 : n0 ≤ h0.size) (hS : own_S Z n0 r (2 : Int32) (0 : Int32) (1 : Int32) xs h0) (bw : own_I w) :
    MetFree l (⟨"com/example/orrery/orrery/policy/RunningEnds", "add", "(D)V"⟩ : MethodName) (head1 (Jvm.Cond.code (⟨"com/example/orrery/orrery/policy/RunningEnds", "add", "(D)V"⟩ : MethodName) prog_11_method_3_code 5 none :: ws) ({ frames := 1, cells := 1, slots := 4, locals := 18 } : Room)) (fun a U => a = #[(.ref r), (.double (FP.l2d w))] ∧ Z.Warmed39 U.vm ∧ U.heap = h0) (fun _ _ _ _ _ => True) (fun _ U o U' => ∃ v L, o = .returned v ∧ QP (own_S Z n0 r (2 : Int32) (0 : Int32) (2 : Int32) (own_ins w xs)) n0 v U'.heap L ∧ FrameEnd U o U' L ({ frames := 1, cells := 1, slots := 4, locals := 18 } : Room).cells ({ frames := 1, cells := 1, slots := 4, locals := 18 } : Room).slots) := by
  obtain ⟨ys, hRE, hl, hI, rfl⟩ := hS
  obtain ⟨y0, y1, rfl⟩ := own_two hl
  have i0 : own_I y0 := hI _ (by simp)
  have i1 : own_I y1 := hI _ (by simp)
  have iz := own_z
  by_cases c0 : w < y0
  · exact rmAdd_B0 l Z a0 hw ws r y0 y1 w _ h0 n0 Z0 hRE i0 bw c0 (fun h q => ⟨[w, y0], q, rfl, (by intro y hy; simp only [List.mem_cons, List.not_mem_nil, or_false] at hy; rcases hy with rfl | rfl <;> assumption), (by show [w, y0] = own_ins w [y0]; simp [own_ins, own_insR, c0])⟩)
  · exact rmAdd_B1 l Z a0 hw ws r y0 y1 w _ h0 n0 Z0 hRE i0 bw c0 (fun h q => ⟨[y0, w], q, rfl, (by intro y hy; simp only [List.mem_cons, List.not_mem_nil, or_false] at hy; rcases hy with rfl | rfl <;> assumption), (by show [y0, w] = own_ins w [y0]; simp [own_ins, own_insR, c0])⟩)
set_option maxHeartbeats 4000000 in
theorem rmAdd_C (l : Launch) (Z : State) (a0 : Array Value) (hw : ∀ d ∈ tables_1, d.before a0 Z = true) (ws : List Jvm.Cond) (r : Addr) (xs : List Int64) (w : Int64) (h0 : Heap) (n0 : Nat) (Z0 : n0 ≤ h0.size) (hS : own_S Z n0 r (2 : Int32) (0 : Int32) (2 : Int32) xs h0) (bw : own_I w) :
    MetFree l (⟨"com/example/orrery/orrery/policy/RunningEnds", "add", "(D)V"⟩ : MethodName) (head1 (Jvm.Cond.code (⟨"com/example/orrery/orrery/policy/RunningEnds", "add", "(D)V"⟩ : MethodName) prog_11_method_3_code 5 none :: ws) ({ frames := 1, cells := 1, slots := 4, locals := 18 } : Room)) (fun a U => a = #[(.ref r), (.double (FP.l2d w))] ∧ Z.Warmed39 U.vm ∧ U.heap = h0) (fun _ _ _ _ _ => True) (fun _ U o U' => ∃ v L, o = .returned v ∧ QP (own_S Z n0 r (4 : Int32) (0 : Int32) (3 : Int32) (own_ins w xs)) n0 v U'.heap L ∧ FrameEnd U o U' L ({ frames := 1, cells := 1, slots := 4, locals := 18 } : Room).cells ({ frames := 1, cells := 1, slots := 4, locals := 18 } : Room).slots) := by
  obtain ⟨ys, hRE, hl, hI, rfl⟩ := hS
  obtain ⟨y0, y1, rfl⟩ := own_two hl
  have i0 : own_I y0 := hI _ (by simp)
  have i1 : own_I y1 := hI _ (by simp)
  have iz := own_z
  by_cases c1 : w < y1
  · by_cases c0 : w < y0
    · exact rmAdd_C0 l Z a0 hw ws r y0 y1 w _ h0 n0 Z0 hRE i0 i1 bw c0 c1 (fun h q => ⟨[w, y0, y1, 0], q, rfl, (by intro y hy; simp only [List.mem_cons, List.not_mem_nil, or_false] at hy; rcases hy with rfl | rfl | rfl | rfl <;> assumption), (by show [w, y0, y1] = own_ins w [y0, y1]; simp [own_ins, own_insR, c1, c0])⟩)
    · exact rmAdd_C1 l Z a0 hw ws r y0 y1 w _ h0 n0 Z0 hRE i0 i1 bw c1 c0 (fun h q => ⟨[y0, w, y1, 0], q, rfl, (by intro y hy; simp only [List.mem_cons, List.not_mem_nil, or_false] at hy; rcases hy with rfl | rfl | rfl | rfl <;> assumption), (by show [y0, w, y1] = own_ins w [y0, y1]; simp [own_ins, own_insR, c1, c0])⟩)
  · exact rmAdd_C2 l Z a0 hw ws r y0 y1 w _ h0 n0 Z0 hRE i1 bw c1 (fun h q => ⟨[y0, y1, w, 0], q, rfl, (by intro y hy; simp only [List.mem_cons, List.not_mem_nil, or_false] at hy; rcases hy with rfl | rfl | rfl | rfl <;> assumption), (by show [y0, y1, w] = own_ins w [y0, y1]; simp [own_ins, own_insR, c1])⟩)
set_option maxHeartbeats 4000000 in
theorem rmAdd_D (l : Launch) (Z : State) (a0 : Array Value) (hw : ∀ d ∈ tables_1, d.before a0 Z = true) (ws : List Jvm.Cond) (r : Addr) (xs : List Int64) (w : Int64) (h0 : Heap) (n0 : Nat) (Z0 : n0 ≤ h0.size) (hS : own_S Z n0 r (2 : Int32) (1 : Int32) (2 : Int32) xs h0) (bw : own_I w) :
    MetFree l (⟨"com/example/orrery/orrery/policy/RunningEnds", "add", "(D)V"⟩ : MethodName) (head1 (Jvm.Cond.code (⟨"com/example/orrery/orrery/policy/RunningEnds", "add", "(D)V"⟩ : MethodName) prog_11_method_3_code 5 none :: ws) ({ frames := 1, cells := 1, slots := 4, locals := 18 } : Room)) (fun a U => a = #[(.ref r), (.double (FP.l2d w))] ∧ Z.Warmed39 U.vm ∧ U.heap = h0) (fun _ _ _ _ _ => True) (fun _ U o U' => ∃ v L, o = .returned v ∧ QP (own_S Z n0 r (4 : Int32) (0 : Int32) (2 : Int32) (own_ins w xs)) n0 v U'.heap L ∧ FrameEnd U o U' L ({ frames := 1, cells := 1, slots := 4, locals := 18 } : Room).cells ({ frames := 1, cells := 1, slots := 4, locals := 18 } : Room).slots) := by
  obtain ⟨ys, hRE, hl, hI, rfl⟩ := hS
  obtain ⟨y0, y1, rfl⟩ := own_two hl
  have i0 : own_I y0 := hI _ (by simp)
  have i1 : own_I y1 := hI _ (by simp)
  have iz := own_z
  by_cases c0 : w < y1
  · exact rmAdd_D0 l Z a0 hw ws r y0 y1 w _ h0 n0 Z0 hRE i1 bw c0 (fun h q => ⟨[w, y1, 0, 0], q, rfl, (by intro y hy; simp only [List.mem_cons, List.not_mem_nil, or_false] at hy; rcases hy with rfl | rfl | rfl | rfl <;> assumption), (by show [w, y1] = own_ins w [y1]; simp [own_ins, own_insR, c0])⟩)
  · exact rmAdd_D1 l Z a0 hw ws r y0 y1 w _ h0 n0 Z0 hRE i1 bw c0 (fun h q => ⟨[y1, w, 0, 0], q, rfl, (by intro y hy; simp only [List.mem_cons, List.not_mem_nil, or_false] at hy; rcases hy with rfl | rfl | rfl | rfl <;> assumption), (by show [y1, w] = own_ins w [y1]; simp [own_ins, own_insR, c0])⟩)
set_option maxHeartbeats 4000000 in
theorem rmAdd_E (l : Launch) (Z : State) (a0 : Array Value) (hw : ∀ d ∈ tables_1, d.before a0 Z = true) (ws : List Jvm.Cond) (r : Addr) (xs : List Int64) (w : Int64) (h0 : Heap) (n0 : Nat) (Z0 : n0 ≤ h0.size) (hS : own_S Z n0 r (4 : Int32) (0 : Int32) (3 : Int32) xs h0) (bw : own_I w) :
    MetFree l (⟨"com/example/orrery/orrery/policy/RunningEnds", "add", "(D)V"⟩ : MethodName) (head1 (Jvm.Cond.code (⟨"com/example/orrery/orrery/policy/RunningEnds", "add", "(D)V"⟩ : MethodName) prog_11_method_3_code 5 none :: ws) ({ frames := 1, cells := 1, slots := 4, locals := 18 } : Room)) (fun a U => a = #[(.ref r), (.double (FP.l2d w))] ∧ Z.Warmed39 U.vm ∧ U.heap = h0) (fun _ _ _ _ _ => True) (fun _ U o U' => ∃ v L, o = .returned v ∧ QP (own_S Z n0 r (4 : Int32) (0 : Int32) (4 : Int32) (own_ins w xs)) n0 v U'.heap L ∧ FrameEnd U o U' L ({ frames := 1, cells := 1, slots := 4, locals := 18 } : Room).cells ({ frames := 1, cells := 1, slots := 4, locals := 18 } : Room).slots) := by
  obtain ⟨ys, hRE, hl, hI, rfl⟩ := hS
  obtain ⟨y0, y1, y2, y3, rfl⟩ := own_quad hl
  have i0 : own_I y0 := hI _ (by simp)
  have i1 : own_I y1 := hI _ (by simp)
  have i2 : own_I y2 := hI _ (by simp)
  have i3 : own_I y3 := hI _ (by simp)
  have iz := own_z
  by_cases c2 : w < y2
  · by_cases c1 : w < y1
    · by_cases c0 : w < y0
      · exact rmAdd_E0 l Z a0 hw ws r y0 y1 y2 y3 w _ h0 n0 Z0 hRE i0 i1 i2 bw c0 c1 c2 (fun h q => ⟨[w, y0, y1, y2], q, rfl, (by intro y hy; simp only [List.mem_cons, List.not_mem_nil, or_false] at hy; rcases hy with rfl | rfl | rfl | rfl <;> assumption), (by show [w, y0, y1, y2] = own_ins w [y0, y1, y2]; simp [own_ins, own_insR, c2, c1, c0])⟩)
      · exact rmAdd_E1 l Z a0 hw ws r y0 y1 y2 y3 w _ h0 n0 Z0 hRE i0 i1 i2 bw c1 c2 c0 (fun h q => ⟨[y0, w, y1, y2], q, rfl, (by intro y hy; simp only [List.mem_cons, List.not_mem_nil, or_false] at hy; rcases hy with rfl | rfl | rfl | rfl <;> assumption), (by show [y0, w, y1, y2] = own_ins w [y0, y1, y2]; simp [own_ins, own_insR, c2, c1, c0])⟩)
    · exact rmAdd_E2 l Z a0 hw ws r y0 y1 y2 y3 w _ h0 n0 Z0 hRE i1 i2 bw c2 c1 (fun h q => ⟨[y0, y1, w, y2], q, rfl, (by intro y hy; simp only [List.mem_cons, List.not_mem_nil, or_false] at hy; rcases hy with rfl | rfl | rfl | rfl <;> assumption), (by show [y0, y1, w, y2] = own_ins w [y0, y1, y2]; simp [own_ins, own_insR, c2, c1])⟩)
  · exact rmAdd_E3 l Z a0 hw ws r y0 y1 y2 y3 w _ h0 n0 Z0 hRE i2 bw c2 (fun h q => ⟨[y0, y1, y2, w], q, rfl, (by intro y hy; simp only [List.mem_cons, List.not_mem_nil, or_false] at hy; rcases hy with rfl | rfl | rfl | rfl <;> assumption), (by show [y0, y1, y2, w] = own_ins w [y0, y1, y2]; simp [own_ins, own_insR, c2])⟩)
set_option maxHeartbeats 4000000 in
theorem rmAdd_F (l : Launch) (Z : State) (a0 : Array Value) (hw : ∀ d ∈ tables_1, d.before a0 Z = true) (ws : List Jvm.Cond) (r : Addr) (xs : List Int64) (w : Int64) (h0 : Heap) (n0 : Nat) (Z0 : n0 ≤ h0.size) (hS : own_S Z n0 r (4 : Int32) (1 : Int32) (3 : Int32) xs h0) (bw : own_I w) :
    MetFree l (⟨"com/example/orrery/orrery/policy/RunningEnds", "add", "(D)V"⟩ : MethodName) (head1 (Jvm.Cond.code (⟨"com/example/orrery/orrery/policy/RunningEnds", "add", "(D)V"⟩ : MethodName) prog_11_method_3_code 5 none :: ws) ({ frames := 1, cells := 1, slots := 4, locals := 18 } : Room)) (fun a U => a = #[(.ref r), (.double (FP.l2d w))] ∧ Z.Warmed39 U.vm ∧ U.heap = h0) (fun _ _ _ _ _ => True) (fun _ U o U' => ∃ v L, o = .returned v ∧ QP (own_S Z n0 r (4 : Int32) (1 : Int32) (4 : Int32) (own_ins w xs)) n0 v U'.heap L ∧ FrameEnd U o U' L ({ frames := 1, cells := 1, slots := 4, locals := 18 } : Room).cells ({ frames := 1, cells := 1, slots := 4, locals := 18 } : Room).slots) := by
  obtain ⟨ys, hRE, hl, hI, rfl⟩ := hS
  obtain ⟨y0, y1, y2, y3, rfl⟩ := own_quad hl
  have i0 : own_I y0 := hI _ (by simp)
  have i1 : own_I y1 := hI _ (by simp)
  have i2 : own_I y2 := hI _ (by simp)
  have i3 : own_I y3 := hI _ (by simp)
  have iz := own_z
  by_cases c2 : w < y2
  · by_cases c1 : w < y1
    · exact rmAdd_F1 l Z a0 hw ws r y0 y1 y2 y3 w _ h0 n0 Z0 hRE i1 i2 bw c1 c2 (fun h q => ⟨[y0, w, y1, y2], q, rfl, (by intro y hy; simp only [List.mem_cons, List.not_mem_nil, or_false] at hy; rcases hy with rfl | rfl | rfl | rfl <;> assumption), (by show [w, y1, y2] = own_ins w [y1, y2]; simp [own_ins, own_insR, c2, c1])⟩)
    · exact rmAdd_F2 l Z a0 hw ws r y0 y1 y2 y3 w _ h0 n0 Z0 hRE i1 i2 bw c2 c1 (fun h q => ⟨[y0, y1, w, y2], q, rfl, (by intro y hy; simp only [List.mem_cons, List.not_mem_nil, or_false] at hy; rcases hy with rfl | rfl | rfl | rfl <;> assumption), (by show [y1, w, y2] = own_ins w [y1, y2]; simp [own_ins, own_insR, c2, c1])⟩)
  · exact rmAdd_F3 l Z a0 hw ws r y0 y1 y2 y3 w _ h0 n0 Z0 hRE i2 bw c2 (fun h q => ⟨[y0, y1, y2, w], q, rfl, (by intro y hy; simp only [List.mem_cons, List.not_mem_nil, or_false] at hy; rcases hy with rfl | rfl | rfl | rfl <;> assumption), (by show [y1, y2, w] = own_ins w [y1, y2]; simp [own_ins, own_insR, c2])⟩)
theorem rmRemS_21 (l : Launch) (Z : State) (a0 : Array Value) (hw : ∀ d ∈ tables_1, d.before a0 Z = true) (ws : List Jvm.Cond) (r : Addr) (tl : List Int64) (w : Int64) (h0 : Heap) (n0 : Nat) (Z0 : n0 ≤ h0.size) (hS : own_S Z n0 r (2 : Int32) (0 : Int32) (1 : Int32) (w :: tl) h0) :
    MetFree l (⟨"com/example/orrery/orrery/policy/RunningEnds", "removeFirst", "(D)V"⟩ : MethodName) (head1 (Jvm.Cond.code (⟨"com/example/orrery/orrery/policy/RunningEnds", "removeFirst", "(D)V"⟩ : MethodName) prog_11_method_4_code 3 none :: ws) ({ frames := 0, cells := 0, slots := 0, locals := 0 } : Room)) (fun a U => a = #[(.ref r), (.double (FP.l2d w))] ∧ Z.Warmed39 U.vm ∧ U.heap = h0) (fun _ _ _ _ _ => True) (fun _ U o U' => ∃ v L, o = .returned v ∧ QP (own_S Z n0 r (2 : Int32) (0 : Int32) (0 : Int32) tl) n0 v U'.heap L ∧ FrameEnd U o U' L ({ frames := 0, cells := 0, slots := 0, locals := 0 } : Room).cells ({ frames := 0, cells := 0, slots := 0, locals := 0 } : Room).slots) := by
  obtain ⟨ys, hRE, hl, hI, hs⟩ := hS
  obtain ⟨y0, y1, rfl⟩ := own_two hl
  have hs' : [y0] = w :: tl := hs
  obtain ⟨rfl, rfl⟩ := List.cons.inj hs'
  exact rmRem_21 l Z a0 hw ws r y0 y1 y0 _ h0 n0 Z0 hRE (dcmpV_self (l2d_fin y0).noNaN .l) (fun h q => ⟨[y0, y1], q, rfl, hI, rfl⟩)
theorem rmRemS_22 (l : Launch) (Z : State) (a0 : Array Value) (hw : ∀ d ∈ tables_1, d.before a0 Z = true) (ws : List Jvm.Cond) (r : Addr) (tl : List Int64) (w : Int64) (h0 : Heap) (n0 : Nat) (Z0 : n0 ≤ h0.size) (hS : own_S Z n0 r (2 : Int32) (0 : Int32) (2 : Int32) (w :: tl) h0) :
    MetFree l (⟨"com/example/orrery/orrery/policy/RunningEnds", "removeFirst", "(D)V"⟩ : MethodName) (head1 (Jvm.Cond.code (⟨"com/example/orrery/orrery/policy/RunningEnds", "removeFirst", "(D)V"⟩ : MethodName) prog_11_method_4_code 3 none :: ws) ({ frames := 0, cells := 0, slots := 0, locals := 0 } : Room)) (fun a U => a = #[(.ref r), (.double (FP.l2d w))] ∧ Z.Warmed39 U.vm ∧ U.heap = h0) (fun _ _ _ _ _ => True) (fun _ U o U' => ∃ v L, o = .returned v ∧ QP (own_S Z n0 r (2 : Int32) (1 : Int32) (2 : Int32) tl) n0 v U'.heap L ∧ FrameEnd U o U' L ({ frames := 0, cells := 0, slots := 0, locals := 0 } : Room).cells ({ frames := 0, cells := 0, slots := 0, locals := 0 } : Room).slots) := by
  obtain ⟨ys, hRE, hl, hI, hs⟩ := hS
  obtain ⟨y0, y1, rfl⟩ := own_two hl
  have hs' : [y0, y1] = w :: tl := hs
  obtain ⟨rfl, rfl⟩ := List.cons.inj hs'
  exact rmRem_22 l Z a0 hw ws r y0 y1 y0 _ h0 n0 Z0 hRE (dcmpV_self (l2d_fin y0).noNaN .l) (fun h q => ⟨[y0, y1], q, rfl, hI, rfl⟩)
theorem rmRemS_43 (l : Launch) (Z : State) (a0 : Array Value) (hw : ∀ d ∈ tables_1, d.before a0 Z = true) (ws : List Jvm.Cond) (r : Addr) (tl : List Int64) (w : Int64) (h0 : Heap) (n0 : Nat) (Z0 : n0 ≤ h0.size) (hS : own_S Z n0 r (4 : Int32) (0 : Int32) (3 : Int32) (w :: tl) h0) :
    MetFree l (⟨"com/example/orrery/orrery/policy/RunningEnds", "removeFirst", "(D)V"⟩ : MethodName) (head1 (Jvm.Cond.code (⟨"com/example/orrery/orrery/policy/RunningEnds", "removeFirst", "(D)V"⟩ : MethodName) prog_11_method_4_code 3 none :: ws) ({ frames := 0, cells := 0, slots := 0, locals := 0 } : Room)) (fun a U => a = #[(.ref r), (.double (FP.l2d w))] ∧ Z.Warmed39 U.vm ∧ U.heap = h0) (fun _ _ _ _ _ => True) (fun _ U o U' => ∃ v L, o = .returned v ∧ QP (own_S Z n0 r (4 : Int32) (1 : Int32) (3 : Int32) tl) n0 v U'.heap L ∧ FrameEnd U o U' L ({ frames := 0, cells := 0, slots := 0, locals := 0 } : Room).cells ({ frames := 0, cells := 0, slots := 0, locals := 0 } : Room).slots) := by
  obtain ⟨ys, hRE, hl, hI, hs⟩ := hS
  obtain ⟨y0, y1, y2, y3, rfl⟩ := own_quad hl
  have hs' : [y0, y1, y2] = w :: tl := hs
  obtain ⟨rfl, rfl⟩ := List.cons.inj hs'
  exact rmRem_43 l Z a0 hw ws r y0 y1 y2 y3 y0 _ h0 n0 Z0 hRE (dcmpV_self (l2d_fin y0).noNaN .l) (fun h q => ⟨[y0, y1, y2, y3], q, rfl, hI, rfl⟩)
def own_sum : List Int64 → Int
  | [] => 0
  | y :: ys => y.toInt + own_sum ys
theorem own_stepL {acc y nw : Int64} {M : Int} (hM : M ≤ 1099511627776) (h1 : -M ≤ acc.toInt) (h2 : acc.toInt ≤ M) (hy : own_I y) (hn : own_I nw) : own_okL acc y nw (acc + (y - nw)) ∧ (acc + (y - nw)).toInt = acc.toInt + (y.toInt - nw.toInt) := by
  have b1 := own_b53 hy
  have b2 := own_b53 hn
  have e1 := sub64 b1 b2
  have hy1 := hy.1; have hy2 := hy.2; have hn1 := hn.1; have hn2 := hn.2
  have b3 : B53 (y - nw) := ⟨by omega, by omega⟩
  have b4 : B53 acc := ⟨by omega, by omega⟩
  have e2 := add64 b4 b3
  exact ⟨⟨nn_w (dsub_w b1 b2), dsub_w b1 b2, nn_w (dadd_w b4 b3), dadd_w b4 b3⟩, by rw [e2, e1]⟩
theorem rmLeftS_200 (l : Launch) (Z : State) (a0 : Array Value) (hw : ∀ d ∈ tables_1, d.before a0 Z = true) (r : Addr) (xs : List Int64) (nw : Int64) (h0 : Heap) (n0 : Nat) (Z0 : n0 ≤ h0.size) (hS : own_S Z n0 r (2 : Int32) (0 : Int32) (0 : Int32) xs h0) (bn : own_I nw) :
    ∃ c : Int64, c.toInt = own_sum xs - 0 * nw.toInt ∧ MetFree l (⟨"com/example/orrery/orrery/policy/RunningEnds", "leftAt", "(D)D"⟩ : MethodName) (head1 [Jvm.Cond.code (⟨"com/example/orrery/orrery/policy/RunningEnds", "leftAt", "(D)D"⟩ : MethodName) prog_11_method_7_code 6 (some .double)] ({ frames := 0, cells := 0, slots := 0, locals := 0 } : Room)) (fun a U => a = #[(.ref r), (.double (FP.l2d nw))] ∧ Z.Warmed39 U.vm ∧ U.heap = h0) (fun _ _ _ _ _ => True) (fun _ U o U' => ∃ v L, o = .returned v ∧ QL (FP.l2d c) h0 n0 v U'.heap L ∧ FrameEnd U o U' L ({ frames := 0, cells := 0, slots := 0, locals := 0 } : Room).cells ({ frames := 0, cells := 0, slots := 0, locals := 0 } : Room).slots) := by
  obtain ⟨ys, hRE, hl, hI, rfl⟩ := hS
  obtain ⟨y0, y1, rfl⟩ := own_two hl
  have pn := bn.1; have qn := bn.2
  have z0 : (0 : Int64).toInt = 0 := by decide
  refine ⟨(0 : Int64), ?_, ?_⟩
  · show _ = own_sum [] - _
    simp only [own_sum]; omega
  · exact rmLeft_200 l Z a0 hw [] r y0 y1 nw  h0 n0 Z0 hRE 
theorem rmLeftS_201 (l : Launch) (Z : State) (a0 : Array Value) (hw : ∀ d ∈ tables_1, d.before a0 Z = true) (r : Addr) (xs : List Int64) (nw : Int64) (h0 : Heap) (n0 : Nat) (Z0 : n0 ≤ h0.size) (hS : own_S Z n0 r (2 : Int32) (0 : Int32) (1 : Int32) xs h0) (bn : own_I nw) :
    ∃ c : Int64, c.toInt = own_sum xs - 1 * nw.toInt ∧ MetFree l (⟨"com/example/orrery/orrery/policy/RunningEnds", "leftAt", "(D)D"⟩ : MethodName) (head1 [Jvm.Cond.code (⟨"com/example/orrery/orrery/policy/RunningEnds", "leftAt", "(D)D"⟩ : MethodName) prog_11_method_7_code 6 (some .double)] ({ frames := 0, cells := 0, slots := 0, locals := 0 } : Room)) (fun a U => a = #[(.ref r), (.double (FP.l2d nw))] ∧ Z.Warmed39 U.vm ∧ U.heap = h0) (fun _ _ _ _ _ => True) (fun _ U o U' => ∃ v L, o = .returned v ∧ QL (FP.l2d c) h0 n0 v U'.heap L ∧ FrameEnd U o U' L ({ frames := 0, cells := 0, slots := 0, locals := 0 } : Room).cells ({ frames := 0, cells := 0, slots := 0, locals := 0 } : Room).slots) := by
  obtain ⟨ys, hRE, hl, hI, rfl⟩ := hS
  obtain ⟨y0, y1, rfl⟩ := own_two hl
  have i0 : own_I y0 := hI _ (by simp)
  have p0 := i0.1; have q0 := i0.2
  have pn := bn.1; have qn := bn.2
  have z0 : (0 : Int64).toInt = 0 := by decide
  obtain ⟨ok0, t0⟩ := own_stepL (acc := (0 : Int64)) (y := y0) (nw := nw) (M := 0 * 4294967296) (by decide) (by omega) (by omega) i0 bn
  refine ⟨((0 : Int64) + (y0 - nw)), ?_, ?_⟩
  · show _ = own_sum [y0] - _
    simp only [own_sum]; omega
  · exact rmLeft_201 l Z a0 hw [] r y0 y1 nw ((0 : Int64) + (y0 - nw)) h0 n0 Z0 hRE ok0
theorem rmLeftS_202 (l : Launch) (Z : State) (a0 : Array Value) (hw : ∀ d ∈ tables_1, d.before a0 Z = true) (r : Addr) (xs : List Int64) (nw : Int64) (h0 : Heap) (n0 : Nat) (Z0 : n0 ≤ h0.size) (hS : own_S Z n0 r (2 : Int32) (0 : Int32) (2 : Int32) xs h0) (bn : own_I nw) :
    ∃ c : Int64, c.toInt = own_sum xs - 2 * nw.toInt ∧ MetFree l (⟨"com/example/orrery/orrery/policy/RunningEnds", "leftAt", "(D)D"⟩ : MethodName) (head1 [Jvm.Cond.code (⟨"com/example/orrery/orrery/policy/RunningEnds", "leftAt", "(D)D"⟩ : MethodName) prog_11_method_7_code 6 (some .double)] ({ frames := 0, cells := 0, slots := 0, locals := 0 } : Room)) (fun a U => a = #[(.ref r), (.double (FP.l2d nw))] ∧ Z.Warmed39 U.vm ∧ U.heap = h0) (fun _ _ _ _ _ => True) (fun _ U o U' => ∃ v L, o = .returned v ∧ QL (FP.l2d c) h0 n0 v U'.heap L ∧ FrameEnd U o U' L ({ frames := 0, cells := 0, slots := 0, locals := 0 } : Room).cells ({ frames := 0, cells := 0, slots := 0, locals := 0 } : Room).slots) := by
  obtain ⟨ys, hRE, hl, hI, rfl⟩ := hS
  obtain ⟨y0, y1, rfl⟩ := own_two hl
  have i0 : own_I y0 := hI _ (by simp)
  have p0 := i0.1; have q0 := i0.2
  have i1 : own_I y1 := hI _ (by simp)
  have p1 := i1.1; have q1 := i1.2
  have pn := bn.1; have qn := bn.2
  have z0 : (0 : Int64).toInt = 0 := by decide
  obtain ⟨ok0, t0⟩ := own_stepL (acc := (0 : Int64)) (y := y0) (nw := nw) (M := 0 * 4294967296) (by decide) (by omega) (by omega) i0 bn
  obtain ⟨ok1, t1⟩ := own_stepL (acc := ((0 : Int64) + (y0 - nw))) (y := y1) (nw := nw) (M := 1 * 4294967296) (by decide) (by omega) (by omega) i1 bn
  refine ⟨(((0 : Int64) + (y0 - nw)) + (y1 - nw)), ?_, ?_⟩
  · show _ = own_sum [y0, y1] - _
    simp only [own_sum]; omega
  · exact rmLeft_202 l Z a0 hw [] r y0 y1 nw ((0 : Int64) + (y0 - nw)) (((0 : Int64) + (y0 - nw)) + (y1 - nw)) h0 n0 Z0 hRE ok0 ok1
theorem rmLeftS_212 (l : Launch) (Z : State) (a0 : Array Value) (hw : ∀ d ∈ tables_1, d.before a0 Z = true) (r : Addr) (xs : List Int64) (nw : Int64) (h0 : Heap) (n0 : Nat) (Z0 : n0 ≤ h0.size) (hS : own_S Z n0 r (2 : Int32) (1 : Int32) (2 : Int32) xs h0) (bn : own_I nw) :
    ∃ c : Int64, c.toInt = own_sum xs - 1 * nw.toInt ∧ MetFree l (⟨"com/example/orrery/orrery/policy/RunningEnds", "leftAt", "(D)D"⟩ : MethodName) (head1 [Jvm.Cond.code (⟨"com/example/orrery/orrery/policy/RunningEnds", "leftAt", "(D)D"⟩ : MethodName) prog_11_method_7_code 6 (some .double)] ({ frames := 0, cells := 0, slots := 0, locals := 0 } : Room)) (fun a U => a = #[(.ref r), (.double (FP.l2d nw))] ∧ Z.Warmed39 U.vm ∧ U.heap = h0) (fun _ _ _ _ _ => True) (fun _ U o U' => ∃ v L, o = .returned v ∧ QL (FP.l2d c) h0 n0 v U'.heap L ∧ FrameEnd U o U' L ({ frames := 0, cells := 0, slots := 0, locals := 0 } : Room).cells ({ frames := 0, cells := 0, slots := 0, locals := 0 } : Room).slots) := by
  obtain ⟨ys, hRE, hl, hI, rfl⟩ := hS
  obtain ⟨y0, y1, rfl⟩ := own_two hl
  have i1 : own_I y1 := hI _ (by simp)
  have p1 := i1.1; have q1 := i1.2
  have pn := bn.1; have qn := bn.2
  have z0 : (0 : Int64).toInt = 0 := by decide
  obtain ⟨ok1, t1⟩ := own_stepL (acc := (0 : Int64)) (y := y1) (nw := nw) (M := 0 * 4294967296) (by decide) (by omega) (by omega) i1 bn
  refine ⟨((0 : Int64) + (y1 - nw)), ?_, ?_⟩
  · show _ = own_sum [y1] - _
    simp only [own_sum]; omega
  · exact rmLeft_212 l Z a0 hw [] r y0 y1 nw ((0 : Int64) + (y1 - nw)) h0 n0 Z0 hRE ok1
theorem rmLeftS_402 (l : Launch) (Z : State) (a0 : Array Value) (hw : ∀ d ∈ tables_1, d.before a0 Z = true) (r : Addr) (xs : List Int64) (nw : Int64) (h0 : Heap) (n0 : Nat) (Z0 : n0 ≤ h0.size) (hS : own_S Z n0 r (4 : Int32) (0 : Int32) (2 : Int32) xs h0) (bn : own_I nw) :
    ∃ c : Int64, c.toInt = own_sum xs - 2 * nw.toInt ∧ MetFree l (⟨"com/example/orrery/orrery/policy/RunningEnds", "leftAt", "(D)D"⟩ : MethodName) (head1 [Jvm.Cond.code (⟨"com/example/orrery/orrery/policy/RunningEnds", "leftAt", "(D)D"⟩ : MethodName) prog_11_method_7_code 6 (some .double)] ({ frames := 0, cells := 0, slots := 0, locals := 0 } : Room)) (fun a U => a = #[(.ref r), (.double (FP.l2d nw))] ∧ Z.Warmed39 U.vm ∧ U.heap = h0) (fun _ _ _ _ _ => True) (fun _ U o U' => ∃ v L, o = .returned v ∧ QL (FP.l2d c) h0 n0 v U'.heap L ∧ FrameEnd U o U' L ({ frames := 0, cells := 0, slots := 0, locals := 0 } : Room).cells ({ frames := 0, cells := 0, slots := 0, locals := 0 } : Room).slots) := by
  obtain ⟨ys, hRE, hl, hI, rfl⟩ := hS
  obtain ⟨y0, y1, y2, y3, rfl⟩ := own_quad hl
  have i0 : own_I y0 := hI _ (by simp)
  have p0 := i0.1; have q0 := i0.2
  have i1 : own_I y1 := hI _ (by simp)
  have p1 := i1.1; have q1 := i1.2
  have pn := bn.1; have qn := bn.2
  have z0 : (0 : Int64).toInt = 0 := by decide
  obtain ⟨ok0, t0⟩ := own_stepL (acc := (0 : Int64)) (y := y0) (nw := nw) (M := 0 * 4294967296) (by decide) (by omega) (by omega) i0 bn
  obtain ⟨ok1, t1⟩ := own_stepL (acc := ((0 : Int64) + (y0 - nw))) (y := y1) (nw := nw) (M := 1 * 4294967296) (by decide) (by omega) (by omega) i1 bn
  refine ⟨(((0 : Int64) + (y0 - nw)) + (y1 - nw)), ?_, ?_⟩
  · show _ = own_sum [y0, y1] - _
    simp only [own_sum]; omega
  · exact rmLeft_402 l Z a0 hw [] r y0 y1 y2 y3 nw ((0 : Int64) + (y0 - nw)) (((0 : Int64) + (y0 - nw)) + (y1 - nw)) h0 n0 Z0 hRE ok0 ok1
theorem rmLeftS_403 (l : Launch) (Z : State) (a0 : Array Value) (hw : ∀ d ∈ tables_1, d.before a0 Z = true) (r : Addr) (xs : List Int64) (nw : Int64) (h0 : Heap) (n0 : Nat) (Z0 : n0 ≤ h0.size) (hS : own_S Z n0 r (4 : Int32) (0 : Int32) (3 : Int32) xs h0) (bn : own_I nw) :
    ∃ c : Int64, c.toInt = own_sum xs - 3 * nw.toInt ∧ MetFree l (⟨"com/example/orrery/orrery/policy/RunningEnds", "leftAt", "(D)D"⟩ : MethodName) (head1 [Jvm.Cond.code (⟨"com/example/orrery/orrery/policy/RunningEnds", "leftAt", "(D)D"⟩ : MethodName) prog_11_method_7_code 6 (some .double)] ({ frames := 0, cells := 0, slots := 0, locals := 0 } : Room)) (fun a U => a = #[(.ref r), (.double (FP.l2d nw))] ∧ Z.Warmed39 U.vm ∧ U.heap = h0) (fun _ _ _ _ _ => True) (fun _ U o U' => ∃ v L, o = .returned v ∧ QL (FP.l2d c) h0 n0 v U'.heap L ∧ FrameEnd U o U' L ({ frames := 0, cells := 0, slots := 0, locals := 0 } : Room).cells ({ frames := 0, cells := 0, slots := 0, locals := 0 } : Room).slots) := by
  obtain ⟨ys, hRE, hl, hI, rfl⟩ := hS
  obtain ⟨y0, y1, y2, y3, rfl⟩ := own_quad hl
  have i0 : own_I y0 := hI _ (by simp)
  have p0 := i0.1; have q0 := i0.2
  have i1 : own_I y1 := hI _ (by simp)
  have p1 := i1.1; have q1 := i1.2
  have i2 : own_I y2 := hI _ (by simp)
  have p2 := i2.1; have q2 := i2.2
  have pn := bn.1; have qn := bn.2
  have z0 : (0 : Int64).toInt = 0 := by decide
  obtain ⟨ok0, t0⟩ := own_stepL (acc := (0 : Int64)) (y := y0) (nw := nw) (M := 0 * 4294967296) (by decide) (by omega) (by omega) i0 bn
  obtain ⟨ok1, t1⟩ := own_stepL (acc := ((0 : Int64) + (y0 - nw))) (y := y1) (nw := nw) (M := 1 * 4294967296) (by decide) (by omega) (by omega) i1 bn
  obtain ⟨ok2, t2⟩ := own_stepL (acc := (((0 : Int64) + (y0 - nw)) + (y1 - nw))) (y := y2) (nw := nw) (M := 2 * 4294967296) (by decide) (by omega) (by omega) i2 bn
  refine ⟨((((0 : Int64) + (y0 - nw)) + (y1 - nw)) + (y2 - nw)), ?_, ?_⟩
  · show _ = own_sum [y0, y1, y2] - _
    simp only [own_sum]; omega
  · exact rmLeft_403 l Z a0 hw [] r y0 y1 y2 y3 nw ((0 : Int64) + (y0 - nw)) (((0 : Int64) + (y0 - nw)) + (y1 - nw)) ((((0 : Int64) + (y0 - nw)) + (y1 - nw)) + (y2 - nw)) h0 n0 Z0 hRE ok0 ok1 ok2
theorem rmLeftS_413 (l : Launch) (Z : State) (a0 : Array Value) (hw : ∀ d ∈ tables_1, d.before a0 Z = true) (r : Addr) (xs : List Int64) (nw : Int64) (h0 : Heap) (n0 : Nat) (Z0 : n0 ≤ h0.size) (hS : own_S Z n0 r (4 : Int32) (1 : Int32) (3 : Int32) xs h0) (bn : own_I nw) :
    ∃ c : Int64, c.toInt = own_sum xs - 2 * nw.toInt ∧ MetFree l (⟨"com/example/orrery/orrery/policy/RunningEnds", "leftAt", "(D)D"⟩ : MethodName) (head1 [Jvm.Cond.code (⟨"com/example/orrery/orrery/policy/RunningEnds", "leftAt", "(D)D"⟩ : MethodName) prog_11_method_7_code 6 (some .double)] ({ frames := 0, cells := 0, slots := 0, locals := 0 } : Room)) (fun a U => a = #[(.ref r), (.double (FP.l2d nw))] ∧ Z.Warmed39 U.vm ∧ U.heap = h0) (fun _ _ _ _ _ => True) (fun _ U o U' => ∃ v L, o = .returned v ∧ QL (FP.l2d c) h0 n0 v U'.heap L ∧ FrameEnd U o U' L ({ frames := 0, cells := 0, slots := 0, locals := 0 } : Room).cells ({ frames := 0, cells := 0, slots := 0, locals := 0 } : Room).slots) := by
  obtain ⟨ys, hRE, hl, hI, rfl⟩ := hS
  obtain ⟨y0, y1, y2, y3, rfl⟩ := own_quad hl
  have i1 : own_I y1 := hI _ (by simp)
  have p1 := i1.1; have q1 := i1.2
  have i2 : own_I y2 := hI _ (by simp)
  have p2 := i2.1; have q2 := i2.2
  have pn := bn.1; have qn := bn.2
  have z0 : (0 : Int64).toInt = 0 := by decide
  obtain ⟨ok1, t1⟩ := own_stepL (acc := (0 : Int64)) (y := y1) (nw := nw) (M := 0 * 4294967296) (by decide) (by omega) (by omega) i1 bn
  obtain ⟨ok2, t2⟩ := own_stepL (acc := ((0 : Int64) + (y1 - nw))) (y := y2) (nw := nw) (M := 1 * 4294967296) (by decide) (by omega) (by omega) i2 bn
  refine ⟨(((0 : Int64) + (y1 - nw)) + (y2 - nw)), ?_, ?_⟩
  · show _ = own_sum [y1, y2] - _
    simp only [own_sum]; omega
  · exact rmLeft_413 l Z a0 hw [] r y0 y1 y2 y3 nw ((0 : Int64) + (y1 - nw)) (((0 : Int64) + (y1 - nw)) + (y2 - nw)) h0 n0 Z0 hRE ok1 ok2
theorem rmLeftS_404 (l : Launch) (Z : State) (a0 : Array Value) (hw : ∀ d ∈ tables_1, d.before a0 Z = true) (r : Addr) (xs : List Int64) (nw : Int64) (h0 : Heap) (n0 : Nat) (Z0 : n0 ≤ h0.size) (hS : own_S Z n0 r (4 : Int32) (0 : Int32) (4 : Int32) xs h0) (bn : own_I nw) :
    ∃ c : Int64, c.toInt = own_sum xs - 4 * nw.toInt ∧ MetFree l (⟨"com/example/orrery/orrery/policy/RunningEnds", "leftAt", "(D)D"⟩ : MethodName) (head1 [Jvm.Cond.code (⟨"com/example/orrery/orrery/policy/RunningEnds", "leftAt", "(D)D"⟩ : MethodName) prog_11_method_7_code 6 (some .double)] ({ frames := 0, cells := 0, slots := 0, locals := 0 } : Room)) (fun a U => a = #[(.ref r), (.double (FP.l2d nw))] ∧ Z.Warmed39 U.vm ∧ U.heap = h0) (fun _ _ _ _ _ => True) (fun _ U o U' => ∃ v L, o = .returned v ∧ QL (FP.l2d c) h0 n0 v U'.heap L ∧ FrameEnd U o U' L ({ frames := 0, cells := 0, slots := 0, locals := 0 } : Room).cells ({ frames := 0, cells := 0, slots := 0, locals := 0 } : Room).slots) := by
  obtain ⟨ys, hRE, hl, hI, rfl⟩ := hS
  obtain ⟨y0, y1, y2, y3, rfl⟩ := own_quad hl
  have i0 : own_I y0 := hI _ (by simp)
  have p0 := i0.1; have q0 := i0.2
  have i1 : own_I y1 := hI _ (by simp)
  have p1 := i1.1; have q1 := i1.2
  have i2 : own_I y2 := hI _ (by simp)
  have p2 := i2.1; have q2 := i2.2
  have i3 : own_I y3 := hI _ (by simp)
  have p3 := i3.1; have q3 := i3.2
  have pn := bn.1; have qn := bn.2
  have z0 : (0 : Int64).toInt = 0 := by decide
  obtain ⟨ok0, t0⟩ := own_stepL (acc := (0 : Int64)) (y := y0) (nw := nw) (M := 0 * 4294967296) (by decide) (by omega) (by omega) i0 bn
  obtain ⟨ok1, t1⟩ := own_stepL (acc := ((0 : Int64) + (y0 - nw))) (y := y1) (nw := nw) (M := 1 * 4294967296) (by decide) (by omega) (by omega) i1 bn
  obtain ⟨ok2, t2⟩ := own_stepL (acc := (((0 : Int64) + (y0 - nw)) + (y1 - nw))) (y := y2) (nw := nw) (M := 2 * 4294967296) (by decide) (by omega) (by omega) i2 bn
  obtain ⟨ok3, t3⟩ := own_stepL (acc := ((((0 : Int64) + (y0 - nw)) + (y1 - nw)) + (y2 - nw))) (y := y3) (nw := nw) (M := 3 * 4294967296) (by decide) (by omega) (by omega) i3 bn
  refine ⟨(((((0 : Int64) + (y0 - nw)) + (y1 - nw)) + (y2 - nw)) + (y3 - nw)), ?_, ?_⟩
  · show _ = own_sum [y0, y1, y2, y3] - _
    simp only [own_sum]; omega
  · exact rmLeft_404 l Z a0 hw [] r y0 y1 y2 y3 nw ((0 : Int64) + (y0 - nw)) (((0 : Int64) + (y0 - nw)) + (y1 - nw)) ((((0 : Int64) + (y0 - nw)) + (y1 - nw)) + (y2 - nw)) (((((0 : Int64) + (y0 - nw)) + (y1 - nw)) + (y2 - nw)) + (y3 - nw)) h0 n0 Z0 hRE ok0 ok1 ok2 ok3
theorem rmLeftS_414 (l : Launch) (Z : State) (a0 : Array Value) (hw : ∀ d ∈ tables_1, d.before a0 Z = true) (r : Addr) (xs : List Int64) (nw : Int64) (h0 : Heap) (n0 : Nat) (Z0 : n0 ≤ h0.size) (hS : own_S Z n0 r (4 : Int32) (1 : Int32) (4 : Int32) xs h0) (bn : own_I nw) :
    ∃ c : Int64, c.toInt = own_sum xs - 3 * nw.toInt ∧ MetFree l (⟨"com/example/orrery/orrery/policy/RunningEnds", "leftAt", "(D)D"⟩ : MethodName) (head1 [Jvm.Cond.code (⟨"com/example/orrery/orrery/policy/RunningEnds", "leftAt", "(D)D"⟩ : MethodName) prog_11_method_7_code 6 (some .double)] ({ frames := 0, cells := 0, slots := 0, locals := 0 } : Room)) (fun a U => a = #[(.ref r), (.double (FP.l2d nw))] ∧ Z.Warmed39 U.vm ∧ U.heap = h0) (fun _ _ _ _ _ => True) (fun _ U o U' => ∃ v L, o = .returned v ∧ QL (FP.l2d c) h0 n0 v U'.heap L ∧ FrameEnd U o U' L ({ frames := 0, cells := 0, slots := 0, locals := 0 } : Room).cells ({ frames := 0, cells := 0, slots := 0, locals := 0 } : Room).slots) := by
  obtain ⟨ys, hRE, hl, hI, rfl⟩ := hS
  obtain ⟨y0, y1, y2, y3, rfl⟩ := own_quad hl
  have i1 : own_I y1 := hI _ (by simp)
  have p1 := i1.1; have q1 := i1.2
  have i2 : own_I y2 := hI _ (by simp)
  have p2 := i2.1; have q2 := i2.2
  have i3 : own_I y3 := hI _ (by simp)
  have p3 := i3.1; have q3 := i3.2
  have pn := bn.1; have qn := bn.2
  have z0 : (0 : Int64).toInt = 0 := by decide
  obtain ⟨ok1, t1⟩ := own_stepL (acc := (0 : Int64)) (y := y1) (nw := nw) (M := 0 * 4294967296) (by decide) (by omega) (by omega) i1 bn
  obtain ⟨ok2, t2⟩ := own_stepL (acc := ((0 : Int64) + (y1 - nw))) (y := y2) (nw := nw) (M := 1 * 4294967296) (by decide) (by omega) (by omega) i2 bn
  obtain ⟨ok3, t3⟩ := own_stepL (acc := (((0 : Int64) + (y1 - nw)) + (y2 - nw))) (y := y3) (nw := nw) (M := 2 * 4294967296) (by decide) (by omega) (by omega) i3 bn
  refine ⟨((((0 : Int64) + (y1 - nw)) + (y2 - nw)) + (y3 - nw)), ?_, ?_⟩
  · show _ = own_sum [y1, y2, y3] - _
    simp only [own_sum]; omega
  · exact rmLeft_414 l Z a0 hw [] r y0 y1 y2 y3 nw ((0 : Int64) + (y1 - nw)) (((0 : Int64) + (y1 - nw)) + (y2 - nw)) ((((0 : Int64) + (y1 - nw)) + (y2 - nw)) + (y3 - nw)) h0 n0 Z0 hRE ok1 ok2 ok3
theorem own_ir (v : Int32) : own_I (Int32.toInt64 v) := by
  have a := v.toInt_lt; have b := v.le_toInt
  exact ⟨by rw [Int32.toInt_toInt64]; omega, by rw [Int32.toInt_toInt64]; omega⟩
theorem own_four (p : Int32) : p &&& (3 : Int32) = 0 ∨ p &&& (3 : Int32) = 1 ∨ p &&& (3 : Int32) = 2 ∨ p &&& (3 : Int32) = 3 := by
  have h := Jvm.Kit.i32_mask p 3 (k := 2) (by decide) (by decide)
  have h1 : (p &&& 3).toInt = 0 ∨ (p &&& 3).toInt = 1 ∨ (p &&& 3).toInt = 2 ∨ (p &&& 3).toInt = 3 := by omega
  rcases h1 with h1 | h1 | h1 | h1
  · exact Or.inl (Int32.toInt_inj.mp h1)
  · exact Or.inr (Or.inl (Int32.toInt_inj.mp h1))
  · exact Or.inr (Or.inr (Or.inl (Int32.toInt_inj.mp h1)))
  · exact Or.inr (Or.inr (Or.inr (Int32.toInt_inj.mp h1)))
theorem own_sum_app (xs ys : List Int64) : own_sum (xs ++ ys) = own_sum xs + own_sum ys := by
  induction xs with
  | nil => simp [own_sum]
  | cons x xs ih => simp only [List.cons_append, own_sum, ih]; omega
theorem own_sum_rev (xs : List Int64) : own_sum xs.reverse = own_sum xs := by
  induction xs with
  | nil => rfl
  | cons x xs ih => rw [List.reverse_cons, own_sum_app, ih]; simp only [own_sum]; omega
theorem own_sum_insR (w : Int64) (xs : List Int64) : own_sum (own_insR w xs) = own_sum xs + w.toInt := by
  induction xs with
  | nil => simp [own_insR, own_sum]
  | cons x xs ih =>
    unfold own_insR; split
    · simp only [own_sum, ih]; omega
    · simp only [own_sum]; omega
theorem own_sum_ins (w : Int64) (xs : List Int64) : own_sum (own_ins w xs) = own_sum xs + w.toInt := by
  unfold own_ins; rw [own_sum_rev, own_sum_insR, own_sum_rev]
theorem own_lt32 {p q : Int32} : Int32.toInt64 p < Int32.toInt64 q ↔ p < q := by
  rw [Int64.lt_iff_toInt_lt, Int32.lt_iff_toInt_lt, Int32.toInt_toInt64, Int32.toInt_toInt64]
theorem own_head1 (v1 : Int32) : ∃ tl, own_ins (Int32.toInt64 v1) [] = Int32.toInt64 v1 :: tl := ⟨[], rfl⟩
theorem own_head2 (v1 v2 : Int32) : ∃ tl, own_ins (Int32.toInt64 v2) (own_ins (Int32.toInt64 v1) []) = Int32.toInt64 (own_min v1 v2) :: tl := by
  unfold own_min
  by_cases h : v2 < v1
  · exact ⟨[Int32.toInt64 v1], by simp [own_ins, own_insR, own_lt32, h]⟩
  · exact ⟨[Int32.toInt64 v2], by simp [own_ins, own_insR, own_lt32, h]⟩
theorem own_head3 (v1 v2 v3 : Int32) : ∃ tl, own_ins (Int32.toInt64 v3) (own_ins (Int32.toInt64 v2) (own_ins (Int32.toInt64 v1) [])) = Int32.toInt64 (own_min (own_min v1 v2) v3) :: tl := by
  unfold own_min
  by_cases h : v2 < v1
  · by_cases h2 : v3 < v1
    · by_cases h3 : v3 < v2
      · exact ⟨_, by simp [own_ins, own_insR, own_lt32, h, h2, h3]; rfl⟩
      · exact ⟨_, by simp [own_ins, own_insR, own_lt32, h, h2, h3]; rfl⟩
    · have h3 : ¬ v3 < v2 := by rw [Int32.lt_iff_toInt_lt] at *; omega
      exact ⟨_, by simp [own_ins, own_insR, own_lt32, h, h2, h3]; rfl⟩
  · by_cases h2 : v3 < v2
    · by_cases h3 : v3 < v1
      · exact ⟨_, by simp [own_ins, own_insR, own_lt32, h, h2, h3]; rfl⟩
      · exact ⟨_, by simp [own_ins, own_insR, own_lt32, h, h2, h3]; rfl⟩
    · have h3 : ¬ v3 < v1 := by rw [Int32.lt_iff_toInt_lt] at *; omega
      exact ⟨_, by simp [own_ins, own_insR, own_lt32, h, h2, h3]; rfl⟩
theorem own_fin {c sm ct nw : Int64} {S k : Int} (hc : c.toInt = S - k * nw.toInt) (hs : sm.toInt = S) (hk : ct.toInt = k) (k0 : 0 ≤ k) (k1 : k ≤ 4) (s0 : -1099511627776 ≤ S) (s1 : S ≤ 1099511627776) (hn : own_I nw) : cmpValue (FP.dcmp (FP.l2d c) (FP.l2d (sm - (ct * nw)))) .l = 0 := by
  have n1 := hn.1; have n2 := hn.2
  have hk5 : k = 0 ∨ k = 1 ∨ k = 2 ∨ k = 3 ∨ k = 4 := by omega
  have e1 : (ct * nw).toInt = k * nw.toInt := by
    rw [FP.Core.int64_mul (by rw [hk]; rcases hk5 with rfl | rfl | rfl | rfl | rfl <;> omega) (by rw [hk]; rcases hk5 with rfl | rfl | rfl | rfl | rfl <;> omega), hk]
  have e2 : (sm - (ct * nw)).toInt = S - k * nw.toInt := by
    rw [FP.Core.int64_sub (by rw [e1, hs]; rcases hk5 with rfl | rfl | rfl | rfl | rfl <;> omega) (by rw [e1, hs]; rcases hk5 with rfl | rfl | rfl | rfl | rfl <;> omega), e1, hs]
  have : c = sm - (ct * nw) := Int64.toInt_inj.mp (by rw [hc, e2])
  rw [← this]; exact dcmpV_self (l2d_fin c).noNaN .l

set_option maxRecDepth 65536 in
set_option maxHeartbeats 40000000 in
theorem rm0_000 (l : Launch) (Z : State) (a0 : Array Value) (hw : ∀ d ∈ tables_1, d.before a0 Z = true) (ws : List Jvm.Cond) (v1 v2 v3 v4 nw cl : Int32) (h0 : Heap) (n0 : Nat) (Z0 : n0 ≤ h0.size) (hn : cl &&& (3 : Int32) = (0 : Int32)) (hb2 : True) (hb3 : (((cl.toUInt32 >>> ((3 : Int32) &&& 31).toUInt32).toInt32) &&& (1 : Int32)) = 0) :
    MetFree l x (head1 (Jvm.Cond.code x code maxLocals ret :: ws) room_1) (fun a U => a = #[(.int v1), (.int v2), (.int v3), (.int v4), (.int nw), (.int cl)] ∧ Z.Warmed39 U.vm ∧ U.heap = h0) (fun _ _ _ _ _ => True) (fun _ U o U' => ∃ v L, o = .returned v ∧ Q0 n0 v L ∧ FrameEnd U o U' L 6 21) := by
  refine MetFree.of_bodySF (plainFor_of_name pn2) hisR ?_
  intro p e s m args below meth c s₁ Bd hml0 hP hK
  obtain ⟨rfl, hZ, hh⟩ := hP
  have hx := Bd.exec
  have hby := Bd.bytes
  have hml : c.maxLocals = 19 := hml0
  have hown : s.vm.findClass "com/example/orrery/orrery/policy/RunningEndsLeftAtPinLaw" = some m.cls := findClass_of_methodNamed Bd.named
  have hnm := (name_of_methodNamed Bd.named Bd.method).1
  have X0 : Stand p l e room_1 s m #[(.int v1), (.int v2), (.int v3), (.int v4), (.int nw), (.int cl)] below meth c s₁ [] 0 0 := Stand.of_body Bd
  have e0 : s₁.heap = h0 := by rw [← hh, Bd.state]; rfl
  have N0 := Fr.nil n0
  have pre0 : ∀ t, Steps p.tables e below (s₁.setTop (mkF m 0 #[.val (.int v1), .val (.int v2), .val (.int v3), .val (.int v4), .val (.int nw), .val (.int cl), .unset, .unset, .unset, .unset, .unset, .unset, .unset, .unset, .unset, .unset, .unset, .unset, .unset] [])) t → Steps p.tables e below (s₁.setTop (entryFrame m #[(.int v1), (.int v2), (.int v3), (.int v4), (.int nw), (.int cl)] maxLocals)) t := fun t k => castTop (ef6 m v1 v2 v3 v4 nw cl) k
  by_cases hbb : (((cl.toUInt32 >>> ((2 : Int32) &&& 31).toUInt32).toInt32) &&& (1 : Int32)) = 0
  · obtain ⟨T1, L1, X1, e1, N1, st1⟩ := law_r0 l Z a0 hw hx hZ hby hml hown X0 v1 v2 v3 v4 nw cl h0 n0 e0 Z0 N0  hbb
    obtain ⟨T2, L2, X2, e2, N2, st2⟩ := law_x0 l Z a0 hw hx hZ hby hml hown X1 v1 v2 v3 v4 nw cl (cl &&& (3 : Int32)) (0 : Int32) h0 n0 e1 Z0 N1  hb3
    obtain ⟨r, T3, h3, L3, X3, e3, Z3, N3, P3, st3⟩ := law_N l Z a0 hw hx hZ hby hml hown X2 v1 v2 v3 v4 nw cl (cl &&& (3 : Int32)) (0 : Int32) (0 : Int32) h0 n0 e2 Z0 N2 (by decide) (by decide) (by decide) (by decide)
    have S0 : own_S Z n0 r (2 : Int32) (0 : Int32) (0 : Int32) [] h3 := ⟨[0, 0], P3, rfl, (by intro y hy; simp only [List.mem_cons, List.not_mem_nil, or_false] at hy; rcases hy with rfl | rfl <;> exact own_z), rfl⟩
    have s0 : (0 : Int64).toInt = 0 := by decide
    have c0 : (0 : Int64).toInt = 0 := by decide
    have r1 := own_ir v1; have ra1 := r1.1; have rb1 := r1.2
    have r2 := own_ir v2; have ra2 := r2.1; have rb2 := r2.2
    have r3 := own_ir v3; have ra3 := r3.1; have rb3 := r3.2
    have r4 := own_ir v4; have ra4 := r4.1; have rb4 := r4.2
    obtain ⟨T4, L4, X4, e4, N4, st4⟩ := law_s1 l Z a0 hw hx hZ hby hml hown X3 v1 v2 v3 v4 nw cl (cl &&& (3 : Int32)) (0 : Int32) (0 : Int32) r (0 : Int64) (0 : Int64) (2147483647 : Int32) h3 n0 e3 Z3 N3  (by rw [hn]; decide)
    obtain ⟨T5, L5, X5, e5, N5, st5⟩ := law_s2 l Z a0 hw hx hZ hby hml hown X4 v1 v2 v3 v4 nw cl (cl &&& (3 : Int32)) (0 : Int32) (0 : Int32) r (0 : Int64) (0 : Int64) (2147483647 : Int32) h3 n0 e4 Z3 N4  (by rw [hn]; decide)
    obtain ⟨T6, L6, X6, e6, N6, st6⟩ := law_s3 l Z a0 hw hx hZ hby hml hown X5 v1 v2 v3 v4 nw cl (cl &&& (3 : Int32)) (0 : Int32) (0 : Int32) r (0 : Int64) (0 : Int64) (2147483647 : Int32) h3 n0 e5 Z3 N5  (by rw [hn]; decide)
    obtain ⟨T7, L7, X7, e7, N7, st7⟩ := law_q0 l Z a0 hw hx hZ hby hml hown X6 v1 v2 v3 v4 nw cl (cl &&& (3 : Int32)) (0 : Int32) (0 : Int32) r (0 : Int64) (0 : Int64) (2147483647 : Int32) h3 n0 e6 Z3 N6  rfl
    obtain ⟨T8, L8, X8, e8, N8, st8⟩ := law_y0 l Z a0 hw hx hZ hby hml hown X7 v1 v2 v3 v4 nw cl (cl &&& (3 : Int32)) (0 : Int32) (0 : Int32) r (0 : Int64) (0 : Int64) (2147483647 : Int32) h3 n0 e7 Z3 N7  rfl
    obtain ⟨cv, hcv, hL⟩ := rmLeftS_200 l Z a0 hw r [] (Int32.toInt64 nw) h3 n0 Z3 S0 (own_ir nw)
    have hcm := own_fin (c := cv) (sm := (0 : Int64)) (ct := (0 : Int64)) (nw := Int32.toInt64 nw) (S := own_sum []) (k := 0) hcv (by simp only [own_sum_ins, own_sum] at *; omega) (by omega) (by decide) (by decide) (by simp only [own_sum_ins, own_sum] at *; omega) (by simp only [own_sum_ins, own_sum] at *; omega) (own_ir nw)
    obtain ⟨T9, L9, X9, e9, N9, st9⟩ := law_end l Z a0 hw hx hZ hby hml hown X8 v1 v2 v3 v4 nw cl (cl &&& (3 : Int32)) (0 : Int32) (0 : Int32) r (0 : Int64) (0 : Int64) (2147483647 : Int32) _ h3 n0 e8 Z3 N8 (by decide) (by decide) (by decide) (by decide) S0.exa hL hcm
    obtain ⟨fs, hr, hrun, hended, hW, hsame⟩ := X9.leave (v := some (.int (1 : Int32))) (fun h => by rw [Bd.returns] at h; cases h)
    refine ⟨_, _, pre0 _ (st1 _ (st2 _ (st3 _ (st4 _ (st5 _ (st6 _ (st7 _ (st8 _ (st9 _ ?_))))))))), hrun, hended, _, _, rfl, ?_, ⟨_, rfl⟩, hW, hsame.mono (by decide) (by decide)⟩
    · exact retN X9 hx (t := .boolean) Bd.returns (by simp) (hb hby at_246) hr
    · exact ⟨rfl, N9⟩
  · obtain ⟨T1, L1, X1, e1, N1, st1⟩ := law_rn l Z a0 hw hx hZ hby hml hown X0 v1 v2 v3 v4 nw cl h0 n0 e0 Z0 N0  hbb (by rw [hn]; decide)
    obtain ⟨T2, L2, X2, e2, N2, st2⟩ := law_x0 l Z a0 hw hx hZ hby hml hown X1 v1 v2 v3 v4 nw cl (cl &&& (3 : Int32)) (0 : Int32) h0 n0 e1 Z0 N1  hb3
    obtain ⟨r, T3, h3, L3, X3, e3, Z3, N3, P3, st3⟩ := law_N l Z a0 hw hx hZ hby hml hown X2 v1 v2 v3 v4 nw cl (cl &&& (3 : Int32)) (0 : Int32) (0 : Int32) h0 n0 e2 Z0 N2 (by decide) (by decide) (by decide) (by decide)
    have S0 : own_S Z n0 r (2 : Int32) (0 : Int32) (0 : Int32) [] h3 := ⟨[0, 0], P3, rfl, (by intro y hy; simp only [List.mem_cons, List.not_mem_nil, or_false] at hy; rcases hy with rfl | rfl <;> exact own_z), rfl⟩
    have s0 : (0 : Int64).toInt = 0 := by decide
    have c0 : (0 : Int64).toInt = 0 := by decide
    have r1 := own_ir v1; have ra1 := r1.1; have rb1 := r1.2
    have r2 := own_ir v2; have ra2 := r2.1; have rb2 := r2.2
    have r3 := own_ir v3; have ra3 := r3.1; have rb3 := r3.2
    have r4 := own_ir v4; have ra4 := r4.1; have rb4 := r4.2
    obtain ⟨T4, L4, X4, e4, N4, st4⟩ := law_s1 l Z a0 hw hx hZ hby hml hown X3 v1 v2 v3 v4 nw cl (cl &&& (3 : Int32)) (0 : Int32) (0 : Int32) r (0 : Int64) (0 : Int64) (2147483647 : Int32) h3 n0 e3 Z3 N3  (by rw [hn]; decide)
    obtain ⟨T5, L5, X5, e5, N5, st5⟩ := law_s2 l Z a0 hw hx hZ hby hml hown X4 v1 v2 v3 v4 nw cl (cl &&& (3 : Int32)) (0 : Int32) (0 : Int32) r (0 : Int64) (0 : Int64) (2147483647 : Int32) h3 n0 e4 Z3 N4  (by rw [hn]; decide)
    obtain ⟨T6, L6, X6, e6, N6, st6⟩ := law_s3 l Z a0 hw hx hZ hby hml hown X5 v1 v2 v3 v4 nw cl (cl &&& (3 : Int32)) (0 : Int32) (0 : Int32) r (0 : Int64) (0 : Int64) (2147483647 : Int32) h3 n0 e5 Z3 N5  (by rw [hn]; decide)
    obtain ⟨T7, L7, X7, e7, N7, st7⟩ := law_q0 l Z a0 hw hx hZ hby hml hown X6 v1 v2 v3 v4 nw cl (cl &&& (3 : Int32)) (0 : Int32) (0 : Int32) r (0 : Int64) (0 : Int64) (2147483647 : Int32) h3 n0 e6 Z3 N6  rfl
    obtain ⟨T8, L8, X8, e8, N8, st8⟩ := law_y0 l Z a0 hw hx hZ hby hml hown X7 v1 v2 v3 v4 nw cl (cl &&& (3 : Int32)) (0 : Int32) (0 : Int32) r (0 : Int64) (0 : Int64) (2147483647 : Int32) h3 n0 e7 Z3 N7  rfl
    obtain ⟨cv, hcv, hL⟩ := rmLeftS_200 l Z a0 hw r [] (Int32.toInt64 nw) h3 n0 Z3 S0 (own_ir nw)
    have hcm := own_fin (c := cv) (sm := (0 : Int64)) (ct := (0 : Int64)) (nw := Int32.toInt64 nw) (S := own_sum []) (k := 0) hcv (by simp only [own_sum_ins, own_sum] at *; omega) (by omega) (by decide) (by decide) (by simp only [own_sum_ins, own_sum] at *; omega) (by simp only [own_sum_ins, own_sum] at *; omega) (own_ir nw)
    obtain ⟨T9, L9, X9, e9, N9, st9⟩ := law_end l Z a0 hw hx hZ hby hml hown X8 v1 v2 v3 v4 nw cl (cl &&& (3 : Int32)) (0 : Int32) (0 : Int32) r (0 : Int64) (0 : Int64) (2147483647 : Int32) _ h3 n0 e8 Z3 N8 (by decide) (by decide) (by decide) (by decide) S0.exa hL hcm
    obtain ⟨fs, hr, hrun, hended, hW, hsame⟩ := X9.leave (v := some (.int (1 : Int32))) (fun h => by rw [Bd.returns] at h; cases h)
    refine ⟨_, _, pre0 _ (st1 _ (st2 _ (st3 _ (st4 _ (st5 _ (st6 _ (st7 _ (st8 _ (st9 _ ?_))))))))), hrun, hended, _, _, rfl, ?_, ⟨_, rfl⟩, hW, hsame.mono (by decide) (by decide)⟩
    · exact retN X9 hx (t := .boolean) Bd.returns (by simp) (hb hby at_246) hr
    · exact ⟨rfl, N9⟩
set_option maxRecDepth 65536 in
set_option maxHeartbeats 40000000 in
theorem rm0_001 (l : Launch) (Z : State) (a0 : Array Value) (hw : ∀ d ∈ tables_1, d.before a0 Z = true) (ws : List Jvm.Cond) (v1 v2 v3 v4 nw cl : Int32) (h0 : Heap) (n0 : Nat) (Z0 : n0 ≤ h0.size) (hn : cl &&& (3 : Int32) = (0 : Int32)) (hb2 : True) (hb3 : ¬ ((((cl.toUInt32 >>> ((3 : Int32) &&& 31).toUInt32).toInt32) &&& (1 : Int32)) = 0)) :
    MetFree l x (head1 (Jvm.Cond.code x code maxLocals ret :: ws) room_1) (fun a U => a = #[(.int v1), (.int v2), (.int v3), (.int v4), (.int nw), (.int cl)] ∧ Z.Warmed39 U.vm ∧ U.heap = h0) (fun _ _ _ _ _ => True) (fun _ U o U' => ∃ v L, o = .returned v ∧ Q0 n0 v L ∧ FrameEnd U o U' L 6 21) := by
  refine MetFree.of_bodySF (plainFor_of_name pn2) hisR ?_
  intro p e s m args below meth c s₁ Bd hml0 hP hK
  obtain ⟨rfl, hZ, hh⟩ := hP
  have hx := Bd.exec
  have hby := Bd.bytes
  have hml : c.maxLocals = 19 := hml0
  have hown : s.vm.findClass "com/example/orrery/orrery/policy/RunningEndsLeftAtPinLaw" = some m.cls := findClass_of_methodNamed Bd.named
  have hnm := (name_of_methodNamed Bd.named Bd.method).1
  have X0 : Stand p l e room_1 s m #[(.int v1), (.int v2), (.int v3), (.int v4), (.int nw), (.int cl)] below meth c s₁ [] 0 0 := Stand.of_body Bd
  have e0 : s₁.heap = h0 := by rw [← hh, Bd.state]; rfl
  have N0 := Fr.nil n0
  have pre0 : ∀ t, Steps p.tables e below (s₁.setTop (mkF m 0 #[.val (.int v1), .val (.int v2), .val (.int v3), .val (.int v4), .val (.int nw), .val (.int cl), .unset, .unset, .unset, .unset, .unset, .unset, .unset, .unset, .unset, .unset, .unset, .unset, .unset] [])) t → Steps p.tables e below (s₁.setTop (entryFrame m #[(.int v1), (.int v2), (.int v3), (.int v4), (.int nw), (.int cl)] maxLocals)) t := fun t k => castTop (ef6 m v1 v2 v3 v4 nw cl) k
  by_cases hbb : (((cl.toUInt32 >>> ((2 : Int32) &&& 31).toUInt32).toInt32) &&& (1 : Int32)) = 0
  · obtain ⟨T1, L1, X1, e1, N1, st1⟩ := law_r0 l Z a0 hw hx hZ hby hml hown X0 v1 v2 v3 v4 nw cl h0 n0 e0 Z0 N0  hbb
    obtain ⟨T2, L2, X2, e2, N2, st2⟩ := law_x1 l Z a0 hw hx hZ hby hml hown X1 v1 v2 v3 v4 nw cl (cl &&& (3 : Int32)) (0 : Int32) h0 n0 e1 Z0 N1  hb3
    obtain ⟨r, T3, h3, L3, X3, e3, Z3, N3, P3, st3⟩ := law_N l Z a0 hw hx hZ hby hml hown X2 v1 v2 v3 v4 nw cl (cl &&& (3 : Int32)) (0 : Int32) (1 : Int32) h0 n0 e2 Z0 N2 (by decide) (by decide) (by decide) (by decide)
    have S0 : own_S Z n0 r (2 : Int32) (0 : Int32) (0 : Int32) [] h3 := ⟨[0, 0], P3, rfl, (by intro y hy; simp only [List.mem_cons, List.not_mem_nil, or_false] at hy; rcases hy with rfl | rfl <;> exact own_z), rfl⟩
    have s0 : (0 : Int64).toInt = 0 := by decide
    have c0 : (0 : Int64).toInt = 0 := by decide
    have r1 := own_ir v1; have ra1 := r1.1; have rb1 := r1.2
    have r2 := own_ir v2; have ra2 := r2.1; have rb2 := r2.2
    have r3 := own_ir v3; have ra3 := r3.1; have rb3 := r3.2
    have r4 := own_ir v4; have ra4 := r4.1; have rb4 := r4.2
    obtain ⟨T4, L4, X4, e4, N4, st4⟩ := law_s1 l Z a0 hw hx hZ hby hml hown X3 v1 v2 v3 v4 nw cl (cl &&& (3 : Int32)) (0 : Int32) (1 : Int32) r (0 : Int64) (0 : Int64) (2147483647 : Int32) h3 n0 e3 Z3 N3  (by rw [hn]; decide)
    obtain ⟨T5, L5, X5, e5, N5, st5⟩ := law_s2 l Z a0 hw hx hZ hby hml hown X4 v1 v2 v3 v4 nw cl (cl &&& (3 : Int32)) (0 : Int32) (1 : Int32) r (0 : Int64) (0 : Int64) (2147483647 : Int32) h3 n0 e4 Z3 N4  (by rw [hn]; decide)
    obtain ⟨T6, L6, X6, e6, N6, st6⟩ := law_s3 l Z a0 hw hx hZ hby hml hown X5 v1 v2 v3 v4 nw cl (cl &&& (3 : Int32)) (0 : Int32) (1 : Int32) r (0 : Int64) (0 : Int64) (2147483647 : Int32) h3 n0 e5 Z3 N5  (by rw [hn]; decide)
    obtain ⟨T7, L7, X7, e7, N7, st7⟩ := law_q0 l Z a0 hw hx hZ hby hml hown X6 v1 v2 v3 v4 nw cl (cl &&& (3 : Int32)) (0 : Int32) (1 : Int32) r (0 : Int64) (0 : Int64) (2147483647 : Int32) h3 n0 e6 Z3 N6  rfl
    have C9 := rmAdd_A l Z a0 hw [] r [] (Int32.toInt64 v4) h3 n0 Z3 S0 r4
    obtain ⟨T8, h8, L8, X8, e8, Z8, N8, Q8, st8⟩ := law_y1 l Z a0 hw hx hZ hby hml hown X7 v1 v2 v3 v4 nw cl (cl &&& (3 : Int32)) (0 : Int32) (1 : Int32) r (0 : Int64) (0 : Int64) (2147483647 : Int32) _ h3 n0 e7 Z3 N7 (by decide) (by decide) (by decide) (by decide) (by decide) S0.exa C9
    have s1 := add64 (a := (0 : Int64)) (b := (Int32.toInt64 v4)) ⟨by omega, by omega⟩ ⟨by omega, by omega⟩; rw [s0] at s1
    have c1 := add64 (a := (0 : Int64)) (b := (1 : Int64)) ⟨by omega, by omega⟩ ⟨by decide, by decide⟩; rw [c0, show (1 : Int64).toInt = 1 by decide] at c1
    obtain ⟨cv, hcv, hL⟩ := rmLeftS_201 l Z a0 hw r (own_ins (Int32.toInt64 v4) []) (Int32.toInt64 nw) h8 n0 Z8 Q8 (own_ir nw)
    have hcm := own_fin (c := cv) (sm := ((0 : Int64) + (Int32.toInt64 v4))) (ct := ((0 : Int64) + (1 : Int64))) (nw := Int32.toInt64 nw) (S := own_sum (own_ins (Int32.toInt64 v4) [])) (k := 1) hcv (by simp only [own_sum_ins, own_sum] at *; omega) (by omega) (by decide) (by decide) (by simp only [own_sum_ins, own_sum] at *; omega) (by simp only [own_sum_ins, own_sum] at *; omega) (own_ir nw)
    obtain ⟨T9, L9, X9, e9, N9, st9⟩ := law_end l Z a0 hw hx hZ hby hml hown X8 v1 v2 v3 v4 nw cl (cl &&& (3 : Int32)) (0 : Int32) (1 : Int32) r ((0 : Int64) + (Int32.toInt64 v4)) ((0 : Int64) + (1 : Int64)) (2147483647 : Int32) _ h8 n0 e8 Z8 N8 (by decide) (by decide) (by decide) (by decide) Q8.exa hL hcm
    obtain ⟨fs, hr, hrun, hended, hW, hsame⟩ := X9.leave (v := some (.int (1 : Int32))) (fun h => by rw [Bd.returns] at h; cases h)
    refine ⟨_, _, pre0 _ (st1 _ (st2 _ (st3 _ (st4 _ (st5 _ (st6 _ (st7 _ (st8 _ (st9 _ ?_))))))))), hrun, hended, _, _, rfl, ?_, ⟨_, rfl⟩, hW, hsame.mono (by decide) (by decide)⟩
    · exact retN X9 hx (t := .boolean) Bd.returns (by simp) (hb hby at_246) hr
    · exact ⟨rfl, N9⟩
  · obtain ⟨T1, L1, X1, e1, N1, st1⟩ := law_rn l Z a0 hw hx hZ hby hml hown X0 v1 v2 v3 v4 nw cl h0 n0 e0 Z0 N0  hbb (by rw [hn]; decide)
    obtain ⟨T2, L2, X2, e2, N2, st2⟩ := law_x1 l Z a0 hw hx hZ hby hml hown X1 v1 v2 v3 v4 nw cl (cl &&& (3 : Int32)) (0 : Int32) h0 n0 e1 Z0 N1  hb3
    obtain ⟨r, T3, h3, L3, X3, e3, Z3, N3, P3, st3⟩ := law_N l Z a0 hw hx hZ hby hml hown X2 v1 v2 v3 v4 nw cl (cl &&& (3 : Int32)) (0 : Int32) (1 : Int32) h0 n0 e2 Z0 N2 (by decide) (by decide) (by decide) (by decide)
    have S0 : own_S Z n0 r (2 : Int32) (0 : Int32) (0 : Int32) [] h3 := ⟨[0, 0], P3, rfl, (by intro y hy; simp only [List.mem_cons, List.not_mem_nil, or_false] at hy; rcases hy with rfl | rfl <;> exact own_z), rfl⟩
    have s0 : (0 : Int64).toInt = 0 := by decide
    have c0 : (0 : Int64).toInt = 0 := by decide
    have r1 := own_ir v1; have ra1 := r1.1; have rb1 := r1.2
    have r2 := own_ir v2; have ra2 := r2.1; have rb2 := r2.2
    have r3 := own_ir v3; have ra3 := r3.1; have rb3 := r3.2
    have r4 := own_ir v4; have ra4 := r4.1; have rb4 := r4.2
    obtain ⟨T4, L4, X4, e4, N4, st4⟩ := law_s1 l Z a0 hw hx hZ hby hml hown X3 v1 v2 v3 v4 nw cl (cl &&& (3 : Int32)) (0 : Int32) (1 : Int32) r (0 : Int64) (0 : Int64) (2147483647 : Int32) h3 n0 e3 Z3 N3  (by rw [hn]; decide)
    obtain ⟨T5, L5, X5, e5, N5, st5⟩ := law_s2 l Z a0 hw hx hZ hby hml hown X4 v1 v2 v3 v4 nw cl (cl &&& (3 : Int32)) (0 : Int32) (1 : Int32) r (0 : Int64) (0 : Int64) (2147483647 : Int32) h3 n0 e4 Z3 N4  (by rw [hn]; decide)
    obtain ⟨T6, L6, X6, e6, N6, st6⟩ := law_s3 l Z a0 hw hx hZ hby hml hown X5 v1 v2 v3 v4 nw cl (cl &&& (3 : Int32)) (0 : Int32) (1 : Int32) r (0 : Int64) (0 : Int64) (2147483647 : Int32) h3 n0 e5 Z3 N5  (by rw [hn]; decide)
    obtain ⟨T7, L7, X7, e7, N7, st7⟩ := law_q0 l Z a0 hw hx hZ hby hml hown X6 v1 v2 v3 v4 nw cl (cl &&& (3 : Int32)) (0 : Int32) (1 : Int32) r (0 : Int64) (0 : Int64) (2147483647 : Int32) h3 n0 e6 Z3 N6  rfl
    have C9 := rmAdd_A l Z a0 hw [] r [] (Int32.toInt64 v4) h3 n0 Z3 S0 r4
    obtain ⟨T8, h8, L8, X8, e8, Z8, N8, Q8, st8⟩ := law_y1 l Z a0 hw hx hZ hby hml hown X7 v1 v2 v3 v4 nw cl (cl &&& (3 : Int32)) (0 : Int32) (1 : Int32) r (0 : Int64) (0 : Int64) (2147483647 : Int32) _ h3 n0 e7 Z3 N7 (by decide) (by decide) (by decide) (by decide) (by decide) S0.exa C9
    have s1 := add64 (a := (0 : Int64)) (b := (Int32.toInt64 v4)) ⟨by omega, by omega⟩ ⟨by omega, by omega⟩; rw [s0] at s1
    have c1 := add64 (a := (0 : Int64)) (b := (1 : Int64)) ⟨by omega, by omega⟩ ⟨by decide, by decide⟩; rw [c0, show (1 : Int64).toInt = 1 by decide] at c1
    obtain ⟨cv, hcv, hL⟩ := rmLeftS_201 l Z a0 hw r (own_ins (Int32.toInt64 v4) []) (Int32.toInt64 nw) h8 n0 Z8 Q8 (own_ir nw)
    have hcm := own_fin (c := cv) (sm := ((0 : Int64) + (Int32.toInt64 v4))) (ct := ((0 : Int64) + (1 : Int64))) (nw := Int32.toInt64 nw) (S := own_sum (own_ins (Int32.toInt64 v4) [])) (k := 1) hcv (by simp only [own_sum_ins, own_sum] at *; omega) (by omega) (by decide) (by decide) (by simp only [own_sum_ins, own_sum] at *; omega) (by simp only [own_sum_ins, own_sum] at *; omega) (own_ir nw)
    obtain ⟨T9, L9, X9, e9, N9, st9⟩ := law_end l Z a0 hw hx hZ hby hml hown X8 v1 v2 v3 v4 nw cl (cl &&& (3 : Int32)) (0 : Int32) (1 : Int32) r ((0 : Int64) + (Int32.toInt64 v4)) ((0 : Int64) + (1 : Int64)) (2147483647 : Int32) _ h8 n0 e8 Z8 N8 (by decide) (by decide) (by decide) (by decide) Q8.exa hL hcm
    obtain ⟨fs, hr, hrun, hended, hW, hsame⟩ := X9.leave (v := some (.int (1 : Int32))) (fun h => by rw [Bd.returns] at h; cases h)
    refine ⟨_, _, pre0 _ (st1 _ (st2 _ (st3 _ (st4 _ (st5 _ (st6 _ (st7 _ (st8 _ (st9 _ ?_))))))))), hrun, hended, _, _, rfl, ?_, ⟨_, rfl⟩, hW, hsame.mono (by decide) (by decide)⟩
    · exact retN X9 hx (t := .boolean) Bd.returns (by simp) (hb hby at_246) hr
    · exact ⟨rfl, N9⟩
set_option maxRecDepth 65536 in
set_option maxHeartbeats 40000000 in
theorem rm0_100 (l : Launch) (Z : State) (a0 : Array Value) (hw : ∀ d ∈ tables_1, d.before a0 Z = true) (ws : List Jvm.Cond) (v1 v2 v3 v4 nw cl : Int32) (h0 : Heap) (n0 : Nat) (Z0 : n0 ≤ h0.size) (hn : cl &&& (3 : Int32) = (1 : Int32)) (hb2 : (((cl.toUInt32 >>> ((2 : Int32) &&& 31).toUInt32).toInt32) &&& (1 : Int32)) = 0) (hb3 : (((cl.toUInt32 >>> ((3 : Int32) &&& 31).toUInt32).toInt32) &&& (1 : Int32)) = 0) :
    MetFree l x (head1 (Jvm.Cond.code x code maxLocals ret :: ws) room_1) (fun a U => a = #[(.int v1), (.int v2), (.int v3), (.int v4), (.int nw), (.int cl)] ∧ Z.Warmed39 U.vm ∧ U.heap = h0) (fun _ _ _ _ _ => True) (fun _ U o U' => ∃ v L, o = .returned v ∧ Q0 n0 v L ∧ FrameEnd U o U' L 6 21) := by
  refine MetFree.of_bodySF (plainFor_of_name pn2) hisR ?_
  intro p e s m args below meth c s₁ Bd hml0 hP hK
  obtain ⟨rfl, hZ, hh⟩ := hP
  have hx := Bd.exec
  have hby := Bd.bytes
  have hml : c.maxLocals = 19 := hml0
  have hown : s.vm.findClass "com/example/orrery/orrery/policy/RunningEndsLeftAtPinLaw" = some m.cls := findClass_of_methodNamed Bd.named
  have hnm := (name_of_methodNamed Bd.named Bd.method).1
  have X0 : Stand p l e room_1 s m #[(.int v1), (.int v2), (.int v3), (.int v4), (.int nw), (.int cl)] below meth c s₁ [] 0 0 := Stand.of_body Bd
  have e0 : s₁.heap = h0 := by rw [← hh, Bd.state]; rfl
  have N0 := Fr.nil n0
  have pre0 : ∀ t, Steps p.tables e below (s₁.setTop (mkF m 0 #[.val (.int v1), .val (.int v2), .val (.int v3), .val (.int v4), .val (.int nw), .val (.int cl), .unset, .unset, .unset, .unset, .unset, .unset, .unset, .unset, .unset, .unset, .unset, .unset, .unset] [])) t → Steps p.tables e below (s₁.setTop (entryFrame m #[(.int v1), (.int v2), (.int v3), (.int v4), (.int nw), (.int cl)] maxLocals)) t := fun t k => castTop (ef6 m v1 v2 v3 v4 nw cl) k
  obtain ⟨T1, L1, X1, e1, N1, st1⟩ := law_r0 l Z a0 hw hx hZ hby hml hown X0 v1 v2 v3 v4 nw cl h0 n0 e0 Z0 N0  hb2
  obtain ⟨T2, L2, X2, e2, N2, st2⟩ := law_x0 l Z a0 hw hx hZ hby hml hown X1 v1 v2 v3 v4 nw cl (cl &&& (3 : Int32)) (0 : Int32) h0 n0 e1 Z0 N1  hb3
  obtain ⟨r, T3, h3, L3, X3, e3, Z3, N3, P3, st3⟩ := law_N l Z a0 hw hx hZ hby hml hown X2 v1 v2 v3 v4 nw cl (cl &&& (3 : Int32)) (0 : Int32) (0 : Int32) h0 n0 e2 Z0 N2 (by decide) (by decide) (by decide) (by decide)
  have S0 : own_S Z n0 r (2 : Int32) (0 : Int32) (0 : Int32) [] h3 := ⟨[0, 0], P3, rfl, (by intro y hy; simp only [List.mem_cons, List.not_mem_nil, or_false] at hy; rcases hy with rfl | rfl <;> exact own_z), rfl⟩
  have s0 : (0 : Int64).toInt = 0 := by decide
  have c0 : (0 : Int64).toInt = 0 := by decide
  have r1 := own_ir v1; have ra1 := r1.1; have rb1 := r1.2
  have r2 := own_ir v2; have ra2 := r2.1; have rb2 := r2.2
  have r3 := own_ir v3; have ra3 := r3.1; have rb3 := r3.2
  have r4 := own_ir v4; have ra4 := r4.1; have rb4 := r4.2
  have A0 := rmAdd_A l Z a0 hw [] r [] (Int32.toInt64 v1) h3 n0 Z3 S0 r1
  obtain ⟨T4, h4, L4, X4, e4, Z4, N4, Q0, st4⟩ := law_a1 l Z a0 hw hx hZ hby hml hown X3 v1 v2 v3 v4 nw cl (cl &&& (3 : Int32)) (0 : Int32) (0 : Int32) r (0 : Int64) (0 : Int64) (2147483647 : Int32) _ h3 n0 e3 Z3 N3 (by decide) (by decide) (by decide) (by decide) (by rw [hn]; decide) S0.exa A0
  have s1 := add64 (a := (0 : Int64)) (b := (Int32.toInt64 v1)) ⟨by omega, by omega⟩ ⟨by omega, by omega⟩; rw [s0] at s1
  have c1 := add64 (a := (0 : Int64)) (b := (1 : Int64)) ⟨by omega, by omega⟩ ⟨by decide, by decide⟩; rw [c0, show (1 : Int64).toInt = 1 by decide] at c1
  obtain ⟨T5, L5, X5, e5, N5, st5⟩ := law_s2 l Z a0 hw hx hZ hby hml hown X4 v1 v2 v3 v4 nw cl (cl &&& (3 : Int32)) (0 : Int32) (0 : Int32) r ((0 : Int64) + (Int32.toInt64 v1)) ((0 : Int64) + (1 : Int64)) v1 h4 n0 e4 Z4 N4  (by rw [hn]; decide)
  obtain ⟨T6, L6, X6, e6, N6, st6⟩ := law_s3 l Z a0 hw hx hZ hby hml hown X5 v1 v2 v3 v4 nw cl (cl &&& (3 : Int32)) (0 : Int32) (0 : Int32) r ((0 : Int64) + (Int32.toInt64 v1)) ((0 : Int64) + (1 : Int64)) v1 h4 n0 e5 Z4 N5  (by rw [hn]; decide)
  obtain ⟨T7, L7, X7, e7, N7, st7⟩ := law_q0 l Z a0 hw hx hZ hby hml hown X6 v1 v2 v3 v4 nw cl (cl &&& (3 : Int32)) (0 : Int32) (0 : Int32) r ((0 : Int64) + (Int32.toInt64 v1)) ((0 : Int64) + (1 : Int64)) v1 h4 n0 e6 Z4 N6  rfl
  obtain ⟨T8, L8, X8, e8, N8, st8⟩ := law_y0 l Z a0 hw hx hZ hby hml hown X7 v1 v2 v3 v4 nw cl (cl &&& (3 : Int32)) (0 : Int32) (0 : Int32) r ((0 : Int64) + (Int32.toInt64 v1)) ((0 : Int64) + (1 : Int64)) v1 h4 n0 e7 Z4 N7  rfl
  obtain ⟨cv, hcv, hL⟩ := rmLeftS_201 l Z a0 hw r (own_ins (Int32.toInt64 v1) []) (Int32.toInt64 nw) h4 n0 Z4 Q0 (own_ir nw)
  have hcm := own_fin (c := cv) (sm := ((0 : Int64) + (Int32.toInt64 v1))) (ct := ((0 : Int64) + (1 : Int64))) (nw := Int32.toInt64 nw) (S := own_sum (own_ins (Int32.toInt64 v1) [])) (k := 1) hcv (by simp only [own_sum_ins, own_sum] at *; omega) (by omega) (by decide) (by decide) (by simp only [own_sum_ins, own_sum] at *; omega) (by simp only [own_sum_ins, own_sum] at *; omega) (own_ir nw)
  obtain ⟨T9, L9, X9, e9, N9, st9⟩ := law_end l Z a0 hw hx hZ hby hml hown X8 v1 v2 v3 v4 nw cl (cl &&& (3 : Int32)) (0 : Int32) (0 : Int32) r ((0 : Int64) + (Int32.toInt64 v1)) ((0 : Int64) + (1 : Int64)) v1 _ h4 n0 e8 Z4 N8 (by decide) (by decide) (by decide) (by decide) Q0.exa hL hcm
  obtain ⟨fs, hr, hrun, hended, hW, hsame⟩ := X9.leave (v := some (.int (1 : Int32))) (fun h => by rw [Bd.returns] at h; cases h)
  refine ⟨_, _, pre0 _ (st1 _ (st2 _ (st3 _ (st4 _ (st5 _ (st6 _ (st7 _ (st8 _ (st9 _ ?_))))))))), hrun, hended, _, _, rfl, ?_, ⟨_, rfl⟩, hW, hsame.mono (by decide) (by decide)⟩
  · exact retN X9 hx (t := .boolean) Bd.returns (by simp) (hb hby at_246) hr
  · exact ⟨rfl, N9⟩
set_option maxRecDepth 65536 in
set_option maxHeartbeats 40000000 in
theorem rm0_101 (l : Launch) (Z : State) (a0 : Array Value) (hw : ∀ d ∈ tables_1, d.before a0 Z = true) (ws : List Jvm.Cond) (v1 v2 v3 v4 nw cl : Int32) (h0 : Heap) (n0 : Nat) (Z0 : n0 ≤ h0.size) (hn : cl &&& (3 : Int32) = (1 : Int32)) (hb2 : (((cl.toUInt32 >>> ((2 : Int32) &&& 31).toUInt32).toInt32) &&& (1 : Int32)) = 0) (hb3 : ¬ ((((cl.toUInt32 >>> ((3 : Int32) &&& 31).toUInt32).toInt32) &&& (1 : Int32)) = 0)) :
    MetFree l x (head1 (Jvm.Cond.code x code maxLocals ret :: ws) room_1) (fun a U => a = #[(.int v1), (.int v2), (.int v3), (.int v4), (.int nw), (.int cl)] ∧ Z.Warmed39 U.vm ∧ U.heap = h0) (fun _ _ _ _ _ => True) (fun _ U o U' => ∃ v L, o = .returned v ∧ Q0 n0 v L ∧ FrameEnd U o U' L 6 21) := by
  refine MetFree.of_bodySF (plainFor_of_name pn2) hisR ?_
  intro p e s m args below meth c s₁ Bd hml0 hP hK
  obtain ⟨rfl, hZ, hh⟩ := hP
  have hx := Bd.exec
  have hby := Bd.bytes
  have hml : c.maxLocals = 19 := hml0
  have hown : s.vm.findClass "com/example/orrery/orrery/policy/RunningEndsLeftAtPinLaw" = some m.cls := findClass_of_methodNamed Bd.named
  have hnm := (name_of_methodNamed Bd.named Bd.method).1
  have X0 : Stand p l e room_1 s m #[(.int v1), (.int v2), (.int v3), (.int v4), (.int nw), (.int cl)] below meth c s₁ [] 0 0 := Stand.of_body Bd
  have e0 : s₁.heap = h0 := by rw [← hh, Bd.state]; rfl
  have N0 := Fr.nil n0
  have pre0 : ∀ t, Steps p.tables e below (s₁.setTop (mkF m 0 #[.val (.int v1), .val (.int v2), .val (.int v3), .val (.int v4), .val (.int nw), .val (.int cl), .unset, .unset, .unset, .unset, .unset, .unset, .unset, .unset, .unset, .unset, .unset, .unset, .unset] [])) t → Steps p.tables e below (s₁.setTop (entryFrame m #[(.int v1), (.int v2), (.int v3), (.int v4), (.int nw), (.int cl)] maxLocals)) t := fun t k => castTop (ef6 m v1 v2 v3 v4 nw cl) k
  obtain ⟨T1, L1, X1, e1, N1, st1⟩ := law_r0 l Z a0 hw hx hZ hby hml hown X0 v1 v2 v3 v4 nw cl h0 n0 e0 Z0 N0  hb2
  obtain ⟨T2, L2, X2, e2, N2, st2⟩ := law_x1 l Z a0 hw hx hZ hby hml hown X1 v1 v2 v3 v4 nw cl (cl &&& (3 : Int32)) (0 : Int32) h0 n0 e1 Z0 N1  hb3
  obtain ⟨r, T3, h3, L3, X3, e3, Z3, N3, P3, st3⟩ := law_N l Z a0 hw hx hZ hby hml hown X2 v1 v2 v3 v4 nw cl (cl &&& (3 : Int32)) (0 : Int32) (1 : Int32) h0 n0 e2 Z0 N2 (by decide) (by decide) (by decide) (by decide)
  have S0 : own_S Z n0 r (2 : Int32) (0 : Int32) (0 : Int32) [] h3 := ⟨[0, 0], P3, rfl, (by intro y hy; simp only [List.mem_cons, List.not_mem_nil, or_false] at hy; rcases hy with rfl | rfl <;> exact own_z), rfl⟩
  have s0 : (0 : Int64).toInt = 0 := by decide
  have c0 : (0 : Int64).toInt = 0 := by decide
  have r1 := own_ir v1; have ra1 := r1.1; have rb1 := r1.2
  have r2 := own_ir v2; have ra2 := r2.1; have rb2 := r2.2
  have r3 := own_ir v3; have ra3 := r3.1; have rb3 := r3.2
  have r4 := own_ir v4; have ra4 := r4.1; have rb4 := r4.2
  have A0 := rmAdd_A l Z a0 hw [] r [] (Int32.toInt64 v1) h3 n0 Z3 S0 r1
  obtain ⟨T4, h4, L4, X4, e4, Z4, N4, Q0, st4⟩ := law_a1 l Z a0 hw hx hZ hby hml hown X3 v1 v2 v3 v4 nw cl (cl &&& (3 : Int32)) (0 : Int32) (1 : Int32) r (0 : Int64) (0 : Int64) (2147483647 : Int32) _ h3 n0 e3 Z3 N3 (by decide) (by decide) (by decide) (by decide) (by rw [hn]; decide) S0.exa A0
  have s1 := add64 (a := (0 : Int64)) (b := (Int32.toInt64 v1)) ⟨by omega, by omega⟩ ⟨by omega, by omega⟩; rw [s0] at s1
  have c1 := add64 (a := (0 : Int64)) (b := (1 : Int64)) ⟨by omega, by omega⟩ ⟨by decide, by decide⟩; rw [c0, show (1 : Int64).toInt = 1 by decide] at c1
  obtain ⟨T5, L5, X5, e5, N5, st5⟩ := law_s2 l Z a0 hw hx hZ hby hml hown X4 v1 v2 v3 v4 nw cl (cl &&& (3 : Int32)) (0 : Int32) (1 : Int32) r ((0 : Int64) + (Int32.toInt64 v1)) ((0 : Int64) + (1 : Int64)) v1 h4 n0 e4 Z4 N4  (by rw [hn]; decide)
  obtain ⟨T6, L6, X6, e6, N6, st6⟩ := law_s3 l Z a0 hw hx hZ hby hml hown X5 v1 v2 v3 v4 nw cl (cl &&& (3 : Int32)) (0 : Int32) (1 : Int32) r ((0 : Int64) + (Int32.toInt64 v1)) ((0 : Int64) + (1 : Int64)) v1 h4 n0 e5 Z4 N5  (by rw [hn]; decide)
  obtain ⟨T7, L7, X7, e7, N7, st7⟩ := law_q0 l Z a0 hw hx hZ hby hml hown X6 v1 v2 v3 v4 nw cl (cl &&& (3 : Int32)) (0 : Int32) (1 : Int32) r ((0 : Int64) + (Int32.toInt64 v1)) ((0 : Int64) + (1 : Int64)) v1 h4 n0 e6 Z4 N6  rfl
  have C9 := rmAdd_B l Z a0 hw [] r (own_ins (Int32.toInt64 v1) []) (Int32.toInt64 v4) h4 n0 Z4 Q0 r4
  obtain ⟨T8, h8, L8, X8, e8, Z8, N8, Q8, st8⟩ := law_y1 l Z a0 hw hx hZ hby hml hown X7 v1 v2 v3 v4 nw cl (cl &&& (3 : Int32)) (0 : Int32) (1 : Int32) r ((0 : Int64) + (Int32.toInt64 v1)) ((0 : Int64) + (1 : Int64)) v1 _ h4 n0 e7 Z4 N7 (by decide) (by decide) (by decide) (by decide) (by decide) Q0.exa C9
  have s2 := add64 (a := ((0 : Int64) + (Int32.toInt64 v1))) (b := (Int32.toInt64 v4)) ⟨by omega, by omega⟩ ⟨by omega, by omega⟩; rw [s1] at s2
  have c2 := add64 (a := ((0 : Int64) + (1 : Int64))) (b := (1 : Int64)) ⟨by omega, by omega⟩ ⟨by decide, by decide⟩; rw [c1, show (1 : Int64).toInt = 1 by decide] at c2
  obtain ⟨cv, hcv, hL⟩ := rmLeftS_202 l Z a0 hw r (own_ins (Int32.toInt64 v4) (own_ins (Int32.toInt64 v1) [])) (Int32.toInt64 nw) h8 n0 Z8 Q8 (own_ir nw)
  have hcm := own_fin (c := cv) (sm := (((0 : Int64) + (Int32.toInt64 v1)) + (Int32.toInt64 v4))) (ct := (((0 : Int64) + (1 : Int64)) + (1 : Int64))) (nw := Int32.toInt64 nw) (S := own_sum (own_ins (Int32.toInt64 v4) (own_ins (Int32.toInt64 v1) []))) (k := 2) hcv (by simp only [own_sum_ins, own_sum] at *; omega) (by omega) (by decide) (by decide) (by simp only [own_sum_ins, own_sum] at *; omega) (by simp only [own_sum_ins, own_sum] at *; omega) (own_ir nw)
  obtain ⟨T9, L9, X9, e9, N9, st9⟩ := law_end l Z a0 hw hx hZ hby hml hown X8 v1 v2 v3 v4 nw cl (cl &&& (3 : Int32)) (0 : Int32) (1 : Int32) r (((0 : Int64) + (Int32.toInt64 v1)) + (Int32.toInt64 v4)) (((0 : Int64) + (1 : Int64)) + (1 : Int64)) v1 _ h8 n0 e8 Z8 N8 (by decide) (by decide) (by decide) (by decide) Q8.exa hL hcm
  obtain ⟨fs, hr, hrun, hended, hW, hsame⟩ := X9.leave (v := some (.int (1 : Int32))) (fun h => by rw [Bd.returns] at h; cases h)
  refine ⟨_, _, pre0 _ (st1 _ (st2 _ (st3 _ (st4 _ (st5 _ (st6 _ (st7 _ (st8 _ (st9 _ ?_))))))))), hrun, hended, _, _, rfl, ?_, ⟨_, rfl⟩, hW, hsame.mono (by decide) (by decide)⟩
  · exact retN X9 hx (t := .boolean) Bd.returns (by simp) (hb hby at_246) hr
  · exact ⟨rfl, N9⟩
set_option maxRecDepth 65536 in
set_option maxHeartbeats 40000000 in
theorem rm0_110 (l : Launch) (Z : State) (a0 : Array Value) (hw : ∀ d ∈ tables_1, d.before a0 Z = true) (ws : List Jvm.Cond) (v1 v2 v3 v4 nw cl : Int32) (h0 : Heap) (n0 : Nat) (Z0 : n0 ≤ h0.size) (hn : cl &&& (3 : Int32) = (1 : Int32)) (hb2 : ¬ ((((cl.toUInt32 >>> ((2 : Int32) &&& 31).toUInt32).toInt32) &&& (1 : Int32)) = 0)) (hb3 : (((cl.toUInt32 >>> ((3 : Int32) &&& 31).toUInt32).toInt32) &&& (1 : Int32)) = 0) :
    MetFree l x (head1 (Jvm.Cond.code x code maxLocals ret :: ws) room_1) (fun a U => a = #[(.int v1), (.int v2), (.int v3), (.int v4), (.int nw), (.int cl)] ∧ Z.Warmed39 U.vm ∧ U.heap = h0) (fun _ _ _ _ _ => True) (fun _ U o U' => ∃ v L, o = .returned v ∧ Q0 n0 v L ∧ FrameEnd U o U' L 6 21) := by
  refine MetFree.of_bodySF (plainFor_of_name pn2) hisR ?_
  intro p e s m args below meth c s₁ Bd hml0 hP hK
  obtain ⟨rfl, hZ, hh⟩ := hP
  have hx := Bd.exec
  have hby := Bd.bytes
  have hml : c.maxLocals = 19 := hml0
  have hown : s.vm.findClass "com/example/orrery/orrery/policy/RunningEndsLeftAtPinLaw" = some m.cls := findClass_of_methodNamed Bd.named
  have hnm := (name_of_methodNamed Bd.named Bd.method).1
  have X0 : Stand p l e room_1 s m #[(.int v1), (.int v2), (.int v3), (.int v4), (.int nw), (.int cl)] below meth c s₁ [] 0 0 := Stand.of_body Bd
  have e0 : s₁.heap = h0 := by rw [← hh, Bd.state]; rfl
  have N0 := Fr.nil n0
  have pre0 : ∀ t, Steps p.tables e below (s₁.setTop (mkF m 0 #[.val (.int v1), .val (.int v2), .val (.int v3), .val (.int v4), .val (.int nw), .val (.int cl), .unset, .unset, .unset, .unset, .unset, .unset, .unset, .unset, .unset, .unset, .unset, .unset, .unset] [])) t → Steps p.tables e below (s₁.setTop (entryFrame m #[(.int v1), (.int v2), (.int v3), (.int v4), (.int nw), (.int cl)] maxLocals)) t := fun t k => castTop (ef6 m v1 v2 v3 v4 nw cl) k
  obtain ⟨T1, L1, X1, e1, N1, st1⟩ := law_r1 l Z a0 hw hx hZ hby hml hown X0 v1 v2 v3 v4 nw cl h0 n0 e0 Z0 N0  hb2 (by rw [hn]; decide)
  obtain ⟨T2, L2, X2, e2, N2, st2⟩ := law_x0 l Z a0 hw hx hZ hby hml hown X1 v1 v2 v3 v4 nw cl (cl &&& (3 : Int32)) (1 : Int32) h0 n0 e1 Z0 N1  hb3
  obtain ⟨r, T3, h3, L3, X3, e3, Z3, N3, P3, st3⟩ := law_N l Z a0 hw hx hZ hby hml hown X2 v1 v2 v3 v4 nw cl (cl &&& (3 : Int32)) (1 : Int32) (0 : Int32) h0 n0 e2 Z0 N2 (by decide) (by decide) (by decide) (by decide)
  have S0 : own_S Z n0 r (2 : Int32) (0 : Int32) (0 : Int32) [] h3 := ⟨[0, 0], P3, rfl, (by intro y hy; simp only [List.mem_cons, List.not_mem_nil, or_false] at hy; rcases hy with rfl | rfl <;> exact own_z), rfl⟩
  have s0 : (0 : Int64).toInt = 0 := by decide
  have c0 : (0 : Int64).toInt = 0 := by decide
  have r1 := own_ir v1; have ra1 := r1.1; have rb1 := r1.2
  have r2 := own_ir v2; have ra2 := r2.1; have rb2 := r2.2
  have r3 := own_ir v3; have ra3 := r3.1; have rb3 := r3.2
  have r4 := own_ir v4; have ra4 := r4.1; have rb4 := r4.2
  have A0 := rmAdd_A l Z a0 hw [] r [] (Int32.toInt64 v1) h3 n0 Z3 S0 r1
  obtain ⟨T4, h4, L4, X4, e4, Z4, N4, Q0, st4⟩ := law_a1 l Z a0 hw hx hZ hby hml hown X3 v1 v2 v3 v4 nw cl (cl &&& (3 : Int32)) (1 : Int32) (0 : Int32) r (0 : Int64) (0 : Int64) (2147483647 : Int32) _ h3 n0 e3 Z3 N3 (by decide) (by decide) (by decide) (by decide) (by rw [hn]; decide) S0.exa A0
  have s1 := add64 (a := (0 : Int64)) (b := (Int32.toInt64 v1)) ⟨by omega, by omega⟩ ⟨by omega, by omega⟩; rw [s0] at s1
  have c1 := add64 (a := (0 : Int64)) (b := (1 : Int64)) ⟨by omega, by omega⟩ ⟨by decide, by decide⟩; rw [c0, show (1 : Int64).toInt = 1 by decide] at c1
  obtain ⟨T5, L5, X5, e5, N5, st5⟩ := law_s2 l Z a0 hw hx hZ hby hml hown X4 v1 v2 v3 v4 nw cl (cl &&& (3 : Int32)) (1 : Int32) (0 : Int32) r ((0 : Int64) + (Int32.toInt64 v1)) ((0 : Int64) + (1 : Int64)) v1 h4 n0 e4 Z4 N4  (by rw [hn]; decide)
  obtain ⟨T6, L6, X6, e6, N6, st6⟩ := law_s3 l Z a0 hw hx hZ hby hml hown X5 v1 v2 v3 v4 nw cl (cl &&& (3 : Int32)) (1 : Int32) (0 : Int32) r ((0 : Int64) + (Int32.toInt64 v1)) ((0 : Int64) + (1 : Int64)) v1 h4 n0 e5 Z4 N5  (by rw [hn]; decide)
  obtain ⟨tl, ht⟩ := own_head1 v1
  have hsum := congrArg own_sum ht
  have S9 := Q0; rw [ht] at S9
  have B9 := rmRemS_21 l Z a0 hw [] r tl (Int32.toInt64 v1) h4 n0 Z4 S9
  have rm9 := own_ir v1; have rma := rm9.1; have rmb := rm9.2
  obtain ⟨T7, h7, L7, X7, e7, Z7, N7, Q9, st7⟩ := law_q1 l Z a0 hw hx hZ hby hml hown X6 v1 v2 v3 v4 nw cl (cl &&& (3 : Int32)) (1 : Int32) (0 : Int32) r ((0 : Int64) + (Int32.toInt64 v1)) ((0 : Int64) + (1 : Int64)) v1 _ h4 n0 e6 Z4 N6 (by decide) (by decide) (by decide) (by decide) (by decide) Q0.exa B9
  have s2 := sub64 (a := ((0 : Int64) + (Int32.toInt64 v1))) (b := (Int32.toInt64 v1)) ⟨by omega, by omega⟩ ⟨by omega, by omega⟩; rw [s1] at s2
  have c2 := sub64 (a := ((0 : Int64) + (1 : Int64))) (b := (1 : Int64)) ⟨by omega, by omega⟩ ⟨by decide, by decide⟩; rw [c1, show (1 : Int64).toInt = 1 by decide] at c2
  obtain ⟨T8, L8, X8, e8, N8, st8⟩ := law_y0 l Z a0 hw hx hZ hby hml hown X7 v1 v2 v3 v4 nw cl (cl &&& (3 : Int32)) (1 : Int32) (0 : Int32) r (((0 : Int64) + (Int32.toInt64 v1)) - (Int32.toInt64 v1)) (((0 : Int64) + (1 : Int64)) - (1 : Int64)) v1 h7 n0 e7 Z7 N7  rfl
  obtain ⟨cv, hcv, hL⟩ := rmLeftS_200 l Z a0 hw r tl (Int32.toInt64 nw) h7 n0 Z7 Q9 (own_ir nw)
  have hcm := own_fin (c := cv) (sm := (((0 : Int64) + (Int32.toInt64 v1)) - (Int32.toInt64 v1))) (ct := (((0 : Int64) + (1 : Int64)) - (1 : Int64))) (nw := Int32.toInt64 nw) (S := own_sum tl) (k := 0) hcv (by simp only [own_sum_ins, own_sum] at *; omega) (by omega) (by decide) (by decide) (by simp only [own_sum_ins, own_sum] at *; omega) (by simp only [own_sum_ins, own_sum] at *; omega) (own_ir nw)
  obtain ⟨T9, L9, X9, e9, N9, st9⟩ := law_end l Z a0 hw hx hZ hby hml hown X8 v1 v2 v3 v4 nw cl (cl &&& (3 : Int32)) (1 : Int32) (0 : Int32) r (((0 : Int64) + (Int32.toInt64 v1)) - (Int32.toInt64 v1)) (((0 : Int64) + (1 : Int64)) - (1 : Int64)) v1 _ h7 n0 e8 Z7 N8 (by decide) (by decide) (by decide) (by decide) Q9.exa hL hcm
  obtain ⟨fs, hr, hrun, hended, hW, hsame⟩ := X9.leave (v := some (.int (1 : Int32))) (fun h => by rw [Bd.returns] at h; cases h)
  refine ⟨_, _, pre0 _ (st1 _ (st2 _ (st3 _ (st4 _ (st5 _ (st6 _ (st7 _ (st8 _ (st9 _ ?_))))))))), hrun, hended, _, _, rfl, ?_, ⟨_, rfl⟩, hW, hsame.mono (by decide) (by decide)⟩
  · exact retN X9 hx (t := .boolean) Bd.returns (by simp) (hb hby at_246) hr
  · exact ⟨rfl, N9⟩
set_option maxRecDepth 65536 in
set_option maxHeartbeats 40000000 in
theorem rm0_111 (l : Launch) (Z : State) (a0 : Array Value) (hw : ∀ d ∈ tables_1, d.before a0 Z = true) (ws : List Jvm.Cond) (v1 v2 v3 v4 nw cl : Int32) (h0 : Heap) (n0 : Nat) (Z0 : n0 ≤ h0.size) (hn : cl &&& (3 : Int32) = (1 : Int32)) (hb2 : ¬ ((((cl.toUInt32 >>> ((2 : Int32) &&& 31).toUInt32).toInt32) &&& (1 : Int32)) = 0)) (hb3 : ¬ ((((cl.toUInt32 >>> ((3 : Int32) &&& 31).toUInt32).toInt32) &&& (1 : Int32)) = 0)) :
    MetFree l x (head1 (Jvm.Cond.code x code maxLocals ret :: ws) room_1) (fun a U => a = #[(.int v1), (.int v2), (.int v3), (.int v4), (.int nw), (.int cl)] ∧ Z.Warmed39 U.vm ∧ U.heap = h0) (fun _ _ _ _ _ => True) (fun _ U o U' => ∃ v L, o = .returned v ∧ Q0 n0 v L ∧ FrameEnd U o U' L 6 21) := by
  refine MetFree.of_bodySF (plainFor_of_name pn2) hisR ?_
  intro p e s m args below meth c s₁ Bd hml0 hP hK
  obtain ⟨rfl, hZ, hh⟩ := hP
  have hx := Bd.exec
  have hby := Bd.bytes
  have hml : c.maxLocals = 19 := hml0
  have hown : s.vm.findClass "com/example/orrery/orrery/policy/RunningEndsLeftAtPinLaw" = some m.cls := findClass_of_methodNamed Bd.named
  have hnm := (name_of_methodNamed Bd.named Bd.method).1
  have X0 : Stand p l e room_1 s m #[(.int v1), (.int v2), (.int v3), (.int v4), (.int nw), (.int cl)] below meth c s₁ [] 0 0 := Stand.of_body Bd
  have e0 : s₁.heap = h0 := by rw [← hh, Bd.state]; rfl
  have N0 := Fr.nil n0
  have pre0 : ∀ t, Steps p.tables e below (s₁.setTop (mkF m 0 #[.val (.int v1), .val (.int v2), .val (.int v3), .val (.int v4), .val (.int nw), .val (.int cl), .unset, .unset, .unset, .unset, .unset, .unset, .unset, .unset, .unset, .unset, .unset, .unset, .unset] [])) t → Steps p.tables e below (s₁.setTop (entryFrame m #[(.int v1), (.int v2), (.int v3), (.int v4), (.int nw), (.int cl)] maxLocals)) t := fun t k => castTop (ef6 m v1 v2 v3 v4 nw cl) k
  obtain ⟨T1, L1, X1, e1, N1, st1⟩ := law_r1 l Z a0 hw hx hZ hby hml hown X0 v1 v2 v3 v4 nw cl h0 n0 e0 Z0 N0  hb2 (by rw [hn]; decide)
  obtain ⟨T2, L2, X2, e2, N2, st2⟩ := law_x1 l Z a0 hw hx hZ hby hml hown X1 v1 v2 v3 v4 nw cl (cl &&& (3 : Int32)) (1 : Int32) h0 n0 e1 Z0 N1  hb3
  obtain ⟨r, T3, h3, L3, X3, e3, Z3, N3, P3, st3⟩ := law_N l Z a0 hw hx hZ hby hml hown X2 v1 v2 v3 v4 nw cl (cl &&& (3 : Int32)) (1 : Int32) (1 : Int32) h0 n0 e2 Z0 N2 (by decide) (by decide) (by decide) (by decide)
  have S0 : own_S Z n0 r (2 : Int32) (0 : Int32) (0 : Int32) [] h3 := ⟨[0, 0], P3, rfl, (by intro y hy; simp only [List.mem_cons, List.not_mem_nil, or_false] at hy; rcases hy with rfl | rfl <;> exact own_z), rfl⟩
  have s0 : (0 : Int64).toInt = 0 := by decide
  have c0 : (0 : Int64).toInt = 0 := by decide
  have r1 := own_ir v1; have ra1 := r1.1; have rb1 := r1.2
  have r2 := own_ir v2; have ra2 := r2.1; have rb2 := r2.2
  have r3 := own_ir v3; have ra3 := r3.1; have rb3 := r3.2
  have r4 := own_ir v4; have ra4 := r4.1; have rb4 := r4.2
  have A0 := rmAdd_A l Z a0 hw [] r [] (Int32.toInt64 v1) h3 n0 Z3 S0 r1
  obtain ⟨T4, h4, L4, X4, e4, Z4, N4, Q0, st4⟩ := law_a1 l Z a0 hw hx hZ hby hml hown X3 v1 v2 v3 v4 nw cl (cl &&& (3 : Int32)) (1 : Int32) (1 : Int32) r (0 : Int64) (0 : Int64) (2147483647 : Int32) _ h3 n0 e3 Z3 N3 (by decide) (by decide) (by decide) (by decide) (by rw [hn]; decide) S0.exa A0
  have s1 := add64 (a := (0 : Int64)) (b := (Int32.toInt64 v1)) ⟨by omega, by omega⟩ ⟨by omega, by omega⟩; rw [s0] at s1
  have c1 := add64 (a := (0 : Int64)) (b := (1 : Int64)) ⟨by omega, by omega⟩ ⟨by decide, by decide⟩; rw [c0, show (1 : Int64).toInt = 1 by decide] at c1
  obtain ⟨T5, L5, X5, e5, N5, st5⟩ := law_s2 l Z a0 hw hx hZ hby hml hown X4 v1 v2 v3 v4 nw cl (cl &&& (3 : Int32)) (1 : Int32) (1 : Int32) r ((0 : Int64) + (Int32.toInt64 v1)) ((0 : Int64) + (1 : Int64)) v1 h4 n0 e4 Z4 N4  (by rw [hn]; decide)
  obtain ⟨T6, L6, X6, e6, N6, st6⟩ := law_s3 l Z a0 hw hx hZ hby hml hown X5 v1 v2 v3 v4 nw cl (cl &&& (3 : Int32)) (1 : Int32) (1 : Int32) r ((0 : Int64) + (Int32.toInt64 v1)) ((0 : Int64) + (1 : Int64)) v1 h4 n0 e5 Z4 N5  (by rw [hn]; decide)
  obtain ⟨tl, ht⟩ := own_head1 v1
  have hsum := congrArg own_sum ht
  have S9 := Q0; rw [ht] at S9
  have B9 := rmRemS_21 l Z a0 hw [] r tl (Int32.toInt64 v1) h4 n0 Z4 S9
  have rm9 := own_ir v1; have rma := rm9.1; have rmb := rm9.2
  obtain ⟨T7, h7, L7, X7, e7, Z7, N7, Q9, st7⟩ := law_q1 l Z a0 hw hx hZ hby hml hown X6 v1 v2 v3 v4 nw cl (cl &&& (3 : Int32)) (1 : Int32) (1 : Int32) r ((0 : Int64) + (Int32.toInt64 v1)) ((0 : Int64) + (1 : Int64)) v1 _ h4 n0 e6 Z4 N6 (by decide) (by decide) (by decide) (by decide) (by decide) Q0.exa B9
  have s2 := sub64 (a := ((0 : Int64) + (Int32.toInt64 v1))) (b := (Int32.toInt64 v1)) ⟨by omega, by omega⟩ ⟨by omega, by omega⟩; rw [s1] at s2
  have c2 := sub64 (a := ((0 : Int64) + (1 : Int64))) (b := (1 : Int64)) ⟨by omega, by omega⟩ ⟨by decide, by decide⟩; rw [c1, show (1 : Int64).toInt = 1 by decide] at c2
  have C9 := rmAdd_A l Z a0 hw [] r tl (Int32.toInt64 v4) h7 n0 Z7 Q9 r4
  obtain ⟨T8, h8, L8, X8, e8, Z8, N8, Q8, st8⟩ := law_y1 l Z a0 hw hx hZ hby hml hown X7 v1 v2 v3 v4 nw cl (cl &&& (3 : Int32)) (1 : Int32) (1 : Int32) r (((0 : Int64) + (Int32.toInt64 v1)) - (Int32.toInt64 v1)) (((0 : Int64) + (1 : Int64)) - (1 : Int64)) v1 _ h7 n0 e7 Z7 N7 (by decide) (by decide) (by decide) (by decide) (by decide) Q9.exa C9
  have s3 := add64 (a := (((0 : Int64) + (Int32.toInt64 v1)) - (Int32.toInt64 v1))) (b := (Int32.toInt64 v4)) ⟨by omega, by omega⟩ ⟨by omega, by omega⟩; rw [s2] at s3
  have c3 := add64 (a := (((0 : Int64) + (1 : Int64)) - (1 : Int64))) (b := (1 : Int64)) ⟨by omega, by omega⟩ ⟨by decide, by decide⟩; rw [c2, show (1 : Int64).toInt = 1 by decide] at c3
  obtain ⟨cv, hcv, hL⟩ := rmLeftS_201 l Z a0 hw r (own_ins (Int32.toInt64 v4) tl) (Int32.toInt64 nw) h8 n0 Z8 Q8 (own_ir nw)
  have hcm := own_fin (c := cv) (sm := ((((0 : Int64) + (Int32.toInt64 v1)) - (Int32.toInt64 v1)) + (Int32.toInt64 v4))) (ct := ((((0 : Int64) + (1 : Int64)) - (1 : Int64)) + (1 : Int64))) (nw := Int32.toInt64 nw) (S := own_sum (own_ins (Int32.toInt64 v4) tl)) (k := 1) hcv (by simp only [own_sum_ins, own_sum] at *; omega) (by omega) (by decide) (by decide) (by simp only [own_sum_ins, own_sum] at *; omega) (by simp only [own_sum_ins, own_sum] at *; omega) (own_ir nw)
  obtain ⟨T9, L9, X9, e9, N9, st9⟩ := law_end l Z a0 hw hx hZ hby hml hown X8 v1 v2 v3 v4 nw cl (cl &&& (3 : Int32)) (1 : Int32) (1 : Int32) r ((((0 : Int64) + (Int32.toInt64 v1)) - (Int32.toInt64 v1)) + (Int32.toInt64 v4)) ((((0 : Int64) + (1 : Int64)) - (1 : Int64)) + (1 : Int64)) v1 _ h8 n0 e8 Z8 N8 (by decide) (by decide) (by decide) (by decide) Q8.exa hL hcm
  obtain ⟨fs, hr, hrun, hended, hW, hsame⟩ := X9.leave (v := some (.int (1 : Int32))) (fun h => by rw [Bd.returns] at h; cases h)
  refine ⟨_, _, pre0 _ (st1 _ (st2 _ (st3 _ (st4 _ (st5 _ (st6 _ (st7 _ (st8 _ (st9 _ ?_))))))))), hrun, hended, _, _, rfl, ?_, ⟨_, rfl⟩, hW, hsame.mono (by decide) (by decide)⟩
  · exact retN X9 hx (t := .boolean) Bd.returns (by simp) (hb hby at_246) hr
  · exact ⟨rfl, N9⟩
set_option maxRecDepth 65536 in
set_option maxHeartbeats 40000000 in
theorem rm0_200 (l : Launch) (Z : State) (a0 : Array Value) (hw : ∀ d ∈ tables_1, d.before a0 Z = true) (ws : List Jvm.Cond) (v1 v2 v3 v4 nw cl : Int32) (h0 : Heap) (n0 : Nat) (Z0 : n0 ≤ h0.size) (hn : cl &&& (3 : Int32) = (2 : Int32)) (hb2 : (((cl.toUInt32 >>> ((2 : Int32) &&& 31).toUInt32).toInt32) &&& (1 : Int32)) = 0) (hb3 : (((cl.toUInt32 >>> ((3 : Int32) &&& 31).toUInt32).toInt32) &&& (1 : Int32)) = 0) :
    MetFree l x (head1 (Jvm.Cond.code x code maxLocals ret :: ws) room_1) (fun a U => a = #[(.int v1), (.int v2), (.int v3), (.int v4), (.int nw), (.int cl)] ∧ Z.Warmed39 U.vm ∧ U.heap = h0) (fun _ _ _ _ _ => True) (fun _ U o U' => ∃ v L, o = .returned v ∧ Q0 n0 v L ∧ FrameEnd U o U' L 6 21) := by
  refine MetFree.of_bodySF (plainFor_of_name pn2) hisR ?_
  intro p e s m args below meth c s₁ Bd hml0 hP hK
  obtain ⟨rfl, hZ, hh⟩ := hP
  have hx := Bd.exec
  have hby := Bd.bytes
  have hml : c.maxLocals = 19 := hml0
  have hown : s.vm.findClass "com/example/orrery/orrery/policy/RunningEndsLeftAtPinLaw" = some m.cls := findClass_of_methodNamed Bd.named
  have hnm := (name_of_methodNamed Bd.named Bd.method).1
  have X0 : Stand p l e room_1 s m #[(.int v1), (.int v2), (.int v3), (.int v4), (.int nw), (.int cl)] below meth c s₁ [] 0 0 := Stand.of_body Bd
  have e0 : s₁.heap = h0 := by rw [← hh, Bd.state]; rfl
  have N0 := Fr.nil n0
  have pre0 : ∀ t, Steps p.tables e below (s₁.setTop (mkF m 0 #[.val (.int v1), .val (.int v2), .val (.int v3), .val (.int v4), .val (.int nw), .val (.int cl), .unset, .unset, .unset, .unset, .unset, .unset, .unset, .unset, .unset, .unset, .unset, .unset, .unset] [])) t → Steps p.tables e below (s₁.setTop (entryFrame m #[(.int v1), (.int v2), (.int v3), (.int v4), (.int nw), (.int cl)] maxLocals)) t := fun t k => castTop (ef6 m v1 v2 v3 v4 nw cl) k
  obtain ⟨T1, L1, X1, e1, N1, st1⟩ := law_r0 l Z a0 hw hx hZ hby hml hown X0 v1 v2 v3 v4 nw cl h0 n0 e0 Z0 N0  hb2
  obtain ⟨T2, L2, X2, e2, N2, st2⟩ := law_x0 l Z a0 hw hx hZ hby hml hown X1 v1 v2 v3 v4 nw cl (cl &&& (3 : Int32)) (0 : Int32) h0 n0 e1 Z0 N1  hb3
  obtain ⟨r, T3, h3, L3, X3, e3, Z3, N3, P3, st3⟩ := law_N l Z a0 hw hx hZ hby hml hown X2 v1 v2 v3 v4 nw cl (cl &&& (3 : Int32)) (0 : Int32) (0 : Int32) h0 n0 e2 Z0 N2 (by decide) (by decide) (by decide) (by decide)
  have S0 : own_S Z n0 r (2 : Int32) (0 : Int32) (0 : Int32) [] h3 := ⟨[0, 0], P3, rfl, (by intro y hy; simp only [List.mem_cons, List.not_mem_nil, or_false] at hy; rcases hy with rfl | rfl <;> exact own_z), rfl⟩
  have s0 : (0 : Int64).toInt = 0 := by decide
  have c0 : (0 : Int64).toInt = 0 := by decide
  have r1 := own_ir v1; have ra1 := r1.1; have rb1 := r1.2
  have r2 := own_ir v2; have ra2 := r2.1; have rb2 := r2.2
  have r3 := own_ir v3; have ra3 := r3.1; have rb3 := r3.2
  have r4 := own_ir v4; have ra4 := r4.1; have rb4 := r4.2
  have A0 := rmAdd_A l Z a0 hw [] r [] (Int32.toInt64 v1) h3 n0 Z3 S0 r1
  obtain ⟨T4, h4, L4, X4, e4, Z4, N4, Q0, st4⟩ := law_a1 l Z a0 hw hx hZ hby hml hown X3 v1 v2 v3 v4 nw cl (cl &&& (3 : Int32)) (0 : Int32) (0 : Int32) r (0 : Int64) (0 : Int64) (2147483647 : Int32) _ h3 n0 e3 Z3 N3 (by decide) (by decide) (by decide) (by decide) (by rw [hn]; decide) S0.exa A0
  have s1 := add64 (a := (0 : Int64)) (b := (Int32.toInt64 v1)) ⟨by omega, by omega⟩ ⟨by omega, by omega⟩; rw [s0] at s1
  have c1 := add64 (a := (0 : Int64)) (b := (1 : Int64)) ⟨by omega, by omega⟩ ⟨by decide, by decide⟩; rw [c0, show (1 : Int64).toInt = 1 by decide] at c1
  have A1 := rmAdd_B l Z a0 hw [] r (own_ins (Int32.toInt64 v1) []) (Int32.toInt64 v2) h4 n0 Z4 Q0 r2
  obtain ⟨T5, h5, L5, X5, e5, Z5, N5, Q1, st5⟩ := law_a2 l Z a0 hw hx hZ hby hml hown X4 v1 v2 v3 v4 nw cl (cl &&& (3 : Int32)) (0 : Int32) (0 : Int32) r ((0 : Int64) + (Int32.toInt64 v1)) ((0 : Int64) + (1 : Int64)) v1 _ h4 n0 e4 Z4 N4 (by decide) (by decide) (by decide) (by decide) (by rw [hn]; decide) Q0.exa A1
  have s2 := add64 (a := ((0 : Int64) + (Int32.toInt64 v1))) (b := (Int32.toInt64 v2)) ⟨by omega, by omega⟩ ⟨by omega, by omega⟩; rw [s1] at s2
  have c2 := add64 (a := ((0 : Int64) + (1 : Int64))) (b := (1 : Int64)) ⟨by omega, by omega⟩ ⟨by decide, by decide⟩; rw [c1, show (1 : Int64).toInt = 1 by decide] at c2
  obtain ⟨T6, L6, X6, e6, N6, st6⟩ := law_s3 l Z a0 hw hx hZ hby hml hown X5 v1 v2 v3 v4 nw cl (cl &&& (3 : Int32)) (0 : Int32) (0 : Int32) r (((0 : Int64) + (Int32.toInt64 v1)) + (Int32.toInt64 v2)) (((0 : Int64) + (1 : Int64)) + (1 : Int64)) (own_min v1 v2) h5 n0 e5 Z5 N5  (by rw [hn]; decide)
  obtain ⟨T7, L7, X7, e7, N7, st7⟩ := law_q0 l Z a0 hw hx hZ hby hml hown X6 v1 v2 v3 v4 nw cl (cl &&& (3 : Int32)) (0 : Int32) (0 : Int32) r (((0 : Int64) + (Int32.toInt64 v1)) + (Int32.toInt64 v2)) (((0 : Int64) + (1 : Int64)) + (1 : Int64)) (own_min v1 v2) h5 n0 e6 Z5 N6  rfl
  obtain ⟨T8, L8, X8, e8, N8, st8⟩ := law_y0 l Z a0 hw hx hZ hby hml hown X7 v1 v2 v3 v4 nw cl (cl &&& (3 : Int32)) (0 : Int32) (0 : Int32) r (((0 : Int64) + (Int32.toInt64 v1)) + (Int32.toInt64 v2)) (((0 : Int64) + (1 : Int64)) + (1 : Int64)) (own_min v1 v2) h5 n0 e7 Z5 N7  rfl
  obtain ⟨cv, hcv, hL⟩ := rmLeftS_202 l Z a0 hw r (own_ins (Int32.toInt64 v2) (own_ins (Int32.toInt64 v1) [])) (Int32.toInt64 nw) h5 n0 Z5 Q1 (own_ir nw)
  have hcm := own_fin (c := cv) (sm := (((0 : Int64) + (Int32.toInt64 v1)) + (Int32.toInt64 v2))) (ct := (((0 : Int64) + (1 : Int64)) + (1 : Int64))) (nw := Int32.toInt64 nw) (S := own_sum (own_ins (Int32.toInt64 v2) (own_ins (Int32.toInt64 v1) []))) (k := 2) hcv (by simp only [own_sum_ins, own_sum] at *; omega) (by omega) (by decide) (by decide) (by simp only [own_sum_ins, own_sum] at *; omega) (by simp only [own_sum_ins, own_sum] at *; omega) (own_ir nw)
  obtain ⟨T9, L9, X9, e9, N9, st9⟩ := law_end l Z a0 hw hx hZ hby hml hown X8 v1 v2 v3 v4 nw cl (cl &&& (3 : Int32)) (0 : Int32) (0 : Int32) r (((0 : Int64) + (Int32.toInt64 v1)) + (Int32.toInt64 v2)) (((0 : Int64) + (1 : Int64)) + (1 : Int64)) (own_min v1 v2) _ h5 n0 e8 Z5 N8 (by decide) (by decide) (by decide) (by decide) Q1.exa hL hcm
  obtain ⟨fs, hr, hrun, hended, hW, hsame⟩ := X9.leave (v := some (.int (1 : Int32))) (fun h => by rw [Bd.returns] at h; cases h)
  refine ⟨_, _, pre0 _ (st1 _ (st2 _ (st3 _ (st4 _ (st5 _ (st6 _ (st7 _ (st8 _ (st9 _ ?_))))))))), hrun, hended, _, _, rfl, ?_, ⟨_, rfl⟩, hW, hsame.mono (by decide) (by decide)⟩
  · exact retN X9 hx (t := .boolean) Bd.returns (by simp) (hb hby at_246) hr
  · exact ⟨rfl, N9⟩
set_option maxRecDepth 65536 in
set_option maxHeartbeats 40000000 in
theorem rm0_201 (l : Launch) (Z : State) (a0 : Array Value) (hw : ∀ d ∈ tables_1, d.before a0 Z = true) (ws : List Jvm.Cond) (v1 v2 v3 v4 nw cl : Int32) (h0 : Heap) (n0 : Nat) (Z0 : n0 ≤ h0.size) (hn : cl &&& (3 : Int32) = (2 : Int32)) (hb2 : (((cl.toUInt32 >>> ((2 : Int32) &&& 31).toUInt32).toInt32) &&& (1 : Int32)) = 0) (hb3 : ¬ ((((cl.toUInt32 >>> ((3 : Int32) &&& 31).toUInt32).toInt32) &&& (1 : Int32)) = 0)) :
    MetFree l x (head1 (Jvm.Cond.code x code maxLocals ret :: ws) room_1) (fun a U => a = #[(.int v1), (.int v2), (.int v3), (.int v4), (.int nw), (.int cl)] ∧ Z.Warmed39 U.vm ∧ U.heap = h0) (fun _ _ _ _ _ => True) (fun _ U o U' => ∃ v L, o = .returned v ∧ Q0 n0 v L ∧ FrameEnd U o U' L 6 21) := by
  refine MetFree.of_bodySF (plainFor_of_name pn2) hisR ?_
  intro p e s m args below meth c s₁ Bd hml0 hP hK
  obtain ⟨rfl, hZ, hh⟩ := hP
  have hx := Bd.exec
  have hby := Bd.bytes
  have hml : c.maxLocals = 19 := hml0
  have hown : s.vm.findClass "com/example/orrery/orrery/policy/RunningEndsLeftAtPinLaw" = some m.cls := findClass_of_methodNamed Bd.named
  have hnm := (name_of_methodNamed Bd.named Bd.method).1
  have X0 : Stand p l e room_1 s m #[(.int v1), (.int v2), (.int v3), (.int v4), (.int nw), (.int cl)] below meth c s₁ [] 0 0 := Stand.of_body Bd
  have e0 : s₁.heap = h0 := by rw [← hh, Bd.state]; rfl
  have N0 := Fr.nil n0
  have pre0 : ∀ t, Steps p.tables e below (s₁.setTop (mkF m 0 #[.val (.int v1), .val (.int v2), .val (.int v3), .val (.int v4), .val (.int nw), .val (.int cl), .unset, .unset, .unset, .unset, .unset, .unset, .unset, .unset, .unset, .unset, .unset, .unset, .unset] [])) t → Steps p.tables e below (s₁.setTop (entryFrame m #[(.int v1), (.int v2), (.int v3), (.int v4), (.int nw), (.int cl)] maxLocals)) t := fun t k => castTop (ef6 m v1 v2 v3 v4 nw cl) k
  obtain ⟨T1, L1, X1, e1, N1, st1⟩ := law_r0 l Z a0 hw hx hZ hby hml hown X0 v1 v2 v3 v4 nw cl h0 n0 e0 Z0 N0  hb2
  obtain ⟨T2, L2, X2, e2, N2, st2⟩ := law_x1 l Z a0 hw hx hZ hby hml hown X1 v1 v2 v3 v4 nw cl (cl &&& (3 : Int32)) (0 : Int32) h0 n0 e1 Z0 N1  hb3
  obtain ⟨r, T3, h3, L3, X3, e3, Z3, N3, P3, st3⟩ := law_N l Z a0 hw hx hZ hby hml hown X2 v1 v2 v3 v4 nw cl (cl &&& (3 : Int32)) (0 : Int32) (1 : Int32) h0 n0 e2 Z0 N2 (by decide) (by decide) (by decide) (by decide)
  have S0 : own_S Z n0 r (2 : Int32) (0 : Int32) (0 : Int32) [] h3 := ⟨[0, 0], P3, rfl, (by intro y hy; simp only [List.mem_cons, List.not_mem_nil, or_false] at hy; rcases hy with rfl | rfl <;> exact own_z), rfl⟩
  have s0 : (0 : Int64).toInt = 0 := by decide
  have c0 : (0 : Int64).toInt = 0 := by decide
  have r1 := own_ir v1; have ra1 := r1.1; have rb1 := r1.2
  have r2 := own_ir v2; have ra2 := r2.1; have rb2 := r2.2
  have r3 := own_ir v3; have ra3 := r3.1; have rb3 := r3.2
  have r4 := own_ir v4; have ra4 := r4.1; have rb4 := r4.2
  have A0 := rmAdd_A l Z a0 hw [] r [] (Int32.toInt64 v1) h3 n0 Z3 S0 r1
  obtain ⟨T4, h4, L4, X4, e4, Z4, N4, Q0, st4⟩ := law_a1 l Z a0 hw hx hZ hby hml hown X3 v1 v2 v3 v4 nw cl (cl &&& (3 : Int32)) (0 : Int32) (1 : Int32) r (0 : Int64) (0 : Int64) (2147483647 : Int32) _ h3 n0 e3 Z3 N3 (by decide) (by decide) (by decide) (by decide) (by rw [hn]; decide) S0.exa A0
  have s1 := add64 (a := (0 : Int64)) (b := (Int32.toInt64 v1)) ⟨by omega, by omega⟩ ⟨by omega, by omega⟩; rw [s0] at s1
  have c1 := add64 (a := (0 : Int64)) (b := (1 : Int64)) ⟨by omega, by omega⟩ ⟨by decide, by decide⟩; rw [c0, show (1 : Int64).toInt = 1 by decide] at c1
  have A1 := rmAdd_B l Z a0 hw [] r (own_ins (Int32.toInt64 v1) []) (Int32.toInt64 v2) h4 n0 Z4 Q0 r2
  obtain ⟨T5, h5, L5, X5, e5, Z5, N5, Q1, st5⟩ := law_a2 l Z a0 hw hx hZ hby hml hown X4 v1 v2 v3 v4 nw cl (cl &&& (3 : Int32)) (0 : Int32) (1 : Int32) r ((0 : Int64) + (Int32.toInt64 v1)) ((0 : Int64) + (1 : Int64)) v1 _ h4 n0 e4 Z4 N4 (by decide) (by decide) (by decide) (by decide) (by rw [hn]; decide) Q0.exa A1
  have s2 := add64 (a := ((0 : Int64) + (Int32.toInt64 v1))) (b := (Int32.toInt64 v2)) ⟨by omega, by omega⟩ ⟨by omega, by omega⟩; rw [s1] at s2
  have c2 := add64 (a := ((0 : Int64) + (1 : Int64))) (b := (1 : Int64)) ⟨by omega, by omega⟩ ⟨by decide, by decide⟩; rw [c1, show (1 : Int64).toInt = 1 by decide] at c2
  obtain ⟨T6, L6, X6, e6, N6, st6⟩ := law_s3 l Z a0 hw hx hZ hby hml hown X5 v1 v2 v3 v4 nw cl (cl &&& (3 : Int32)) (0 : Int32) (1 : Int32) r (((0 : Int64) + (Int32.toInt64 v1)) + (Int32.toInt64 v2)) (((0 : Int64) + (1 : Int64)) + (1 : Int64)) (own_min v1 v2) h5 n0 e5 Z5 N5  (by rw [hn]; decide)
  obtain ⟨T7, L7, X7, e7, N7, st7⟩ := law_q0 l Z a0 hw hx hZ hby hml hown X6 v1 v2 v3 v4 nw cl (cl &&& (3 : Int32)) (0 : Int32) (1 : Int32) r (((0 : Int64) + (Int32.toInt64 v1)) + (Int32.toInt64 v2)) (((0 : Int64) + (1 : Int64)) + (1 : Int64)) (own_min v1 v2) h5 n0 e6 Z5 N6  rfl
  have C9 := rmAdd_C l Z a0 hw [] r (own_ins (Int32.toInt64 v2) (own_ins (Int32.toInt64 v1) [])) (Int32.toInt64 v4) h5 n0 Z5 Q1 r4
  obtain ⟨T8, h8, L8, X8, e8, Z8, N8, Q8, st8⟩ := law_y1 l Z a0 hw hx hZ hby hml hown X7 v1 v2 v3 v4 nw cl (cl &&& (3 : Int32)) (0 : Int32) (1 : Int32) r (((0 : Int64) + (Int32.toInt64 v1)) + (Int32.toInt64 v2)) (((0 : Int64) + (1 : Int64)) + (1 : Int64)) (own_min v1 v2) _ h5 n0 e7 Z5 N7 (by decide) (by decide) (by decide) (by decide) (by decide) Q1.exa C9
  have s3 := add64 (a := (((0 : Int64) + (Int32.toInt64 v1)) + (Int32.toInt64 v2))) (b := (Int32.toInt64 v4)) ⟨by omega, by omega⟩ ⟨by omega, by omega⟩; rw [s2] at s3
  have c3 := add64 (a := (((0 : Int64) + (1 : Int64)) + (1 : Int64))) (b := (1 : Int64)) ⟨by omega, by omega⟩ ⟨by decide, by decide⟩; rw [c2, show (1 : Int64).toInt = 1 by decide] at c3
  obtain ⟨cv, hcv, hL⟩ := rmLeftS_403 l Z a0 hw r (own_ins (Int32.toInt64 v4) (own_ins (Int32.toInt64 v2) (own_ins (Int32.toInt64 v1) []))) (Int32.toInt64 nw) h8 n0 Z8 Q8 (own_ir nw)
  have hcm := own_fin (c := cv) (sm := ((((0 : Int64) + (Int32.toInt64 v1)) + (Int32.toInt64 v2)) + (Int32.toInt64 v4))) (ct := ((((0 : Int64) + (1 : Int64)) + (1 : Int64)) + (1 : Int64))) (nw := Int32.toInt64 nw) (S := own_sum (own_ins (Int32.toInt64 v4) (own_ins (Int32.toInt64 v2) (own_ins (Int32.toInt64 v1) [])))) (k := 3) hcv (by simp only [own_sum_ins, own_sum] at *; omega) (by omega) (by decide) (by decide) (by simp only [own_sum_ins, own_sum] at *; omega) (by simp only [own_sum_ins, own_sum] at *; omega) (own_ir nw)
  obtain ⟨T9, L9, X9, e9, N9, st9⟩ := law_end l Z a0 hw hx hZ hby hml hown X8 v1 v2 v3 v4 nw cl (cl &&& (3 : Int32)) (0 : Int32) (1 : Int32) r ((((0 : Int64) + (Int32.toInt64 v1)) + (Int32.toInt64 v2)) + (Int32.toInt64 v4)) ((((0 : Int64) + (1 : Int64)) + (1 : Int64)) + (1 : Int64)) (own_min v1 v2) _ h8 n0 e8 Z8 N8 (by decide) (by decide) (by decide) (by decide) Q8.exa hL hcm
  obtain ⟨fs, hr, hrun, hended, hW, hsame⟩ := X9.leave (v := some (.int (1 : Int32))) (fun h => by rw [Bd.returns] at h; cases h)
  refine ⟨_, _, pre0 _ (st1 _ (st2 _ (st3 _ (st4 _ (st5 _ (st6 _ (st7 _ (st8 _ (st9 _ ?_))))))))), hrun, hended, _, _, rfl, ?_, ⟨_, rfl⟩, hW, hsame.mono (by decide) (by decide)⟩
  · exact retN X9 hx (t := .boolean) Bd.returns (by simp) (hb hby at_246) hr
  · exact ⟨rfl, N9⟩
set_option maxRecDepth 65536 in
set_option maxHeartbeats 40000000 in
theorem rm0_210 (l : Launch) (Z : State) (a0 : Array Value) (hw : ∀ d ∈ tables_1, d.before a0 Z = true) (ws : List Jvm.Cond) (v1 v2 v3 v4 nw cl : Int32) (h0 : Heap) (n0 : Nat) (Z0 : n0 ≤ h0.size) (hn : cl &&& (3 : Int32) = (2 : Int32)) (hb2 : ¬ ((((cl.toUInt32 >>> ((2 : Int32) &&& 31).toUInt32).toInt32) &&& (1 : Int32)) = 0)) (hb3 : (((cl.toUInt32 >>> ((3 : Int32) &&& 31).toUInt32).toInt32) &&& (1 : Int32)) = 0) :
    MetFree l x (head1 (Jvm.Cond.code x code maxLocals ret :: ws) room_1) (fun a U => a = #[(.int v1), (.int v2), (.int v3), (.int v4), (.int nw), (.int cl)] ∧ Z.Warmed39 U.vm ∧ U.heap = h0) (fun _ _ _ _ _ => True) (fun _ U o U' => ∃ v L, o = .returned v ∧ Q0 n0 v L ∧ FrameEnd U o U' L 6 21) := by
  refine MetFree.of_bodySF (plainFor_of_name pn2) hisR ?_
  intro p e s m args below meth c s₁ Bd hml0 hP hK
  obtain ⟨rfl, hZ, hh⟩ := hP
  have hx := Bd.exec
  have hby := Bd.bytes
  have hml : c.maxLocals = 19 := hml0
  have hown : s.vm.findClass "com/example/orrery/orrery/policy/RunningEndsLeftAtPinLaw" = some m.cls := findClass_of_methodNamed Bd.named
  have hnm := (name_of_methodNamed Bd.named Bd.method).1
  have X0 : Stand p l e room_1 s m #[(.int v1), (.int v2), (.int v3), (.int v4), (.int nw), (.int cl)] below meth c s₁ [] 0 0 := Stand.of_body Bd
  have e0 : s₁.heap = h0 := by rw [← hh, Bd.state]; rfl
  have N0 := Fr.nil n0
  have pre0 : ∀ t, Steps p.tables e below (s₁.setTop (mkF m 0 #[.val (.int v1), .val (.int v2), .val (.int v3), .val (.int v4), .val (.int nw), .val (.int cl), .unset, .unset, .unset, .unset, .unset, .unset, .unset, .unset, .unset, .unset, .unset, .unset, .unset] [])) t → Steps p.tables e below (s₁.setTop (entryFrame m #[(.int v1), (.int v2), (.int v3), (.int v4), (.int nw), (.int cl)] maxLocals)) t := fun t k => castTop (ef6 m v1 v2 v3 v4 nw cl) k
  obtain ⟨T1, L1, X1, e1, N1, st1⟩ := law_r1 l Z a0 hw hx hZ hby hml hown X0 v1 v2 v3 v4 nw cl h0 n0 e0 Z0 N0  hb2 (by rw [hn]; decide)
  obtain ⟨T2, L2, X2, e2, N2, st2⟩ := law_x0 l Z a0 hw hx hZ hby hml hown X1 v1 v2 v3 v4 nw cl (cl &&& (3 : Int32)) (1 : Int32) h0 n0 e1 Z0 N1  hb3
  obtain ⟨r, T3, h3, L3, X3, e3, Z3, N3, P3, st3⟩ := law_N l Z a0 hw hx hZ hby hml hown X2 v1 v2 v3 v4 nw cl (cl &&& (3 : Int32)) (1 : Int32) (0 : Int32) h0 n0 e2 Z0 N2 (by decide) (by decide) (by decide) (by decide)
  have S0 : own_S Z n0 r (2 : Int32) (0 : Int32) (0 : Int32) [] h3 := ⟨[0, 0], P3, rfl, (by intro y hy; simp only [List.mem_cons, List.not_mem_nil, or_false] at hy; rcases hy with rfl | rfl <;> exact own_z), rfl⟩
  have s0 : (0 : Int64).toInt = 0 := by decide
  have c0 : (0 : Int64).toInt = 0 := by decide
  have r1 := own_ir v1; have ra1 := r1.1; have rb1 := r1.2
  have r2 := own_ir v2; have ra2 := r2.1; have rb2 := r2.2
  have r3 := own_ir v3; have ra3 := r3.1; have rb3 := r3.2
  have r4 := own_ir v4; have ra4 := r4.1; have rb4 := r4.2
  have A0 := rmAdd_A l Z a0 hw [] r [] (Int32.toInt64 v1) h3 n0 Z3 S0 r1
  obtain ⟨T4, h4, L4, X4, e4, Z4, N4, Q0, st4⟩ := law_a1 l Z a0 hw hx hZ hby hml hown X3 v1 v2 v3 v4 nw cl (cl &&& (3 : Int32)) (1 : Int32) (0 : Int32) r (0 : Int64) (0 : Int64) (2147483647 : Int32) _ h3 n0 e3 Z3 N3 (by decide) (by decide) (by decide) (by decide) (by rw [hn]; decide) S0.exa A0
  have s1 := add64 (a := (0 : Int64)) (b := (Int32.toInt64 v1)) ⟨by omega, by omega⟩ ⟨by omega, by omega⟩; rw [s0] at s1
  have c1 := add64 (a := (0 : Int64)) (b := (1 : Int64)) ⟨by omega, by omega⟩ ⟨by decide, by decide⟩; rw [c0, show (1 : Int64).toInt = 1 by decide] at c1
  have A1 := rmAdd_B l Z a0 hw [] r (own_ins (Int32.toInt64 v1) []) (Int32.toInt64 v2) h4 n0 Z4 Q0 r2
  obtain ⟨T5, h5, L5, X5, e5, Z5, N5, Q1, st5⟩ := law_a2 l Z a0 hw hx hZ hby hml hown X4 v1 v2 v3 v4 nw cl (cl &&& (3 : Int32)) (1 : Int32) (0 : Int32) r ((0 : Int64) + (Int32.toInt64 v1)) ((0 : Int64) + (1 : Int64)) v1 _ h4 n0 e4 Z4 N4 (by decide) (by decide) (by decide) (by decide) (by rw [hn]; decide) Q0.exa A1
  have s2 := add64 (a := ((0 : Int64) + (Int32.toInt64 v1))) (b := (Int32.toInt64 v2)) ⟨by omega, by omega⟩ ⟨by omega, by omega⟩; rw [s1] at s2
  have c2 := add64 (a := ((0 : Int64) + (1 : Int64))) (b := (1 : Int64)) ⟨by omega, by omega⟩ ⟨by decide, by decide⟩; rw [c1, show (1 : Int64).toInt = 1 by decide] at c2
  obtain ⟨T6, L6, X6, e6, N6, st6⟩ := law_s3 l Z a0 hw hx hZ hby hml hown X5 v1 v2 v3 v4 nw cl (cl &&& (3 : Int32)) (1 : Int32) (0 : Int32) r (((0 : Int64) + (Int32.toInt64 v1)) + (Int32.toInt64 v2)) (((0 : Int64) + (1 : Int64)) + (1 : Int64)) (own_min v1 v2) h5 n0 e5 Z5 N5  (by rw [hn]; decide)
  obtain ⟨tl, ht⟩ := own_head2 v1 v2
  have hsum := congrArg own_sum ht
  have S9 := Q1; rw [ht] at S9
  have B9 := rmRemS_22 l Z a0 hw [] r tl (Int32.toInt64 (own_min v1 v2)) h5 n0 Z5 S9
  have rm9 := own_ir (own_min v1 v2); have rma := rm9.1; have rmb := rm9.2
  obtain ⟨T7, h7, L7, X7, e7, Z7, N7, Q9, st7⟩ := law_q1 l Z a0 hw hx hZ hby hml hown X6 v1 v2 v3 v4 nw cl (cl &&& (3 : Int32)) (1 : Int32) (0 : Int32) r (((0 : Int64) + (Int32.toInt64 v1)) + (Int32.toInt64 v2)) (((0 : Int64) + (1 : Int64)) + (1 : Int64)) (own_min v1 v2) _ h5 n0 e6 Z5 N6 (by decide) (by decide) (by decide) (by decide) (by decide) Q1.exa B9
  have s3 := sub64 (a := (((0 : Int64) + (Int32.toInt64 v1)) + (Int32.toInt64 v2))) (b := (Int32.toInt64 (own_min v1 v2))) ⟨by omega, by omega⟩ ⟨by omega, by omega⟩; rw [s2] at s3
  have c3 := sub64 (a := (((0 : Int64) + (1 : Int64)) + (1 : Int64))) (b := (1 : Int64)) ⟨by omega, by omega⟩ ⟨by decide, by decide⟩; rw [c2, show (1 : Int64).toInt = 1 by decide] at c3
  obtain ⟨T8, L8, X8, e8, N8, st8⟩ := law_y0 l Z a0 hw hx hZ hby hml hown X7 v1 v2 v3 v4 nw cl (cl &&& (3 : Int32)) (1 : Int32) (0 : Int32) r ((((0 : Int64) + (Int32.toInt64 v1)) + (Int32.toInt64 v2)) - (Int32.toInt64 (own_min v1 v2))) ((((0 : Int64) + (1 : Int64)) + (1 : Int64)) - (1 : Int64)) (own_min v1 v2) h7 n0 e7 Z7 N7  rfl
  obtain ⟨cv, hcv, hL⟩ := rmLeftS_212 l Z a0 hw r tl (Int32.toInt64 nw) h7 n0 Z7 Q9 (own_ir nw)
  have hcm := own_fin (c := cv) (sm := ((((0 : Int64) + (Int32.toInt64 v1)) + (Int32.toInt64 v2)) - (Int32.toInt64 (own_min v1 v2)))) (ct := ((((0 : Int64) + (1 : Int64)) + (1 : Int64)) - (1 : Int64))) (nw := Int32.toInt64 nw) (S := own_sum tl) (k := 1) hcv (by simp only [own_sum_ins, own_sum] at *; omega) (by omega) (by decide) (by decide) (by simp only [own_sum_ins, own_sum] at *; omega) (by simp only [own_sum_ins, own_sum] at *; omega) (own_ir nw)
  obtain ⟨T9, L9, X9, e9, N9, st9⟩ := law_end l Z a0 hw hx hZ hby hml hown X8 v1 v2 v3 v4 nw cl (cl &&& (3 : Int32)) (1 : Int32) (0 : Int32) r ((((0 : Int64) + (Int32.toInt64 v1)) + (Int32.toInt64 v2)) - (Int32.toInt64 (own_min v1 v2))) ((((0 : Int64) + (1 : Int64)) + (1 : Int64)) - (1 : Int64)) (own_min v1 v2) _ h7 n0 e8 Z7 N8 (by decide) (by decide) (by decide) (by decide) Q9.exa hL hcm
  obtain ⟨fs, hr, hrun, hended, hW, hsame⟩ := X9.leave (v := some (.int (1 : Int32))) (fun h => by rw [Bd.returns] at h; cases h)
  refine ⟨_, _, pre0 _ (st1 _ (st2 _ (st3 _ (st4 _ (st5 _ (st6 _ (st7 _ (st8 _ (st9 _ ?_))))))))), hrun, hended, _, _, rfl, ?_, ⟨_, rfl⟩, hW, hsame.mono (by decide) (by decide)⟩
  · exact retN X9 hx (t := .boolean) Bd.returns (by simp) (hb hby at_246) hr
  · exact ⟨rfl, N9⟩
set_option maxRecDepth 65536 in
set_option maxHeartbeats 40000000 in
theorem rm0_211 (l : Launch) (Z : State) (a0 : Array Value) (hw : ∀ d ∈ tables_1, d.before a0 Z = true) (ws : List Jvm.Cond) (v1 v2 v3 v4 nw cl : Int32) (h0 : Heap) (n0 : Nat) (Z0 : n0 ≤ h0.size) (hn : cl &&& (3 : Int32) = (2 : Int32)) (hb2 : ¬ ((((cl.toUInt32 >>> ((2 : Int32) &&& 31).toUInt32).toInt32) &&& (1 : Int32)) = 0)) (hb3 : ¬ ((((cl.toUInt32 >>> ((3 : Int32) &&& 31).toUInt32).toInt32) &&& (1 : Int32)) = 0)) :
    MetFree l x (head1 (Jvm.Cond.code x code maxLocals ret :: ws) room_1) (fun a U => a = #[(.int v1), (.int v2), (.int v3), (.int v4), (.int nw), (.int cl)] ∧ Z.Warmed39 U.vm ∧ U.heap = h0) (fun _ _ _ _ _ => True) (fun _ U o U' => ∃ v L, o = .returned v ∧ Q0 n0 v L ∧ FrameEnd U o U' L 6 21) := by
  refine MetFree.of_bodySF (plainFor_of_name pn2) hisR ?_
  intro p e s m args below meth c s₁ Bd hml0 hP hK
  obtain ⟨rfl, hZ, hh⟩ := hP
  have hx := Bd.exec
  have hby := Bd.bytes
  have hml : c.maxLocals = 19 := hml0
  have hown : s.vm.findClass "com/example/orrery/orrery/policy/RunningEndsLeftAtPinLaw" = some m.cls := findClass_of_methodNamed Bd.named
  have hnm := (name_of_methodNamed Bd.named Bd.method).1
  have X0 : Stand p l e room_1 s m #[(.int v1), (.int v2), (.int v3), (.int v4), (.int nw), (.int cl)] below meth c s₁ [] 0 0 := Stand.of_body Bd
  have e0 : s₁.heap = h0 := by rw [← hh, Bd.state]; rfl
  have N0 := Fr.nil n0
  have pre0 : ∀ t, Steps p.tables e below (s₁.setTop (mkF m 0 #[.val (.int v1), .val (.int v2), .val (.int v3), .val (.int v4), .val (.int nw), .val (.int cl), .unset, .unset, .unset, .unset, .unset, .unset, .unset, .unset, .unset, .unset, .unset, .unset, .unset] [])) t → Steps p.tables e below (s₁.setTop (entryFrame m #[(.int v1), (.int v2), (.int v3), (.int v4), (.int nw), (.int cl)] maxLocals)) t := fun t k => castTop (ef6 m v1 v2 v3 v4 nw cl) k
  obtain ⟨T1, L1, X1, e1, N1, st1⟩ := law_r1 l Z a0 hw hx hZ hby hml hown X0 v1 v2 v3 v4 nw cl h0 n0 e0 Z0 N0  hb2 (by rw [hn]; decide)
  obtain ⟨T2, L2, X2, e2, N2, st2⟩ := law_x1 l Z a0 hw hx hZ hby hml hown X1 v1 v2 v3 v4 nw cl (cl &&& (3 : Int32)) (1 : Int32) h0 n0 e1 Z0 N1  hb3
  obtain ⟨r, T3, h3, L3, X3, e3, Z3, N3, P3, st3⟩ := law_N l Z a0 hw hx hZ hby hml hown X2 v1 v2 v3 v4 nw cl (cl &&& (3 : Int32)) (1 : Int32) (1 : Int32) h0 n0 e2 Z0 N2 (by decide) (by decide) (by decide) (by decide)
  have S0 : own_S Z n0 r (2 : Int32) (0 : Int32) (0 : Int32) [] h3 := ⟨[0, 0], P3, rfl, (by intro y hy; simp only [List.mem_cons, List.not_mem_nil, or_false] at hy; rcases hy with rfl | rfl <;> exact own_z), rfl⟩
  have s0 : (0 : Int64).toInt = 0 := by decide
  have c0 : (0 : Int64).toInt = 0 := by decide
  have r1 := own_ir v1; have ra1 := r1.1; have rb1 := r1.2
  have r2 := own_ir v2; have ra2 := r2.1; have rb2 := r2.2
  have r3 := own_ir v3; have ra3 := r3.1; have rb3 := r3.2
  have r4 := own_ir v4; have ra4 := r4.1; have rb4 := r4.2
  have A0 := rmAdd_A l Z a0 hw [] r [] (Int32.toInt64 v1) h3 n0 Z3 S0 r1
  obtain ⟨T4, h4, L4, X4, e4, Z4, N4, Q0, st4⟩ := law_a1 l Z a0 hw hx hZ hby hml hown X3 v1 v2 v3 v4 nw cl (cl &&& (3 : Int32)) (1 : Int32) (1 : Int32) r (0 : Int64) (0 : Int64) (2147483647 : Int32) _ h3 n0 e3 Z3 N3 (by decide) (by decide) (by decide) (by decide) (by rw [hn]; decide) S0.exa A0
  have s1 := add64 (a := (0 : Int64)) (b := (Int32.toInt64 v1)) ⟨by omega, by omega⟩ ⟨by omega, by omega⟩; rw [s0] at s1
  have c1 := add64 (a := (0 : Int64)) (b := (1 : Int64)) ⟨by omega, by omega⟩ ⟨by decide, by decide⟩; rw [c0, show (1 : Int64).toInt = 1 by decide] at c1
  have A1 := rmAdd_B l Z a0 hw [] r (own_ins (Int32.toInt64 v1) []) (Int32.toInt64 v2) h4 n0 Z4 Q0 r2
  obtain ⟨T5, h5, L5, X5, e5, Z5, N5, Q1, st5⟩ := law_a2 l Z a0 hw hx hZ hby hml hown X4 v1 v2 v3 v4 nw cl (cl &&& (3 : Int32)) (1 : Int32) (1 : Int32) r ((0 : Int64) + (Int32.toInt64 v1)) ((0 : Int64) + (1 : Int64)) v1 _ h4 n0 e4 Z4 N4 (by decide) (by decide) (by decide) (by decide) (by rw [hn]; decide) Q0.exa A1
  have s2 := add64 (a := ((0 : Int64) + (Int32.toInt64 v1))) (b := (Int32.toInt64 v2)) ⟨by omega, by omega⟩ ⟨by omega, by omega⟩; rw [s1] at s2
  have c2 := add64 (a := ((0 : Int64) + (1 : Int64))) (b := (1 : Int64)) ⟨by omega, by omega⟩ ⟨by decide, by decide⟩; rw [c1, show (1 : Int64).toInt = 1 by decide] at c2
  obtain ⟨T6, L6, X6, e6, N6, st6⟩ := law_s3 l Z a0 hw hx hZ hby hml hown X5 v1 v2 v3 v4 nw cl (cl &&& (3 : Int32)) (1 : Int32) (1 : Int32) r (((0 : Int64) + (Int32.toInt64 v1)) + (Int32.toInt64 v2)) (((0 : Int64) + (1 : Int64)) + (1 : Int64)) (own_min v1 v2) h5 n0 e5 Z5 N5  (by rw [hn]; decide)
  obtain ⟨tl, ht⟩ := own_head2 v1 v2
  have hsum := congrArg own_sum ht
  have S9 := Q1; rw [ht] at S9
  have B9 := rmRemS_22 l Z a0 hw [] r tl (Int32.toInt64 (own_min v1 v2)) h5 n0 Z5 S9
  have rm9 := own_ir (own_min v1 v2); have rma := rm9.1; have rmb := rm9.2
  obtain ⟨T7, h7, L7, X7, e7, Z7, N7, Q9, st7⟩ := law_q1 l Z a0 hw hx hZ hby hml hown X6 v1 v2 v3 v4 nw cl (cl &&& (3 : Int32)) (1 : Int32) (1 : Int32) r (((0 : Int64) + (Int32.toInt64 v1)) + (Int32.toInt64 v2)) (((0 : Int64) + (1 : Int64)) + (1 : Int64)) (own_min v1 v2) _ h5 n0 e6 Z5 N6 (by decide) (by decide) (by decide) (by decide) (by decide) Q1.exa B9
  have s3 := sub64 (a := (((0 : Int64) + (Int32.toInt64 v1)) + (Int32.toInt64 v2))) (b := (Int32.toInt64 (own_min v1 v2))) ⟨by omega, by omega⟩ ⟨by omega, by omega⟩; rw [s2] at s3
  have c3 := sub64 (a := (((0 : Int64) + (1 : Int64)) + (1 : Int64))) (b := (1 : Int64)) ⟨by omega, by omega⟩ ⟨by decide, by decide⟩; rw [c2, show (1 : Int64).toInt = 1 by decide] at c3
  have C9 := rmAdd_D l Z a0 hw [] r tl (Int32.toInt64 v4) h7 n0 Z7 Q9 r4
  obtain ⟨T8, h8, L8, X8, e8, Z8, N8, Q8, st8⟩ := law_y1 l Z a0 hw hx hZ hby hml hown X7 v1 v2 v3 v4 nw cl (cl &&& (3 : Int32)) (1 : Int32) (1 : Int32) r ((((0 : Int64) + (Int32.toInt64 v1)) + (Int32.toInt64 v2)) - (Int32.toInt64 (own_min v1 v2))) ((((0 : Int64) + (1 : Int64)) + (1 : Int64)) - (1 : Int64)) (own_min v1 v2) _ h7 n0 e7 Z7 N7 (by decide) (by decide) (by decide) (by decide) (by decide) Q9.exa C9
  have s4 := add64 (a := ((((0 : Int64) + (Int32.toInt64 v1)) + (Int32.toInt64 v2)) - (Int32.toInt64 (own_min v1 v2)))) (b := (Int32.toInt64 v4)) ⟨by omega, by omega⟩ ⟨by omega, by omega⟩; rw [s3] at s4
  have c4 := add64 (a := ((((0 : Int64) + (1 : Int64)) + (1 : Int64)) - (1 : Int64))) (b := (1 : Int64)) ⟨by omega, by omega⟩ ⟨by decide, by decide⟩; rw [c3, show (1 : Int64).toInt = 1 by decide] at c4
  obtain ⟨cv, hcv, hL⟩ := rmLeftS_402 l Z a0 hw r (own_ins (Int32.toInt64 v4) tl) (Int32.toInt64 nw) h8 n0 Z8 Q8 (own_ir nw)
  have hcm := own_fin (c := cv) (sm := (((((0 : Int64) + (Int32.toInt64 v1)) + (Int32.toInt64 v2)) - (Int32.toInt64 (own_min v1 v2))) + (Int32.toInt64 v4))) (ct := (((((0 : Int64) + (1 : Int64)) + (1 : Int64)) - (1 : Int64)) + (1 : Int64))) (nw := Int32.toInt64 nw) (S := own_sum (own_ins (Int32.toInt64 v4) tl)) (k := 2) hcv (by simp only [own_sum_ins, own_sum] at *; omega) (by omega) (by decide) (by decide) (by simp only [own_sum_ins, own_sum] at *; omega) (by simp only [own_sum_ins, own_sum] at *; omega) (own_ir nw)
  obtain ⟨T9, L9, X9, e9, N9, st9⟩ := law_end l Z a0 hw hx hZ hby hml hown X8 v1 v2 v3 v4 nw cl (cl &&& (3 : Int32)) (1 : Int32) (1 : Int32) r (((((0 : Int64) + (Int32.toInt64 v1)) + (Int32.toInt64 v2)) - (Int32.toInt64 (own_min v1 v2))) + (Int32.toInt64 v4)) (((((0 : Int64) + (1 : Int64)) + (1 : Int64)) - (1 : Int64)) + (1 : Int64)) (own_min v1 v2) _ h8 n0 e8 Z8 N8 (by decide) (by decide) (by decide) (by decide) Q8.exa hL hcm
  obtain ⟨fs, hr, hrun, hended, hW, hsame⟩ := X9.leave (v := some (.int (1 : Int32))) (fun h => by rw [Bd.returns] at h; cases h)
  refine ⟨_, _, pre0 _ (st1 _ (st2 _ (st3 _ (st4 _ (st5 _ (st6 _ (st7 _ (st8 _ (st9 _ ?_))))))))), hrun, hended, _, _, rfl, ?_, ⟨_, rfl⟩, hW, hsame.mono (by decide) (by decide)⟩
  · exact retN X9 hx (t := .boolean) Bd.returns (by simp) (hb hby at_246) hr
  · exact ⟨rfl, N9⟩
set_option maxRecDepth 65536 in
set_option maxHeartbeats 40000000 in
theorem rm0_300 (l : Launch) (Z : State) (a0 : Array Value) (hw : ∀ d ∈ tables_1, d.before a0 Z = true) (ws : List Jvm.Cond) (v1 v2 v3 v4 nw cl : Int32) (h0 : Heap) (n0 : Nat) (Z0 : n0 ≤ h0.size) (hn : cl &&& (3 : Int32) = (3 : Int32)) (hb2 : (((cl.toUInt32 >>> ((2 : Int32) &&& 31).toUInt32).toInt32) &&& (1 : Int32)) = 0) (hb3 : (((cl.toUInt32 >>> ((3 : Int32) &&& 31).toUInt32).toInt32) &&& (1 : Int32)) = 0) :
    MetFree l x (head1 (Jvm.Cond.code x code maxLocals ret :: ws) room_1) (fun a U => a = #[(.int v1), (.int v2), (.int v3), (.int v4), (.int nw), (.int cl)] ∧ Z.Warmed39 U.vm ∧ U.heap = h0) (fun _ _ _ _ _ => True) (fun _ U o U' => ∃ v L, o = .returned v ∧ Q0 n0 v L ∧ FrameEnd U o U' L 6 21) := by
  refine MetFree.of_bodySF (plainFor_of_name pn2) hisR ?_
  intro p e s m args below meth c s₁ Bd hml0 hP hK
  obtain ⟨rfl, hZ, hh⟩ := hP
  have hx := Bd.exec
  have hby := Bd.bytes
  have hml : c.maxLocals = 19 := hml0
  have hown : s.vm.findClass "com/example/orrery/orrery/policy/RunningEndsLeftAtPinLaw" = some m.cls := findClass_of_methodNamed Bd.named
  have hnm := (name_of_methodNamed Bd.named Bd.method).1
  have X0 : Stand p l e room_1 s m #[(.int v1), (.int v2), (.int v3), (.int v4), (.int nw), (.int cl)] below meth c s₁ [] 0 0 := Stand.of_body Bd
  have e0 : s₁.heap = h0 := by rw [← hh, Bd.state]; rfl
  have N0 := Fr.nil n0
  have pre0 : ∀ t, Steps p.tables e below (s₁.setTop (mkF m 0 #[.val (.int v1), .val (.int v2), .val (.int v3), .val (.int v4), .val (.int nw), .val (.int cl), .unset, .unset, .unset, .unset, .unset, .unset, .unset, .unset, .unset, .unset, .unset, .unset, .unset] [])) t → Steps p.tables e below (s₁.setTop (entryFrame m #[(.int v1), (.int v2), (.int v3), (.int v4), (.int nw), (.int cl)] maxLocals)) t := fun t k => castTop (ef6 m v1 v2 v3 v4 nw cl) k
  obtain ⟨T1, L1, X1, e1, N1, st1⟩ := law_r0 l Z a0 hw hx hZ hby hml hown X0 v1 v2 v3 v4 nw cl h0 n0 e0 Z0 N0  hb2
  obtain ⟨T2, L2, X2, e2, N2, st2⟩ := law_x0 l Z a0 hw hx hZ hby hml hown X1 v1 v2 v3 v4 nw cl (cl &&& (3 : Int32)) (0 : Int32) h0 n0 e1 Z0 N1  hb3
  obtain ⟨r, T3, h3, L3, X3, e3, Z3, N3, P3, st3⟩ := law_N l Z a0 hw hx hZ hby hml hown X2 v1 v2 v3 v4 nw cl (cl &&& (3 : Int32)) (0 : Int32) (0 : Int32) h0 n0 e2 Z0 N2 (by decide) (by decide) (by decide) (by decide)
  have S0 : own_S Z n0 r (2 : Int32) (0 : Int32) (0 : Int32) [] h3 := ⟨[0, 0], P3, rfl, (by intro y hy; simp only [List.mem_cons, List.not_mem_nil, or_false] at hy; rcases hy with rfl | rfl <;> exact own_z), rfl⟩
  have s0 : (0 : Int64).toInt = 0 := by decide
  have c0 : (0 : Int64).toInt = 0 := by decide
  have r1 := own_ir v1; have ra1 := r1.1; have rb1 := r1.2
  have r2 := own_ir v2; have ra2 := r2.1; have rb2 := r2.2
  have r3 := own_ir v3; have ra3 := r3.1; have rb3 := r3.2
  have r4 := own_ir v4; have ra4 := r4.1; have rb4 := r4.2
  have A0 := rmAdd_A l Z a0 hw [] r [] (Int32.toInt64 v1) h3 n0 Z3 S0 r1
  obtain ⟨T4, h4, L4, X4, e4, Z4, N4, Q0, st4⟩ := law_a1 l Z a0 hw hx hZ hby hml hown X3 v1 v2 v3 v4 nw cl (cl &&& (3 : Int32)) (0 : Int32) (0 : Int32) r (0 : Int64) (0 : Int64) (2147483647 : Int32) _ h3 n0 e3 Z3 N3 (by decide) (by decide) (by decide) (by decide) (by rw [hn]; decide) S0.exa A0
  have s1 := add64 (a := (0 : Int64)) (b := (Int32.toInt64 v1)) ⟨by omega, by omega⟩ ⟨by omega, by omega⟩; rw [s0] at s1
  have c1 := add64 (a := (0 : Int64)) (b := (1 : Int64)) ⟨by omega, by omega⟩ ⟨by decide, by decide⟩; rw [c0, show (1 : Int64).toInt = 1 by decide] at c1
  have A1 := rmAdd_B l Z a0 hw [] r (own_ins (Int32.toInt64 v1) []) (Int32.toInt64 v2) h4 n0 Z4 Q0 r2
  obtain ⟨T5, h5, L5, X5, e5, Z5, N5, Q1, st5⟩ := law_a2 l Z a0 hw hx hZ hby hml hown X4 v1 v2 v3 v4 nw cl (cl &&& (3 : Int32)) (0 : Int32) (0 : Int32) r ((0 : Int64) + (Int32.toInt64 v1)) ((0 : Int64) + (1 : Int64)) v1 _ h4 n0 e4 Z4 N4 (by decide) (by decide) (by decide) (by decide) (by rw [hn]; decide) Q0.exa A1
  have s2 := add64 (a := ((0 : Int64) + (Int32.toInt64 v1))) (b := (Int32.toInt64 v2)) ⟨by omega, by omega⟩ ⟨by omega, by omega⟩; rw [s1] at s2
  have c2 := add64 (a := ((0 : Int64) + (1 : Int64))) (b := (1 : Int64)) ⟨by omega, by omega⟩ ⟨by decide, by decide⟩; rw [c1, show (1 : Int64).toInt = 1 by decide] at c2
  have A2 := rmAdd_C l Z a0 hw [] r (own_ins (Int32.toInt64 v2) (own_ins (Int32.toInt64 v1) [])) (Int32.toInt64 v3) h5 n0 Z5 Q1 r3
  obtain ⟨T6, h6, L6, X6, e6, Z6, N6, Q2, st6⟩ := law_a3 l Z a0 hw hx hZ hby hml hown X5 v1 v2 v3 v4 nw cl (cl &&& (3 : Int32)) (0 : Int32) (0 : Int32) r (((0 : Int64) + (Int32.toInt64 v1)) + (Int32.toInt64 v2)) (((0 : Int64) + (1 : Int64)) + (1 : Int64)) (own_min v1 v2) _ h5 n0 e5 Z5 N5 (by decide) (by decide) (by decide) (by decide) (by rw [hn]; decide) Q1.exa A2
  have s3 := add64 (a := (((0 : Int64) + (Int32.toInt64 v1)) + (Int32.toInt64 v2))) (b := (Int32.toInt64 v3)) ⟨by omega, by omega⟩ ⟨by omega, by omega⟩; rw [s2] at s3
  have c3 := add64 (a := (((0 : Int64) + (1 : Int64)) + (1 : Int64))) (b := (1 : Int64)) ⟨by omega, by omega⟩ ⟨by decide, by decide⟩; rw [c2, show (1 : Int64).toInt = 1 by decide] at c3
  obtain ⟨T7, L7, X7, e7, N7, st7⟩ := law_q0 l Z a0 hw hx hZ hby hml hown X6 v1 v2 v3 v4 nw cl (cl &&& (3 : Int32)) (0 : Int32) (0 : Int32) r ((((0 : Int64) + (Int32.toInt64 v1)) + (Int32.toInt64 v2)) + (Int32.toInt64 v3)) ((((0 : Int64) + (1 : Int64)) + (1 : Int64)) + (1 : Int64)) (own_min (own_min v1 v2) v3) h6 n0 e6 Z6 N6  rfl
  obtain ⟨T8, L8, X8, e8, N8, st8⟩ := law_y0 l Z a0 hw hx hZ hby hml hown X7 v1 v2 v3 v4 nw cl (cl &&& (3 : Int32)) (0 : Int32) (0 : Int32) r ((((0 : Int64) + (Int32.toInt64 v1)) + (Int32.toInt64 v2)) + (Int32.toInt64 v3)) ((((0 : Int64) + (1 : Int64)) + (1 : Int64)) + (1 : Int64)) (own_min (own_min v1 v2) v3) h6 n0 e7 Z6 N7  rfl
  obtain ⟨cv, hcv, hL⟩ := rmLeftS_403 l Z a0 hw r (own_ins (Int32.toInt64 v3) (own_ins (Int32.toInt64 v2) (own_ins (Int32.toInt64 v1) []))) (Int32.toInt64 nw) h6 n0 Z6 Q2 (own_ir nw)
  have hcm := own_fin (c := cv) (sm := ((((0 : Int64) + (Int32.toInt64 v1)) + (Int32.toInt64 v2)) + (Int32.toInt64 v3))) (ct := ((((0 : Int64) + (1 : Int64)) + (1 : Int64)) + (1 : Int64))) (nw := Int32.toInt64 nw) (S := own_sum (own_ins (Int32.toInt64 v3) (own_ins (Int32.toInt64 v2) (own_ins (Int32.toInt64 v1) [])))) (k := 3) hcv (by simp only [own_sum_ins, own_sum] at *; omega) (by omega) (by decide) (by decide) (by simp only [own_sum_ins, own_sum] at *; omega) (by simp only [own_sum_ins, own_sum] at *; omega) (own_ir nw)
  obtain ⟨T9, L9, X9, e9, N9, st9⟩ := law_end l Z a0 hw hx hZ hby hml hown X8 v1 v2 v3 v4 nw cl (cl &&& (3 : Int32)) (0 : Int32) (0 : Int32) r ((((0 : Int64) + (Int32.toInt64 v1)) + (Int32.toInt64 v2)) + (Int32.toInt64 v3)) ((((0 : Int64) + (1 : Int64)) + (1 : Int64)) + (1 : Int64)) (own_min (own_min v1 v2) v3) _ h6 n0 e8 Z6 N8 (by decide) (by decide) (by decide) (by decide) Q2.exa hL hcm
  obtain ⟨fs, hr, hrun, hended, hW, hsame⟩ := X9.leave (v := some (.int (1 : Int32))) (fun h => by rw [Bd.returns] at h; cases h)
  refine ⟨_, _, pre0 _ (st1 _ (st2 _ (st3 _ (st4 _ (st5 _ (st6 _ (st7 _ (st8 _ (st9 _ ?_))))))))), hrun, hended, _, _, rfl, ?_, ⟨_, rfl⟩, hW, hsame.mono (by decide) (by decide)⟩
  · exact retN X9 hx (t := .boolean) Bd.returns (by simp) (hb hby at_246) hr
  · exact ⟨rfl, N9⟩
set_option maxRecDepth 65536 in
set_option maxHeartbeats 40000000 in
theorem rm0_301 (l : Launch) (Z : State) (a0 : Array Value) (hw : ∀ d ∈ tables_1, d.before a0 Z = true) (ws : List Jvm.Cond) (v1 v2 v3 v4 nw cl : Int32) (h0 : Heap) (n0 : Nat) (Z0 : n0 ≤ h0.size) (hn : cl &&& (3 : Int32) = (3 : Int32)) (hb2 : (((cl.toUInt32 >>> ((2 : Int32) &&& 31).toUInt32).toInt32) &&& (1 : Int32)) = 0) (hb3 : ¬ ((((cl.toUInt32 >>> ((3 : Int32) &&& 31).toUInt32).toInt32) &&& (1 : Int32)) = 0)) :
    MetFree l x (head1 (Jvm.Cond.code x code maxLocals ret :: ws) room_1) (fun a U => a = #[(.int v1), (.int v2), (.int v3), (.int v4), (.int nw), (.int cl)] ∧ Z.Warmed39 U.vm ∧ U.heap = h0) (fun _ _ _ _ _ => True) (fun _ U o U' => ∃ v L, o = .returned v ∧ Q0 n0 v L ∧ FrameEnd U o U' L 6 21) := by
  refine MetFree.of_bodySF (plainFor_of_name pn2) hisR ?_
  intro p e s m args below meth c s₁ Bd hml0 hP hK
  obtain ⟨rfl, hZ, hh⟩ := hP
  have hx := Bd.exec
  have hby := Bd.bytes
  have hml : c.maxLocals = 19 := hml0
  have hown : s.vm.findClass "com/example/orrery/orrery/policy/RunningEndsLeftAtPinLaw" = some m.cls := findClass_of_methodNamed Bd.named
  have hnm := (name_of_methodNamed Bd.named Bd.method).1
  have X0 : Stand p l e room_1 s m #[(.int v1), (.int v2), (.int v3), (.int v4), (.int nw), (.int cl)] below meth c s₁ [] 0 0 := Stand.of_body Bd
  have e0 : s₁.heap = h0 := by rw [← hh, Bd.state]; rfl
  have N0 := Fr.nil n0
  have pre0 : ∀ t, Steps p.tables e below (s₁.setTop (mkF m 0 #[.val (.int v1), .val (.int v2), .val (.int v3), .val (.int v4), .val (.int nw), .val (.int cl), .unset, .unset, .unset, .unset, .unset, .unset, .unset, .unset, .unset, .unset, .unset, .unset, .unset] [])) t → Steps p.tables e below (s₁.setTop (entryFrame m #[(.int v1), (.int v2), (.int v3), (.int v4), (.int nw), (.int cl)] maxLocals)) t := fun t k => castTop (ef6 m v1 v2 v3 v4 nw cl) k
  obtain ⟨T1, L1, X1, e1, N1, st1⟩ := law_r0 l Z a0 hw hx hZ hby hml hown X0 v1 v2 v3 v4 nw cl h0 n0 e0 Z0 N0  hb2
  obtain ⟨T2, L2, X2, e2, N2, st2⟩ := law_x1 l Z a0 hw hx hZ hby hml hown X1 v1 v2 v3 v4 nw cl (cl &&& (3 : Int32)) (0 : Int32) h0 n0 e1 Z0 N1  hb3
  obtain ⟨r, T3, h3, L3, X3, e3, Z3, N3, P3, st3⟩ := law_N l Z a0 hw hx hZ hby hml hown X2 v1 v2 v3 v4 nw cl (cl &&& (3 : Int32)) (0 : Int32) (1 : Int32) h0 n0 e2 Z0 N2 (by decide) (by decide) (by decide) (by decide)
  have S0 : own_S Z n0 r (2 : Int32) (0 : Int32) (0 : Int32) [] h3 := ⟨[0, 0], P3, rfl, (by intro y hy; simp only [List.mem_cons, List.not_mem_nil, or_false] at hy; rcases hy with rfl | rfl <;> exact own_z), rfl⟩
  have s0 : (0 : Int64).toInt = 0 := by decide
  have c0 : (0 : Int64).toInt = 0 := by decide
  have r1 := own_ir v1; have ra1 := r1.1; have rb1 := r1.2
  have r2 := own_ir v2; have ra2 := r2.1; have rb2 := r2.2
  have r3 := own_ir v3; have ra3 := r3.1; have rb3 := r3.2
  have r4 := own_ir v4; have ra4 := r4.1; have rb4 := r4.2
  have A0 := rmAdd_A l Z a0 hw [] r [] (Int32.toInt64 v1) h3 n0 Z3 S0 r1
  obtain ⟨T4, h4, L4, X4, e4, Z4, N4, Q0, st4⟩ := law_a1 l Z a0 hw hx hZ hby hml hown X3 v1 v2 v3 v4 nw cl (cl &&& (3 : Int32)) (0 : Int32) (1 : Int32) r (0 : Int64) (0 : Int64) (2147483647 : Int32) _ h3 n0 e3 Z3 N3 (by decide) (by decide) (by decide) (by decide) (by rw [hn]; decide) S0.exa A0
  have s1 := add64 (a := (0 : Int64)) (b := (Int32.toInt64 v1)) ⟨by omega, by omega⟩ ⟨by omega, by omega⟩; rw [s0] at s1
  have c1 := add64 (a := (0 : Int64)) (b := (1 : Int64)) ⟨by omega, by omega⟩ ⟨by decide, by decide⟩; rw [c0, show (1 : Int64).toInt = 1 by decide] at c1
  have A1 := rmAdd_B l Z a0 hw [] r (own_ins (Int32.toInt64 v1) []) (Int32.toInt64 v2) h4 n0 Z4 Q0 r2
  obtain ⟨T5, h5, L5, X5, e5, Z5, N5, Q1, st5⟩ := law_a2 l Z a0 hw hx hZ hby hml hown X4 v1 v2 v3 v4 nw cl (cl &&& (3 : Int32)) (0 : Int32) (1 : Int32) r ((0 : Int64) + (Int32.toInt64 v1)) ((0 : Int64) + (1 : Int64)) v1 _ h4 n0 e4 Z4 N4 (by decide) (by decide) (by decide) (by decide) (by rw [hn]; decide) Q0.exa A1
  have s2 := add64 (a := ((0 : Int64) + (Int32.toInt64 v1))) (b := (Int32.toInt64 v2)) ⟨by omega, by omega⟩ ⟨by omega, by omega⟩; rw [s1] at s2
  have c2 := add64 (a := ((0 : Int64) + (1 : Int64))) (b := (1 : Int64)) ⟨by omega, by omega⟩ ⟨by decide, by decide⟩; rw [c1, show (1 : Int64).toInt = 1 by decide] at c2
  have A2 := rmAdd_C l Z a0 hw [] r (own_ins (Int32.toInt64 v2) (own_ins (Int32.toInt64 v1) [])) (Int32.toInt64 v3) h5 n0 Z5 Q1 r3
  obtain ⟨T6, h6, L6, X6, e6, Z6, N6, Q2, st6⟩ := law_a3 l Z a0 hw hx hZ hby hml hown X5 v1 v2 v3 v4 nw cl (cl &&& (3 : Int32)) (0 : Int32) (1 : Int32) r (((0 : Int64) + (Int32.toInt64 v1)) + (Int32.toInt64 v2)) (((0 : Int64) + (1 : Int64)) + (1 : Int64)) (own_min v1 v2) _ h5 n0 e5 Z5 N5 (by decide) (by decide) (by decide) (by decide) (by rw [hn]; decide) Q1.exa A2
  have s3 := add64 (a := (((0 : Int64) + (Int32.toInt64 v1)) + (Int32.toInt64 v2))) (b := (Int32.toInt64 v3)) ⟨by omega, by omega⟩ ⟨by omega, by omega⟩; rw [s2] at s3
  have c3 := add64 (a := (((0 : Int64) + (1 : Int64)) + (1 : Int64))) (b := (1 : Int64)) ⟨by omega, by omega⟩ ⟨by decide, by decide⟩; rw [c2, show (1 : Int64).toInt = 1 by decide] at c3
  obtain ⟨T7, L7, X7, e7, N7, st7⟩ := law_q0 l Z a0 hw hx hZ hby hml hown X6 v1 v2 v3 v4 nw cl (cl &&& (3 : Int32)) (0 : Int32) (1 : Int32) r ((((0 : Int64) + (Int32.toInt64 v1)) + (Int32.toInt64 v2)) + (Int32.toInt64 v3)) ((((0 : Int64) + (1 : Int64)) + (1 : Int64)) + (1 : Int64)) (own_min (own_min v1 v2) v3) h6 n0 e6 Z6 N6  rfl
  have C9 := rmAdd_E l Z a0 hw [] r (own_ins (Int32.toInt64 v3) (own_ins (Int32.toInt64 v2) (own_ins (Int32.toInt64 v1) []))) (Int32.toInt64 v4) h6 n0 Z6 Q2 r4
  obtain ⟨T8, h8, L8, X8, e8, Z8, N8, Q8, st8⟩ := law_y1 l Z a0 hw hx hZ hby hml hown X7 v1 v2 v3 v4 nw cl (cl &&& (3 : Int32)) (0 : Int32) (1 : Int32) r ((((0 : Int64) + (Int32.toInt64 v1)) + (Int32.toInt64 v2)) + (Int32.toInt64 v3)) ((((0 : Int64) + (1 : Int64)) + (1 : Int64)) + (1 : Int64)) (own_min (own_min v1 v2) v3) _ h6 n0 e7 Z6 N7 (by decide) (by decide) (by decide) (by decide) (by decide) Q2.exa C9
  have s4 := add64 (a := ((((0 : Int64) + (Int32.toInt64 v1)) + (Int32.toInt64 v2)) + (Int32.toInt64 v3))) (b := (Int32.toInt64 v4)) ⟨by omega, by omega⟩ ⟨by omega, by omega⟩; rw [s3] at s4
  have c4 := add64 (a := ((((0 : Int64) + (1 : Int64)) + (1 : Int64)) + (1 : Int64))) (b := (1 : Int64)) ⟨by omega, by omega⟩ ⟨by decide, by decide⟩; rw [c3, show (1 : Int64).toInt = 1 by decide] at c4
  obtain ⟨cv, hcv, hL⟩ := rmLeftS_404 l Z a0 hw r (own_ins (Int32.toInt64 v4) (own_ins (Int32.toInt64 v3) (own_ins (Int32.toInt64 v2) (own_ins (Int32.toInt64 v1) [])))) (Int32.toInt64 nw) h8 n0 Z8 Q8 (own_ir nw)
  have hcm := own_fin (c := cv) (sm := (((((0 : Int64) + (Int32.toInt64 v1)) + (Int32.toInt64 v2)) + (Int32.toInt64 v3)) + (Int32.toInt64 v4))) (ct := (((((0 : Int64) + (1 : Int64)) + (1 : Int64)) + (1 : Int64)) + (1 : Int64))) (nw := Int32.toInt64 nw) (S := own_sum (own_ins (Int32.toInt64 v4) (own_ins (Int32.toInt64 v3) (own_ins (Int32.toInt64 v2) (own_ins (Int32.toInt64 v1) []))))) (k := 4) hcv (by simp only [own_sum_ins, own_sum] at *; omega) (by omega) (by decide) (by decide) (by simp only [own_sum_ins, own_sum] at *; omega) (by simp only [own_sum_ins, own_sum] at *; omega) (own_ir nw)
  obtain ⟨T9, L9, X9, e9, N9, st9⟩ := law_end l Z a0 hw hx hZ hby hml hown X8 v1 v2 v3 v4 nw cl (cl &&& (3 : Int32)) (0 : Int32) (1 : Int32) r (((((0 : Int64) + (Int32.toInt64 v1)) + (Int32.toInt64 v2)) + (Int32.toInt64 v3)) + (Int32.toInt64 v4)) (((((0 : Int64) + (1 : Int64)) + (1 : Int64)) + (1 : Int64)) + (1 : Int64)) (own_min (own_min v1 v2) v3) _ h8 n0 e8 Z8 N8 (by decide) (by decide) (by decide) (by decide) Q8.exa hL hcm
  obtain ⟨fs, hr, hrun, hended, hW, hsame⟩ := X9.leave (v := some (.int (1 : Int32))) (fun h => by rw [Bd.returns] at h; cases h)
  refine ⟨_, _, pre0 _ (st1 _ (st2 _ (st3 _ (st4 _ (st5 _ (st6 _ (st7 _ (st8 _ (st9 _ ?_))))))))), hrun, hended, _, _, rfl, ?_, ⟨_, rfl⟩, hW, hsame.mono (by decide) (by decide)⟩
  · exact retN X9 hx (t := .boolean) Bd.returns (by simp) (hb hby at_246) hr
  · exact ⟨rfl, N9⟩
set_option maxRecDepth 65536 in
set_option maxHeartbeats 40000000 in
theorem rm0_310 (l : Launch) (Z : State) (a0 : Array Value) (hw : ∀ d ∈ tables_1, d.before a0 Z = true) (ws : List Jvm.Cond) (v1 v2 v3 v4 nw cl : Int32) (h0 : Heap) (n0 : Nat) (Z0 : n0 ≤ h0.size) (hn : cl &&& (3 : Int32) = (3 : Int32)) (hb2 : ¬ ((((cl.toUInt32 >>> ((2 : Int32) &&& 31).toUInt32).toInt32) &&& (1 : Int32)) = 0)) (hb3 : (((cl.toUInt32 >>> ((3 : Int32) &&& 31).toUInt32).toInt32) &&& (1 : Int32)) = 0) :
    MetFree l x (head1 (Jvm.Cond.code x code maxLocals ret :: ws) room_1) (fun a U => a = #[(.int v1), (.int v2), (.int v3), (.int v4), (.int nw), (.int cl)] ∧ Z.Warmed39 U.vm ∧ U.heap = h0) (fun _ _ _ _ _ => True) (fun _ U o U' => ∃ v L, o = .returned v ∧ Q0 n0 v L ∧ FrameEnd U o U' L 6 21) := by
  refine MetFree.of_bodySF (plainFor_of_name pn2) hisR ?_
  intro p e s m args below meth c s₁ Bd hml0 hP hK
  obtain ⟨rfl, hZ, hh⟩ := hP
  have hx := Bd.exec
  have hby := Bd.bytes
  have hml : c.maxLocals = 19 := hml0
  have hown : s.vm.findClass "com/example/orrery/orrery/policy/RunningEndsLeftAtPinLaw" = some m.cls := findClass_of_methodNamed Bd.named
  have hnm := (name_of_methodNamed Bd.named Bd.method).1
  have X0 : Stand p l e room_1 s m #[(.int v1), (.int v2), (.int v3), (.int v4), (.int nw), (.int cl)] below meth c s₁ [] 0 0 := Stand.of_body Bd
  have e0 : s₁.heap = h0 := by rw [← hh, Bd.state]; rfl
  have N0 := Fr.nil n0
  have pre0 : ∀ t, Steps p.tables e below (s₁.setTop (mkF m 0 #[.val (.int v1), .val (.int v2), .val (.int v3), .val (.int v4), .val (.int nw), .val (.int cl), .unset, .unset, .unset, .unset, .unset, .unset, .unset, .unset, .unset, .unset, .unset, .unset, .unset] [])) t → Steps p.tables e below (s₁.setTop (entryFrame m #[(.int v1), (.int v2), (.int v3), (.int v4), (.int nw), (.int cl)] maxLocals)) t := fun t k => castTop (ef6 m v1 v2 v3 v4 nw cl) k
  obtain ⟨T1, L1, X1, e1, N1, st1⟩ := law_r1 l Z a0 hw hx hZ hby hml hown X0 v1 v2 v3 v4 nw cl h0 n0 e0 Z0 N0  hb2 (by rw [hn]; decide)
  obtain ⟨T2, L2, X2, e2, N2, st2⟩ := law_x0 l Z a0 hw hx hZ hby hml hown X1 v1 v2 v3 v4 nw cl (cl &&& (3 : Int32)) (1 : Int32) h0 n0 e1 Z0 N1  hb3
  obtain ⟨r, T3, h3, L3, X3, e3, Z3, N3, P3, st3⟩ := law_N l Z a0 hw hx hZ hby hml hown X2 v1 v2 v3 v4 nw cl (cl &&& (3 : Int32)) (1 : Int32) (0 : Int32) h0 n0 e2 Z0 N2 (by decide) (by decide) (by decide) (by decide)
  have S0 : own_S Z n0 r (2 : Int32) (0 : Int32) (0 : Int32) [] h3 := ⟨[0, 0], P3, rfl, (by intro y hy; simp only [List.mem_cons, List.not_mem_nil, or_false] at hy; rcases hy with rfl | rfl <;> exact own_z), rfl⟩
  have s0 : (0 : Int64).toInt = 0 := by decide
  have c0 : (0 : Int64).toInt = 0 := by decide
  have r1 := own_ir v1; have ra1 := r1.1; have rb1 := r1.2
  have r2 := own_ir v2; have ra2 := r2.1; have rb2 := r2.2
  have r3 := own_ir v3; have ra3 := r3.1; have rb3 := r3.2
  have r4 := own_ir v4; have ra4 := r4.1; have rb4 := r4.2
  have A0 := rmAdd_A l Z a0 hw [] r [] (Int32.toInt64 v1) h3 n0 Z3 S0 r1
  obtain ⟨T4, h4, L4, X4, e4, Z4, N4, Q0, st4⟩ := law_a1 l Z a0 hw hx hZ hby hml hown X3 v1 v2 v3 v4 nw cl (cl &&& (3 : Int32)) (1 : Int32) (0 : Int32) r (0 : Int64) (0 : Int64) (2147483647 : Int32) _ h3 n0 e3 Z3 N3 (by decide) (by decide) (by decide) (by decide) (by rw [hn]; decide) S0.exa A0
  have s1 := add64 (a := (0 : Int64)) (b := (Int32.toInt64 v1)) ⟨by omega, by omega⟩ ⟨by omega, by omega⟩; rw [s0] at s1
  have c1 := add64 (a := (0 : Int64)) (b := (1 : Int64)) ⟨by omega, by omega⟩ ⟨by decide, by decide⟩; rw [c0, show (1 : Int64).toInt = 1 by decide] at c1
  have A1 := rmAdd_B l Z a0 hw [] r (own_ins (Int32.toInt64 v1) []) (Int32.toInt64 v2) h4 n0 Z4 Q0 r2
  obtain ⟨T5, h5, L5, X5, e5, Z5, N5, Q1, st5⟩ := law_a2 l Z a0 hw hx hZ hby hml hown X4 v1 v2 v3 v4 nw cl (cl &&& (3 : Int32)) (1 : Int32) (0 : Int32) r ((0 : Int64) + (Int32.toInt64 v1)) ((0 : Int64) + (1 : Int64)) v1 _ h4 n0 e4 Z4 N4 (by decide) (by decide) (by decide) (by decide) (by rw [hn]; decide) Q0.exa A1
  have s2 := add64 (a := ((0 : Int64) + (Int32.toInt64 v1))) (b := (Int32.toInt64 v2)) ⟨by omega, by omega⟩ ⟨by omega, by omega⟩; rw [s1] at s2
  have c2 := add64 (a := ((0 : Int64) + (1 : Int64))) (b := (1 : Int64)) ⟨by omega, by omega⟩ ⟨by decide, by decide⟩; rw [c1, show (1 : Int64).toInt = 1 by decide] at c2
  have A2 := rmAdd_C l Z a0 hw [] r (own_ins (Int32.toInt64 v2) (own_ins (Int32.toInt64 v1) [])) (Int32.toInt64 v3) h5 n0 Z5 Q1 r3
  obtain ⟨T6, h6, L6, X6, e6, Z6, N6, Q2, st6⟩ := law_a3 l Z a0 hw hx hZ hby hml hown X5 v1 v2 v3 v4 nw cl (cl &&& (3 : Int32)) (1 : Int32) (0 : Int32) r (((0 : Int64) + (Int32.toInt64 v1)) + (Int32.toInt64 v2)) (((0 : Int64) + (1 : Int64)) + (1 : Int64)) (own_min v1 v2) _ h5 n0 e5 Z5 N5 (by decide) (by decide) (by decide) (by decide) (by rw [hn]; decide) Q1.exa A2
  have s3 := add64 (a := (((0 : Int64) + (Int32.toInt64 v1)) + (Int32.toInt64 v2))) (b := (Int32.toInt64 v3)) ⟨by omega, by omega⟩ ⟨by omega, by omega⟩; rw [s2] at s3
  have c3 := add64 (a := (((0 : Int64) + (1 : Int64)) + (1 : Int64))) (b := (1 : Int64)) ⟨by omega, by omega⟩ ⟨by decide, by decide⟩; rw [c2, show (1 : Int64).toInt = 1 by decide] at c3
  obtain ⟨tl, ht⟩ := own_head3 v1 v2 v3
  have hsum := congrArg own_sum ht
  have S9 := Q2; rw [ht] at S9
  have B9 := rmRemS_43 l Z a0 hw [] r tl (Int32.toInt64 (own_min (own_min v1 v2) v3)) h6 n0 Z6 S9
  have rm9 := own_ir (own_min (own_min v1 v2) v3); have rma := rm9.1; have rmb := rm9.2
  obtain ⟨T7, h7, L7, X7, e7, Z7, N7, Q9, st7⟩ := law_q1 l Z a0 hw hx hZ hby hml hown X6 v1 v2 v3 v4 nw cl (cl &&& (3 : Int32)) (1 : Int32) (0 : Int32) r ((((0 : Int64) + (Int32.toInt64 v1)) + (Int32.toInt64 v2)) + (Int32.toInt64 v3)) ((((0 : Int64) + (1 : Int64)) + (1 : Int64)) + (1 : Int64)) (own_min (own_min v1 v2) v3) _ h6 n0 e6 Z6 N6 (by decide) (by decide) (by decide) (by decide) (by decide) Q2.exa B9
  have s4 := sub64 (a := ((((0 : Int64) + (Int32.toInt64 v1)) + (Int32.toInt64 v2)) + (Int32.toInt64 v3))) (b := (Int32.toInt64 (own_min (own_min v1 v2) v3))) ⟨by omega, by omega⟩ ⟨by omega, by omega⟩; rw [s3] at s4
  have c4 := sub64 (a := ((((0 : Int64) + (1 : Int64)) + (1 : Int64)) + (1 : Int64))) (b := (1 : Int64)) ⟨by omega, by omega⟩ ⟨by decide, by decide⟩; rw [c3, show (1 : Int64).toInt = 1 by decide] at c4
  obtain ⟨T8, L8, X8, e8, N8, st8⟩ := law_y0 l Z a0 hw hx hZ hby hml hown X7 v1 v2 v3 v4 nw cl (cl &&& (3 : Int32)) (1 : Int32) (0 : Int32) r (((((0 : Int64) + (Int32.toInt64 v1)) + (Int32.toInt64 v2)) + (Int32.toInt64 v3)) - (Int32.toInt64 (own_min (own_min v1 v2) v3))) (((((0 : Int64) + (1 : Int64)) + (1 : Int64)) + (1 : Int64)) - (1 : Int64)) (own_min (own_min v1 v2) v3) h7 n0 e7 Z7 N7  rfl
  obtain ⟨cv, hcv, hL⟩ := rmLeftS_413 l Z a0 hw r tl (Int32.toInt64 nw) h7 n0 Z7 Q9 (own_ir nw)
  have hcm := own_fin (c := cv) (sm := (((((0 : Int64) + (Int32.toInt64 v1)) + (Int32.toInt64 v2)) + (Int32.toInt64 v3)) - (Int32.toInt64 (own_min (own_min v1 v2) v3)))) (ct := (((((0 : Int64) + (1 : Int64)) + (1 : Int64)) + (1 : Int64)) - (1 : Int64))) (nw := Int32.toInt64 nw) (S := own_sum tl) (k := 2) hcv (by simp only [own_sum_ins, own_sum] at *; omega) (by omega) (by decide) (by decide) (by simp only [own_sum_ins, own_sum] at *; omega) (by simp only [own_sum_ins, own_sum] at *; omega) (own_ir nw)
  obtain ⟨T9, L9, X9, e9, N9, st9⟩ := law_end l Z a0 hw hx hZ hby hml hown X8 v1 v2 v3 v4 nw cl (cl &&& (3 : Int32)) (1 : Int32) (0 : Int32) r (((((0 : Int64) + (Int32.toInt64 v1)) + (Int32.toInt64 v2)) + (Int32.toInt64 v3)) - (Int32.toInt64 (own_min (own_min v1 v2) v3))) (((((0 : Int64) + (1 : Int64)) + (1 : Int64)) + (1 : Int64)) - (1 : Int64)) (own_min (own_min v1 v2) v3) _ h7 n0 e8 Z7 N8 (by decide) (by decide) (by decide) (by decide) Q9.exa hL hcm
  obtain ⟨fs, hr, hrun, hended, hW, hsame⟩ := X9.leave (v := some (.int (1 : Int32))) (fun h => by rw [Bd.returns] at h; cases h)
  refine ⟨_, _, pre0 _ (st1 _ (st2 _ (st3 _ (st4 _ (st5 _ (st6 _ (st7 _ (st8 _ (st9 _ ?_))))))))), hrun, hended, _, _, rfl, ?_, ⟨_, rfl⟩, hW, hsame.mono (by decide) (by decide)⟩
  · exact retN X9 hx (t := .boolean) Bd.returns (by simp) (hb hby at_246) hr
  · exact ⟨rfl, N9⟩
set_option maxRecDepth 65536 in
set_option maxHeartbeats 40000000 in
theorem rm0_311 (l : Launch) (Z : State) (a0 : Array Value) (hw : ∀ d ∈ tables_1, d.before a0 Z = true) (ws : List Jvm.Cond) (v1 v2 v3 v4 nw cl : Int32) (h0 : Heap) (n0 : Nat) (Z0 : n0 ≤ h0.size) (hn : cl &&& (3 : Int32) = (3 : Int32)) (hb2 : ¬ ((((cl.toUInt32 >>> ((2 : Int32) &&& 31).toUInt32).toInt32) &&& (1 : Int32)) = 0)) (hb3 : ¬ ((((cl.toUInt32 >>> ((3 : Int32) &&& 31).toUInt32).toInt32) &&& (1 : Int32)) = 0)) :
    MetFree l x (head1 (Jvm.Cond.code x code maxLocals ret :: ws) room_1) (fun a U => a = #[(.int v1), (.int v2), (.int v3), (.int v4), (.int nw), (.int cl)] ∧ Z.Warmed39 U.vm ∧ U.heap = h0) (fun _ _ _ _ _ => True) (fun _ U o U' => ∃ v L, o = .returned v ∧ Q0 n0 v L ∧ FrameEnd U o U' L 6 21) := by
  refine MetFree.of_bodySF (plainFor_of_name pn2) hisR ?_
  intro p e s m args below meth c s₁ Bd hml0 hP hK
  obtain ⟨rfl, hZ, hh⟩ := hP
  have hx := Bd.exec
  have hby := Bd.bytes
  have hml : c.maxLocals = 19 := hml0
  have hown : s.vm.findClass "com/example/orrery/orrery/policy/RunningEndsLeftAtPinLaw" = some m.cls := findClass_of_methodNamed Bd.named
  have hnm := (name_of_methodNamed Bd.named Bd.method).1
  have X0 : Stand p l e room_1 s m #[(.int v1), (.int v2), (.int v3), (.int v4), (.int nw), (.int cl)] below meth c s₁ [] 0 0 := Stand.of_body Bd
  have e0 : s₁.heap = h0 := by rw [← hh, Bd.state]; rfl
  have N0 := Fr.nil n0
  have pre0 : ∀ t, Steps p.tables e below (s₁.setTop (mkF m 0 #[.val (.int v1), .val (.int v2), .val (.int v3), .val (.int v4), .val (.int nw), .val (.int cl), .unset, .unset, .unset, .unset, .unset, .unset, .unset, .unset, .unset, .unset, .unset, .unset, .unset] [])) t → Steps p.tables e below (s₁.setTop (entryFrame m #[(.int v1), (.int v2), (.int v3), (.int v4), (.int nw), (.int cl)] maxLocals)) t := fun t k => castTop (ef6 m v1 v2 v3 v4 nw cl) k
  obtain ⟨T1, L1, X1, e1, N1, st1⟩ := law_r1 l Z a0 hw hx hZ hby hml hown X0 v1 v2 v3 v4 nw cl h0 n0 e0 Z0 N0  hb2 (by rw [hn]; decide)
  obtain ⟨T2, L2, X2, e2, N2, st2⟩ := law_x1 l Z a0 hw hx hZ hby hml hown X1 v1 v2 v3 v4 nw cl (cl &&& (3 : Int32)) (1 : Int32) h0 n0 e1 Z0 N1  hb3
  obtain ⟨r, T3, h3, L3, X3, e3, Z3, N3, P3, st3⟩ := law_N l Z a0 hw hx hZ hby hml hown X2 v1 v2 v3 v4 nw cl (cl &&& (3 : Int32)) (1 : Int32) (1 : Int32) h0 n0 e2 Z0 N2 (by decide) (by decide) (by decide) (by decide)
  have S0 : own_S Z n0 r (2 : Int32) (0 : Int32) (0 : Int32) [] h3 := ⟨[0, 0], P3, rfl, (by intro y hy; simp only [List.mem_cons, List.not_mem_nil, or_false] at hy; rcases hy with rfl | rfl <;> exact own_z), rfl⟩
  have s0 : (0 : Int64).toInt = 0 := by decide
  have c0 : (0 : Int64).toInt = 0 := by decide
  have r1 := own_ir v1; have ra1 := r1.1; have rb1 := r1.2
  have r2 := own_ir v2; have ra2 := r2.1; have rb2 := r2.2
  have r3 := own_ir v3; have ra3 := r3.1; have rb3 := r3.2
  have r4 := own_ir v4; have ra4 := r4.1; have rb4 := r4.2
  have A0 := rmAdd_A l Z a0 hw [] r [] (Int32.toInt64 v1) h3 n0 Z3 S0 r1
  obtain ⟨T4, h4, L4, X4, e4, Z4, N4, Q0, st4⟩ := law_a1 l Z a0 hw hx hZ hby hml hown X3 v1 v2 v3 v4 nw cl (cl &&& (3 : Int32)) (1 : Int32) (1 : Int32) r (0 : Int64) (0 : Int64) (2147483647 : Int32) _ h3 n0 e3 Z3 N3 (by decide) (by decide) (by decide) (by decide) (by rw [hn]; decide) S0.exa A0
  have s1 := add64 (a := (0 : Int64)) (b := (Int32.toInt64 v1)) ⟨by omega, by omega⟩ ⟨by omega, by omega⟩; rw [s0] at s1
  have c1 := add64 (a := (0 : Int64)) (b := (1 : Int64)) ⟨by omega, by omega⟩ ⟨by decide, by decide⟩; rw [c0, show (1 : Int64).toInt = 1 by decide] at c1
  have A1 := rmAdd_B l Z a0 hw [] r (own_ins (Int32.toInt64 v1) []) (Int32.toInt64 v2) h4 n0 Z4 Q0 r2
  obtain ⟨T5, h5, L5, X5, e5, Z5, N5, Q1, st5⟩ := law_a2 l Z a0 hw hx hZ hby hml hown X4 v1 v2 v3 v4 nw cl (cl &&& (3 : Int32)) (1 : Int32) (1 : Int32) r ((0 : Int64) + (Int32.toInt64 v1)) ((0 : Int64) + (1 : Int64)) v1 _ h4 n0 e4 Z4 N4 (by decide) (by decide) (by decide) (by decide) (by rw [hn]; decide) Q0.exa A1
  have s2 := add64 (a := ((0 : Int64) + (Int32.toInt64 v1))) (b := (Int32.toInt64 v2)) ⟨by omega, by omega⟩ ⟨by omega, by omega⟩; rw [s1] at s2
  have c2 := add64 (a := ((0 : Int64) + (1 : Int64))) (b := (1 : Int64)) ⟨by omega, by omega⟩ ⟨by decide, by decide⟩; rw [c1, show (1 : Int64).toInt = 1 by decide] at c2
  have A2 := rmAdd_C l Z a0 hw [] r (own_ins (Int32.toInt64 v2) (own_ins (Int32.toInt64 v1) [])) (Int32.toInt64 v3) h5 n0 Z5 Q1 r3
  obtain ⟨T6, h6, L6, X6, e6, Z6, N6, Q2, st6⟩ := law_a3 l Z a0 hw hx hZ hby hml hown X5 v1 v2 v3 v4 nw cl (cl &&& (3 : Int32)) (1 : Int32) (1 : Int32) r (((0 : Int64) + (Int32.toInt64 v1)) + (Int32.toInt64 v2)) (((0 : Int64) + (1 : Int64)) + (1 : Int64)) (own_min v1 v2) _ h5 n0 e5 Z5 N5 (by decide) (by decide) (by decide) (by decide) (by rw [hn]; decide) Q1.exa A2
  have s3 := add64 (a := (((0 : Int64) + (Int32.toInt64 v1)) + (Int32.toInt64 v2))) (b := (Int32.toInt64 v3)) ⟨by omega, by omega⟩ ⟨by omega, by omega⟩; rw [s2] at s3
  have c3 := add64 (a := (((0 : Int64) + (1 : Int64)) + (1 : Int64))) (b := (1 : Int64)) ⟨by omega, by omega⟩ ⟨by decide, by decide⟩; rw [c2, show (1 : Int64).toInt = 1 by decide] at c3
  obtain ⟨tl, ht⟩ := own_head3 v1 v2 v3
  have hsum := congrArg own_sum ht
  have S9 := Q2; rw [ht] at S9
  have B9 := rmRemS_43 l Z a0 hw [] r tl (Int32.toInt64 (own_min (own_min v1 v2) v3)) h6 n0 Z6 S9
  have rm9 := own_ir (own_min (own_min v1 v2) v3); have rma := rm9.1; have rmb := rm9.2
  obtain ⟨T7, h7, L7, X7, e7, Z7, N7, Q9, st7⟩ := law_q1 l Z a0 hw hx hZ hby hml hown X6 v1 v2 v3 v4 nw cl (cl &&& (3 : Int32)) (1 : Int32) (1 : Int32) r ((((0 : Int64) + (Int32.toInt64 v1)) + (Int32.toInt64 v2)) + (Int32.toInt64 v3)) ((((0 : Int64) + (1 : Int64)) + (1 : Int64)) + (1 : Int64)) (own_min (own_min v1 v2) v3) _ h6 n0 e6 Z6 N6 (by decide) (by decide) (by decide) (by decide) (by decide) Q2.exa B9
  have s4 := sub64 (a := ((((0 : Int64) + (Int32.toInt64 v1)) + (Int32.toInt64 v2)) + (Int32.toInt64 v3))) (b := (Int32.toInt64 (own_min (own_min v1 v2) v3))) ⟨by omega, by omega⟩ ⟨by omega, by omega⟩; rw [s3] at s4
  have c4 := sub64 (a := ((((0 : Int64) + (1 : Int64)) + (1 : Int64)) + (1 : Int64))) (b := (1 : Int64)) ⟨by omega, by omega⟩ ⟨by decide, by decide⟩; rw [c3, show (1 : Int64).toInt = 1 by decide] at c4
  have C9 := rmAdd_F l Z a0 hw [] r tl (Int32.toInt64 v4) h7 n0 Z7 Q9 r4
  obtain ⟨T8, h8, L8, X8, e8, Z8, N8, Q8, st8⟩ := law_y1 l Z a0 hw hx hZ hby hml hown X7 v1 v2 v3 v4 nw cl (cl &&& (3 : Int32)) (1 : Int32) (1 : Int32) r (((((0 : Int64) + (Int32.toInt64 v1)) + (Int32.toInt64 v2)) + (Int32.toInt64 v3)) - (Int32.toInt64 (own_min (own_min v1 v2) v3))) (((((0 : Int64) + (1 : Int64)) + (1 : Int64)) + (1 : Int64)) - (1 : Int64)) (own_min (own_min v1 v2) v3) _ h7 n0 e7 Z7 N7 (by decide) (by decide) (by decide) (by decide) (by decide) Q9.exa C9
  have s5 := add64 (a := (((((0 : Int64) + (Int32.toInt64 v1)) + (Int32.toInt64 v2)) + (Int32.toInt64 v3)) - (Int32.toInt64 (own_min (own_min v1 v2) v3)))) (b := (Int32.toInt64 v4)) ⟨by omega, by omega⟩ ⟨by omega, by omega⟩; rw [s4] at s5
  have c5 := add64 (a := (((((0 : Int64) + (1 : Int64)) + (1 : Int64)) + (1 : Int64)) - (1 : Int64))) (b := (1 : Int64)) ⟨by omega, by omega⟩ ⟨by decide, by decide⟩; rw [c4, show (1 : Int64).toInt = 1 by decide] at c5
  obtain ⟨cv, hcv, hL⟩ := rmLeftS_414 l Z a0 hw r (own_ins (Int32.toInt64 v4) tl) (Int32.toInt64 nw) h8 n0 Z8 Q8 (own_ir nw)
  have hcm := own_fin (c := cv) (sm := ((((((0 : Int64) + (Int32.toInt64 v1)) + (Int32.toInt64 v2)) + (Int32.toInt64 v3)) - (Int32.toInt64 (own_min (own_min v1 v2) v3))) + (Int32.toInt64 v4))) (ct := ((((((0 : Int64) + (1 : Int64)) + (1 : Int64)) + (1 : Int64)) - (1 : Int64)) + (1 : Int64))) (nw := Int32.toInt64 nw) (S := own_sum (own_ins (Int32.toInt64 v4) tl)) (k := 3) hcv (by simp only [own_sum_ins, own_sum] at *; omega) (by omega) (by decide) (by decide) (by simp only [own_sum_ins, own_sum] at *; omega) (by simp only [own_sum_ins, own_sum] at *; omega) (own_ir nw)
  obtain ⟨T9, L9, X9, e9, N9, st9⟩ := law_end l Z a0 hw hx hZ hby hml hown X8 v1 v2 v3 v4 nw cl (cl &&& (3 : Int32)) (1 : Int32) (1 : Int32) r ((((((0 : Int64) + (Int32.toInt64 v1)) + (Int32.toInt64 v2)) + (Int32.toInt64 v3)) - (Int32.toInt64 (own_min (own_min v1 v2) v3))) + (Int32.toInt64 v4)) ((((((0 : Int64) + (1 : Int64)) + (1 : Int64)) + (1 : Int64)) - (1 : Int64)) + (1 : Int64)) (own_min (own_min v1 v2) v3) _ h8 n0 e8 Z8 N8 (by decide) (by decide) (by decide) (by decide) Q8.exa hL hcm
  obtain ⟨fs, hr, hrun, hended, hW, hsame⟩ := X9.leave (v := some (.int (1 : Int32))) (fun h => by rw [Bd.returns] at h; cases h)
  refine ⟨_, _, pre0 _ (st1 _ (st2 _ (st3 _ (st4 _ (st5 _ (st6 _ (st7 _ (st8 _ (st9 _ ?_))))))))), hrun, hended, _, _, rfl, ?_, ⟨_, rfl⟩, hW, hsame.mono (by decide) (by decide)⟩
  · exact retN X9 hx (t := .boolean) Bd.returns (by simp) (hb hby at_246) hr
  · exact ⟨rfl, N9⟩
theorem rm0 (l : Launch) (Z : State) (a0 : Array Value) (hw : ∀ d ∈ tables_1, d.before a0 Z = true) (ws : List Jvm.Cond) (v1 v2 v3 v4 nw cl : Int32) (h0 : Heap) (n0 : Nat) (Z0 : n0 ≤ h0.size) :
    MetFree l x (head1 (Jvm.Cond.code x code maxLocals ret :: ws) room_1) (fun a U => a = #[(.int v1), (.int v2), (.int v3), (.int v4), (.int nw), (.int cl)] ∧ Z.Warmed39 U.vm ∧ U.heap = h0) (fun _ _ _ _ _ => True) (fun _ U o U' => ∃ v L, o = .returned v ∧ Q0 n0 v L ∧ FrameEnd U o U' L 6 21) := by
  rcases own_four cl with hn | hn | hn | hn
  · by_cases hb3 : (((cl.toUInt32 >>> ((3 : Int32) &&& 31).toUInt32).toInt32) &&& (1 : Int32)) = 0
    · exact rm0_000 l Z a0 hw ws v1 v2 v3 v4 nw cl h0 n0 Z0 hn trivial hb3
    · exact rm0_001 l Z a0 hw ws v1 v2 v3 v4 nw cl h0 n0 Z0 hn trivial hb3
  · by_cases hb2 : (((cl.toUInt32 >>> ((2 : Int32) &&& 31).toUInt32).toInt32) &&& (1 : Int32)) = 0
    · by_cases hb3 : (((cl.toUInt32 >>> ((3 : Int32) &&& 31).toUInt32).toInt32) &&& (1 : Int32)) = 0
      · exact rm0_100 l Z a0 hw ws v1 v2 v3 v4 nw cl h0 n0 Z0 hn hb2 hb3
      · exact rm0_101 l Z a0 hw ws v1 v2 v3 v4 nw cl h0 n0 Z0 hn hb2 hb3
    · by_cases hb3 : (((cl.toUInt32 >>> ((3 : Int32) &&& 31).toUInt32).toInt32) &&& (1 : Int32)) = 0
      · exact rm0_110 l Z a0 hw ws v1 v2 v3 v4 nw cl h0 n0 Z0 hn hb2 hb3
      · exact rm0_111 l Z a0 hw ws v1 v2 v3 v4 nw cl h0 n0 Z0 hn hb2 hb3
  · by_cases hb2 : (((cl.toUInt32 >>> ((2 : Int32) &&& 31).toUInt32).toInt32) &&& (1 : Int32)) = 0
    · by_cases hb3 : (((cl.toUInt32 >>> ((3 : Int32) &&& 31).toUInt32).toInt32) &&& (1 : Int32)) = 0
      · exact rm0_200 l Z a0 hw ws v1 v2 v3 v4 nw cl h0 n0 Z0 hn hb2 hb3
      · exact rm0_201 l Z a0 hw ws v1 v2 v3 v4 nw cl h0 n0 Z0 hn hb2 hb3
    · by_cases hb3 : (((cl.toUInt32 >>> ((3 : Int32) &&& 31).toUInt32).toInt32) &&& (1 : Int32)) = 0
      · exact rm0_210 l Z a0 hw ws v1 v2 v3 v4 nw cl h0 n0 Z0 hn hb2 hb3
      · exact rm0_211 l Z a0 hw ws v1 v2 v3 v4 nw cl h0 n0 Z0 hn hb2 hb3
  · by_cases hb2 : (((cl.toUInt32 >>> ((2 : Int32) &&& 31).toUInt32).toInt32) &&& (1 : Int32)) = 0
    · by_cases hb3 : (((cl.toUInt32 >>> ((3 : Int32) &&& 31).toUInt32).toInt32) &&& (1 : Int32)) = 0
      · exact rm0_300 l Z a0 hw ws v1 v2 v3 v4 nw cl h0 n0 Z0 hn hb2 hb3
      · exact rm0_301 l Z a0 hw ws v1 v2 v3 v4 nw cl h0 n0 Z0 hn hb2 hb3
    · by_cases hb3 : (((cl.toUInt32 >>> ((3 : Int32) &&& 31).toUInt32).toInt32) &&& (1 : Int32)) = 0
      · exact rm0_310 l Z a0 hw ws v1 v2 v3 v4 nw cl h0 n0 Z0 hn hb2 hb3
      · exact rm0_311 l Z a0 hw ws v1 v2 v3 v4 nw cl h0 n0 Z0 hn hb2 hb3
set_option maxRecDepth 65536 in
set_option maxHeartbeats 40000000 in
theorem comes_1 {Post : Tables → Env → Array Value → State → Outcome → State → Prop} (hpost : ∀ tb e args s v u, (limb_1_1.after args s (.returned v) u = true ∧ limb_1_2.after args s (.returned v) u = true ∧ True) → FrameEnd s (.returned v) u (Jvm.fieldLocs frame_1_writes args s ++ Jvm.arrayLocs frame_1_arrays args s ++ Jvm.staticLocs frame_1_statics s) 16 128 → Post tb e args s (.returned v) u) :
    ArmFor flags0 classFile x code maxLocals ret World_1 tables_1 room_1 Calls_1 rest_1 Pre_1 Post := by
  intro l hfl _ _ p e ha hc hk s m args below hf hA hF happ hP
  obtain ⟨hcalls, hrest, hpre⟩ := hP
  obtain ⟨-, -, -, hnamed, -, -, -, hat⟩ := (Spec.applies_iff hf).mp happ
  obtain ⟨hg, hn⟩ := and_e (Cond.before_iff.mp (show (Jvm.Cond.and given_1 narrow_1).before args s = true from hpre))
  obtain ⟨c0, g0⟩ := and_e hg
  obtain ⟨c1, g1⟩ := and_e g0
  obtain ⟨c2, g2⟩ := and_e g1
  obtain ⟨c3, g3⟩ := and_e g2
  obtain ⟨c4, g4⟩ := and_e g3
  obtain ⟨c5, g5⟩ := and_e g4
  obtain ⟨w0, w1, w2, w3, w4, w5, rfl⟩ : ∃ w0 w1 w2 w3 w4 w5 : Value, args = #[w0, w1, w2, w3, w4, w5] := by
    have hs : args.size = 6 := by simpa [Cond.value, given_1] using c0
    obtain ⟨L⟩ := args
    match L, hs with
    | [w0, w1, w2, w3, w4, w5], _ => exact ⟨w0, w1, w2, w3, w4, w5, rfl⟩
  have hw := fun d (hd : d ∈ tables_1) => atoms_spec (ws := Jvm.Cond.code x code maxLocals ret :: tables_1) hat d (List.mem_cons_of_mem _ hd)
  obtain ⟨i0, e0⟩ := is_v c1
  obtain rfl : w0 = (.int i0) := Option.some.inj e0
  obtain ⟨i1, e1⟩ := is_v c2
  obtain rfl : w1 = (.int i1) := Option.some.inj e1
  obtain ⟨i2, e2⟩ := is_v c3
  obtain rfl : w2 = (.int i2) := Option.some.inj e2
  obtain ⟨i3, e3⟩ := is_v c4
  obtain rfl : w3 = (.int i3) := Option.some.inj e3
  obtain ⟨i4, e4⟩ := is_v c5
  obtain rfl : w4 = (.int i4) := Option.some.inj e4
  obtain ⟨i5, e5⟩ := is_v g5
  obtain rfl : w5 = (.int i5) := Option.some.inj e5
  obtain ⟨n, o, h1, h2, h3, _, L, rfl, ⟨rfl, N⟩, hq⟩ := rm0 l s _ hw tables_1 i0 i1 i2 i3 i4 i5 s.heap s.heap.size (Nat.le_refl _) p e ha hc hk s m _ below hf ((Spec.applies_iff_loose hf).mp happ).1 ⟨rfl, State.Warmed39.refl s, rfl⟩ trivial
  refine ⟨n, _, h1, h2, h3, hpost _ _ _ _ _ _ ⟨Cond.after_iff.mpr rfl, Cond.after_iff.mpr (eq_i res_at (Term.int_eval (1)) rfl), trivial⟩ ⟨hq.1, hq.2.1, (hq.2.2.sift fun y hy => Or.inr (N y hy)).mono (by decide) (by decide)⟩⟩
theorem main_1_1 : Claimed_1_1 := comes_1 fun _ _ _ _ _ _ h hF => ⟨h.1, hF⟩
theorem main_1_2 : Claimed_1_2 := comes_1 fun _ _ _ _ _ _ h hF => ⟨h.2.1, hF⟩

end Jvm.Pilot.@@N@@
namespace Jvm.Pilot.@@N@@
open Jvm Jvm.ClassFile Sem Op Lib Jvm.Free Jvm.Stand Jvm.Pilot.@@N@@.Jvm.D
/-! MADE BY PROGRAM (witnessworld.py) out of the Statement's table words and the real class files: 13 classes; the members and pool entries that the words name. The judged class is class 1, her method 1. -/
namespace start1
open Jvm.ClassFile
def u (s : String) : CpInfo := .utf8 (stringToUtf16 s)
/-- a pool by its gaps: so many unusable entries, then the entry; so many at the end -/
def gap : Nat → List CpInfo → List CpInfo
  | 0, r => r
  | n + 1, r => .unusable :: gap n r
def poolList (es : List (Nat × CpInfo)) (last : Nat) : List CpInfo := es.foldr (fun e r => gap e.1 (e.2 :: r)) (gap last [])
def pool (es : List (Nat × CpInfo)) (last : Nat) : Array CpInfo := ⟨poolList es last⟩
def fileOf (pool : Array CpInfo) (this : Nat) (attrs : Array Attribute := #[]) (ms : Array MethodInfo := #[]) (fl : Nat := 33) (sup : Nat := 0) (ifs : Array Nat := #[]) (fds : Array FieldInfo := #[]) : ClassFile where
  minorVersion := 0
  majorVersion := 65
  constantPool := pool
  accessFlags := fl
  thisClass := this
  superClass := sup
  interfaces := ifs
  fields := fds
  methods := ms
  attributes := attrs
def plain (name : String) (sup : Option ClassId) : Class where
  name := name
  kind := .ordinary
  loader := none
  accessFlags := 33
  super := sup
  interfaces := #[]
  cf := none
  fields := #[]
  methods := #[]
  instanceTypes := #[]
  staticTypes := #[]
  resolved := #[]
  callSites := []
  init := .initialized
  statics := none
  mirror := none

def pool0 : Array CpInfo := pool [(5, u "<init>"), (0, u "()V"), (1, .class_ 10), (1, u "java/lang/Object")] 113

def k0c0 : Code := { maxStack := 0, maxLocals := 1, code := object_method_1_code, exceptionTable := #[], attributes := #[] }
def k0m0 : Method := { name := "<init>", desc := "()V", sig := { parameters := [], returnType := none }, accessFlags := 1, code := some k0c0 }
/-- java/lang/Object -/
def k0 : Class := { plain "java/lang/Object" none with
  accessFlags := 33
  interfaces := #[]
  cf := some (fileOf pool0 8 #[] #[{ accessFlags := 1, nameIndex := 5, descriptorIndex := 6, attributes := #[] }] 33 0 #[] #[])
  fields := #[]
  methods := #[k0m0]
  instanceTypes := #[]
  staticTypes := #[]
  resolved := Array.replicate 124 none
  statics := none }

def pool1 : Array CpInfo := pool [(2, .class_ 4), (0, .nameAndType 5 6), (0, u "java/lang/Object"), (0, u "<init>"), (0, u "()V"), (0, .class_ 8), (0, u "com/example/orrery/orrery/policy/RunningEnds"), (0, .methodref 7 3), (2, .integer 2147483647), (0, .methodref 7 14), (0, .nameAndType 15 16), (0, u "add"), (0, u "(D)V"), (0, .methodref 18 19), (0, .class_ 20), (0, .nameAndType 21 22), (0, u "java/lang/Math"), (0, u "min"), (0, u "(II)I"), (0, .methodref 7 24), (0, .nameAndType 25 16), (0, u "removeFirst"), (0, .methodref 7 27), (0, .nameAndType 28 29), (0, u "leftAt"), (0, u "(D)D"), (0, .class_ 31), (0, u "com/example/orrery/orrery/policy/RunningEndsLeftAtPinLaw"), (2, u "law"), (0, u "(IIIIII)Z")] 3

def k1m0 : Method := { name := "<init>", desc := "()V", sig := { parameters := [], returnType := none }, accessFlags := 1, code := none }
def k1c1 : Code := { maxStack := 6, maxLocals := 19, code := code, exceptionTable := #[], attributes := #[] }
def k1m1 : Method := { name := "law", desc := "(IIIIII)Z", sig := { parameters := [.int, .int, .int, .int, .int, .int], returnType := some .boolean }, accessFlags := 9, code := some k1c1 }
/-- com/example/orrery/orrery/policy/RunningEndsLeftAtPinLaw -/
def k1 : Class := { plain "com/example/orrery/orrery/policy/RunningEndsLeftAtPinLaw" (some 0) with
  accessFlags := 49
  interfaces := #[]
  cf := some (fileOf pool1 30 #[] #[{ accessFlags := 1, nameIndex := 5, descriptorIndex := 6, attributes := #[] }, { accessFlags := 9, nameIndex := 34, descriptorIndex := 35, attributes := #[] }] 49 2 #[] #[])
  fields := #[]
  methods := #[k1m0, k1m1]
  instanceTypes := #[]
  staticTypes := #[]
  resolved := Array.replicate 39 none
  statics := none }

def pool2 : Array CpInfo := pool [(1, .methodref 2 3), (0, .class_ 4), (0, .nameAndType 5 6), (0, u "java/lang/Object"), (0, u "<init>"), (0, u "()V"), (0, .fieldref 8 9), (0, .class_ 10), (0, .nameAndType 11 12), (0, u "com/example/orrery/orrery/policy/RunningEnds"), (0, u "ends"), (0, u "[D"), (6, .fieldref 8 20), (0, .nameAndType 21 22), (0, u "first"), (0, u "I"), (0, .fieldref 8 24), (0, .nameAndType 25 22), (0, u "last"), (0, .methodref 27 28), (0, .class_ 29), (0, .nameAndType 30 31), (0, u "java/lang/System"), (0, u "arraycopy"), (0, u "(Ljava/lang/Object;ILjava/lang/Object;II)V"), (23, u "add"), (0, u "(D)V"), (1, u "removeFirst"), (2, u "leftAt"), (0, u "(D)D")] 17

def k2c0 : Code := { maxStack := 2, maxLocals := 1, code := prog_11_method_1_code, exceptionTable := #[], attributes := #[] }
def k2m0 : Method := { name := "<init>", desc := "()V", sig := { parameters := [], returnType := none }, accessFlags := 0, code := some k2c0 }
def k2c1 : Code := { maxStack := 6, maxLocals := 5, code := prog_11_method_3_code, exceptionTable := #[], attributes := #[] }
def k2m1 : Method := { name := "add", desc := "(D)V", sig := { parameters := [.double], returnType := none }, accessFlags := 0, code := some k2c1 }
def k2c2 : Code := { maxStack := 4, maxLocals := 3, code := prog_11_method_4_code, exceptionTable := #[], attributes := #[] }
def k2m2 : Method := { name := "removeFirst", desc := "(D)V", sig := { parameters := [.double], returnType := none }, accessFlags := 0, code := some k2c2 }
def k2c3 : Code := { maxStack := 6, maxLocals := 6, code := prog_11_method_7_code, exceptionTable := #[], attributes := #[] }
def k2m3 : Method := { name := "leftAt", desc := "(D)D", sig := { parameters := [.double], returnType := some .double }, accessFlags := 0, code := some k2c3 }
/-- com/example/orrery/orrery/policy/RunningEnds -/
def k2 : Class := { plain "com/example/orrery/orrery/policy/RunningEnds" (some 0) with
  accessFlags := 48
  interfaces := #[]
  cf := some (fileOf pool2 8 #[] #[{ accessFlags := 0, nameIndex := 5, descriptorIndex := 6, attributes := #[] }, { accessFlags := 0, nameIndex := 55, descriptorIndex := 56, attributes := #[] }, { accessFlags := 0, nameIndex := 58, descriptorIndex := 56, attributes := #[] }, { accessFlags := 0, nameIndex := 61, descriptorIndex := 62, attributes := #[] }] 48 2 #[] #[{ accessFlags := 2, nameIndex := 11, descriptorIndex := 12, attributes := #[] }, { accessFlags := 2, nameIndex := 21, descriptorIndex := 22, attributes := #[] }, { accessFlags := 2, nameIndex := 25, descriptorIndex := 22, attributes := #[] }])
  fields := #[{ name := "ends", type := (.array .double), accessFlags := 2, slot := 0, constantValue := 0 }, { name := "first", type := .int, accessFlags := 2, slot := 1, constantValue := 0 }, { name := "last", type := .int, accessFlags := 2, slot := 2, constantValue := 0 }]
  methods := #[k2m0, k2m1, k2m2, k2m3]
  instanceTypes := #[(.array .double), .int, .int]
  staticTypes := #[]
  resolved := Array.replicate 80 none
  statics := none }

def pool3 : Array CpInfo := pool [(2, .class_ 4), (1, u "java/lang/Object"), (0, u "<init>"), (0, u "()V"), (1, .class_ 10), (1, u "java/lang/System"), (0, u "allowSecurityManager"), (0, u "I"), (16, u "cons"), (0, u "Ljava/io/Console;"), (77, .class_ 110), (1, u "java/lang/System$CallersHolder"), (43, u "initialErrStream"), (0, u "Ljava/io/PrintStream;"), (19, u "security"), (0, u "Ljava/lang/SecurityManager;"), (31, .class_ 209), (0, u "java/lang/System$1"), (7, u "props"), (0, u "Ljava/util/Properties;"), (2, u "lineSeparator"), (0, u "Ljava/lang/String;"), (96, .class_ 321), (1, u "java/lang/System$LoggerFinder"), (5, .class_ 328), (0, u "java/lang/System$Logger"), (67, u "err"), (2, u "out"), (91, u "notSupportedJnuEncoding"), (15, u "in"), (17, u "initialIn"), (0, u "Ljava/io/InputStream;"), (35, u "bootLayer"), (0, u "Ljava/lang/ModuleLayer;"), (99, .class_ 664), (0, u "java/lang/System$2"), (9, u "NEVER"), (2, u "MAYBE"), (49, u "arraycopy"), (0, u "(Ljava/lang/Object;ILjava/lang/Object;II)V"), (72, .class_ 802), (0, u "java/lang/System$Logger$Level")] 31

def k3m0 : Method := { name := "<init>", desc := "()V", sig := { parameters := [], returnType := none }, accessFlags := 2, code := none }
def k3m1 : Method := { name := "arraycopy", desc := "(Ljava/lang/Object;ILjava/lang/Object;II)V", sig := { parameters := [(.object "java/lang/Object"), .int, (.object "java/lang/Object"), .int, .int], returnType := none }, accessFlags := 265, code := none }
/-- java/lang/System -/
def k3 : Class := { plain "java/lang/System" (some 0) with
  accessFlags := 49
  interfaces := #[]
  cf := some (fileOf pool3 8 #[.nestMembers #[319, 327, 801, 108, 663, 208]] #[{ accessFlags := 2, nameIndex := 5, descriptorIndex := 6, attributes := #[] }, { accessFlags := 265, nameIndex := 727, descriptorIndex := 728, attributes := #[] }] 49 2 #[] #[{ accessFlags := 25, nameIndex := 507, descriptorIndex := 526, attributes := #[] }, { accessFlags := 25, nameIndex := 399, descriptorIndex := 155, attributes := #[] }, { accessFlags := 25, nameIndex := 396, descriptorIndex := 155, attributes := #[] }, { accessFlags := 10, nameIndex := 525, descriptorIndex := 526, attributes := #[] }, { accessFlags := 26, nameIndex := 674, descriptorIndex := 12, attributes := #[] }, { accessFlags := 26, nameIndex := 677, descriptorIndex := 12, attributes := #[] }, { accessFlags := 10, nameIndex := 11, descriptorIndex := 12, attributes := #[] }, { accessFlags := 74, nameIndex := 175, descriptorIndex := 176, attributes := #[] }, { accessFlags := 10, nameIndex := 491, descriptorIndex := 222, attributes := #[] }, { accessFlags := 74, nameIndex := 29, descriptorIndex := 30, attributes := #[] }, { accessFlags := 74, nameIndex := 154, descriptorIndex := 155, attributes := #[] }, { accessFlags := 10, nameIndex := 217, descriptorIndex := 218, attributes := #[] }, { accessFlags := 10, nameIndex := 221, descriptorIndex := 222, attributes := #[] }, { accessFlags := 8, nameIndex := 562, descriptorIndex := 563, attributes := #[] }])
  fields := #[{ name := "in", type := (.object "java/io/InputStream"), accessFlags := 25, slot := 0, constantValue := 0 }, { name := "out", type := (.object "java/io/PrintStream"), accessFlags := 25, slot := 1, constantValue := 0 }, { name := "err", type := (.object "java/io/PrintStream"), accessFlags := 25, slot := 2, constantValue := 0 }, { name := "initialIn", type := (.object "java/io/InputStream"), accessFlags := 10, slot := 3, constantValue := 0 }, { name := "NEVER", type := .int, accessFlags := 26, slot := 4, constantValue := 0 }, { name := "MAYBE", type := .int, accessFlags := 26, slot := 5, constantValue := 0 }, { name := "allowSecurityManager", type := .int, accessFlags := 10, slot := 6, constantValue := 0 }, { name := "security", type := (.object "java/lang/SecurityManager"), accessFlags := 74, slot := 7, constantValue := 0 }, { name := "notSupportedJnuEncoding", type := (.object "java/lang/String"), accessFlags := 10, slot := 8, constantValue := 0 }, { name := "cons", type := (.object "java/io/Console"), accessFlags := 74, slot := 9, constantValue := 0 }, { name := "initialErrStream", type := (.object "java/io/PrintStream"), accessFlags := 74, slot := 10, constantValue := 0 }, { name := "props", type := (.object "java/util/Properties"), accessFlags := 10, slot := 11, constantValue := 0 }, { name := "lineSeparator", type := (.object "java/lang/String"), accessFlags := 10, slot := 12, constantValue := 0 }, { name := "bootLayer", type := (.object "java/lang/ModuleLayer"), accessFlags := 8, slot := 13, constantValue := 0 }]
  methods := #[k3m0, k3m1]
  instanceTypes := #[]
  staticTypes := #[(.object "java/io/InputStream"), (.object "java/io/PrintStream"), (.object "java/io/PrintStream"), (.object "java/io/InputStream"), .int, .int, .int, (.object "java/lang/SecurityManager"), (.object "java/lang/String"), (.object "java/io/Console"), (.object "java/io/PrintStream"), (.object "java/util/Properties"), (.object "java/lang/String"), (.object "java/lang/ModuleLayer")]
  resolved := Array.replicate 834 none
  statics := none }

def pool4 : Array CpInfo := pool [(1, .class_ 2), (0, u "java/lang/Math"), (1, .class_ 6), (1, u "java/lang/Object"), (0, u "<init>"), (0, u "()V"), (89, .class_ 100), (1, u "java/lang/Math$RandomNumberGeneratorHolder"), (71, u "negativeZeroFloatBits"), (0, u "J"), (2, u "negativeZeroDoubleBits"), (24, u "min"), (43, u "$assertionsDisabled"), (0, u "Z"), (88, u "(II)I"), (2, u "twoToTheDoubleScaleDown"), (0, u "D"), (4, u "twoToTheDoubleScaleUp"), (9, u "E"), (3, u "PI"), (2, u "TAU"), (2, u "DEGREES_TO_RADIANS"), (0, u "RADIANS_TO_DEGREES")] 94

def k4m0 : Method := { name := "<init>", desc := "()V", sig := { parameters := [], returnType := none }, accessFlags := 2, code := none }
def k4c1 : Code := { maxStack := 2, maxLocals := 2, code := jdk_29_method_69_code, exceptionTable := #[], attributes := #[] }
def k4m1 : Method := { name := "min", desc := "(II)I", sig := { parameters := [.int, .int], returnType := some .int }, accessFlags := 9, code := some k4c1 }
/-- java/lang/Math -/
def k4 : Class := { plain "java/lang/Math" (some 0) with
  accessFlags := 49
  interfaces := #[]
  cf := some (fileOf pool4 1 #[.nestMembers #[98]] #[{ accessFlags := 2, nameIndex := 7, descriptorIndex := 8, attributes := #[] }, { accessFlags := 9, nameIndex := 201, descriptorIndex := 335, attributes := #[] }] 49 4 #[] #[{ accessFlags := 25, nameIndex := 354, descriptorIndex := 339, attributes := #[] }, { accessFlags := 25, nameIndex := 358, descriptorIndex := 339, attributes := #[] }, { accessFlags := 25, nameIndex := 361, descriptorIndex := 339, attributes := #[] }, { accessFlags := 26, nameIndex := 364, descriptorIndex := 339, attributes := #[] }, { accessFlags := 26, nameIndex := 365, descriptorIndex := 339, attributes := #[] }, { accessFlags := 26, nameIndex := 172, descriptorIndex := 173, attributes := #[] }, { accessFlags := 26, nameIndex := 176, descriptorIndex := 173, attributes := #[] }, { accessFlags := 8, nameIndex := 344, descriptorIndex := 339, attributes := #[] }, { accessFlags := 8, nameIndex := 338, descriptorIndex := 339, attributes := #[] }, { accessFlags := 4120, nameIndex := 245, descriptorIndex := 246, attributes := #[] }])
  fields := #[{ name := "E", type := .double, accessFlags := 25, slot := 0, constantValue := 0 }, { name := "PI", type := .double, accessFlags := 25, slot := 1, constantValue := 0 }, { name := "TAU", type := .double, accessFlags := 25, slot := 2, constantValue := 0 }, { name := "DEGREES_TO_RADIANS", type := .double, accessFlags := 26, slot := 3, constantValue := 0 }, { name := "RADIANS_TO_DEGREES", type := .double, accessFlags := 26, slot := 4, constantValue := 0 }, { name := "negativeZeroFloatBits", type := .long, accessFlags := 26, slot := 5, constantValue := 0 }, { name := "negativeZeroDoubleBits", type := .long, accessFlags := 26, slot := 6, constantValue := 0 }, { name := "twoToTheDoubleScaleUp", type := .double, accessFlags := 8, slot := 7, constantValue := 0 }, { name := "twoToTheDoubleScaleDown", type := .double, accessFlags := 8, slot := 8, constantValue := 0 }, { name := "$assertionsDisabled", type := .boolean, accessFlags := 4120, slot := 9, constantValue := 0 }]
  methods := #[k4m0, k4m1]
  instanceTypes := #[]
  staticTypes := #[.double, .double, .double, .double, .double, .long, .long, .double, .double, .boolean]
  resolved := Array.replicate 460 none
  statics := none }

def pool5 : Array CpInfo := pool [(1, u "java/lang/Cloneable"), (0, .class_ 1), (0, u "java/lang/Object"), (0, .class_ 3)] 3

/-- java/lang/Cloneable -/
def k5 : Class := { plain "java/lang/Cloneable" (some 0) with
  accessFlags := 1537
  interfaces := #[]
  cf := some (fileOf pool5 2 #[] #[] 1537 4 #[] #[])
  fields := #[]
  methods := #[]
  instanceTypes := #[]
  staticTypes := #[]
  resolved := Array.replicate 8 none
  statics := none }

def pool6 : Array CpInfo := pool [(1, u "java/io/Serializable"), (0, .class_ 1), (0, u "java/lang/Object"), (0, .class_ 3)] 3

/-- java/io/Serializable -/
def k6 : Class := { plain "java/io/Serializable" (some 0) with
  accessFlags := 1537
  interfaces := #[]
  cf := some (fileOf pool6 2 #[] #[] 1537 4 #[] #[])
  fields := #[]
  methods := #[]
  instanceTypes := #[]
  staticTypes := #[]
  resolved := Array.replicate 8 none
  statics := none }

/-- the primitive byte -/
def k7 : Class := { plain "byte" none with kind := .primitive 'B', accessFlags := 0x411 }
/-- [B -/
def k8 : Class := { plain "[B" (some 0) with kind := .array 7 .byte, interfaces := #[5, 6], accessFlags := 1041 }

/-- the primitive double -/
def k9 : Class := { plain "double" none with kind := .primitive 'D', accessFlags := 0x411 }
/-- [D -/
def k10 : Class := { plain "[D" (some 0) with kind := .array 9 .double, interfaces := #[5, 6], accessFlags := 1041 }

/-- the primitive int -/
def k11 : Class := { plain "int" none with kind := .primitive 'I', accessFlags := 0x411 }
/-- [I -/
def k12 : Class := { plain "[I" (some 0) with kind := .array 11 .int, interfaces := #[5, 6], accessFlags := 1041 }

def heap : Heap := #[]
def classes : Array Class := #[k0, k1, k2, k3, k4, k5, k6, k7, k8, k9, k10, k11, k12]
def interned : List (Array UInt16 × Addr) := []
def slotsUsed : Nat := 0
def theMethod : MethodId := ⟨1, 1⟩
def args0 : Array Value := #[.int 5, .int 3, .int 9, .int 4, .int 2, .int 15]
def aboutOver (below : List Frame) : State where
  vm := { classes := classes, interned := interned.toArray }
  heap := heap
  slotsUsed := slotsUsed
  threads := #[{ frames := .invoking theMethod args0 :: below }]
def below0 : List Frame := [.native { method := ⟨0, 0⟩, args := #[] }]
def about1 : State := aboutOver below0
def p0 : Program := .bare "" "" ""
def e0 : Env := launch0.env 0 0 0
theorem w_frames : about1.frames = Frame.invoking theMethod args0 :: below0 := rfl
set_option maxRecDepth 65536 in
theorem w_args : argsFit about1.vm theMethod args0 = true := by decide +kernel
set_option maxRecDepth 65536 in
theorem w_heap : heapFits about1 = true := by decide +kernel
set_option maxRecDepth 65536 in
theorem w_runnable : about1.curStatus? = some .runnable := by decide +kernel
set_option maxRecDepth 65536 in
theorem w_alone : about1.alone = true := by decide +kernel
set_option maxRecDepth 65536 in
theorem w_named : about1.methodNamed? x = some theMethod := by decide +kernel
set_option maxRecDepth 65536 in
theorem w_hears : about1.hears theMethod below0 = true := by decide +kernel
set_option maxRecDepth 65536 in
theorem w_ripe : about1.ripe theMethod args0 below0 = true := by decide +kernel
theorem w_running : about1.status = .running := rfl
set_option maxRecDepth 65536 in
theorem w_room : about1.hasRoom e0.platform room_1 = true :=
  launch0.hasRoom_least _ room_1 (by decide +kernel) (by decide +kernel) (by decide +kernel) (by decide +kernel) (by decide +kernel) (by decide +kernel)
theorem allAtoms_all (ts : List Jvm.Cond) (a : Array Jvm.Value) (st : Jvm.State) : (allAtoms ts).before a st = ts.all (fun c => c.before a st) := by
  induction ts with
  | nil => rfl
  | cons c t ih =>
    show (Jvm.Cond.and c (allAtoms t)).before a st = _
    rw [Jvm.Cond.before_and, ih, List.all_cons]
def words1 : List Jvm.Cond := Jvm.Cond.code x code maxLocals ret :: tables_1
/-- a 'code' word, met by the world's own term for the bytes: nothing is compared byte by byte -/
theorem code_word {y : MethodName} {bytes : ByteArray} {mx : Nat} {rt : Option FieldType} {a : Array Value} {s : State} {m : MethodId} {meth : Method} {c : Code} (h1 : s.methodNamed? y = some m) (h2 : s.vm.method? m = some meth) (h3 : meth.code = some c) (h4 : c.code = bytes)
    (h5 : (c.maxLocals == mx && c.exceptionTable.isEmpty && decide (c.maxStack ≤ mostOperands) && decide (meth.sig.returnType = rt) && !meth.locks && decide (parseMethodDescriptor y.desc = some meth.sig)) = true) : (Jvm.Cond.code y bytes mx rt).before a s = true := by
  simp only [Bool.and_eq_true, beq_iff_eq, Bool.not_eq_true', decide_eq_true_eq] at h5
  obtain ⟨⟨⟨⟨⟨g1, g2⟩, g3⟩, g4⟩, g5⟩, g6⟩ := h5
  simp [Cond.before, Cond.holds, Cond.value, h1, h2, h3, h4, g1, g2, g3, g4, g5, g6]
def isCode : Jvm.Cond → Bool
  | .code _ _ _ _ => true
  | _ => false
theorem all_split {L : List Jvm.Cond} {P : Jvm.Cond → Bool} (h1 : L.all (fun c => isCode c || P c) = true) (h2 : ∀ c ∈ L.filter isCode, P c = true) : L.all P = true := by
  refine List.all_eq_true.mpr fun c hc => ?_
  have h := List.all_eq_true.mp h1 c hc
  rcases Bool.eq_false_or_eq_true (isCode c) with hi | hi
  · exact h2 c (List.mem_filter.mpr ⟨hc, hi⟩)
  · simpa [hi] using h
set_option maxRecDepth 65536 in
theorem w_c0 : (Jvm.Cond.code x code maxLocals ret).before args0 about1 = true := code_word (m := ⟨1, 1⟩) (meth := k1m1) (c := k1c1) (by decide +kernel) rfl rfl rfl (by decide +kernel)
set_option maxRecDepth 65536 in
theorem w_c1 : (Jvm.Cond.code ({ cls := "com/example/orrery/orrery/policy/RunningEnds", name := "<init>", desc := "()V" } : Jvm.MethodName) prog_11_method_1_code (1 : Nat) (Option.none : Option Jvm.ClassFile.FieldType)).before args0 about1 = true := code_word (m := ⟨2, 0⟩) (meth := k2m0) (c := k2c0) (by decide +kernel) rfl rfl rfl (by decide +kernel)
set_option maxRecDepth 65536 in
theorem w_c2 : (Jvm.Cond.code ({ cls := "java/lang/Object", name := "<init>", desc := "()V" } : Jvm.MethodName) object_method_1_code (1 : Nat) (Option.none : Option Jvm.ClassFile.FieldType)).before args0 about1 = true := code_word (m := ⟨0, 0⟩) (meth := k0m0) (c := k0c0) (by decide +kernel) rfl rfl rfl (by decide +kernel)
set_option maxRecDepth 65536 in
theorem w_c3 : (Jvm.Cond.code ({ cls := "com/example/orrery/orrery/policy/RunningEnds", name := "add", desc := "(D)V" } : Jvm.MethodName) prog_11_method_3_code (5 : Nat) (Option.none : Option Jvm.ClassFile.FieldType)).before args0 about1 = true := code_word (m := ⟨2, 1⟩) (meth := k2m1) (c := k2c1) (by decide +kernel) rfl rfl rfl (by decide +kernel)
set_option maxRecDepth 65536 in
theorem w_c4 : (Jvm.Cond.code ({ cls := "java/lang/Math", name := "min", desc := "(II)I" } : Jvm.MethodName) jdk_29_method_69_code (2 : Nat) (Option.some Jvm.ClassFile.FieldType.int)).before args0 about1 = true := code_word (m := ⟨4, 1⟩) (meth := k4m1) (c := k4c1) (by decide +kernel) rfl rfl rfl (by decide +kernel)
set_option maxRecDepth 65536 in
theorem w_c5 : (Jvm.Cond.code ({ cls := "com/example/orrery/orrery/policy/RunningEnds", name := "leftAt", desc := "(D)D" } : Jvm.MethodName) prog_11_method_7_code (6 : Nat) (Option.some Jvm.ClassFile.FieldType.double)).before args0 about1 = true := code_word (m := ⟨2, 3⟩) (meth := k2m3) (c := k2c3) (by decide +kernel) rfl rfl rfl (by decide +kernel)
set_option maxRecDepth 65536 in
theorem w_c6 : (Jvm.Cond.code ({ cls := "com/example/orrery/orrery/policy/RunningEnds", name := "removeFirst", desc := "(D)V" } : Jvm.MethodName) prog_11_method_4_code (3 : Nat) (Option.none : Option Jvm.ClassFile.FieldType)).before args0 about1 = true := code_word (m := ⟨2, 2⟩) (meth := k2m2) (c := k2c2) (by decide +kernel) rfl rfl rfl (by decide +kernel)
def codes1 : List Jvm.Cond := [Jvm.Cond.code x code maxLocals ret, Jvm.Cond.code ({ cls := "com/example/orrery/orrery/policy/RunningEnds", name := "<init>", desc := "()V" } : Jvm.MethodName) prog_11_method_1_code (1 : Nat) (Option.none : Option Jvm.ClassFile.FieldType), Jvm.Cond.code ({ cls := "java/lang/Object", name := "<init>", desc := "()V" } : Jvm.MethodName) object_method_1_code (1 : Nat) (Option.none : Option Jvm.ClassFile.FieldType), Jvm.Cond.code ({ cls := "com/example/orrery/orrery/policy/RunningEnds", name := "add", desc := "(D)V" } : Jvm.MethodName) prog_11_method_3_code (5 : Nat) (Option.none : Option Jvm.ClassFile.FieldType), Jvm.Cond.code ({ cls := "java/lang/Math", name := "min", desc := "(II)I" } : Jvm.MethodName) jdk_29_method_69_code (2 : Nat) (Option.some Jvm.ClassFile.FieldType.int), Jvm.Cond.code ({ cls := "com/example/orrery/orrery/policy/RunningEnds", name := "leftAt", desc := "(D)D" } : Jvm.MethodName) prog_11_method_7_code (6 : Nat) (Option.some Jvm.ClassFile.FieldType.double), Jvm.Cond.code ({ cls := "com/example/orrery/orrery/policy/RunningEnds", name := "removeFirst", desc := "(D)V" } : Jvm.MethodName) prog_11_method_4_code (3 : Nat) (Option.none : Option Jvm.ClassFile.FieldType)]
set_option maxRecDepth 65536 in
theorem codes_eq : words1.filter isCode = codes1 := rfl
theorem w_codes : ∀ c ∈ words1.filter isCode, c.before args0 about1 = true := by
  rw [codes_eq]
  intro c hc
  simp only [codes1, List.mem_cons, List.not_mem_nil, or_false] at hc
  rcases hc with rfl | rfl | rfl | rfl | rfl | rfl | rfl
  · exact w_c0
  · exact w_c1
  · exact w_c2
  · exact w_c3
  · exact w_c4
  · exact w_c5
  · exact w_c6
set_option maxRecDepth 65536 in
theorem w_t1 : (words1.take 24).all (fun c => isCode c || c.before args0 about1) = true := by decide +kernel
set_option maxRecDepth 65536 in
theorem w_t2 : (words1.drop 24).all (fun c => isCode c || c.before args0 about1) = true := by decide +kernel
theorem w_tables : (allAtoms (Jvm.Cond.code x code maxLocals ret :: tables_1)).before args0 about1 = true := by
  rw [allAtoms_all]
  show words1.all (fun c => c.before args0 about1) = true
  refine all_split ?_ w_codes
  rw [← List.take_append_drop 24 words1, List.all_append, w_t1, w_t2]
  rfl
set_option maxRecDepth 65536 in
theorem w_case : (Jvm.Cond.and given_1 narrow_1).before args0 about1 = true := by decide +kernel
theorem w_applies : (headSpec (Jvm.Cond.code x code maxLocals ret :: tables_1) room_1).applies x e0.platform about1 = true :=
  (Spec.applies_iff w_frames).mpr ⟨w_running, w_runnable, w_alone, w_named, w_hears, w_ripe, w_room, w_tables⟩
theorem atStart : AtStart classFile x code maxLocals ret World_1 tables_1 room_1 Calls_1 rest_1 Pre_1 launch0 p0 e0 about1 theMethod args0 below0 :=
  ⟨lists_1, trivial, launch0.admits_env _ _ _, launch0.least_env, fairChoices_fair.cas, fairChoices_fair.clock, w_frames, w_args, w_heap, w_applies, trivial, trivial, w_case⟩
end start1
theorem witness_1 : WitnessClaimed_1 := ⟨start1.p0, start1.e0, start1.about1, start1.theMethod, start1.args0, start1.below0, start1.atStart⟩
end Jvm.Pilot.@@N@@
