import JvmDerived
import JvmDerived.Pilot.@@N@@Statement
import JvmDerived.Pilot.@@N@@Code
set_option linter.unusedVariables false
set_option linter.unusedSimpArgs false
@@BLOCK:NumsL.lean.txt@@
namespace Jvm.Pilot.@@N@@
open Jvm Jvm.ClassFile Sem Op Lib Jvm.Free Jvm.Stand Jvm.LawKit Jvm.RoadKit Bundle Jvm.Free.Fl Jvm.Pilot.@@N@@.Jvm.D
theorem d1_0 : decode prog_87_method_1_code 0 = .ok (.aload_n 0, 1) := by decide +kernel
theorem d1_1 : decode prog_87_method_1_code 1 = .ok (.invokespecial 1, 3) := by decide +kernel
theorem d1_4 : decode prog_87_method_1_code 4 = .ok (.return_, 1) := by decide +kernel
theorem ef1 (m : MethodId) (x0 : Addr) : entryFrame m #[(.ref x0)] 1 = mkF m 0 #[.val (.ref x0)] [] := by first | (simp [entryFrame, mkF, argsToLocals, Value.category]; done) | rfl
theorem pn1 : plainName "com/example/tidegate/tidegate/stats/RunningMoments" = true := by first | (simp [plainName, overriddenIn]; done) | decide +kernel
theorem d4_0 : decode prog_87_method_2_code 0 = .ok (.aload_n 0, 1) := by decide +kernel
theorem d4_1 : decode prog_87_method_2_code 1 = .ok (.dup, 1) := by decide +kernel
theorem d4_2 : decode prog_87_method_2_code 2 = .ok (.getfield 7, 3) := by decide +kernel
theorem d4_5 : decode prog_87_method_2_code 5 = .ok (.lconst 1, 1) := by decide +kernel
theorem d4_6 : decode prog_87_method_2_code 6 = .ok (.ladd, 1) := by decide +kernel
theorem d4_7 : decode prog_87_method_2_code 7 = .ok (.putfield 7, 3) := by decide +kernel
theorem d4_10 : decode prog_87_method_2_code 10 = .ok (.dload_n 1, 1) := by decide +kernel
theorem d4_11 : decode prog_87_method_2_code 11 = .ok (.aload_n 0, 1) := by decide +kernel
theorem d4_12 : decode prog_87_method_2_code 12 = .ok (.getfield 13, 3) := by decide +kernel
theorem d4_15 : decode prog_87_method_2_code 15 = .ok (.dsub, 1) := by decide +kernel
theorem d4_16 : decode prog_87_method_2_code 16 = .ok (.dstore_n 3, 1) := by decide +kernel
theorem d4_17 : decode prog_87_method_2_code 17 = .ok (.aload_n 0, 1) := by decide +kernel
theorem d4_18 : decode prog_87_method_2_code 18 = .ok (.dup, 1) := by decide +kernel
theorem d4_19 : decode prog_87_method_2_code 19 = .ok (.getfield 13, 3) := by decide +kernel
theorem d4_22 : decode prog_87_method_2_code 22 = .ok (.dload_n 3, 1) := by decide +kernel
theorem d4_23 : decode prog_87_method_2_code 23 = .ok (.aload_n 0, 1) := by decide +kernel
theorem d4_24 : decode prog_87_method_2_code 24 = .ok (.getfield 7, 3) := by decide +kernel
theorem d4_27 : decode prog_87_method_2_code 27 = .ok (.l2d, 1) := by decide +kernel
theorem d4_28 : decode prog_87_method_2_code 28 = .ok (.ddiv, 1) := by decide +kernel
theorem d4_29 : decode prog_87_method_2_code 29 = .ok (.dadd, 1) := by decide +kernel
theorem d4_30 : decode prog_87_method_2_code 30 = .ok (.putfield 13, 3) := by decide +kernel
theorem d4_33 : decode prog_87_method_2_code 33 = .ok (.aload_n 0, 1) := by decide +kernel
theorem d4_34 : decode prog_87_method_2_code 34 = .ok (.dup, 1) := by decide +kernel
theorem d4_35 : decode prog_87_method_2_code 35 = .ok (.getfield 17, 3) := by decide +kernel
theorem d4_38 : decode prog_87_method_2_code 38 = .ok (.dload_n 3, 1) := by decide +kernel
theorem d4_39 : decode prog_87_method_2_code 39 = .ok (.dload_n 1, 1) := by decide +kernel
theorem d4_40 : decode prog_87_method_2_code 40 = .ok (.aload_n 0, 1) := by decide +kernel
theorem d4_41 : decode prog_87_method_2_code 41 = .ok (.getfield 13, 3) := by decide +kernel
theorem d4_44 : decode prog_87_method_2_code 44 = .ok (.dsub, 1) := by decide +kernel
theorem d4_45 : decode prog_87_method_2_code 45 = .ok (.dmul, 1) := by decide +kernel
theorem d4_46 : decode prog_87_method_2_code 46 = .ok (.dadd, 1) := by decide +kernel
theorem d4_47 : decode prog_87_method_2_code 47 = .ok (.putfield 17, 3) := by decide +kernel
theorem d4_50 : decode prog_87_method_2_code 50 = .ok (.return_, 1) := by decide +kernel
theorem ef2 (m : MethodId) (x0 : Addr) (x1 : UInt64) : entryFrame m #[(.ref x0), (.double x1)] 5 = mkF m 0 #[.val (.ref x0), .val (.double x1), .second, .unset, .unset] [] := by first | (simp [entryFrame, mkF, argsToLocals, Value.category]; done) | rfl
theorem d6_0 : decode prog_87_method_4_code 0 = .ok (.aload_n 0, 1) := by decide +kernel
theorem d6_1 : decode prog_87_method_4_code 1 = .ok (.getfield 7, 3) := by decide +kernel
theorem d6_4 : decode prog_87_method_4_code 4 = .ok (.ldc2_w 24, 3) := by decide +kernel
theorem d6_7 : decode prog_87_method_4_code 7 = .ok (.lcmp, 1) := by decide +kernel
theorem d6_8 : decode prog_87_method_4_code 8 = .ok (.ifCond .ge 9, 3) := by decide +kernel
theorem d6_11 : decode prog_87_method_4_code 11 = .ok (.ldc2_w 22, 3) := by decide +kernel
theorem d6_14 : decode prog_87_method_4_code 14 = .ok (.goto 15, 3) := by decide +kernel
theorem d6_29 : decode prog_87_method_4_code 29 = .ok (.dreturn, 1) := by decide +kernel
theorem d6_17 : decode prog_87_method_4_code 17 = .ok (.aload_n 0, 1) := by decide +kernel
theorem d6_18 : decode prog_87_method_4_code 18 = .ok (.getfield 17, 3) := by decide +kernel
theorem d6_21 : decode prog_87_method_4_code 21 = .ok (.aload_n 0, 1) := by decide +kernel
theorem d6_22 : decode prog_87_method_4_code 22 = .ok (.getfield 7, 3) := by decide +kernel
theorem d6_25 : decode prog_87_method_4_code 25 = .ok (.lconst 1, 1) := by decide +kernel
theorem d6_26 : decode prog_87_method_4_code 26 = .ok (.lsub, 1) := by decide +kernel
theorem d6_27 : decode prog_87_method_4_code 27 = .ok (.l2d, 1) := by decide +kernel
theorem d6_28 : decode prog_87_method_4_code 28 = .ok (.ddiv, 1) := by decide +kernel
theorem pd1 : parseMethodDescriptor "()V" = some ⟨[], none⟩ := by decide +kernel
theorem pd2 : parseMethodDescriptor "()D" = some ⟨[], some .double⟩ := by decide +kernel
theorem ef3 (m : MethodId) (x0 : Int32) (x1 : Int32) (x2 : Int32) (x3 : Int32) : entryFrame m #[(.int x0), (.int x1), (.int x2), (.int x3)] maxLocals = mkF m 0 #[.val (.int x0), .val (.int x1), .val (.int x2), .val (.int x3), .unset, .unset, .unset, .unset, .unset, .unset, .unset, .unset, .unset, .unset, .unset, .unset] [] := by first | (simp [entryFrame, mkF, argsToLocals, Value.category, maxLocals]; done) | rfl
theorem pn2 : plainName "com/example/tidegate/tidegate/stats/RunningMomentsVariancePinLaw" = true := by first | (simp [plainName, overriddenIn]; done) | decide +kernel
theorem pd3 : parseMethodDescriptor "(D)V" = some ⟨[.double], none⟩ := by decide +kernel
def QI (h0 : Heap) (n0 : Nat) (v : Option Value) (h : Heap) (L : List Loc) : Prop := v = none ∧ Fr n0 L ∧ h = h0
set_option maxRecDepth 65536 in
set_option maxHeartbeats 40000000 in
theorem rmI (l : Launch) (Z : State) (a0 : Array Value) (hw : ∀ d ∈ tables_1, d.before a0 Z = true) (ws : List Jvm.Cond) (a1 : Addr) (h0 : Heap) (n0 : Nat) (Z0 : n0 ≤ h0.size)  :
    MetFree l (⟨"com/example/tidegate/tidegate/stats/RunningMoments", "<init>", "()V"⟩ : MethodName) (head1 (Jvm.Cond.code (⟨"com/example/tidegate/tidegate/stats/RunningMoments", "<init>", "()V"⟩ : MethodName) prog_87_method_1_code 1 none :: ws) ({ frames := 1, cells := 0, slots := 0, locals := 12 } : Room)) (fun a U => a = #[(.ref a1)] ∧ Z.Warmed39 U.vm ∧ U.heap = h0) (fun _ _ _ _ _ => True) (fun _ U o U' => ∃ v L, o = .returned v ∧ QI h0 n0 v U'.heap L ∧ FrameEnd U o U' L ({ frames := 1, cells := 0, slots := 0, locals := 12 } : Room).cells ({ frames := 1, cells := 0, slots := 0, locals := 12 } : Room).slots) := by
  refine MetFree.of_bodySF (plainFor_of_name pn1) hisR ?_
  intro p e s m args below meth c s₁ Bd hml0 hP hK
  obtain ⟨rfl, hZ, hh⟩ := hP
  have hx := Bd.exec
  have hby := Bd.bytes
  have hml : c.maxLocals = 1 := hml0
  have hown : s.vm.findClass "com/example/tidegate/tidegate/stats/RunningMoments" = some m.cls := findClass_of_methodNamed Bd.named
  have hnm := (name_of_methodNamed Bd.named Bd.method).1
  have X0 : Stand p l e ({ frames := 1, cells := 0, slots := 0, locals := 12 } : Room) s m #[(.ref a1)] below meth c s₁ [] 0 0 := Stand.of_body Bd
  have e0 : s₁.heap = h0 := by rw [← hh, Bd.state]; rfl
  have N0 := Fr.nil n0
  have pre0 : ∀ t, Steps p.tables e below (s₁.setTop (mkF m 0 #[.val (.ref a1)] [])) t → Steps p.tables e below (s₁.setTop (entryFrame m #[(.ref a1)] 1)) t := fun t k => castTop (ef1 m a1) k
  obtain ⟨T1, X1, e1, st1⟩ := initO X0 hx hZ hown (hw _ (List.mem_of_getElem? (i := 7) rfl)) (hw _ (List.mem_of_getElem? (i := 8) rfl)) (hw _ (List.mem_of_getElem? (i := 9) rfl)) e0 (g := (mkF m 1 #[.val (.ref a1)] [(.ref a1)])) rfl (by rw [hml]; rfl) rfl (hb hby d1_1) (by decide) (W := 0) (by show 2 * 0 + _ ≤ _; exact Nat.le_of_eq rfl) (by decide)
  obtain ⟨fs, hr, hrun, hended, hW, hsame⟩ := X1.leave (v := none) (fun _ => rfl)
  refine ⟨_, _, pre0 _ ?_, hrun, hended, _, _, rfl, ?_, ⟨_, rfl⟩, hW, hsame.mono (by decide) (by decide)⟩
  · show Steps p.tables e below (s₁.setTop (mkF m 0 #[.val (.ref a1)] [])) _
    refine XS.aloadN X0.here hx rfl (hb hby d1_0) rfl rfl ?_
    show Steps p.tables e below (s₁.setTop (mkF m 1 #[.val (.ref a1)] [(.ref a1)])) _
    refine st1 _ ?_
    show Steps p.tables e below (T1.setTop (mkF m 4 #[.val (.ref a1)] [])) _
    exact X1.returnOut hx Bd.returns (hb hby d1_4) hr
  · show QI h0 n0 _ T1.heap _
    rw [e1]
    exact ⟨rfl, N0, rfl⟩
def own_okAdd (n : Int64) (mu sq x mu' sq' : UInt64) : Prop :=
  NoNaN64 (FP.dsub x mu) ∧ NoNaN64 (FP.ddiv (FP.dsub x mu) (FP.l2d (n + (1 : Int64)))) ∧ NoNaN64 (FP.dadd mu (FP.ddiv (FP.dsub x mu) (FP.l2d (n + (1 : Int64))))) ∧ FP.dadd mu (FP.ddiv (FP.dsub x mu) (FP.l2d (n + (1 : Int64)))) = mu' ∧
  NoNaN64 (FP.dsub x mu') ∧ NoNaN64 (FP.dmul (FP.dsub x mu) (FP.dsub x mu')) ∧ NoNaN64 (FP.dadd sq (FP.dmul (FP.dsub x mu) (FP.dsub x mu'))) ∧ FP.dadd sq (FP.dmul (FP.dsub x mu) (FP.dsub x mu')) = sq'
def QA (Z : State) (a1 : Addr) (n : Int64) (mu' sq' : UInt64) (h0 : Heap) (n0 : Nat) (v : Option Value) (h : Heap) (L : List Loc) : Prop := v = none ∧ Fr n0 L ∧ Keep h0 h [a1] ∧ Fld Z h a1 "com/example/tidegate/tidegate/stats/RunningMoments" "count" "J" (.long (n + (1 : Int64))) ∧ Fld Z h a1 "com/example/tidegate/tidegate/stats/RunningMoments" "mean" "D" (.double mu') ∧ Fld Z h a1 "com/example/tidegate/tidegate/stats/RunningMoments" "squaredDeviations" "D" (.double sq')
set_option maxRecDepth 65536 in
set_option maxHeartbeats 40000000 in
theorem rmA (l : Launch) (Z : State) (a0 : Array Value) (hw : ∀ d ∈ tables_1, d.before a0 Z = true) (ws : List Jvm.Cond) (a1 : Addr) (n : Int64) (mu sq x mu' sq' : UInt64) (h0 : Heap) (n0 : Nat) (Z0 : n0 ≤ h0.size) (F_count : Fld Z h0 a1 "com/example/tidegate/tidegate/stats/RunningMoments" "count" "J" (.long n)) (F_mean : Fld Z h0 a1 "com/example/tidegate/tidegate/stats/RunningMoments" "mean" "D" (.double mu)) (F_squaredDeviations : Fld Z h0 a1 "com/example/tidegate/tidegate/stats/RunningMoments" "squaredDeviations" "D" (.double sq)) (E_a1 : Exa Z h0 a1 "com/example/tidegate/tidegate/stats/RunningMoments") (g_a1 : n0 ≤ a1) (ok : own_okAdd n mu sq x mu' sq') :
    MetFree l (⟨"com/example/tidegate/tidegate/stats/RunningMoments", "add", "(D)V"⟩ : MethodName) (head1 (Jvm.Cond.code (⟨"com/example/tidegate/tidegate/stats/RunningMoments", "add", "(D)V"⟩ : MethodName) prog_87_method_2_code 5 none :: ws) ({ frames := 0, cells := 0, slots := 0, locals := 0 } : Room)) (fun a U => a = #[(.ref a1), (.double x)] ∧ Z.Warmed39 U.vm ∧ U.heap = h0) (fun _ _ _ _ _ => True) (fun _ U o U' => ∃ v L, o = .returned v ∧ QA Z a1 n mu' sq' h0 n0 v U'.heap L ∧ FrameEnd U o U' L ({ frames := 0, cells := 0, slots := 0, locals := 0 } : Room).cells ({ frames := 0, cells := 0, slots := 0, locals := 0 } : Room).slots) := by
  refine MetFree.of_bodySF (plainFor_of_name pn1) hisR ?_
  intro p e s m args below meth c s₁ Bd hml0 hP hK
  obtain ⟨rfl, hZ, hh⟩ := hP
  have hx := Bd.exec
  have hby := Bd.bytes
  have hml : c.maxLocals = 5 := hml0
  have hown : s.vm.findClass "com/example/tidegate/tidegate/stats/RunningMoments" = some m.cls := findClass_of_methodNamed Bd.named
  have hnm := (name_of_methodNamed Bd.named Bd.method).1
  have X0 : Stand p l e ({ frames := 0, cells := 0, slots := 0, locals := 0 } : Room) s m #[(.ref a1), (.double x)] below meth c s₁ [] 0 0 := Stand.of_body Bd
  have e0 : s₁.heap = h0 := by rw [← hh, Bd.state]; rfl
  have N0 := Fr.nil n0
  have pre0 : ∀ t, Steps p.tables e below (s₁.setTop (mkF m 0 #[.val (.ref a1), .val (.double x), .second, .unset, .unset] [])) t → Steps p.tables e below (s₁.setTop (entryFrame m #[(.ref a1), (.double x)] 5)) t := fun t k => castTop (ef2 m a1 x) k
  obtain ⟨T1, X1, e1, st1⟩ := getF X0 hx hZ hown (host := "") (Or.inl (hw _ (List.mem_of_getElem? (i := 15) rfl))) Via.refl e0 F_count (g := (mkF m 2 #[.val (.ref a1), .val (.double x), .second, .unset, .unset] [(.ref a1), (.ref a1)])) rfl rfl (hb hby d4_2)
  obtain ⟨T2, h2, X2, e2, W2, st2⟩ := putF X1 hx hZ hown (host := "") (Or.inl (hw _ (List.mem_of_getElem? (i := 15) rfl))) Via.refl e1 F_count E_a1 (Or.inl (hw _ (List.mem_of_getElem? (i := 16) rfl))) (hw _ (List.mem_of_getElem? (i := 2) rfl)) (ty := .long) (by decide) rfl rfl (g := (mkF m 7 #[.val (.ref a1), .val (.double x), .second, .unset, .unset] [(.long (n + (1 : Int64))), (.ref a1)])) rfl rfl (hb hby d4_7)
  have N3 := Fr.snoc X2 N0 g_a1
  have K3 : Keep h0 h2 [a1] := Keep.wr (Keep.refl h0 [a1]) W2 (Or.inl (List.mem_of_getElem? (i := 0) rfl))
  have Zc3 : n0 ≤ h2.size := by rw [Wr.size W2]; exact Z0
  have Fw2 : Fld Z h2 a1 "com/example/tidegate/tidegate/stats/RunningMoments" "count" "J" (.long (n + (1 : Int64))) := Fld.same W2 F_count
  have f4 : Fld Z h2 a1 "com/example/tidegate/tidegate/stats/RunningMoments" "mean" "D" (.double mu) := (Fld.other W2 F_mean (Or.inr (slot_ne (t := .double) (t' := .long) (Or.inl (hw _ (List.mem_of_getElem? (i := 25) rfl))) (Or.inl (hw _ (List.mem_of_getElem? (i := 16) rfl))) (by decide) (by decide) (by decide))))
  obtain ⟨T5, X5, e5, st5⟩ := getF X2 hx hZ hown (host := "") (Or.inl (hw _ (List.mem_of_getElem? (i := 24) rfl))) Via.refl e2 f4 (g := (mkF m 12 #[.val (.ref a1), .val (.double x), .second, .unset, .unset] [(.ref a1), (.double x)])) rfl rfl (hb hby d4_12)
  obtain ⟨T6, X6, e6, st6⟩ := getF X5 hx hZ hown (host := "") (Or.inl (hw _ (List.mem_of_getElem? (i := 24) rfl))) Via.refl e5 f4 (g := (mkF m 19 #[.val (.ref a1), .val (.double x), .second, .val (.double (FP.dsub x mu)), .second] [(.ref a1), (.ref a1)])) rfl rfl (hb hby d4_19)
  obtain ⟨T7, X7, e7, st7⟩ := getF X6 hx hZ hown (host := "") (Or.inl (hw _ (List.mem_of_getElem? (i := 15) rfl))) Via.refl e6 Fw2 (g := (mkF m 24 #[.val (.ref a1), .val (.double x), .second, .val (.double (FP.dsub x mu)), .second] [(.ref a1), (.double (FP.dsub x mu)), (.double mu), (.ref a1)])) rfl rfl (hb hby d4_24)
  have f8 : Exa Z h2 a1 "com/example/tidegate/tidegate/stats/RunningMoments" := (Exa.wr W2 E_a1)
  obtain ⟨T9, h9, X9, e9, W9, st9⟩ := putF X7 hx hZ hown (host := "") (Or.inl (hw _ (List.mem_of_getElem? (i := 24) rfl))) Via.refl e7 f4 f8 (Or.inl (hw _ (List.mem_of_getElem? (i := 25) rfl))) (hw _ (List.mem_of_getElem? (i := 2) rfl)) (ty := .double) (by decide) rfl rfl (g := (mkF m 30 #[.val (.ref a1), .val (.double x), .second, .val (.double (FP.dsub x mu)), .second] [(.double mu'), (.ref a1)])) rfl rfl (hb hby d4_30)
  have N10 := Fr.snoc X9 N3 g_a1
  have K10 : Keep h0 h9 [a1] := Keep.wr K3 W9 (Or.inl (List.mem_of_getElem? (i := 0) rfl))
  have Zc10 : n0 ≤ h9.size := by rw [Wr.size W9]; exact Zc3
  have Fw9 : Fld Z h9 a1 "com/example/tidegate/tidegate/stats/RunningMoments" "mean" "D" (.double mu') := Fld.same W9 f4
  have f11 : Fld Z h9 a1 "com/example/tidegate/tidegate/stats/RunningMoments" "squaredDeviations" "D" (.double sq) := (Fld.other W9 (Fld.other W2 F_squaredDeviations (Or.inr (slot_ne (t := .double) (t' := .long) (Or.inl (hw _ (List.mem_of_getElem? (i := 27) rfl))) (Or.inl (hw _ (List.mem_of_getElem? (i := 16) rfl))) (by decide) (by decide) (by decide)))) (Or.inr (slot_ne (t := .double) (t' := .double) (Or.inl (hw _ (List.mem_of_getElem? (i := 27) rfl))) (Or.inl (hw _ (List.mem_of_getElem? (i := 25) rfl))) (by decide) (by decide) (by decide))))
  obtain ⟨T12, X12, e12, st12⟩ := getF X9 hx hZ hown (host := "") (Or.inl (hw _ (List.mem_of_getElem? (i := 26) rfl))) Via.refl e9 f11 (g := (mkF m 35 #[.val (.ref a1), .val (.double x), .second, .val (.double (FP.dsub x mu)), .second] [(.ref a1), (.ref a1)])) rfl rfl (hb hby d4_35)
  obtain ⟨T13, X13, e13, st13⟩ := getF X12 hx hZ hown (host := "") (Or.inl (hw _ (List.mem_of_getElem? (i := 24) rfl))) Via.refl e12 Fw9 (g := (mkF m 41 #[.val (.ref a1), .val (.double x), .second, .val (.double (FP.dsub x mu)), .second] [(.ref a1), (.double x), (.double (FP.dsub x mu)), (.double sq), (.ref a1)])) rfl rfl (hb hby d4_41)
  have f14 : Exa Z h9 a1 "com/example/tidegate/tidegate/stats/RunningMoments" := (Exa.wr W9 f8)
  obtain ⟨T15, h15, X15, e15, W15, st15⟩ := putF X13 hx hZ hown (host := "") (Or.inl (hw _ (List.mem_of_getElem? (i := 26) rfl))) Via.refl e13 f11 f14 (Or.inl (hw _ (List.mem_of_getElem? (i := 27) rfl))) (hw _ (List.mem_of_getElem? (i := 2) rfl)) (ty := .double) (by decide) rfl rfl (g := (mkF m 47 #[.val (.ref a1), .val (.double x), .second, .val (.double (FP.dsub x mu)), .second] [(.double sq'), (.ref a1)])) rfl rfl (hb hby d4_47)
  have N16 := Fr.snoc X15 N10 g_a1
  have K16 : Keep h0 h15 [a1] := Keep.wr K10 W15 (Or.inl (List.mem_of_getElem? (i := 0) rfl))
  have Zc16 : n0 ≤ h15.size := by rw [Wr.size W15]; exact Zc10
  have Fw15 : Fld Z h15 a1 "com/example/tidegate/tidegate/stats/RunningMoments" "squaredDeviations" "D" (.double sq') := Fld.same W15 f11
  have f17 : Fld Z h15 a1 "com/example/tidegate/tidegate/stats/RunningMoments" "count" "J" (.long (n + (1 : Int64))) := (Fld.other W15 (Fld.other W9 Fw2 (Or.inr (slot_ne (t := .long) (t' := .double) (Or.inl (hw _ (List.mem_of_getElem? (i := 16) rfl))) (Or.inl (hw _ (List.mem_of_getElem? (i := 25) rfl))) (by decide) (by decide) (by decide)))) (Or.inr (slot_ne (t := .long) (t' := .double) (Or.inl (hw _ (List.mem_of_getElem? (i := 16) rfl))) (Or.inl (hw _ (List.mem_of_getElem? (i := 27) rfl))) (by decide) (by decide) (by decide))))
  have f18 : Fld Z h15 a1 "com/example/tidegate/tidegate/stats/RunningMoments" "mean" "D" (.double mu') := (Fld.other W15 Fw9 (Or.inr (slot_ne (t := .double) (t' := .double) (Or.inl (hw _ (List.mem_of_getElem? (i := 25) rfl))) (Or.inl (hw _ (List.mem_of_getElem? (i := 27) rfl))) (by decide) (by decide) (by decide))))
  obtain ⟨fs, hr, hrun, hended, hW, hsame⟩ := X15.leave (v := none) (fun _ => rfl)
  refine ⟨_, _, pre0 _ ?_, hrun, hended, _, _, rfl, ?_, ⟨_, rfl⟩, hW, hsame.mono (by decide) (by decide)⟩
  · show Steps p.tables e below (s₁.setTop (mkF m 0 #[.val (.ref a1), .val (.double x), .second, .unset, .unset] [])) _
    refine XS.aloadN X0.here hx rfl (hb hby d4_0) rfl rfl ?_
    show Steps p.tables e below (s₁.setTop (mkF m 1 #[.val (.ref a1), .val (.double x), .second, .unset, .unset] [(.ref a1)])) _
    refine XS.dup X0.here hx rfl (hb hby d4_1) rfl rfl ?_
    show Steps p.tables e below (s₁.setTop (mkF m 2 #[.val (.ref a1), .val (.double x), .second, .unset, .unset] [(.ref a1), (.ref a1)])) _
    refine st1 _ ?_
    show Steps p.tables e below (T1.setTop (mkF m 5 #[.val (.ref a1), .val (.double x), .second, .unset, .unset] [(.long n), (.ref a1)])) _
    refine XS.lconst X1.here hx rfl (hb hby d4_5) ?_
    show Steps p.tables e below (T1.setTop (mkF m 6 #[.val (.ref a1), .val (.double x), .second, .unset, .unset] [(.long (1 : Int64)), (.long n), (.ref a1)])) _
    refine XS.ladd X1.here hx rfl (hb hby d4_6) rfl ?_
    show Steps p.tables e below (T1.setTop (mkF m 7 #[.val (.ref a1), .val (.double x), .second, .unset, .unset] [(.long (n + (1 : Int64))), (.ref a1)])) _
    refine st2 _ ?_
    show Steps p.tables e below (T2.setTop (mkF m 10 #[.val (.ref a1), .val (.double x), .second, .unset, .unset] [])) _
    refine XS.dloadN X2.here hx rfl (hb hby d4_10) rfl ?_
    show Steps p.tables e below (T2.setTop (mkF m 11 #[.val (.ref a1), .val (.double x), .second, .unset, .unset] [(.double x)])) _
    refine XS.aloadN X2.here hx rfl (hb hby d4_11) rfl rfl ?_
    show Steps p.tables e below (T2.setTop (mkF m 12 #[.val (.ref a1), .val (.double x), .second, .unset, .unset] [(.ref a1), (.double x)])) _
    refine st5 _ ?_
    show Steps p.tables e below (T5.setTop (mkF m 15 #[.val (.ref a1), .val (.double x), .second, .unset, .unset] [(.double mu), (.double x)])) _
    refine XS.dsubS X5.here hx rfl (v := (FP.dsub x mu)) (hb hby d4_15) rfl ok.1 rfl ?_
    show Steps p.tables e below (T5.setTop (mkF m 16 #[.val (.ref a1), .val (.double x), .second, .unset, .unset] [(.double (FP.dsub x mu))])) _
    refine XS.dstoreN X5.here hx rfl (hb hby d4_16) rfl (l' := #[.val (.ref a1), .val (.double x), .second, .val (.double (FP.dsub x mu)), .second]) rfl ?_
    show Steps p.tables e below (T5.setTop (mkF m 17 #[.val (.ref a1), .val (.double x), .second, .val (.double (FP.dsub x mu)), .second] [])) _
    refine XS.aloadN X5.here hx rfl (hb hby d4_17) rfl rfl ?_
    show Steps p.tables e below (T5.setTop (mkF m 18 #[.val (.ref a1), .val (.double x), .second, .val (.double (FP.dsub x mu)), .second] [(.ref a1)])) _
    refine XS.dup X5.here hx rfl (hb hby d4_18) rfl rfl ?_
    show Steps p.tables e below (T5.setTop (mkF m 19 #[.val (.ref a1), .val (.double x), .second, .val (.double (FP.dsub x mu)), .second] [(.ref a1), (.ref a1)])) _
    refine st6 _ ?_
    show Steps p.tables e below (T6.setTop (mkF m 22 #[.val (.ref a1), .val (.double x), .second, .val (.double (FP.dsub x mu)), .second] [(.double mu), (.ref a1)])) _
    refine XS.dloadN X6.here hx rfl (hb hby d4_22) rfl ?_
    show Steps p.tables e below (T6.setTop (mkF m 23 #[.val (.ref a1), .val (.double x), .second, .val (.double (FP.dsub x mu)), .second] [(.double (FP.dsub x mu)), (.double mu), (.ref a1)])) _
    refine XS.aloadN X6.here hx rfl (hb hby d4_23) rfl rfl ?_
    show Steps p.tables e below (T6.setTop (mkF m 24 #[.val (.ref a1), .val (.double x), .second, .val (.double (FP.dsub x mu)), .second] [(.ref a1), (.double (FP.dsub x mu)), (.double mu), (.ref a1)])) _
    refine st7 _ ?_
    show Steps p.tables e below (T7.setTop (mkF m 27 #[.val (.ref a1), .val (.double x), .second, .val (.double (FP.dsub x mu)), .second] [(.long (n + (1 : Int64))), (.double (FP.dsub x mu)), (.double mu), (.ref a1)])) _
    refine XS.l2dS X7.here hx rfl (v := (FP.l2d (n + (1 : Int64)))) (hb hby d4_27) rfl rfl ?_
    show Steps p.tables e below (T7.setTop (mkF m 28 #[.val (.ref a1), .val (.double x), .second, .val (.double (FP.dsub x mu)), .second] [(.double (FP.l2d (n + (1 : Int64)))), (.double (FP.dsub x mu)), (.double mu), (.ref a1)])) _
    refine XS.ddivS X7.here hx rfl (v := (FP.ddiv (FP.dsub x mu) (FP.l2d (n + (1 : Int64))))) (hb hby d4_28) rfl ok.2.1 rfl ?_
    show Steps p.tables e below (T7.setTop (mkF m 29 #[.val (.ref a1), .val (.double x), .second, .val (.double (FP.dsub x mu)), .second] [(.double (FP.ddiv (FP.dsub x mu) (FP.l2d (n + (1 : Int64))))), (.double mu), (.ref a1)])) _
    refine XS.daddS X7.here hx rfl (v := mu') (hb hby d4_29) rfl ok.2.2.1 ok.2.2.2.1 ?_
    show Steps p.tables e below (T7.setTop (mkF m 30 #[.val (.ref a1), .val (.double x), .second, .val (.double (FP.dsub x mu)), .second] [(.double mu'), (.ref a1)])) _
    refine st9 _ ?_
    show Steps p.tables e below (T9.setTop (mkF m 33 #[.val (.ref a1), .val (.double x), .second, .val (.double (FP.dsub x mu)), .second] [])) _
    refine XS.aloadN X9.here hx rfl (hb hby d4_33) rfl rfl ?_
    show Steps p.tables e below (T9.setTop (mkF m 34 #[.val (.ref a1), .val (.double x), .second, .val (.double (FP.dsub x mu)), .second] [(.ref a1)])) _
    refine XS.dup X9.here hx rfl (hb hby d4_34) rfl rfl ?_
    show Steps p.tables e below (T9.setTop (mkF m 35 #[.val (.ref a1), .val (.double x), .second, .val (.double (FP.dsub x mu)), .second] [(.ref a1), (.ref a1)])) _
    refine st12 _ ?_
    show Steps p.tables e below (T12.setTop (mkF m 38 #[.val (.ref a1), .val (.double x), .second, .val (.double (FP.dsub x mu)), .second] [(.double sq), (.ref a1)])) _
    refine XS.dloadN X12.here hx rfl (hb hby d4_38) rfl ?_
    show Steps p.tables e below (T12.setTop (mkF m 39 #[.val (.ref a1), .val (.double x), .second, .val (.double (FP.dsub x mu)), .second] [(.double (FP.dsub x mu)), (.double sq), (.ref a1)])) _
    refine XS.dloadN X12.here hx rfl (hb hby d4_39) rfl ?_
    show Steps p.tables e below (T12.setTop (mkF m 40 #[.val (.ref a1), .val (.double x), .second, .val (.double (FP.dsub x mu)), .second] [(.double x), (.double (FP.dsub x mu)), (.double sq), (.ref a1)])) _
    refine XS.aloadN X12.here hx rfl (hb hby d4_40) rfl rfl ?_
    show Steps p.tables e below (T12.setTop (mkF m 41 #[.val (.ref a1), .val (.double x), .second, .val (.double (FP.dsub x mu)), .second] [(.ref a1), (.double x), (.double (FP.dsub x mu)), (.double sq), (.ref a1)])) _
    refine st13 _ ?_
    show Steps p.tables e below (T13.setTop (mkF m 44 #[.val (.ref a1), .val (.double x), .second, .val (.double (FP.dsub x mu)), .second] [(.double mu'), (.double x), (.double (FP.dsub x mu)), (.double sq), (.ref a1)])) _
    refine XS.dsubS X13.here hx rfl (v := (FP.dsub x mu')) (hb hby d4_44) rfl ok.2.2.2.2.1 rfl ?_
    show Steps p.tables e below (T13.setTop (mkF m 45 #[.val (.ref a1), .val (.double x), .second, .val (.double (FP.dsub x mu)), .second] [(.double (FP.dsub x mu')), (.double (FP.dsub x mu)), (.double sq), (.ref a1)])) _
    refine XS.dmulS X13.here hx rfl (v := (FP.dmul (FP.dsub x mu) (FP.dsub x mu'))) (hb hby d4_45) rfl ok.2.2.2.2.2.1 rfl ?_
    show Steps p.tables e below (T13.setTop (mkF m 46 #[.val (.ref a1), .val (.double x), .second, .val (.double (FP.dsub x mu)), .second] [(.double (FP.dmul (FP.dsub x mu) (FP.dsub x mu'))), (.double sq), (.ref a1)])) _
    refine XS.daddS X13.here hx rfl (v := sq') (hb hby d4_46) rfl ok.2.2.2.2.2.2.1 ok.2.2.2.2.2.2.2 ?_
    show Steps p.tables e below (T13.setTop (mkF m 47 #[.val (.ref a1), .val (.double x), .second, .val (.double (FP.dsub x mu)), .second] [(.double sq'), (.ref a1)])) _
    refine st15 _ ?_
    show Steps p.tables e below (T15.setTop (mkF m 50 #[.val (.ref a1), .val (.double x), .second, .val (.double (FP.dsub x mu)), .second] [])) _
    exact X15.returnOut hx Bd.returns (hb hby d4_50) hr
  · show QA Z a1 n mu' sq' h0 n0 _ T15.heap _
    rw [e15]
    exact ⟨rfl, N16, K16, f17, f18, Fw15⟩
def QV (r : UInt64) (h0 : Heap) (n0 : Nat) (v : Option Value) (h : Heap) (L : List Loc) : Prop := v = some (.double r) ∧ Fr n0 L ∧ h = h0
set_option maxRecDepth 65536 in
set_option maxHeartbeats 40000000 in
theorem rmVn (l : Launch) (Z : State) (a0 : Array Value) (hw : ∀ d ∈ tables_1, d.before a0 Z = true) (ws : List Jvm.Cond) (a1 : Addr) (n : Int64) (h0 : Heap) (n0 : Nat) (Z0 : n0 ≤ h0.size) (F_count : Fld Z h0 a1 "com/example/tidegate/tidegate/stats/RunningMoments" "count" "J" (.long n)) (hc : lcmpW n (2 : Int64) < 0) :
    MetFree l (⟨"com/example/tidegate/tidegate/stats/RunningMoments", "variance", "()D"⟩ : MethodName) (head1 (Jvm.Cond.code (⟨"com/example/tidegate/tidegate/stats/RunningMoments", "variance", "()D"⟩ : MethodName) prog_87_method_4_code 1 (some .double) :: ws) ({ frames := 0, cells := 0, slots := 0, locals := 0 } : Room)) (fun a U => a = #[(.ref a1)] ∧ Z.Warmed39 U.vm ∧ U.heap = h0) (fun _ _ _ _ _ => True) (fun _ U o U' => ∃ v L, o = .returned v ∧ QV 9221120237041090560 h0 n0 v U'.heap L ∧ FrameEnd U o U' L ({ frames := 0, cells := 0, slots := 0, locals := 0 } : Room).cells ({ frames := 0, cells := 0, slots := 0, locals := 0 } : Room).slots) := by
  refine MetFree.of_bodySF (plainFor_of_name pn1) hisR ?_
  intro p e s m args below meth c s₁ Bd hml0 hP hK
  obtain ⟨rfl, hZ, hh⟩ := hP
  have hx := Bd.exec
  have hby := Bd.bytes
  have hml : c.maxLocals = 1 := hml0
  have hown : s.vm.findClass "com/example/tidegate/tidegate/stats/RunningMoments" = some m.cls := findClass_of_methodNamed Bd.named
  have hnm := (name_of_methodNamed Bd.named Bd.method).1
  have X0 : Stand p l e ({ frames := 0, cells := 0, slots := 0, locals := 0 } : Room) s m #[(.ref a1)] below meth c s₁ [] 0 0 := Stand.of_body Bd
  have e0 : s₁.heap = h0 := by rw [← hh, Bd.state]; rfl
  have N0 := Fr.nil n0
  have pre0 : ∀ t, Steps p.tables e below (s₁.setTop (mkF m 0 #[.val (.ref a1)] [])) t → Steps p.tables e below (s₁.setTop (entryFrame m #[(.ref a1)] 1)) t := fun t k => castTop (ef1 m a1) k
  obtain ⟨T1, X1, e1, st1⟩ := getF X0 hx hZ hown (host := "") (Or.inl (hw _ (List.mem_of_getElem? (i := 15) rfl))) Via.refl e0 F_count (g := (mkF m 1 #[.val (.ref a1)] [(.ref a1)])) rfl rfl (hb hby d6_1)
  obtain ⟨fs, hr, hrun, hended, hW, hsame⟩ := X1.leave (v := some (.double (9221120237041090560 : UInt64))) (fun h => by rw [Bd.returns] at h; cases h)
  refine ⟨_, _, pre0 _ ?_, hrun, hended, _, _, rfl, ?_, ⟨_, rfl⟩, hW, hsame.mono (by decide) (by decide)⟩
  · show Steps p.tables e below (s₁.setTop (mkF m 0 #[.val (.ref a1)] [])) _
    refine XS.aloadN X0.here hx rfl (hb hby d6_0) rfl rfl ?_
    show Steps p.tables e below (s₁.setTop (mkF m 1 #[.val (.ref a1)] [(.ref a1)])) _
    refine st1 _ ?_
    show Steps p.tables e below (T1.setTop (mkF m 4 #[.val (.ref a1)] [(.long n)])) _
    refine X1.ldc2Long hx hown (mvT hZ (hw _ (List.mem_of_getElem? (i := 17) rfl))) (g := (mkF m 4 #[.val (.ref a1)] [(.long n)])) rfl (hb hby d6_4) _ ?_
    show Steps p.tables e below (T1.setTop (mkF m 7 #[.val (.ref a1)] [(.long (2 : Int64)), (.long n)])) _
    refine XS.lcmp X1.here hx rfl (hb hby d6_7) rfl ?_
    show Steps p.tables e below (T1.setTop (mkF m 8 #[.val (.ref a1)] [(.int (lcmpW n (2 : Int64)))])) _
    refine XS.ifNo X1.here hx rfl (hb hby d6_8) rfl ((if0 _ _).trans (tlt hc).2.1) ?_
    show Steps p.tables e below (T1.setTop (mkF m 11 #[.val (.ref a1)] [])) _
    refine X1.ldc2DoubleC hx hown (mvT hZ (hw _ (List.mem_of_getElem? (i := 18) rfl))) (g := (mkF m 11 #[.val (.ref a1)] [])) rfl (hb hby d6_11) _ ?_
    show Steps p.tables e below (T1.setTop (mkF m 14 #[.val (.ref a1)] [(.double (9221120237041090560 : UInt64))])) _
    refine XS.goto X1.here hx rfl (pc0 := 14) (pc' := 29) rfl (hb hby d6_14) (by decide) (by decide) ?_
    show Steps p.tables e below (T1.setTop (mkF m 29 #[.val (.ref a1)] [(.double (9221120237041090560 : UInt64))])) _
    exact retOut X1 hx Bd.returns rfl (Or.inr (Or.inr (Or.inl ⟨rfl, rfl, _, rfl⟩))) (hb hby d6_29) hr
  · show QV 9221120237041090560 h0 n0 _ T1.heap _
    rw [e1]
    exact ⟨rfl, N0, rfl⟩
set_option maxRecDepth 65536 in
set_option maxHeartbeats 40000000 in
theorem rmVd (l : Launch) (Z : State) (a0 : Array Value) (hw : ∀ d ∈ tables_1, d.before a0 Z = true) (ws : List Jvm.Cond) (a1 : Addr) (n : Int64) (sq r : UInt64) (h0 : Heap) (n0 : Nat) (Z0 : n0 ≤ h0.size) (F_count : Fld Z h0 a1 "com/example/tidegate/tidegate/stats/RunningMoments" "count" "J" (.long n)) (F_squaredDeviations : Fld Z h0 a1 "com/example/tidegate/tidegate/stats/RunningMoments" "squaredDeviations" "D" (.double sq)) (hc : ¬ (lcmpW n (2 : Int64) < 0)) (hn : NoNaN64 (FP.ddiv sq (FP.l2d (n - (1 : Int64))))) (hv : FP.ddiv sq (FP.l2d (n - (1 : Int64))) = r) :
    MetFree l (⟨"com/example/tidegate/tidegate/stats/RunningMoments", "variance", "()D"⟩ : MethodName) (head1 (Jvm.Cond.code (⟨"com/example/tidegate/tidegate/stats/RunningMoments", "variance", "()D"⟩ : MethodName) prog_87_method_4_code 1 (some .double) :: ws) ({ frames := 0, cells := 0, slots := 0, locals := 0 } : Room)) (fun a U => a = #[(.ref a1)] ∧ Z.Warmed39 U.vm ∧ U.heap = h0) (fun _ _ _ _ _ => True) (fun _ U o U' => ∃ v L, o = .returned v ∧ QV r h0 n0 v U'.heap L ∧ FrameEnd U o U' L ({ frames := 0, cells := 0, slots := 0, locals := 0 } : Room).cells ({ frames := 0, cells := 0, slots := 0, locals := 0 } : Room).slots) := by
  refine MetFree.of_bodySF (plainFor_of_name pn1) hisR ?_
  intro p e s m args below meth c s₁ Bd hml0 hP hK
  obtain ⟨rfl, hZ, hh⟩ := hP
  have hx := Bd.exec
  have hby := Bd.bytes
  have hml : c.maxLocals = 1 := hml0
  have hown : s.vm.findClass "com/example/tidegate/tidegate/stats/RunningMoments" = some m.cls := findClass_of_methodNamed Bd.named
  have hnm := (name_of_methodNamed Bd.named Bd.method).1
  have X0 : Stand p l e ({ frames := 0, cells := 0, slots := 0, locals := 0 } : Room) s m #[(.ref a1)] below meth c s₁ [] 0 0 := Stand.of_body Bd
  have e0 : s₁.heap = h0 := by rw [← hh, Bd.state]; rfl
  have N0 := Fr.nil n0
  have pre0 : ∀ t, Steps p.tables e below (s₁.setTop (mkF m 0 #[.val (.ref a1)] [])) t → Steps p.tables e below (s₁.setTop (entryFrame m #[(.ref a1)] 1)) t := fun t k => castTop (ef1 m a1) k
  obtain ⟨T1, X1, e1, st1⟩ := getF X0 hx hZ hown (host := "") (Or.inl (hw _ (List.mem_of_getElem? (i := 15) rfl))) Via.refl e0 F_count (g := (mkF m 1 #[.val (.ref a1)] [(.ref a1)])) rfl rfl (hb hby d6_1)
  obtain ⟨T2, X2, e2, st2⟩ := getF X1 hx hZ hown (host := "") (Or.inl (hw _ (List.mem_of_getElem? (i := 26) rfl))) Via.refl e1 F_squaredDeviations (g := (mkF m 18 #[.val (.ref a1)] [(.ref a1)])) rfl rfl (hb hby d6_18)
  obtain ⟨T3, X3, e3, st3⟩ := getF X2 hx hZ hown (host := "") (Or.inl (hw _ (List.mem_of_getElem? (i := 15) rfl))) Via.refl e2 F_count (g := (mkF m 22 #[.val (.ref a1)] [(.ref a1), (.double sq)])) rfl rfl (hb hby d6_22)
  obtain ⟨fs, hr, hrun, hended, hW, hsame⟩ := X3.leave (v := some (.double r)) (fun h => by rw [Bd.returns] at h; cases h)
  refine ⟨_, _, pre0 _ ?_, hrun, hended, _, _, rfl, ?_, ⟨_, rfl⟩, hW, hsame.mono (by decide) (by decide)⟩
  · show Steps p.tables e below (s₁.setTop (mkF m 0 #[.val (.ref a1)] [])) _
    refine XS.aloadN X0.here hx rfl (hb hby d6_0) rfl rfl ?_
    show Steps p.tables e below (s₁.setTop (mkF m 1 #[.val (.ref a1)] [(.ref a1)])) _
    refine st1 _ ?_
    show Steps p.tables e below (T1.setTop (mkF m 4 #[.val (.ref a1)] [(.long n)])) _
    refine X1.ldc2Long hx hown (mvT hZ (hw _ (List.mem_of_getElem? (i := 17) rfl))) (g := (mkF m 4 #[.val (.ref a1)] [(.long n)])) rfl (hb hby d6_4) _ ?_
    show Steps p.tables e below (T1.setTop (mkF m 7 #[.val (.ref a1)] [(.long (2 : Int64)), (.long n)])) _
    refine XS.lcmp X1.here hx rfl (hb hby d6_7) rfl ?_
    show Steps p.tables e below (T1.setTop (mkF m 8 #[.val (.ref a1)] [(.int (lcmpW n (2 : Int64)))])) _
    refine XS.ifYes X1.here hx rfl (pc0 := 8) (pc' := 17) rfl (hb hby d6_8) rfl ((if0 _ _).trans (flt hc).2.1) (by decide) (by decide) ?_
    show Steps p.tables e below (T1.setTop (mkF m 17 #[.val (.ref a1)] [])) _
    refine XS.aloadN X1.here hx rfl (hb hby d6_17) rfl rfl ?_
    show Steps p.tables e below (T1.setTop (mkF m 18 #[.val (.ref a1)] [(.ref a1)])) _
    refine st2 _ ?_
    show Steps p.tables e below (T2.setTop (mkF m 21 #[.val (.ref a1)] [(.double sq)])) _
    refine XS.aloadN X2.here hx rfl (hb hby d6_21) rfl rfl ?_
    show Steps p.tables e below (T2.setTop (mkF m 22 #[.val (.ref a1)] [(.ref a1), (.double sq)])) _
    refine st3 _ ?_
    show Steps p.tables e below (T3.setTop (mkF m 25 #[.val (.ref a1)] [(.long n), (.double sq)])) _
    refine XS.lconst X3.here hx rfl (hb hby d6_25) ?_
    show Steps p.tables e below (T3.setTop (mkF m 26 #[.val (.ref a1)] [(.long (1 : Int64)), (.long n), (.double sq)])) _
    refine XS.lsub X3.here hx rfl (hb hby d6_26) rfl ?_
    show Steps p.tables e below (T3.setTop (mkF m 27 #[.val (.ref a1)] [(.long (n - (1 : Int64))), (.double sq)])) _
    refine XS.l2dS X3.here hx rfl (v := (FP.l2d (n - (1 : Int64)))) (hb hby d6_27) rfl rfl ?_
    show Steps p.tables e below (T3.setTop (mkF m 28 #[.val (.ref a1)] [(.double (FP.l2d (n - (1 : Int64)))), (.double sq)])) _
    refine XS.ddivS X3.here hx rfl (v := r) (hb hby d6_28) rfl hn hv ?_
    show Steps p.tables e below (T3.setTop (mkF m 29 #[.val (.ref a1)] [(.double r)])) _
    exact retOut X3 hx Bd.returns rfl (Or.inr (Or.inr (Or.inl ⟨rfl, rfl, _, rfl⟩))) (hb hby d6_29) hr
  · show QV r h0 n0 _ T3.heap _
    rw [e3]
    exact ⟨rfl, N0, rfl⟩
def Q0 (n0 : Nat) (v : Option Value) (L : List Loc) : Prop := v = some (.int 1) ∧ Fr n0 L
set_option maxRecDepth 65536 in
set_option maxHeartbeats 40000000 in
theorem rm0_0 (l : Launch) (Z : State) (a0 : Array Value) (hw : ∀ d ∈ tables_1, d.before a0 Z = true) (ws : List Jvm.Cond) (p1 p2 p3 p4 : Int32) (h0 : Heap) (n0 : Nat) (Z0 : n0 ≤ h0.size) (hk : p1 &&& (3 : Int32) = (0 : Int32)) :
    MetFree l x (head1 (Jvm.Cond.code x code maxLocals ret :: ws) room_1) (fun a U => a = #[(.int p1), (.int p2), (.int p3), (.int p4)] ∧ Z.Warmed39 U.vm ∧ U.heap = h0) (fun _ _ _ _ _ => True) (fun _ U o U' => ∃ v L, o = .returned v ∧ Q0 n0 v L ∧ FrameEnd U o U' L 1 3) := by
  refine MetFree.of_bodySF (plainFor_of_name pn2) hisR ?_
  intro p e s m args below meth c s₁ Bd hml0 hP hK
  obtain ⟨rfl, hZ, hh⟩ := hP
  have hx := Bd.exec
  have hby := Bd.bytes
  have hml : c.maxLocals = 16 := hml0
  have hown : s.vm.findClass "com/example/tidegate/tidegate/stats/RunningMomentsVariancePinLaw" = some m.cls := findClass_of_methodNamed Bd.named
  have hnm := (name_of_methodNamed Bd.named Bd.method).1
  have X0 : Stand p l e room_1 s m #[(.int p1), (.int p2), (.int p3), (.int p4)] below meth c s₁ [] 0 0 := Stand.of_body Bd
  have e0 : s₁.heap = h0 := by rw [← hh, Bd.state]; rfl
  have N0 := Fr.nil n0
  have pre0 : ∀ t, Steps p.tables e below (s₁.setTop (mkF m 0 #[.val (.int p1), .val (.int p2), .val (.int p3), .val (.int p4), .unset, .unset, .unset, .unset, .unset, .unset, .unset, .unset, .unset, .unset, .unset, .unset] [])) t → Steps p.tables e below (s₁.setTop (entryFrame m #[(.int p1), (.int p2), (.int p3), (.int p4)] maxLocals)) t := fun t k => castTop (ef3 m p1 p2 p3 p4) k
  obtain ⟨T1, h1, X1, e1, E1, A1, D1, -, st1⟩ := newO X0 hx hZ hown (hw _ (List.mem_of_getElem? (i := 1) rfl)) (hw _ (List.mem_of_getElem? (i := 2) rfl)) (hw _ (List.mem_of_getElem? (i := 3) rfl)) e0 (g := (mkF m 26 #[.val (.int p1), .val (.int p2), .val (.int p3), .val (.int p4), .val (.int (p1 &&& (3 : Int32))), .val (.long (Int32.toInt64 (p2 % (1048576 : Int32)))), .second, .val (.long (Int32.toInt64 (p3 % (1048576 : Int32)))), .second, .val (.long (Int32.toInt64 (p4 % (1048576 : Int32)))), .second, .unset, .unset, .unset, .unset, .unset] [])) rfl (hb hby at_26) (by decide) (by decide)
  obtain ⟨b1, g1⟩ : ∃ z, z = h0.size := ⟨_, rfl⟩
  rw [← g1] at A1 D1 st1
  have g_b1 : n0 ≤ b1 := Nat.le_trans Z0 (Nat.le_of_eq g1.symm)
  have sz_b1 : h0.size ≤ b1 := Nat.le_trans (Keep.refl h0 []).1 (Nat.le_of_eq g1.symm)
  have K2 : Keep h0 h1 [] := Keep.ext (Keep.refl h0 []) E1
  have Zc2 : n0 ≤ h1.size := Nat.le_trans Z0 E1.1
  have F1_count : Fld Z h1 b1 "com/example/tidegate/tidegate/stats/RunningMoments" "count" "J" (.long (0 : Int64)) := D1 (Or.inl (hw _ (List.mem_of_getElem? (i := 16) rfl))) (ty := .long) (by decide)
  have F1_mean : Fld Z h1 b1 "com/example/tidegate/tidegate/stats/RunningMoments" "mean" "D" (.double 0) := D1 (Or.inl (hw _ (List.mem_of_getElem? (i := 25) rfl))) (ty := .double) (by decide)
  have F1_squaredDeviations : Fld Z h1 b1 "com/example/tidegate/tidegate/stats/RunningMoments" "squaredDeviations" "D" (.double 0) := D1 (Or.inl (hw _ (List.mem_of_getElem? (i := 27) rfl))) (ty := .double) (by decide)
  obtain ⟨_, _, ⟨T3, L3, k3, n3⟩, -, X3, ⟨Lc3, hQ3, l3, y3, z3⟩, st3⟩ := X1.specialBack hx (y := (⟨"com/example/tidegate/tidegate/stats/RunningMoments", "<init>", "()V"⟩ : MethodName)) rfl hown (mvT hZ (hw _ (List.mem_of_getElem? (i := 4) rfl))) (mvT hZ (hw _ (List.mem_of_getElem? (i := 5) rfl))) (mvT hZ (hw _ (List.mem_of_getElem? (i := 6) rfl))) (by decide) (backOf (W := 1) (rmI l Z a0 hw [] b1 h1 n0 Zc2) hZ (hw _ (List.mem_of_getElem? (i := 6) rfl)) (hw _ (List.mem_of_getElem? (i := 3) rfl)) (by decide) (by decide)) (g := (mkF m 30 #[.val (.int p1), .val (.int p2), .val (.int p3), .val (.int p4), .val (.int (p1 &&& (3 : Int32))), .val (.long (Int32.toInt64 (p2 % (1048576 : Int32)))), .second, .val (.long (Int32.toInt64 (p3 % (1048576 : Int32)))), .second, .val (.long (Int32.toInt64 (p4 % (1048576 : Int32)))), .second, .unset, .unset, .unset, .unset, .unset] [(.ref b1), (.ref b1)])) rfl (by rw [hml]; rfl) (Steps.refl _) (a := b1) (argsL := []) (rest := [(.ref b1)]) (lenOf pd1 rfl) rfl (by show 2 * 0 + _ ≤ _; exact Nat.le_of_eq rfl) (hb hby at_30) (fun _ _ => ⟨rfl, e1, (by decide : 1 + 0 ≤ _), (by decide : 3 + 0 ≤ _)⟩)
  dsimp only [Pt.U, Pt.locs, Pt.cells, Pt.slots] at X3 l3 y3 z3 st3 hQ3
  subst l3 y3 z3
  obtain ⟨rfl, Nc3, ec3⟩ := hQ3
  have N3 := Fr.app N0 Nc3
  obtain ⟨cq4, kq4, qa4, qb4, qc4⟩ := isOf hZ ec3 A1
  obtain ⟨_, _, ⟨T4, L4, k4, n4⟩, -, X4, ⟨Lc4, hQ4, l4, y4, z4⟩, st4⟩ := X3.virtualBack hx (y := (⟨"com/example/tidegate/tidegate/stats/RunningMoments", "variance", "()D"⟩ : MethodName)) (z := (⟨"com/example/tidegate/tidegate/stats/RunningMoments", "variance", "()D"⟩ : MethodName)) hown (mvT hZ (hw _ (List.mem_of_getElem? (i := 10) rfl))) (mvT hZ (hw _ (List.mem_of_getElem? (i := 11) rfl))) (notFace_of_selects (args := #[]) (mvT hZ (hw _ (List.mem_of_getElem? (i := 13) rfl)))) (mvT hZ (hw _ (List.mem_of_getElem? (i := 13) rfl))) (mvT hZ (hw _ (List.mem_of_getElem? (i := 12) rfl))) (by decide) (backOf (W := 0) (rmVn l Z a0 hw [] b1 (0 : Int64) h1 n0 Zc2 F1_count (by decide)) hZ (hw _ (List.mem_of_getElem? (i := 14) rfl)) (hw _ (List.mem_of_getElem? (i := 3) rfl)) (by decide) (by decide)) qa4 qc4 (g := (mkF m 93 #[.val (.int p1), .val (.int p2), .val (.int p3), .val (.int p4), .val (.int (p1 &&& (3 : Int32))), .val (.long (Int32.toInt64 (p2 % (1048576 : Int32)))), .second, .val (.long (Int32.toInt64 (p3 % (1048576 : Int32)))), .second, .val (.long (Int32.toInt64 (p4 % (1048576 : Int32)))), .second, .val (.ref b1), .unset, .unset, .unset, .unset] [(.ref b1)])) rfl (by rw [hml]; rfl) (Steps.refl _) (argsL := []) (rest := []) (lenOf pd2 rfl) rfl (by show 2 * 0 + _ ≤ _; exact Nat.le_of_eq rfl) (hb hby at_93) (fun _ _ => ⟨rfl, ec3, (by decide : 1 + 0 ≤ _), (by decide : 3 + 0 ≤ _)⟩)
  dsimp only [Pt.U, Pt.locs, Pt.cells, Pt.slots] at X4 l4 y4 z4 st4 hQ4
  subst l4 y4 z4
  obtain ⟨rfl, Nc4, ec4⟩ := hQ4
  have N4 := Fr.app N3 Nc4
  obtain ⟨fs, hr, hrun, hended, hW, hsame⟩ := X4.leave (v := some (.int (1 : Int32))) (fun h => by rw [Bd.returns] at h; cases h)
  refine ⟨_, _, pre0 _ ?_, hrun, hended, _, _, rfl, ?_, ⟨_, rfl⟩, hW, hsame.mono (by decide) (by decide)⟩
  · show Steps p.tables e below (s₁.setTop (mkF m 0 #[.val (.int p1), .val (.int p2), .val (.int p3), .val (.int p4), .unset, .unset, .unset, .unset, .unset, .unset, .unset, .unset, .unset, .unset, .unset, .unset] [])) _
    refine XS.iloadN X0.here hx rfl (hb hby at_0) rfl ?_
    show Steps p.tables e below (s₁.setTop (mkF m 1 #[.val (.int p1), .val (.int p2), .val (.int p3), .val (.int p4), .unset, .unset, .unset, .unset, .unset, .unset, .unset, .unset, .unset, .unset, .unset, .unset] [(.int p1)])) _
    refine XS.iconst X0.here hx rfl (hb hby at_1) ?_
    show Steps p.tables e below (s₁.setTop (mkF m 2 #[.val (.int p1), .val (.int p2), .val (.int p3), .val (.int p4), .unset, .unset, .unset, .unset, .unset, .unset, .unset, .unset, .unset, .unset, .unset, .unset] [(.int (3 : Int32)), (.int p1)])) _
    refine XS.iand X0.here hx rfl (hb hby at_2) rfl ?_
    show Steps p.tables e below (s₁.setTop (mkF m 3 #[.val (.int p1), .val (.int p2), .val (.int p3), .val (.int p4), .unset, .unset, .unset, .unset, .unset, .unset, .unset, .unset, .unset, .unset, .unset, .unset] [(.int (p1 &&& (3 : Int32)))])) _
    refine XS.istore X0.here hx rfl (hb hby at_3) rfl (l' := #[.val (.int p1), .val (.int p2), .val (.int p3), .val (.int p4), .val (.int (p1 &&& (3 : Int32))), .unset, .unset, .unset, .unset, .unset, .unset, .unset, .unset, .unset, .unset, .unset]) rfl ?_
    show Steps p.tables e below (s₁.setTop (mkF m 5 #[.val (.int p1), .val (.int p2), .val (.int p3), .val (.int p4), .val (.int (p1 &&& (3 : Int32))), .unset, .unset, .unset, .unset, .unset, .unset, .unset, .unset, .unset, .unset, .unset] [])) _
    refine XS.iloadN X0.here hx rfl (hb hby at_5) rfl ?_
    show Steps p.tables e below (s₁.setTop (mkF m 6 #[.val (.int p1), .val (.int p2), .val (.int p3), .val (.int p4), .val (.int (p1 &&& (3 : Int32))), .unset, .unset, .unset, .unset, .unset, .unset, .unset, .unset, .unset, .unset, .unset] [(.int p2)])) _
    refine X0.ldcInt hx hown (mvT hZ (hw _ (List.mem_of_getElem? (i := 0) rfl))) (g := (mkF m 6 #[.val (.int p1), .val (.int p2), .val (.int p3), .val (.int p4), .val (.int (p1 &&& (3 : Int32))), .unset, .unset, .unset, .unset, .unset, .unset, .unset, .unset, .unset, .unset, .unset] [(.int p2)])) rfl (hb hby at_6) _ ?_
    show Steps p.tables e below (s₁.setTop (mkF m 8 #[.val (.int p1), .val (.int p2), .val (.int p3), .val (.int p4), .val (.int (p1 &&& (3 : Int32))), .unset, .unset, .unset, .unset, .unset, .unset, .unset, .unset, .unset, .unset, .unset] [(.int (1048576 : Int32)), (.int p2)])) _
    refine iremM X0 hx rfl (hb hby at_8) rfl (by decide) ?_
    show Steps p.tables e below (s₁.setTop (mkF m 9 #[.val (.int p1), .val (.int p2), .val (.int p3), .val (.int p4), .val (.int (p1 &&& (3 : Int32))), .unset, .unset, .unset, .unset, .unset, .unset, .unset, .unset, .unset, .unset, .unset] [(.int (p2 % (1048576 : Int32)))])) _
    refine XS.i2l X0.here hx rfl (hb hby at_9) rfl ?_
    show Steps p.tables e below (s₁.setTop (mkF m 10 #[.val (.int p1), .val (.int p2), .val (.int p3), .val (.int p4), .val (.int (p1 &&& (3 : Int32))), .unset, .unset, .unset, .unset, .unset, .unset, .unset, .unset, .unset, .unset, .unset] [(.long (Int32.toInt64 (p2 % (1048576 : Int32))))])) _
    refine XS.lstore X0.here hx rfl (hb hby at_10) rfl (l' := #[.val (.int p1), .val (.int p2), .val (.int p3), .val (.int p4), .val (.int (p1 &&& (3 : Int32))), .val (.long (Int32.toInt64 (p2 % (1048576 : Int32)))), .second, .unset, .unset, .unset, .unset, .unset, .unset, .unset, .unset, .unset]) rfl ?_
    show Steps p.tables e below (s₁.setTop (mkF m 12 #[.val (.int p1), .val (.int p2), .val (.int p3), .val (.int p4), .val (.int (p1 &&& (3 : Int32))), .val (.long (Int32.toInt64 (p2 % (1048576 : Int32)))), .second, .unset, .unset, .unset, .unset, .unset, .unset, .unset, .unset, .unset] [])) _
    refine XS.iloadN X0.here hx rfl (hb hby at_12) rfl ?_
    show Steps p.tables e below (s₁.setTop (mkF m 13 #[.val (.int p1), .val (.int p2), .val (.int p3), .val (.int p4), .val (.int (p1 &&& (3 : Int32))), .val (.long (Int32.toInt64 (p2 % (1048576 : Int32)))), .second, .unset, .unset, .unset, .unset, .unset, .unset, .unset, .unset, .unset] [(.int p3)])) _
    refine X0.ldcInt hx hown (mvT hZ (hw _ (List.mem_of_getElem? (i := 0) rfl))) (g := (mkF m 13 #[.val (.int p1), .val (.int p2), .val (.int p3), .val (.int p4), .val (.int (p1 &&& (3 : Int32))), .val (.long (Int32.toInt64 (p2 % (1048576 : Int32)))), .second, .unset, .unset, .unset, .unset, .unset, .unset, .unset, .unset, .unset] [(.int p3)])) rfl (hb hby at_13) _ ?_
    show Steps p.tables e below (s₁.setTop (mkF m 15 #[.val (.int p1), .val (.int p2), .val (.int p3), .val (.int p4), .val (.int (p1 &&& (3 : Int32))), .val (.long (Int32.toInt64 (p2 % (1048576 : Int32)))), .second, .unset, .unset, .unset, .unset, .unset, .unset, .unset, .unset, .unset] [(.int (1048576 : Int32)), (.int p3)])) _
    refine iremM X0 hx rfl (hb hby at_15) rfl (by decide) ?_
    show Steps p.tables e below (s₁.setTop (mkF m 16 #[.val (.int p1), .val (.int p2), .val (.int p3), .val (.int p4), .val (.int (p1 &&& (3 : Int32))), .val (.long (Int32.toInt64 (p2 % (1048576 : Int32)))), .second, .unset, .unset, .unset, .unset, .unset, .unset, .unset, .unset, .unset] [(.int (p3 % (1048576 : Int32)))])) _
    refine XS.i2l X0.here hx rfl (hb hby at_16) rfl ?_
    show Steps p.tables e below (s₁.setTop (mkF m 17 #[.val (.int p1), .val (.int p2), .val (.int p3), .val (.int p4), .val (.int (p1 &&& (3 : Int32))), .val (.long (Int32.toInt64 (p2 % (1048576 : Int32)))), .second, .unset, .unset, .unset, .unset, .unset, .unset, .unset, .unset, .unset] [(.long (Int32.toInt64 (p3 % (1048576 : Int32))))])) _
    refine XS.lstore X0.here hx rfl (hb hby at_17) rfl (l' := #[.val (.int p1), .val (.int p2), .val (.int p3), .val (.int p4), .val (.int (p1 &&& (3 : Int32))), .val (.long (Int32.toInt64 (p2 % (1048576 : Int32)))), .second, .val (.long (Int32.toInt64 (p3 % (1048576 : Int32)))), .second, .unset, .unset, .unset, .unset, .unset, .unset, .unset]) rfl ?_
    show Steps p.tables e below (s₁.setTop (mkF m 19 #[.val (.int p1), .val (.int p2), .val (.int p3), .val (.int p4), .val (.int (p1 &&& (3 : Int32))), .val (.long (Int32.toInt64 (p2 % (1048576 : Int32)))), .second, .val (.long (Int32.toInt64 (p3 % (1048576 : Int32)))), .second, .unset, .unset, .unset, .unset, .unset, .unset, .unset] [])) _
    refine XS.iloadN X0.here hx rfl (hb hby at_19) rfl ?_
    show Steps p.tables e below (s₁.setTop (mkF m 20 #[.val (.int p1), .val (.int p2), .val (.int p3), .val (.int p4), .val (.int (p1 &&& (3 : Int32))), .val (.long (Int32.toInt64 (p2 % (1048576 : Int32)))), .second, .val (.long (Int32.toInt64 (p3 % (1048576 : Int32)))), .second, .unset, .unset, .unset, .unset, .unset, .unset, .unset] [(.int p4)])) _
    refine X0.ldcInt hx hown (mvT hZ (hw _ (List.mem_of_getElem? (i := 0) rfl))) (g := (mkF m 20 #[.val (.int p1), .val (.int p2), .val (.int p3), .val (.int p4), .val (.int (p1 &&& (3 : Int32))), .val (.long (Int32.toInt64 (p2 % (1048576 : Int32)))), .second, .val (.long (Int32.toInt64 (p3 % (1048576 : Int32)))), .second, .unset, .unset, .unset, .unset, .unset, .unset, .unset] [(.int p4)])) rfl (hb hby at_20) _ ?_
    show Steps p.tables e below (s₁.setTop (mkF m 22 #[.val (.int p1), .val (.int p2), .val (.int p3), .val (.int p4), .val (.int (p1 &&& (3 : Int32))), .val (.long (Int32.toInt64 (p2 % (1048576 : Int32)))), .second, .val (.long (Int32.toInt64 (p3 % (1048576 : Int32)))), .second, .unset, .unset, .unset, .unset, .unset, .unset, .unset] [(.int (1048576 : Int32)), (.int p4)])) _
    refine iremM X0 hx rfl (hb hby at_22) rfl (by decide) ?_
    show Steps p.tables e below (s₁.setTop (mkF m 23 #[.val (.int p1), .val (.int p2), .val (.int p3), .val (.int p4), .val (.int (p1 &&& (3 : Int32))), .val (.long (Int32.toInt64 (p2 % (1048576 : Int32)))), .second, .val (.long (Int32.toInt64 (p3 % (1048576 : Int32)))), .second, .unset, .unset, .unset, .unset, .unset, .unset, .unset] [(.int (p4 % (1048576 : Int32)))])) _
    refine XS.i2l X0.here hx rfl (hb hby at_23) rfl ?_
    show Steps p.tables e below (s₁.setTop (mkF m 24 #[.val (.int p1), .val (.int p2), .val (.int p3), .val (.int p4), .val (.int (p1 &&& (3 : Int32))), .val (.long (Int32.toInt64 (p2 % (1048576 : Int32)))), .second, .val (.long (Int32.toInt64 (p3 % (1048576 : Int32)))), .second, .unset, .unset, .unset, .unset, .unset, .unset, .unset] [(.long (Int32.toInt64 (p4 % (1048576 : Int32))))])) _
    refine XS.lstore X0.here hx rfl (hb hby at_24) rfl (l' := #[.val (.int p1), .val (.int p2), .val (.int p3), .val (.int p4), .val (.int (p1 &&& (3 : Int32))), .val (.long (Int32.toInt64 (p2 % (1048576 : Int32)))), .second, .val (.long (Int32.toInt64 (p3 % (1048576 : Int32)))), .second, .val (.long (Int32.toInt64 (p4 % (1048576 : Int32)))), .second, .unset, .unset, .unset, .unset, .unset]) rfl ?_
    show Steps p.tables e below (s₁.setTop (mkF m 26 #[.val (.int p1), .val (.int p2), .val (.int p3), .val (.int p4), .val (.int (p1 &&& (3 : Int32))), .val (.long (Int32.toInt64 (p2 % (1048576 : Int32)))), .second, .val (.long (Int32.toInt64 (p3 % (1048576 : Int32)))), .second, .val (.long (Int32.toInt64 (p4 % (1048576 : Int32)))), .second, .unset, .unset, .unset, .unset, .unset] [])) _
    refine st1 _ ?_
    show Steps p.tables e below (T1.setTop (mkF m 29 #[.val (.int p1), .val (.int p2), .val (.int p3), .val (.int p4), .val (.int (p1 &&& (3 : Int32))), .val (.long (Int32.toInt64 (p2 % (1048576 : Int32)))), .second, .val (.long (Int32.toInt64 (p3 % (1048576 : Int32)))), .second, .val (.long (Int32.toInt64 (p4 % (1048576 : Int32)))), .second, .unset, .unset, .unset, .unset, .unset] [(.ref b1)])) _
    refine XS.dup X1.here hx rfl (hb hby at_29) rfl rfl ?_
    show Steps p.tables e below (T1.setTop (mkF m 30 #[.val (.int p1), .val (.int p2), .val (.int p3), .val (.int p4), .val (.int (p1 &&& (3 : Int32))), .val (.long (Int32.toInt64 (p2 % (1048576 : Int32)))), .second, .val (.long (Int32.toInt64 (p3 % (1048576 : Int32)))), .second, .val (.long (Int32.toInt64 (p4 % (1048576 : Int32)))), .second, .unset, .unset, .unset, .unset, .unset] [(.ref b1), (.ref b1)])) _
    refine st3.trans ?_
    show Steps p.tables e below (T3.setTop (mkF m 33 #[.val (.int p1), .val (.int p2), .val (.int p3), .val (.int p4), .val (.int (p1 &&& (3 : Int32))), .val (.long (Int32.toInt64 (p2 % (1048576 : Int32)))), .second, .val (.long (Int32.toInt64 (p3 % (1048576 : Int32)))), .second, .val (.long (Int32.toInt64 (p4 % (1048576 : Int32)))), .second, .unset, .unset, .unset, .unset, .unset] [(.ref b1)])) _
    refine XS.astore X3.here hx rfl (hb hby at_33) rfl rfl (l' := #[.val (.int p1), .val (.int p2), .val (.int p3), .val (.int p4), .val (.int (p1 &&& (3 : Int32))), .val (.long (Int32.toInt64 (p2 % (1048576 : Int32)))), .second, .val (.long (Int32.toInt64 (p3 % (1048576 : Int32)))), .second, .val (.long (Int32.toInt64 (p4 % (1048576 : Int32)))), .second, .val (.ref b1), .unset, .unset, .unset, .unset]) rfl ?_
    show Steps p.tables e below (T3.setTop (mkF m 35 #[.val (.int p1), .val (.int p2), .val (.int p3), .val (.int p4), .val (.int (p1 &&& (3 : Int32))), .val (.long (Int32.toInt64 (p2 % (1048576 : Int32)))), .second, .val (.long (Int32.toInt64 (p3 % (1048576 : Int32)))), .second, .val (.long (Int32.toInt64 (p4 % (1048576 : Int32)))), .second, .val (.ref b1), .unset, .unset, .unset, .unset] [])) _
    refine XS.iload X3.here hx rfl (hb hby at_35) rfl ?_
    show Steps p.tables e below (T3.setTop (mkF m 37 #[.val (.int p1), .val (.int p2), .val (.int p3), .val (.int p4), .val (.int (p1 &&& (3 : Int32))), .val (.long (Int32.toInt64 (p2 % (1048576 : Int32)))), .second, .val (.long (Int32.toInt64 (p3 % (1048576 : Int32)))), .second, .val (.long (Int32.toInt64 (p4 % (1048576 : Int32)))), .second, .val (.ref b1), .unset, .unset, .unset, .unset] [(.int (p1 &&& (3 : Int32)))])) _
    refine XS.iconst X3.here hx rfl (hb hby at_37) ?_
    show Steps p.tables e below (T3.setTop (mkF m 38 #[.val (.int p1), .val (.int p2), .val (.int p3), .val (.int p4), .val (.int (p1 &&& (3 : Int32))), .val (.long (Int32.toInt64 (p2 % (1048576 : Int32)))), .second, .val (.long (Int32.toInt64 (p3 % (1048576 : Int32)))), .second, .val (.long (Int32.toInt64 (p4 % (1048576 : Int32)))), .second, .val (.ref b1), .unset, .unset, .unset, .unset] [(.int (1 : Int32)), (.int (p1 &&& (3 : Int32)))])) _
    refine XS.icmpYes X3.here hx rfl (pc0 := 38) (pc' := 49) rfl (hb hby at_38) rfl (tlt (by rw [hk]; decide)).1 (by decide) (by decide) ?_
    show Steps p.tables e below (T3.setTop (mkF m 49 #[.val (.int p1), .val (.int p2), .val (.int p3), .val (.int p4), .val (.int (p1 &&& (3 : Int32))), .val (.long (Int32.toInt64 (p2 % (1048576 : Int32)))), .second, .val (.long (Int32.toInt64 (p3 % (1048576 : Int32)))), .second, .val (.long (Int32.toInt64 (p4 % (1048576 : Int32)))), .second, .val (.ref b1), .unset, .unset, .unset, .unset] [])) _
    refine XS.iload X3.here hx rfl (hb hby at_49) rfl ?_
    show Steps p.tables e below (T3.setTop (mkF m 51 #[.val (.int p1), .val (.int p2), .val (.int p3), .val (.int p4), .val (.int (p1 &&& (3 : Int32))), .val (.long (Int32.toInt64 (p2 % (1048576 : Int32)))), .second, .val (.long (Int32.toInt64 (p3 % (1048576 : Int32)))), .second, .val (.long (Int32.toInt64 (p4 % (1048576 : Int32)))), .second, .val (.ref b1), .unset, .unset, .unset, .unset] [(.int (p1 &&& (3 : Int32)))])) _
    refine XS.iconst X3.here hx rfl (hb hby at_51) ?_
    show Steps p.tables e below (T3.setTop (mkF m 52 #[.val (.int p1), .val (.int p2), .val (.int p3), .val (.int p4), .val (.int (p1 &&& (3 : Int32))), .val (.long (Int32.toInt64 (p2 % (1048576 : Int32)))), .second, .val (.long (Int32.toInt64 (p3 % (1048576 : Int32)))), .second, .val (.long (Int32.toInt64 (p4 % (1048576 : Int32)))), .second, .val (.ref b1), .unset, .unset, .unset, .unset] [(.int (2 : Int32)), (.int (p1 &&& (3 : Int32)))])) _
    refine XS.icmpYes X3.here hx rfl (pc0 := 52) (pc' := 63) rfl (hb hby at_52) rfl (tlt (by rw [hk]; decide)).1 (by decide) (by decide) ?_
    show Steps p.tables e below (T3.setTop (mkF m 63 #[.val (.int p1), .val (.int p2), .val (.int p3), .val (.int p4), .val (.int (p1 &&& (3 : Int32))), .val (.long (Int32.toInt64 (p2 % (1048576 : Int32)))), .second, .val (.long (Int32.toInt64 (p3 % (1048576 : Int32)))), .second, .val (.long (Int32.toInt64 (p4 % (1048576 : Int32)))), .second, .val (.ref b1), .unset, .unset, .unset, .unset] [])) _
    refine XS.iload X3.here hx rfl (hb hby at_63) rfl ?_
    show Steps p.tables e below (T3.setTop (mkF m 65 #[.val (.int p1), .val (.int p2), .val (.int p3), .val (.int p4), .val (.int (p1 &&& (3 : Int32))), .val (.long (Int32.toInt64 (p2 % (1048576 : Int32)))), .second, .val (.long (Int32.toInt64 (p3 % (1048576 : Int32)))), .second, .val (.long (Int32.toInt64 (p4 % (1048576 : Int32)))), .second, .val (.ref b1), .unset, .unset, .unset, .unset] [(.int (p1 &&& (3 : Int32)))])) _
    refine XS.iconst X3.here hx rfl (hb hby at_65) ?_
    show Steps p.tables e below (T3.setTop (mkF m 66 #[.val (.int p1), .val (.int p2), .val (.int p3), .val (.int p4), .val (.int (p1 &&& (3 : Int32))), .val (.long (Int32.toInt64 (p2 % (1048576 : Int32)))), .second, .val (.long (Int32.toInt64 (p3 % (1048576 : Int32)))), .second, .val (.long (Int32.toInt64 (p4 % (1048576 : Int32)))), .second, .val (.ref b1), .unset, .unset, .unset, .unset] [(.int (3 : Int32)), (.int (p1 &&& (3 : Int32)))])) _
    refine XS.icmpYes X3.here hx rfl (pc0 := 66) (pc' := 91) rfl (hb hby at_66) rfl (tlt (by rw [hk]; decide)).1 (by decide) (by decide) ?_
    show Steps p.tables e below (T3.setTop (mkF m 91 #[.val (.int p1), .val (.int p2), .val (.int p3), .val (.int p4), .val (.int (p1 &&& (3 : Int32))), .val (.long (Int32.toInt64 (p2 % (1048576 : Int32)))), .second, .val (.long (Int32.toInt64 (p3 % (1048576 : Int32)))), .second, .val (.long (Int32.toInt64 (p4 % (1048576 : Int32)))), .second, .val (.ref b1), .unset, .unset, .unset, .unset] [])) _
    refine XS.aload X3.here hx rfl (hb hby at_91) rfl rfl ?_
    show Steps p.tables e below (T3.setTop (mkF m 93 #[.val (.int p1), .val (.int p2), .val (.int p3), .val (.int p4), .val (.int (p1 &&& (3 : Int32))), .val (.long (Int32.toInt64 (p2 % (1048576 : Int32)))), .second, .val (.long (Int32.toInt64 (p3 % (1048576 : Int32)))), .second, .val (.long (Int32.toInt64 (p4 % (1048576 : Int32)))), .second, .val (.ref b1), .unset, .unset, .unset, .unset] [(.ref b1)])) _
    refine st4.trans ?_
    show Steps p.tables e below (T4.setTop (mkF m 96 #[.val (.int p1), .val (.int p2), .val (.int p3), .val (.int p4), .val (.int (p1 &&& (3 : Int32))), .val (.long (Int32.toInt64 (p2 % (1048576 : Int32)))), .second, .val (.long (Int32.toInt64 (p3 % (1048576 : Int32)))), .second, .val (.long (Int32.toInt64 (p4 % (1048576 : Int32)))), .second, .val (.ref b1), .unset, .unset, .unset, .unset] [(.double (9221120237041090560 : UInt64))])) _
    refine XS.dstore X4.here hx rfl (hb hby at_96) rfl (l' := #[.val (.int p1), .val (.int p2), .val (.int p3), .val (.int p4), .val (.int (p1 &&& (3 : Int32))), .val (.long (Int32.toInt64 (p2 % (1048576 : Int32)))), .second, .val (.long (Int32.toInt64 (p3 % (1048576 : Int32)))), .second, .val (.long (Int32.toInt64 (p4 % (1048576 : Int32)))), .second, .val (.ref b1), .val (.double (9221120237041090560 : UInt64)), .second, .unset, .unset]) rfl ?_
    show Steps p.tables e below (T4.setTop (mkF m 98 #[.val (.int p1), .val (.int p2), .val (.int p3), .val (.int p4), .val (.int (p1 &&& (3 : Int32))), .val (.long (Int32.toInt64 (p2 % (1048576 : Int32)))), .second, .val (.long (Int32.toInt64 (p3 % (1048576 : Int32)))), .second, .val (.long (Int32.toInt64 (p4 % (1048576 : Int32)))), .second, .val (.ref b1), .val (.double (9221120237041090560 : UInt64)), .second, .unset, .unset] [])) _
    refine XS.iload X4.here hx rfl (hb hby at_98) rfl ?_
    show Steps p.tables e below (T4.setTop (mkF m 100 #[.val (.int p1), .val (.int p2), .val (.int p3), .val (.int p4), .val (.int (p1 &&& (3 : Int32))), .val (.long (Int32.toInt64 (p2 % (1048576 : Int32)))), .second, .val (.long (Int32.toInt64 (p3 % (1048576 : Int32)))), .second, .val (.long (Int32.toInt64 (p4 % (1048576 : Int32)))), .second, .val (.ref b1), .val (.double (9221120237041090560 : UInt64)), .second, .unset, .unset] [(.int (p1 &&& (3 : Int32)))])) _
    refine XS.iconst X4.here hx rfl (hb hby at_100) ?_
    show Steps p.tables e below (T4.setTop (mkF m 101 #[.val (.int p1), .val (.int p2), .val (.int p3), .val (.int p4), .val (.int (p1 &&& (3 : Int32))), .val (.long (Int32.toInt64 (p2 % (1048576 : Int32)))), .second, .val (.long (Int32.toInt64 (p3 % (1048576 : Int32)))), .second, .val (.long (Int32.toInt64 (p4 % (1048576 : Int32)))), .second, .val (.ref b1), .val (.double (9221120237041090560 : UInt64)), .second, .unset, .unset] [(.int (2 : Int32)), (.int (p1 &&& (3 : Int32)))])) _
    refine XS.icmpNo X4.here hx rfl (hb hby at_101) rfl (tlt (by rw [hk]; decide)).2.1 ?_
    show Steps p.tables e below (T4.setTop (mkF m 104 #[.val (.int p1), .val (.int p2), .val (.int p3), .val (.int p4), .val (.int (p1 &&& (3 : Int32))), .val (.long (Int32.toInt64 (p2 % (1048576 : Int32)))), .second, .val (.long (Int32.toInt64 (p3 % (1048576 : Int32)))), .second, .val (.long (Int32.toInt64 (p4 % (1048576 : Int32)))), .second, .val (.ref b1), .val (.double (9221120237041090560 : UInt64)), .second, .unset, .unset] [])) _
    refine XS.dload X4.here hx rfl (hb hby at_104) rfl ?_
    show Steps p.tables e below (T4.setTop (mkF m 106 #[.val (.int p1), .val (.int p2), .val (.int p3), .val (.int p4), .val (.int (p1 &&& (3 : Int32))), .val (.long (Int32.toInt64 (p2 % (1048576 : Int32)))), .second, .val (.long (Int32.toInt64 (p3 % (1048576 : Int32)))), .second, .val (.long (Int32.toInt64 (p4 % (1048576 : Int32)))), .second, .val (.ref b1), .val (.double (9221120237041090560 : UInt64)), .second, .unset, .unset] [(.double (9221120237041090560 : UInt64))])) _
    refine XS.dload X4.here hx rfl (hb hby at_106) rfl ?_
    show Steps p.tables e below (T4.setTop (mkF m 108 #[.val (.int p1), .val (.int p2), .val (.int p3), .val (.int p4), .val (.int (p1 &&& (3 : Int32))), .val (.long (Int32.toInt64 (p2 % (1048576 : Int32)))), .second, .val (.long (Int32.toInt64 (p3 % (1048576 : Int32)))), .second, .val (.long (Int32.toInt64 (p4 % (1048576 : Int32)))), .second, .val (.ref b1), .val (.double (9221120237041090560 : UInt64)), .second, .unset, .unset] [(.double (9221120237041090560 : UInt64)), (.double (9221120237041090560 : UInt64))])) _
    refine XS.dcmpS X4.here hx rfl (v := (-1 : Int32)) (hb hby at_108) rfl (by decide +kernel) ?_
    show Steps p.tables e below (T4.setTop (mkF m 109 #[.val (.int p1), .val (.int p2), .val (.int p3), .val (.int p4), .val (.int (p1 &&& (3 : Int32))), .val (.long (Int32.toInt64 (p2 % (1048576 : Int32)))), .second, .val (.long (Int32.toInt64 (p3 % (1048576 : Int32)))), .second, .val (.long (Int32.toInt64 (p4 % (1048576 : Int32)))), .second, .val (.ref b1), .val (.double (9221120237041090560 : UInt64)), .second, .unset, .unset] [(.int (-1 : Int32))])) _
    refine XS.ifNo X4.here hx rfl (hb hby at_109) rfl ((if0 _ _).trans (feq (by decide)).1) ?_
    show Steps p.tables e below (T4.setTop (mkF m 112 #[.val (.int p1), .val (.int p2), .val (.int p3), .val (.int p4), .val (.int (p1 &&& (3 : Int32))), .val (.long (Int32.toInt64 (p2 % (1048576 : Int32)))), .second, .val (.long (Int32.toInt64 (p3 % (1048576 : Int32)))), .second, .val (.long (Int32.toInt64 (p4 % (1048576 : Int32)))), .second, .val (.ref b1), .val (.double (9221120237041090560 : UInt64)), .second, .unset, .unset] [])) _
    refine XS.iconst X4.here hx rfl (hb hby at_112) ?_
    show Steps p.tables e below (T4.setTop (mkF m 113 #[.val (.int p1), .val (.int p2), .val (.int p3), .val (.int p4), .val (.int (p1 &&& (3 : Int32))), .val (.long (Int32.toInt64 (p2 % (1048576 : Int32)))), .second, .val (.long (Int32.toInt64 (p3 % (1048576 : Int32)))), .second, .val (.long (Int32.toInt64 (p4 % (1048576 : Int32)))), .second, .val (.ref b1), .val (.double (9221120237041090560 : UInt64)), .second, .unset, .unset] [(.int (1 : Int32))])) _
    refine XS.goto X4.here hx rfl (pc0 := 113) (pc' := 117) rfl (hb hby at_113) (by decide) (by decide) ?_
    show Steps p.tables e below (T4.setTop (mkF m 117 #[.val (.int p1), .val (.int p2), .val (.int p3), .val (.int p4), .val (.int (p1 &&& (3 : Int32))), .val (.long (Int32.toInt64 (p2 % (1048576 : Int32)))), .second, .val (.long (Int32.toInt64 (p3 % (1048576 : Int32)))), .second, .val (.long (Int32.toInt64 (p4 % (1048576 : Int32)))), .second, .val (.ref b1), .val (.double (9221120237041090560 : UInt64)), .second, .unset, .unset] [(.int (1 : Int32))])) _
    exact retN X4 hx (t := .boolean) Bd.returns (by simp) (hb hby at_117) hr
  · show Q0 n0 _ _
    exact ⟨rfl, N4⟩
set_option maxRecDepth 65536 in
set_option maxHeartbeats 40000000 in
theorem rm0_1 (l : Launch) (Z : State) (a0 : Array Value) (hw : ∀ d ∈ tables_1, d.before a0 Z = true) (ws : List Jvm.Cond) (p1 p2 p3 p4 : Int32) (m1 s1 : UInt64) (h0 : Heap) (n0 : Nat) (Z0 : n0 ≤ h0.size) (hk : p1 &&& (3 : Int32) = (1 : Int32)) (ok1 : own_okAdd (0 : Int64) 0 0 (FP.l2d (Int32.toInt64 (p2 % (1048576 : Int32)))) m1 s1) :
    MetFree l x (head1 (Jvm.Cond.code x code maxLocals ret :: ws) room_1) (fun a U => a = #[(.int p1), (.int p2), (.int p3), (.int p4)] ∧ Z.Warmed39 U.vm ∧ U.heap = h0) (fun _ _ _ _ _ => True) (fun _ U o U' => ∃ v L, o = .returned v ∧ Q0 n0 v L ∧ FrameEnd U o U' L 1 3) := by
  refine MetFree.of_bodySF (plainFor_of_name pn2) hisR ?_
  intro p e s m args below meth c s₁ Bd hml0 hP hK
  obtain ⟨rfl, hZ, hh⟩ := hP
  have hx := Bd.exec
  have hby := Bd.bytes
  have hml : c.maxLocals = 16 := hml0
  have hown : s.vm.findClass "com/example/tidegate/tidegate/stats/RunningMomentsVariancePinLaw" = some m.cls := findClass_of_methodNamed Bd.named
  have hnm := (name_of_methodNamed Bd.named Bd.method).1
  have X0 : Stand p l e room_1 s m #[(.int p1), (.int p2), (.int p3), (.int p4)] below meth c s₁ [] 0 0 := Stand.of_body Bd
  have e0 : s₁.heap = h0 := by rw [← hh, Bd.state]; rfl
  have N0 := Fr.nil n0
  have pre0 : ∀ t, Steps p.tables e below (s₁.setTop (mkF m 0 #[.val (.int p1), .val (.int p2), .val (.int p3), .val (.int p4), .unset, .unset, .unset, .unset, .unset, .unset, .unset, .unset, .unset, .unset, .unset, .unset] [])) t → Steps p.tables e below (s₁.setTop (entryFrame m #[(.int p1), (.int p2), (.int p3), (.int p4)] maxLocals)) t := fun t k => castTop (ef3 m p1 p2 p3 p4) k
  obtain ⟨T1, h1, X1, e1, E1, A1, D1, -, st1⟩ := newO X0 hx hZ hown (hw _ (List.mem_of_getElem? (i := 1) rfl)) (hw _ (List.mem_of_getElem? (i := 2) rfl)) (hw _ (List.mem_of_getElem? (i := 3) rfl)) e0 (g := (mkF m 26 #[.val (.int p1), .val (.int p2), .val (.int p3), .val (.int p4), .val (.int (p1 &&& (3 : Int32))), .val (.long (Int32.toInt64 (p2 % (1048576 : Int32)))), .second, .val (.long (Int32.toInt64 (p3 % (1048576 : Int32)))), .second, .val (.long (Int32.toInt64 (p4 % (1048576 : Int32)))), .second, .unset, .unset, .unset, .unset, .unset] [])) rfl (hb hby at_26) (by decide) (by decide)
  obtain ⟨b1, g1⟩ : ∃ z, z = h0.size := ⟨_, rfl⟩
  rw [← g1] at A1 D1 st1
  have g_b1 : n0 ≤ b1 := Nat.le_trans Z0 (Nat.le_of_eq g1.symm)
  have sz_b1 : h0.size ≤ b1 := Nat.le_trans (Keep.refl h0 []).1 (Nat.le_of_eq g1.symm)
  have K2 : Keep h0 h1 [] := Keep.ext (Keep.refl h0 []) E1
  have Zc2 : n0 ≤ h1.size := Nat.le_trans Z0 E1.1
  have F1_count : Fld Z h1 b1 "com/example/tidegate/tidegate/stats/RunningMoments" "count" "J" (.long (0 : Int64)) := D1 (Or.inl (hw _ (List.mem_of_getElem? (i := 16) rfl))) (ty := .long) (by decide)
  have F1_mean : Fld Z h1 b1 "com/example/tidegate/tidegate/stats/RunningMoments" "mean" "D" (.double 0) := D1 (Or.inl (hw _ (List.mem_of_getElem? (i := 25) rfl))) (ty := .double) (by decide)
  have F1_squaredDeviations : Fld Z h1 b1 "com/example/tidegate/tidegate/stats/RunningMoments" "squaredDeviations" "D" (.double 0) := D1 (Or.inl (hw _ (List.mem_of_getElem? (i := 27) rfl))) (ty := .double) (by decide)
  obtain ⟨_, _, ⟨T3, L3, k3, n3⟩, -, X3, ⟨Lc3, hQ3, l3, y3, z3⟩, st3⟩ := X1.specialBack hx (y := (⟨"com/example/tidegate/tidegate/stats/RunningMoments", "<init>", "()V"⟩ : MethodName)) rfl hown (mvT hZ (hw _ (List.mem_of_getElem? (i := 4) rfl))) (mvT hZ (hw _ (List.mem_of_getElem? (i := 5) rfl))) (mvT hZ (hw _ (List.mem_of_getElem? (i := 6) rfl))) (by decide) (backOf (W := 1) (rmI l Z a0 hw [] b1 h1 n0 Zc2) hZ (hw _ (List.mem_of_getElem? (i := 6) rfl)) (hw _ (List.mem_of_getElem? (i := 3) rfl)) (by decide) (by decide)) (g := (mkF m 30 #[.val (.int p1), .val (.int p2), .val (.int p3), .val (.int p4), .val (.int (p1 &&& (3 : Int32))), .val (.long (Int32.toInt64 (p2 % (1048576 : Int32)))), .second, .val (.long (Int32.toInt64 (p3 % (1048576 : Int32)))), .second, .val (.long (Int32.toInt64 (p4 % (1048576 : Int32)))), .second, .unset, .unset, .unset, .unset, .unset] [(.ref b1), (.ref b1)])) rfl (by rw [hml]; rfl) (Steps.refl _) (a := b1) (argsL := []) (rest := [(.ref b1)]) (lenOf pd1 rfl) rfl (by show 2 * 0 + _ ≤ _; exact Nat.le_of_eq rfl) (hb hby at_30) (fun _ _ => ⟨rfl, e1, (by decide : 1 + 0 ≤ _), (by decide : 3 + 0 ≤ _)⟩)
  dsimp only [Pt.U, Pt.locs, Pt.cells, Pt.slots] at X3 l3 y3 z3 st3 hQ3
  subst l3 y3 z3
  obtain ⟨rfl, Nc3, ec3⟩ := hQ3
  have N3 := Fr.app N0 Nc3
  obtain ⟨cq4, kq4, qa4, qb4, qc4⟩ := isOf hZ ec3 A1
  obtain ⟨_, _, ⟨T4, L4, k4, n4⟩, -, X4, ⟨Lc4, hQ4, l4, y4, z4⟩, st4⟩ := X3.virtualBack hx (y := (⟨"com/example/tidegate/tidegate/stats/RunningMoments", "add", "(D)V"⟩ : MethodName)) (z := (⟨"com/example/tidegate/tidegate/stats/RunningMoments", "add", "(D)V"⟩ : MethodName)) hown (mvT hZ (hw _ (List.mem_of_getElem? (i := 19) rfl))) (mvT hZ (hw _ (List.mem_of_getElem? (i := 20) rfl))) (notFace_of_selects (args := #[]) (mvT hZ (hw _ (List.mem_of_getElem? (i := 22) rfl)))) (mvT hZ (hw _ (List.mem_of_getElem? (i := 22) rfl))) (mvT hZ (hw _ (List.mem_of_getElem? (i := 21) rfl))) (by decide) (backOf (W := 0) (rmA l Z a0 hw [] b1 (0 : Int64) 0 0 (FP.l2d (Int32.toInt64 (p2 % (1048576 : Int32)))) m1 s1 h1 n0 Zc2 F1_count F1_mean F1_squaredDeviations A1 g_b1 ok1) hZ (hw _ (List.mem_of_getElem? (i := 23) rfl)) (hw _ (List.mem_of_getElem? (i := 3) rfl)) (by decide) (by decide)) qa4 qc4 (g := (mkF m 46 #[.val (.int p1), .val (.int p2), .val (.int p3), .val (.int p4), .val (.int (p1 &&& (3 : Int32))), .val (.long (Int32.toInt64 (p2 % (1048576 : Int32)))), .second, .val (.long (Int32.toInt64 (p3 % (1048576 : Int32)))), .second, .val (.long (Int32.toInt64 (p4 % (1048576 : Int32)))), .second, .val (.ref b1), .unset, .unset, .unset, .unset] [(.double (FP.l2d (Int32.toInt64 (p2 % (1048576 : Int32))))), (.ref b1)])) rfl (by rw [hml]; rfl) (Steps.refl _) (argsL := [(.double (FP.l2d (Int32.toInt64 (p2 % (1048576 : Int32)))))]) (rest := []) (lenOf pd3 rfl) rfl (by show 2 * 0 + _ ≤ _; exact Nat.le_of_eq rfl) (hb hby at_46) (fun _ _ => ⟨rfl, ec3, (by decide : 1 + 0 ≤ _), (by decide : 3 + 0 ≤ _)⟩)
  dsimp only [Pt.U, Pt.locs, Pt.cells, Pt.slots] at X4 l4 y4 z4 st4 hQ4
  subst l4 y4 z4
  obtain ⟨rfl, Nc4, Kc4, fc4_0, fc4_1, fc4_2⟩ := hQ4
  have N4 := Fr.app N3 Nc4
  have K4 : Keep h0 T4.heap [] := Keep.trans K2 Kc4 (allS (Or.inr sz_b1) all0)
  have Zc4 : n0 ≤ T4.heap.size := Nat.le_trans Zc2 Kc4.1
  have f6 : Exa Z T4.heap b1 "com/example/tidegate/tidegate/stats/RunningMoments" := (Exa.keep A1 Kc4)
  obtain ⟨cq5, kq5, qa5, qb5, qc5⟩ := isOf hZ rfl f6
  obtain ⟨_, _, ⟨T5, L5, k5, n5⟩, -, X5, ⟨Lc5, hQ5, l5, y5, z5⟩, st5⟩ := X4.virtualBack hx (y := (⟨"com/example/tidegate/tidegate/stats/RunningMoments", "variance", "()D"⟩ : MethodName)) (z := (⟨"com/example/tidegate/tidegate/stats/RunningMoments", "variance", "()D"⟩ : MethodName)) hown (mvT hZ (hw _ (List.mem_of_getElem? (i := 10) rfl))) (mvT hZ (hw _ (List.mem_of_getElem? (i := 11) rfl))) (notFace_of_selects (args := #[]) (mvT hZ (hw _ (List.mem_of_getElem? (i := 13) rfl)))) (mvT hZ (hw _ (List.mem_of_getElem? (i := 13) rfl))) (mvT hZ (hw _ (List.mem_of_getElem? (i := 12) rfl))) (by decide) (backOf (W := 0) (rmVn l Z a0 hw [] b1 ((0 : Int64) + (1 : Int64)) T4.heap n0 Zc4 fc4_0 (by decide)) hZ (hw _ (List.mem_of_getElem? (i := 14) rfl)) (hw _ (List.mem_of_getElem? (i := 3) rfl)) (by decide) (by decide)) qa5 qc5 (g := (mkF m 93 #[.val (.int p1), .val (.int p2), .val (.int p3), .val (.int p4), .val (.int (p1 &&& (3 : Int32))), .val (.long (Int32.toInt64 (p2 % (1048576 : Int32)))), .second, .val (.long (Int32.toInt64 (p3 % (1048576 : Int32)))), .second, .val (.long (Int32.toInt64 (p4 % (1048576 : Int32)))), .second, .val (.ref b1), .unset, .unset, .unset, .unset] [(.ref b1)])) rfl (by rw [hml]; rfl) (Steps.refl _) (argsL := []) (rest := []) (lenOf pd2 rfl) rfl (by show 2 * 0 + _ ≤ _; exact Nat.le_of_eq rfl) (hb hby at_93) (fun _ _ => ⟨rfl, rfl, (by decide : 1 + 0 ≤ _), (by decide : 3 + 0 ≤ _)⟩)
  dsimp only [Pt.U, Pt.locs, Pt.cells, Pt.slots] at X5 l5 y5 z5 st5 hQ5
  subst l5 y5 z5
  obtain ⟨rfl, Nc5, ec5⟩ := hQ5
  have N5 := Fr.app N4 Nc5
  obtain ⟨fs, hr, hrun, hended, hW, hsame⟩ := X5.leave (v := some (.int (1 : Int32))) (fun h => by rw [Bd.returns] at h; cases h)
  refine ⟨_, _, pre0 _ ?_, hrun, hended, _, _, rfl, ?_, ⟨_, rfl⟩, hW, hsame.mono (by decide) (by decide)⟩
  · show Steps p.tables e below (s₁.setTop (mkF m 0 #[.val (.int p1), .val (.int p2), .val (.int p3), .val (.int p4), .unset, .unset, .unset, .unset, .unset, .unset, .unset, .unset, .unset, .unset, .unset, .unset] [])) _
    refine XS.iloadN X0.here hx rfl (hb hby at_0) rfl ?_
    show Steps p.tables e below (s₁.setTop (mkF m 1 #[.val (.int p1), .val (.int p2), .val (.int p3), .val (.int p4), .unset, .unset, .unset, .unset, .unset, .unset, .unset, .unset, .unset, .unset, .unset, .unset] [(.int p1)])) _
    refine XS.iconst X0.here hx rfl (hb hby at_1) ?_
    show Steps p.tables e below (s₁.setTop (mkF m 2 #[.val (.int p1), .val (.int p2), .val (.int p3), .val (.int p4), .unset, .unset, .unset, .unset, .unset, .unset, .unset, .unset, .unset, .unset, .unset, .unset] [(.int (3 : Int32)), (.int p1)])) _
    refine XS.iand X0.here hx rfl (hb hby at_2) rfl ?_
    show Steps p.tables e below (s₁.setTop (mkF m 3 #[.val (.int p1), .val (.int p2), .val (.int p3), .val (.int p4), .unset, .unset, .unset, .unset, .unset, .unset, .unset, .unset, .unset, .unset, .unset, .unset] [(.int (p1 &&& (3 : Int32)))])) _
    refine XS.istore X0.here hx rfl (hb hby at_3) rfl (l' := #[.val (.int p1), .val (.int p2), .val (.int p3), .val (.int p4), .val (.int (p1 &&& (3 : Int32))), .unset, .unset, .unset, .unset, .unset, .unset, .unset, .unset, .unset, .unset, .unset]) rfl ?_
    show Steps p.tables e below (s₁.setTop (mkF m 5 #[.val (.int p1), .val (.int p2), .val (.int p3), .val (.int p4), .val (.int (p1 &&& (3 : Int32))), .unset, .unset, .unset, .unset, .unset, .unset, .unset, .unset, .unset, .unset, .unset] [])) _
    refine XS.iloadN X0.here hx rfl (hb hby at_5) rfl ?_
    show Steps p.tables e below (s₁.setTop (mkF m 6 #[.val (.int p1), .val (.int p2), .val (.int p3), .val (.int p4), .val (.int (p1 &&& (3 : Int32))), .unset, .unset, .unset, .unset, .unset, .unset, .unset, .unset, .unset, .unset, .unset] [(.int p2)])) _
    refine X0.ldcInt hx hown (mvT hZ (hw _ (List.mem_of_getElem? (i := 0) rfl))) (g := (mkF m 6 #[.val (.int p1), .val (.int p2), .val (.int p3), .val (.int p4), .val (.int (p1 &&& (3 : Int32))), .unset, .unset, .unset, .unset, .unset, .unset, .unset, .unset, .unset, .unset, .unset] [(.int p2)])) rfl (hb hby at_6) _ ?_
    show Steps p.tables e below (s₁.setTop (mkF m 8 #[.val (.int p1), .val (.int p2), .val (.int p3), .val (.int p4), .val (.int (p1 &&& (3 : Int32))), .unset, .unset, .unset, .unset, .unset, .unset, .unset, .unset, .unset, .unset, .unset] [(.int (1048576 : Int32)), (.int p2)])) _
    refine iremM X0 hx rfl (hb hby at_8) rfl (by decide) ?_
    show Steps p.tables e below (s₁.setTop (mkF m 9 #[.val (.int p1), .val (.int p2), .val (.int p3), .val (.int p4), .val (.int (p1 &&& (3 : Int32))), .unset, .unset, .unset, .unset, .unset, .unset, .unset, .unset, .unset, .unset, .unset] [(.int (p2 % (1048576 : Int32)))])) _
    refine XS.i2l X0.here hx rfl (hb hby at_9) rfl ?_
    show Steps p.tables e below (s₁.setTop (mkF m 10 #[.val (.int p1), .val (.int p2), .val (.int p3), .val (.int p4), .val (.int (p1 &&& (3 : Int32))), .unset, .unset, .unset, .unset, .unset, .unset, .unset, .unset, .unset, .unset, .unset] [(.long (Int32.toInt64 (p2 % (1048576 : Int32))))])) _
    refine XS.lstore X0.here hx rfl (hb hby at_10) rfl (l' := #[.val (.int p1), .val (.int p2), .val (.int p3), .val (.int p4), .val (.int (p1 &&& (3 : Int32))), .val (.long (Int32.toInt64 (p2 % (1048576 : Int32)))), .second, .unset, .unset, .unset, .unset, .unset, .unset, .unset, .unset, .unset]) rfl ?_
    show Steps p.tables e below (s₁.setTop (mkF m 12 #[.val (.int p1), .val (.int p2), .val (.int p3), .val (.int p4), .val (.int (p1 &&& (3 : Int32))), .val (.long (Int32.toInt64 (p2 % (1048576 : Int32)))), .second, .unset, .unset, .unset, .unset, .unset, .unset, .unset, .unset, .unset] [])) _
    refine XS.iloadN X0.here hx rfl (hb hby at_12) rfl ?_
    show Steps p.tables e below (s₁.setTop (mkF m 13 #[.val (.int p1), .val (.int p2), .val (.int p3), .val (.int p4), .val (.int (p1 &&& (3 : Int32))), .val (.long (Int32.toInt64 (p2 % (1048576 : Int32)))), .second, .unset, .unset, .unset, .unset, .unset, .unset, .unset, .unset, .unset] [(.int p3)])) _
    refine X0.ldcInt hx hown (mvT hZ (hw _ (List.mem_of_getElem? (i := 0) rfl))) (g := (mkF m 13 #[.val (.int p1), .val (.int p2), .val (.int p3), .val (.int p4), .val (.int (p1 &&& (3 : Int32))), .val (.long (Int32.toInt64 (p2 % (1048576 : Int32)))), .second, .unset, .unset, .unset, .unset, .unset, .unset, .unset, .unset, .unset] [(.int p3)])) rfl (hb hby at_13) _ ?_
    show Steps p.tables e below (s₁.setTop (mkF m 15 #[.val (.int p1), .val (.int p2), .val (.int p3), .val (.int p4), .val (.int (p1 &&& (3 : Int32))), .val (.long (Int32.toInt64 (p2 % (1048576 : Int32)))), .second, .unset, .unset, .unset, .unset, .unset, .unset, .unset, .unset, .unset] [(.int (1048576 : Int32)), (.int p3)])) _
    refine iremM X0 hx rfl (hb hby at_15) rfl (by decide) ?_
    show Steps p.tables e below (s₁.setTop (mkF m 16 #[.val (.int p1), .val (.int p2), .val (.int p3), .val (.int p4), .val (.int (p1 &&& (3 : Int32))), .val (.long (Int32.toInt64 (p2 % (1048576 : Int32)))), .second, .unset, .unset, .unset, .unset, .unset, .unset, .unset, .unset, .unset] [(.int (p3 % (1048576 : Int32)))])) _
    refine XS.i2l X0.here hx rfl (hb hby at_16) rfl ?_
    show Steps p.tables e below (s₁.setTop (mkF m 17 #[.val (.int p1), .val (.int p2), .val (.int p3), .val (.int p4), .val (.int (p1 &&& (3 : Int32))), .val (.long (Int32.toInt64 (p2 % (1048576 : Int32)))), .second, .unset, .unset, .unset, .unset, .unset, .unset, .unset, .unset, .unset] [(.long (Int32.toInt64 (p3 % (1048576 : Int32))))])) _
    refine XS.lstore X0.here hx rfl (hb hby at_17) rfl (l' := #[.val (.int p1), .val (.int p2), .val (.int p3), .val (.int p4), .val (.int (p1 &&& (3 : Int32))), .val (.long (Int32.toInt64 (p2 % (1048576 : Int32)))), .second, .val (.long (Int32.toInt64 (p3 % (1048576 : Int32)))), .second, .unset, .unset, .unset, .unset, .unset, .unset, .unset]) rfl ?_
    show Steps p.tables e below (s₁.setTop (mkF m 19 #[.val (.int p1), .val (.int p2), .val (.int p3), .val (.int p4), .val (.int (p1 &&& (3 : Int32))), .val (.long (Int32.toInt64 (p2 % (1048576 : Int32)))), .second, .val (.long (Int32.toInt64 (p3 % (1048576 : Int32)))), .second, .unset, .unset, .unset, .unset, .unset, .unset, .unset] [])) _
    refine XS.iloadN X0.here hx rfl (hb hby at_19) rfl ?_
    show Steps p.tables e below (s₁.setTop (mkF m 20 #[.val (.int p1), .val (.int p2), .val (.int p3), .val (.int p4), .val (.int (p1 &&& (3 : Int32))), .val (.long (Int32.toInt64 (p2 % (1048576 : Int32)))), .second, .val (.long (Int32.toInt64 (p3 % (1048576 : Int32)))), .second, .unset, .unset, .unset, .unset, .unset, .unset, .unset] [(.int p4)])) _
    refine X0.ldcInt hx hown (mvT hZ (hw _ (List.mem_of_getElem? (i := 0) rfl))) (g := (mkF m 20 #[.val (.int p1), .val (.int p2), .val (.int p3), .val (.int p4), .val (.int (p1 &&& (3 : Int32))), .val (.long (Int32.toInt64 (p2 % (1048576 : Int32)))), .second, .val (.long (Int32.toInt64 (p3 % (1048576 : Int32)))), .second, .unset, .unset, .unset, .unset, .unset, .unset, .unset] [(.int p4)])) rfl (hb hby at_20) _ ?_
    show Steps p.tables e below (s₁.setTop (mkF m 22 #[.val (.int p1), .val (.int p2), .val (.int p3), .val (.int p4), .val (.int (p1 &&& (3 : Int32))), .val (.long (Int32.toInt64 (p2 % (1048576 : Int32)))), .second, .val (.long (Int32.toInt64 (p3 % (1048576 : Int32)))), .second, .unset, .unset, .unset, .unset, .unset, .unset, .unset] [(.int (1048576 : Int32)), (.int p4)])) _
    refine iremM X0 hx rfl (hb hby at_22) rfl (by decide) ?_
    show Steps p.tables e below (s₁.setTop (mkF m 23 #[.val (.int p1), .val (.int p2), .val (.int p3), .val (.int p4), .val (.int (p1 &&& (3 : Int32))), .val (.long (Int32.toInt64 (p2 % (1048576 : Int32)))), .second, .val (.long (Int32.toInt64 (p3 % (1048576 : Int32)))), .second, .unset, .unset, .unset, .unset, .unset, .unset, .unset] [(.int (p4 % (1048576 : Int32)))])) _
    refine XS.i2l X0.here hx rfl (hb hby at_23) rfl ?_
    show Steps p.tables e below (s₁.setTop (mkF m 24 #[.val (.int p1), .val (.int p2), .val (.int p3), .val (.int p4), .val (.int (p1 &&& (3 : Int32))), .val (.long (Int32.toInt64 (p2 % (1048576 : Int32)))), .second, .val (.long (Int32.toInt64 (p3 % (1048576 : Int32)))), .second, .unset, .unset, .unset, .unset, .unset, .unset, .unset] [(.long (Int32.toInt64 (p4 % (1048576 : Int32))))])) _
    refine XS.lstore X0.here hx rfl (hb hby at_24) rfl (l' := #[.val (.int p1), .val (.int p2), .val (.int p3), .val (.int p4), .val (.int (p1 &&& (3 : Int32))), .val (.long (Int32.toInt64 (p2 % (1048576 : Int32)))), .second, .val (.long (Int32.toInt64 (p3 % (1048576 : Int32)))), .second, .val (.long (Int32.toInt64 (p4 % (1048576 : Int32)))), .second, .unset, .unset, .unset, .unset, .unset]) rfl ?_
    show Steps p.tables e below (s₁.setTop (mkF m 26 #[.val (.int p1), .val (.int p2), .val (.int p3), .val (.int p4), .val (.int (p1 &&& (3 : Int32))), .val (.long (Int32.toInt64 (p2 % (1048576 : Int32)))), .second, .val (.long (Int32.toInt64 (p3 % (1048576 : Int32)))), .second, .val (.long (Int32.toInt64 (p4 % (1048576 : Int32)))), .second, .unset, .unset, .unset, .unset, .unset] [])) _
    refine st1 _ ?_
    show Steps p.tables e below (T1.setTop (mkF m 29 #[.val (.int p1), .val (.int p2), .val (.int p3), .val (.int p4), .val (.int (p1 &&& (3 : Int32))), .val (.long (Int32.toInt64 (p2 % (1048576 : Int32)))), .second, .val (.long (Int32.toInt64 (p3 % (1048576 : Int32)))), .second, .val (.long (Int32.toInt64 (p4 % (1048576 : Int32)))), .second, .unset, .unset, .unset, .unset, .unset] [(.ref b1)])) _
    refine XS.dup X1.here hx rfl (hb hby at_29) rfl rfl ?_
    show Steps p.tables e below (T1.setTop (mkF m 30 #[.val (.int p1), .val (.int p2), .val (.int p3), .val (.int p4), .val (.int (p1 &&& (3 : Int32))), .val (.long (Int32.toInt64 (p2 % (1048576 : Int32)))), .second, .val (.long (Int32.toInt64 (p3 % (1048576 : Int32)))), .second, .val (.long (Int32.toInt64 (p4 % (1048576 : Int32)))), .second, .unset, .unset, .unset, .unset, .unset] [(.ref b1), (.ref b1)])) _
    refine st3.trans ?_
    show Steps p.tables e below (T3.setTop (mkF m 33 #[.val (.int p1), .val (.int p2), .val (.int p3), .val (.int p4), .val (.int (p1 &&& (3 : Int32))), .val (.long (Int32.toInt64 (p2 % (1048576 : Int32)))), .second, .val (.long (Int32.toInt64 (p3 % (1048576 : Int32)))), .second, .val (.long (Int32.toInt64 (p4 % (1048576 : Int32)))), .second, .unset, .unset, .unset, .unset, .unset] [(.ref b1)])) _
    refine XS.astore X3.here hx rfl (hb hby at_33) rfl rfl (l' := #[.val (.int p1), .val (.int p2), .val (.int p3), .val (.int p4), .val (.int (p1 &&& (3 : Int32))), .val (.long (Int32.toInt64 (p2 % (1048576 : Int32)))), .second, .val (.long (Int32.toInt64 (p3 % (1048576 : Int32)))), .second, .val (.long (Int32.toInt64 (p4 % (1048576 : Int32)))), .second, .val (.ref b1), .unset, .unset, .unset, .unset]) rfl ?_
    show Steps p.tables e below (T3.setTop (mkF m 35 #[.val (.int p1), .val (.int p2), .val (.int p3), .val (.int p4), .val (.int (p1 &&& (3 : Int32))), .val (.long (Int32.toInt64 (p2 % (1048576 : Int32)))), .second, .val (.long (Int32.toInt64 (p3 % (1048576 : Int32)))), .second, .val (.long (Int32.toInt64 (p4 % (1048576 : Int32)))), .second, .val (.ref b1), .unset, .unset, .unset, .unset] [])) _
    refine XS.iload X3.here hx rfl (hb hby at_35) rfl ?_
    show Steps p.tables e below (T3.setTop (mkF m 37 #[.val (.int p1), .val (.int p2), .val (.int p3), .val (.int p4), .val (.int (p1 &&& (3 : Int32))), .val (.long (Int32.toInt64 (p2 % (1048576 : Int32)))), .second, .val (.long (Int32.toInt64 (p3 % (1048576 : Int32)))), .second, .val (.long (Int32.toInt64 (p4 % (1048576 : Int32)))), .second, .val (.ref b1), .unset, .unset, .unset, .unset] [(.int (p1 &&& (3 : Int32)))])) _
    refine XS.iconst X3.here hx rfl (hb hby at_37) ?_
    show Steps p.tables e below (T3.setTop (mkF m 38 #[.val (.int p1), .val (.int p2), .val (.int p3), .val (.int p4), .val (.int (p1 &&& (3 : Int32))), .val (.long (Int32.toInt64 (p2 % (1048576 : Int32)))), .second, .val (.long (Int32.toInt64 (p3 % (1048576 : Int32)))), .second, .val (.long (Int32.toInt64 (p4 % (1048576 : Int32)))), .second, .val (.ref b1), .unset, .unset, .unset, .unset] [(.int (1 : Int32)), (.int (p1 &&& (3 : Int32)))])) _
    refine XS.icmpNo X3.here hx rfl (hb hby at_38) rfl (flt (by rw [hk]; decide)).1 ?_
    show Steps p.tables e below (T3.setTop (mkF m 41 #[.val (.int p1), .val (.int p2), .val (.int p3), .val (.int p4), .val (.int (p1 &&& (3 : Int32))), .val (.long (Int32.toInt64 (p2 % (1048576 : Int32)))), .second, .val (.long (Int32.toInt64 (p3 % (1048576 : Int32)))), .second, .val (.long (Int32.toInt64 (p4 % (1048576 : Int32)))), .second, .val (.ref b1), .unset, .unset, .unset, .unset] [])) _
    refine XS.aload X3.here hx rfl (hb hby at_41) rfl rfl ?_
    show Steps p.tables e below (T3.setTop (mkF m 43 #[.val (.int p1), .val (.int p2), .val (.int p3), .val (.int p4), .val (.int (p1 &&& (3 : Int32))), .val (.long (Int32.toInt64 (p2 % (1048576 : Int32)))), .second, .val (.long (Int32.toInt64 (p3 % (1048576 : Int32)))), .second, .val (.long (Int32.toInt64 (p4 % (1048576 : Int32)))), .second, .val (.ref b1), .unset, .unset, .unset, .unset] [(.ref b1)])) _
    refine XS.lload X3.here hx rfl (hb hby at_43) rfl ?_
    show Steps p.tables e below (T3.setTop (mkF m 45 #[.val (.int p1), .val (.int p2), .val (.int p3), .val (.int p4), .val (.int (p1 &&& (3 : Int32))), .val (.long (Int32.toInt64 (p2 % (1048576 : Int32)))), .second, .val (.long (Int32.toInt64 (p3 % (1048576 : Int32)))), .second, .val (.long (Int32.toInt64 (p4 % (1048576 : Int32)))), .second, .val (.ref b1), .unset, .unset, .unset, .unset] [(.long (Int32.toInt64 (p2 % (1048576 : Int32)))), (.ref b1)])) _
    refine XS.l2dS X3.here hx rfl (v := (FP.l2d (Int32.toInt64 (p2 % (1048576 : Int32))))) (hb hby at_45) rfl rfl ?_
    show Steps p.tables e below (T3.setTop (mkF m 46 #[.val (.int p1), .val (.int p2), .val (.int p3), .val (.int p4), .val (.int (p1 &&& (3 : Int32))), .val (.long (Int32.toInt64 (p2 % (1048576 : Int32)))), .second, .val (.long (Int32.toInt64 (p3 % (1048576 : Int32)))), .second, .val (.long (Int32.toInt64 (p4 % (1048576 : Int32)))), .second, .val (.ref b1), .unset, .unset, .unset, .unset] [(.double (FP.l2d (Int32.toInt64 (p2 % (1048576 : Int32))))), (.ref b1)])) _
    refine st4.trans ?_
    show Steps p.tables e below (T4.setTop (mkF m 49 #[.val (.int p1), .val (.int p2), .val (.int p3), .val (.int p4), .val (.int (p1 &&& (3 : Int32))), .val (.long (Int32.toInt64 (p2 % (1048576 : Int32)))), .second, .val (.long (Int32.toInt64 (p3 % (1048576 : Int32)))), .second, .val (.long (Int32.toInt64 (p4 % (1048576 : Int32)))), .second, .val (.ref b1), .unset, .unset, .unset, .unset] [])) _
    refine XS.iload X4.here hx rfl (hb hby at_49) rfl ?_
    show Steps p.tables e below (T4.setTop (mkF m 51 #[.val (.int p1), .val (.int p2), .val (.int p3), .val (.int p4), .val (.int (p1 &&& (3 : Int32))), .val (.long (Int32.toInt64 (p2 % (1048576 : Int32)))), .second, .val (.long (Int32.toInt64 (p3 % (1048576 : Int32)))), .second, .val (.long (Int32.toInt64 (p4 % (1048576 : Int32)))), .second, .val (.ref b1), .unset, .unset, .unset, .unset] [(.int (p1 &&& (3 : Int32)))])) _
    refine XS.iconst X4.here hx rfl (hb hby at_51) ?_
    show Steps p.tables e below (T4.setTop (mkF m 52 #[.val (.int p1), .val (.int p2), .val (.int p3), .val (.int p4), .val (.int (p1 &&& (3 : Int32))), .val (.long (Int32.toInt64 (p2 % (1048576 : Int32)))), .second, .val (.long (Int32.toInt64 (p3 % (1048576 : Int32)))), .second, .val (.long (Int32.toInt64 (p4 % (1048576 : Int32)))), .second, .val (.ref b1), .unset, .unset, .unset, .unset] [(.int (2 : Int32)), (.int (p1 &&& (3 : Int32)))])) _
    refine XS.icmpYes X4.here hx rfl (pc0 := 52) (pc' := 63) rfl (hb hby at_52) rfl (tlt (by rw [hk]; decide)).1 (by decide) (by decide) ?_
    show Steps p.tables e below (T4.setTop (mkF m 63 #[.val (.int p1), .val (.int p2), .val (.int p3), .val (.int p4), .val (.int (p1 &&& (3 : Int32))), .val (.long (Int32.toInt64 (p2 % (1048576 : Int32)))), .second, .val (.long (Int32.toInt64 (p3 % (1048576 : Int32)))), .second, .val (.long (Int32.toInt64 (p4 % (1048576 : Int32)))), .second, .val (.ref b1), .unset, .unset, .unset, .unset] [])) _
    refine XS.iload X4.here hx rfl (hb hby at_63) rfl ?_
    show Steps p.tables e below (T4.setTop (mkF m 65 #[.val (.int p1), .val (.int p2), .val (.int p3), .val (.int p4), .val (.int (p1 &&& (3 : Int32))), .val (.long (Int32.toInt64 (p2 % (1048576 : Int32)))), .second, .val (.long (Int32.toInt64 (p3 % (1048576 : Int32)))), .second, .val (.long (Int32.toInt64 (p4 % (1048576 : Int32)))), .second, .val (.ref b1), .unset, .unset, .unset, .unset] [(.int (p1 &&& (3 : Int32)))])) _
    refine XS.iconst X4.here hx rfl (hb hby at_65) ?_
    show Steps p.tables e below (T4.setTop (mkF m 66 #[.val (.int p1), .val (.int p2), .val (.int p3), .val (.int p4), .val (.int (p1 &&& (3 : Int32))), .val (.long (Int32.toInt64 (p2 % (1048576 : Int32)))), .second, .val (.long (Int32.toInt64 (p3 % (1048576 : Int32)))), .second, .val (.long (Int32.toInt64 (p4 % (1048576 : Int32)))), .second, .val (.ref b1), .unset, .unset, .unset, .unset] [(.int (3 : Int32)), (.int (p1 &&& (3 : Int32)))])) _
    refine XS.icmpYes X4.here hx rfl (pc0 := 66) (pc' := 91) rfl (hb hby at_66) rfl (tlt (by rw [hk]; decide)).1 (by decide) (by decide) ?_
    show Steps p.tables e below (T4.setTop (mkF m 91 #[.val (.int p1), .val (.int p2), .val (.int p3), .val (.int p4), .val (.int (p1 &&& (3 : Int32))), .val (.long (Int32.toInt64 (p2 % (1048576 : Int32)))), .second, .val (.long (Int32.toInt64 (p3 % (1048576 : Int32)))), .second, .val (.long (Int32.toInt64 (p4 % (1048576 : Int32)))), .second, .val (.ref b1), .unset, .unset, .unset, .unset] [])) _
    refine XS.aload X4.here hx rfl (hb hby at_91) rfl rfl ?_
    show Steps p.tables e below (T4.setTop (mkF m 93 #[.val (.int p1), .val (.int p2), .val (.int p3), .val (.int p4), .val (.int (p1 &&& (3 : Int32))), .val (.long (Int32.toInt64 (p2 % (1048576 : Int32)))), .second, .val (.long (Int32.toInt64 (p3 % (1048576 : Int32)))), .second, .val (.long (Int32.toInt64 (p4 % (1048576 : Int32)))), .second, .val (.ref b1), .unset, .unset, .unset, .unset] [(.ref b1)])) _
    refine st5.trans ?_
    show Steps p.tables e below (T5.setTop (mkF m 96 #[.val (.int p1), .val (.int p2), .val (.int p3), .val (.int p4), .val (.int (p1 &&& (3 : Int32))), .val (.long (Int32.toInt64 (p2 % (1048576 : Int32)))), .second, .val (.long (Int32.toInt64 (p3 % (1048576 : Int32)))), .second, .val (.long (Int32.toInt64 (p4 % (1048576 : Int32)))), .second, .val (.ref b1), .unset, .unset, .unset, .unset] [(.double (9221120237041090560 : UInt64))])) _
    refine XS.dstore X5.here hx rfl (hb hby at_96) rfl (l' := #[.val (.int p1), .val (.int p2), .val (.int p3), .val (.int p4), .val (.int (p1 &&& (3 : Int32))), .val (.long (Int32.toInt64 (p2 % (1048576 : Int32)))), .second, .val (.long (Int32.toInt64 (p3 % (1048576 : Int32)))), .second, .val (.long (Int32.toInt64 (p4 % (1048576 : Int32)))), .second, .val (.ref b1), .val (.double (9221120237041090560 : UInt64)), .second, .unset, .unset]) rfl ?_
    show Steps p.tables e below (T5.setTop (mkF m 98 #[.val (.int p1), .val (.int p2), .val (.int p3), .val (.int p4), .val (.int (p1 &&& (3 : Int32))), .val (.long (Int32.toInt64 (p2 % (1048576 : Int32)))), .second, .val (.long (Int32.toInt64 (p3 % (1048576 : Int32)))), .second, .val (.long (Int32.toInt64 (p4 % (1048576 : Int32)))), .second, .val (.ref b1), .val (.double (9221120237041090560 : UInt64)), .second, .unset, .unset] [])) _
    refine XS.iload X5.here hx rfl (hb hby at_98) rfl ?_
    show Steps p.tables e below (T5.setTop (mkF m 100 #[.val (.int p1), .val (.int p2), .val (.int p3), .val (.int p4), .val (.int (p1 &&& (3 : Int32))), .val (.long (Int32.toInt64 (p2 % (1048576 : Int32)))), .second, .val (.long (Int32.toInt64 (p3 % (1048576 : Int32)))), .second, .val (.long (Int32.toInt64 (p4 % (1048576 : Int32)))), .second, .val (.ref b1), .val (.double (9221120237041090560 : UInt64)), .second, .unset, .unset] [(.int (p1 &&& (3 : Int32)))])) _
    refine XS.iconst X5.here hx rfl (hb hby at_100) ?_
    show Steps p.tables e below (T5.setTop (mkF m 101 #[.val (.int p1), .val (.int p2), .val (.int p3), .val (.int p4), .val (.int (p1 &&& (3 : Int32))), .val (.long (Int32.toInt64 (p2 % (1048576 : Int32)))), .second, .val (.long (Int32.toInt64 (p3 % (1048576 : Int32)))), .second, .val (.long (Int32.toInt64 (p4 % (1048576 : Int32)))), .second, .val (.ref b1), .val (.double (9221120237041090560 : UInt64)), .second, .unset, .unset] [(.int (2 : Int32)), (.int (p1 &&& (3 : Int32)))])) _
    refine XS.icmpNo X5.here hx rfl (hb hby at_101) rfl (tlt (by rw [hk]; decide)).2.1 ?_
    show Steps p.tables e below (T5.setTop (mkF m 104 #[.val (.int p1), .val (.int p2), .val (.int p3), .val (.int p4), .val (.int (p1 &&& (3 : Int32))), .val (.long (Int32.toInt64 (p2 % (1048576 : Int32)))), .second, .val (.long (Int32.toInt64 (p3 % (1048576 : Int32)))), .second, .val (.long (Int32.toInt64 (p4 % (1048576 : Int32)))), .second, .val (.ref b1), .val (.double (9221120237041090560 : UInt64)), .second, .unset, .unset] [])) _
    refine XS.dload X5.here hx rfl (hb hby at_104) rfl ?_
    show Steps p.tables e below (T5.setTop (mkF m 106 #[.val (.int p1), .val (.int p2), .val (.int p3), .val (.int p4), .val (.int (p1 &&& (3 : Int32))), .val (.long (Int32.toInt64 (p2 % (1048576 : Int32)))), .second, .val (.long (Int32.toInt64 (p3 % (1048576 : Int32)))), .second, .val (.long (Int32.toInt64 (p4 % (1048576 : Int32)))), .second, .val (.ref b1), .val (.double (9221120237041090560 : UInt64)), .second, .unset, .unset] [(.double (9221120237041090560 : UInt64))])) _
    refine XS.dload X5.here hx rfl (hb hby at_106) rfl ?_
    show Steps p.tables e below (T5.setTop (mkF m 108 #[.val (.int p1), .val (.int p2), .val (.int p3), .val (.int p4), .val (.int (p1 &&& (3 : Int32))), .val (.long (Int32.toInt64 (p2 % (1048576 : Int32)))), .second, .val (.long (Int32.toInt64 (p3 % (1048576 : Int32)))), .second, .val (.long (Int32.toInt64 (p4 % (1048576 : Int32)))), .second, .val (.ref b1), .val (.double (9221120237041090560 : UInt64)), .second, .unset, .unset] [(.double (9221120237041090560 : UInt64)), (.double (9221120237041090560 : UInt64))])) _
    refine XS.dcmpS X5.here hx rfl (v := (-1 : Int32)) (hb hby at_108) rfl (by decide +kernel) ?_
    show Steps p.tables e below (T5.setTop (mkF m 109 #[.val (.int p1), .val (.int p2), .val (.int p3), .val (.int p4), .val (.int (p1 &&& (3 : Int32))), .val (.long (Int32.toInt64 (p2 % (1048576 : Int32)))), .second, .val (.long (Int32.toInt64 (p3 % (1048576 : Int32)))), .second, .val (.long (Int32.toInt64 (p4 % (1048576 : Int32)))), .second, .val (.ref b1), .val (.double (9221120237041090560 : UInt64)), .second, .unset, .unset] [(.int (-1 : Int32))])) _
    refine XS.ifNo X5.here hx rfl (hb hby at_109) rfl ((if0 _ _).trans (feq (by decide)).1) ?_
    show Steps p.tables e below (T5.setTop (mkF m 112 #[.val (.int p1), .val (.int p2), .val (.int p3), .val (.int p4), .val (.int (p1 &&& (3 : Int32))), .val (.long (Int32.toInt64 (p2 % (1048576 : Int32)))), .second, .val (.long (Int32.toInt64 (p3 % (1048576 : Int32)))), .second, .val (.long (Int32.toInt64 (p4 % (1048576 : Int32)))), .second, .val (.ref b1), .val (.double (9221120237041090560 : UInt64)), .second, .unset, .unset] [])) _
    refine XS.iconst X5.here hx rfl (hb hby at_112) ?_
    show Steps p.tables e below (T5.setTop (mkF m 113 #[.val (.int p1), .val (.int p2), .val (.int p3), .val (.int p4), .val (.int (p1 &&& (3 : Int32))), .val (.long (Int32.toInt64 (p2 % (1048576 : Int32)))), .second, .val (.long (Int32.toInt64 (p3 % (1048576 : Int32)))), .second, .val (.long (Int32.toInt64 (p4 % (1048576 : Int32)))), .second, .val (.ref b1), .val (.double (9221120237041090560 : UInt64)), .second, .unset, .unset] [(.int (1 : Int32))])) _
    refine XS.goto X5.here hx rfl (pc0 := 113) (pc' := 117) rfl (hb hby at_113) (by decide) (by decide) ?_
    show Steps p.tables e below (T5.setTop (mkF m 117 #[.val (.int p1), .val (.int p2), .val (.int p3), .val (.int p4), .val (.int (p1 &&& (3 : Int32))), .val (.long (Int32.toInt64 (p2 % (1048576 : Int32)))), .second, .val (.long (Int32.toInt64 (p3 % (1048576 : Int32)))), .second, .val (.long (Int32.toInt64 (p4 % (1048576 : Int32)))), .second, .val (.ref b1), .val (.double (9221120237041090560 : UInt64)), .second, .unset, .unset] [(.int (1 : Int32))])) _
    exact retN X5 hx (t := .boolean) Bd.returns (by simp) (hb hby at_117) hr
  · show Q0 n0 _ _
    exact ⟨rfl, N5⟩
set_option maxRecDepth 65536 in
set_option maxHeartbeats 40000000 in
theorem rm0_2 (l : Launch) (Z : State) (a0 : Array Value) (hw : ∀ d ∈ tables_1, d.before a0 Z = true) (ws : List Jvm.Cond) (p1 p2 p3 p4 : Int32) (m1 m2 s1 s2 r : UInt64) (h0 : Heap) (n0 : Nat) (Z0 : n0 ≤ h0.size) (hk : p1 &&& (3 : Int32) = (2 : Int32)) (ok1 : own_okAdd (0 : Int64) 0 0 (FP.l2d (Int32.toInt64 (p2 % (1048576 : Int32)))) m1 s1) (ok2 : own_okAdd ((0 : Int64) + (1 : Int64)) m1 s1 (FP.l2d (Int32.toInt64 (p3 % (1048576 : Int32)))) m2 s2) (hnv : NoNaN64 (FP.ddiv s2 (FP.l2d ((((0 : Int64) + (1 : Int64)) + (1 : Int64)) - (1 : Int64))))) (hvv : FP.ddiv s2 (FP.l2d ((((0 : Int64) + (1 : Int64)) + (1 : Int64)) - (1 : Int64))) = r) (hnx : NoNaN64 (FP.ddiv (FP.l2d (((Int32.toInt64 (p3 % (1048576 : Int32))) - (Int32.toInt64 (p2 % (1048576 : Int32)))) * ((Int32.toInt64 (p3 % (1048576 : Int32))) - (Int32.toInt64 (p2 % (1048576 : Int32)))))) (4611686018427387904 : UInt64))) (hcm : cmpValue (FP.dcmp r (FP.ddiv (FP.l2d (((Int32.toInt64 (p3 % (1048576 : Int32))) - (Int32.toInt64 (p2 % (1048576 : Int32)))) * ((Int32.toInt64 (p3 % (1048576 : Int32))) - (Int32.toInt64 (p2 % (1048576 : Int32)))))) (4611686018427387904 : UInt64))) .l = 0) :
    MetFree l x (head1 (Jvm.Cond.code x code maxLocals ret :: ws) room_1) (fun a U => a = #[(.int p1), (.int p2), (.int p3), (.int p4)] ∧ Z.Warmed39 U.vm ∧ U.heap = h0) (fun _ _ _ _ _ => True) (fun _ U o U' => ∃ v L, o = .returned v ∧ Q0 n0 v L ∧ FrameEnd U o U' L 1 3) := by
  refine MetFree.of_bodySF (plainFor_of_name pn2) hisR ?_
  intro p e s m args below meth c s₁ Bd hml0 hP hK
  obtain ⟨rfl, hZ, hh⟩ := hP
  have hx := Bd.exec
  have hby := Bd.bytes
  have hml : c.maxLocals = 16 := hml0
  have hown : s.vm.findClass "com/example/tidegate/tidegate/stats/RunningMomentsVariancePinLaw" = some m.cls := findClass_of_methodNamed Bd.named
  have hnm := (name_of_methodNamed Bd.named Bd.method).1
  have X0 : Stand p l e room_1 s m #[(.int p1), (.int p2), (.int p3), (.int p4)] below meth c s₁ [] 0 0 := Stand.of_body Bd
  have e0 : s₁.heap = h0 := by rw [← hh, Bd.state]; rfl
  have N0 := Fr.nil n0
  have pre0 : ∀ t, Steps p.tables e below (s₁.setTop (mkF m 0 #[.val (.int p1), .val (.int p2), .val (.int p3), .val (.int p4), .unset, .unset, .unset, .unset, .unset, .unset, .unset, .unset, .unset, .unset, .unset, .unset] [])) t → Steps p.tables e below (s₁.setTop (entryFrame m #[(.int p1), (.int p2), (.int p3), (.int p4)] maxLocals)) t := fun t k => castTop (ef3 m p1 p2 p3 p4) k
  obtain ⟨T1, h1, X1, e1, E1, A1, D1, -, st1⟩ := newO X0 hx hZ hown (hw _ (List.mem_of_getElem? (i := 1) rfl)) (hw _ (List.mem_of_getElem? (i := 2) rfl)) (hw _ (List.mem_of_getElem? (i := 3) rfl)) e0 (g := (mkF m 26 #[.val (.int p1), .val (.int p2), .val (.int p3), .val (.int p4), .val (.int (p1 &&& (3 : Int32))), .val (.long (Int32.toInt64 (p2 % (1048576 : Int32)))), .second, .val (.long (Int32.toInt64 (p3 % (1048576 : Int32)))), .second, .val (.long (Int32.toInt64 (p4 % (1048576 : Int32)))), .second, .unset, .unset, .unset, .unset, .unset] [])) rfl (hb hby at_26) (by decide) (by decide)
  obtain ⟨b1, g1⟩ : ∃ z, z = h0.size := ⟨_, rfl⟩
  rw [← g1] at A1 D1 st1
  have g_b1 : n0 ≤ b1 := Nat.le_trans Z0 (Nat.le_of_eq g1.symm)
  have sz_b1 : h0.size ≤ b1 := Nat.le_trans (Keep.refl h0 []).1 (Nat.le_of_eq g1.symm)
  have K2 : Keep h0 h1 [] := Keep.ext (Keep.refl h0 []) E1
  have Zc2 : n0 ≤ h1.size := Nat.le_trans Z0 E1.1
  have F1_count : Fld Z h1 b1 "com/example/tidegate/tidegate/stats/RunningMoments" "count" "J" (.long (0 : Int64)) := D1 (Or.inl (hw _ (List.mem_of_getElem? (i := 16) rfl))) (ty := .long) (by decide)
  have F1_mean : Fld Z h1 b1 "com/example/tidegate/tidegate/stats/RunningMoments" "mean" "D" (.double 0) := D1 (Or.inl (hw _ (List.mem_of_getElem? (i := 25) rfl))) (ty := .double) (by decide)
  have F1_squaredDeviations : Fld Z h1 b1 "com/example/tidegate/tidegate/stats/RunningMoments" "squaredDeviations" "D" (.double 0) := D1 (Or.inl (hw _ (List.mem_of_getElem? (i := 27) rfl))) (ty := .double) (by decide)
  obtain ⟨_, _, ⟨T3, L3, k3, n3⟩, -, X3, ⟨Lc3, hQ3, l3, y3, z3⟩, st3⟩ := X1.specialBack hx (y := (⟨"com/example/tidegate/tidegate/stats/RunningMoments", "<init>", "()V"⟩ : MethodName)) rfl hown (mvT hZ (hw _ (List.mem_of_getElem? (i := 4) rfl))) (mvT hZ (hw _ (List.mem_of_getElem? (i := 5) rfl))) (mvT hZ (hw _ (List.mem_of_getElem? (i := 6) rfl))) (by decide) (backOf (W := 1) (rmI l Z a0 hw [] b1 h1 n0 Zc2) hZ (hw _ (List.mem_of_getElem? (i := 6) rfl)) (hw _ (List.mem_of_getElem? (i := 3) rfl)) (by decide) (by decide)) (g := (mkF m 30 #[.val (.int p1), .val (.int p2), .val (.int p3), .val (.int p4), .val (.int (p1 &&& (3 : Int32))), .val (.long (Int32.toInt64 (p2 % (1048576 : Int32)))), .second, .val (.long (Int32.toInt64 (p3 % (1048576 : Int32)))), .second, .val (.long (Int32.toInt64 (p4 % (1048576 : Int32)))), .second, .unset, .unset, .unset, .unset, .unset] [(.ref b1), (.ref b1)])) rfl (by rw [hml]; rfl) (Steps.refl _) (a := b1) (argsL := []) (rest := [(.ref b1)]) (lenOf pd1 rfl) rfl (by show 2 * 0 + _ ≤ _; exact Nat.le_of_eq rfl) (hb hby at_30) (fun _ _ => ⟨rfl, e1, (by decide : 1 + 0 ≤ _), (by decide : 3 + 0 ≤ _)⟩)
  dsimp only [Pt.U, Pt.locs, Pt.cells, Pt.slots] at X3 l3 y3 z3 st3 hQ3
  subst l3 y3 z3
  obtain ⟨rfl, Nc3, ec3⟩ := hQ3
  have N3 := Fr.app N0 Nc3
  obtain ⟨cq4, kq4, qa4, qb4, qc4⟩ := isOf hZ ec3 A1
  obtain ⟨_, _, ⟨T4, L4, k4, n4⟩, -, X4, ⟨Lc4, hQ4, l4, y4, z4⟩, st4⟩ := X3.virtualBack hx (y := (⟨"com/example/tidegate/tidegate/stats/RunningMoments", "add", "(D)V"⟩ : MethodName)) (z := (⟨"com/example/tidegate/tidegate/stats/RunningMoments", "add", "(D)V"⟩ : MethodName)) hown (mvT hZ (hw _ (List.mem_of_getElem? (i := 19) rfl))) (mvT hZ (hw _ (List.mem_of_getElem? (i := 20) rfl))) (notFace_of_selects (args := #[]) (mvT hZ (hw _ (List.mem_of_getElem? (i := 22) rfl)))) (mvT hZ (hw _ (List.mem_of_getElem? (i := 22) rfl))) (mvT hZ (hw _ (List.mem_of_getElem? (i := 21) rfl))) (by decide) (backOf (W := 0) (rmA l Z a0 hw [] b1 (0 : Int64) 0 0 (FP.l2d (Int32.toInt64 (p2 % (1048576 : Int32)))) m1 s1 h1 n0 Zc2 F1_count F1_mean F1_squaredDeviations A1 g_b1 ok1) hZ (hw _ (List.mem_of_getElem? (i := 23) rfl)) (hw _ (List.mem_of_getElem? (i := 3) rfl)) (by decide) (by decide)) qa4 qc4 (g := (mkF m 46 #[.val (.int p1), .val (.int p2), .val (.int p3), .val (.int p4), .val (.int (p1 &&& (3 : Int32))), .val (.long (Int32.toInt64 (p2 % (1048576 : Int32)))), .second, .val (.long (Int32.toInt64 (p3 % (1048576 : Int32)))), .second, .val (.long (Int32.toInt64 (p4 % (1048576 : Int32)))), .second, .val (.ref b1), .unset, .unset, .unset, .unset] [(.double (FP.l2d (Int32.toInt64 (p2 % (1048576 : Int32))))), (.ref b1)])) rfl (by rw [hml]; rfl) (Steps.refl _) (argsL := [(.double (FP.l2d (Int32.toInt64 (p2 % (1048576 : Int32)))))]) (rest := []) (lenOf pd3 rfl) rfl (by show 2 * 0 + _ ≤ _; exact Nat.le_of_eq rfl) (hb hby at_46) (fun _ _ => ⟨rfl, ec3, (by decide : 1 + 0 ≤ _), (by decide : 3 + 0 ≤ _)⟩)
  dsimp only [Pt.U, Pt.locs, Pt.cells, Pt.slots] at X4 l4 y4 z4 st4 hQ4
  subst l4 y4 z4
  obtain ⟨rfl, Nc4, Kc4, fc4_0, fc4_1, fc4_2⟩ := hQ4
  have N4 := Fr.app N3 Nc4
  have K4 : Keep h0 T4.heap [] := Keep.trans K2 Kc4 (allS (Or.inr sz_b1) all0)
  have Zc4 : n0 ≤ T4.heap.size := Nat.le_trans Zc2 Kc4.1
  have f6 : Exa Z T4.heap b1 "com/example/tidegate/tidegate/stats/RunningMoments" := (Exa.keep A1 Kc4)
  obtain ⟨cq5, kq5, qa5, qb5, qc5⟩ := isOf hZ rfl f6
  obtain ⟨_, _, ⟨T5, L5, k5, n5⟩, -, X5, ⟨Lc5, hQ5, l5, y5, z5⟩, st5⟩ := X4.virtualBack hx (y := (⟨"com/example/tidegate/tidegate/stats/RunningMoments", "add", "(D)V"⟩ : MethodName)) (z := (⟨"com/example/tidegate/tidegate/stats/RunningMoments", "add", "(D)V"⟩ : MethodName)) hown (mvT hZ (hw _ (List.mem_of_getElem? (i := 19) rfl))) (mvT hZ (hw _ (List.mem_of_getElem? (i := 20) rfl))) (notFace_of_selects (args := #[]) (mvT hZ (hw _ (List.mem_of_getElem? (i := 22) rfl)))) (mvT hZ (hw _ (List.mem_of_getElem? (i := 22) rfl))) (mvT hZ (hw _ (List.mem_of_getElem? (i := 21) rfl))) (by decide) (backOf (W := 0) (rmA l Z a0 hw [] b1 ((0 : Int64) + (1 : Int64)) m1 s1 (FP.l2d (Int32.toInt64 (p3 % (1048576 : Int32)))) m2 s2 T4.heap n0 Zc4 fc4_0 fc4_1 fc4_2 f6 g_b1 ok2) hZ (hw _ (List.mem_of_getElem? (i := 23) rfl)) (hw _ (List.mem_of_getElem? (i := 3) rfl)) (by decide) (by decide)) qa5 qc5 (g := (mkF m 60 #[.val (.int p1), .val (.int p2), .val (.int p3), .val (.int p4), .val (.int (p1 &&& (3 : Int32))), .val (.long (Int32.toInt64 (p2 % (1048576 : Int32)))), .second, .val (.long (Int32.toInt64 (p3 % (1048576 : Int32)))), .second, .val (.long (Int32.toInt64 (p4 % (1048576 : Int32)))), .second, .val (.ref b1), .unset, .unset, .unset, .unset] [(.double (FP.l2d (Int32.toInt64 (p3 % (1048576 : Int32))))), (.ref b1)])) rfl (by rw [hml]; rfl) (Steps.refl _) (argsL := [(.double (FP.l2d (Int32.toInt64 (p3 % (1048576 : Int32)))))]) (rest := []) (lenOf pd3 rfl) rfl (by show 2 * 0 + _ ≤ _; exact Nat.le_of_eq rfl) (hb hby at_60) (fun _ _ => ⟨rfl, rfl, (by decide : 1 + 0 ≤ _), (by decide : 3 + 0 ≤ _)⟩)
  dsimp only [Pt.U, Pt.locs, Pt.cells, Pt.slots] at X5 l5 y5 z5 st5 hQ5
  subst l5 y5 z5
  obtain ⟨rfl, Nc5, Kc5, fc5_0, fc5_1, fc5_2⟩ := hQ5
  have N5 := Fr.app N4 Nc5
  have K5 : Keep h0 T5.heap [] := Keep.trans K4 Kc5 (allS (Or.inr sz_b1) all0)
  have Zc5 : n0 ≤ T5.heap.size := Nat.le_trans Zc4 Kc5.1
  have f8 : Exa Z T5.heap b1 "com/example/tidegate/tidegate/stats/RunningMoments" := (Exa.keep f6 Kc5)
  obtain ⟨cq7, kq7, qa7, qb7, qc7⟩ := isOf hZ rfl f8
  obtain ⟨_, _, ⟨T7, L7, k7, n7⟩, -, X7, ⟨Lc7, hQ7, l7, y7, z7⟩, st7⟩ := X5.virtualBack hx (y := (⟨"com/example/tidegate/tidegate/stats/RunningMoments", "variance", "()D"⟩ : MethodName)) (z := (⟨"com/example/tidegate/tidegate/stats/RunningMoments", "variance", "()D"⟩ : MethodName)) hown (mvT hZ (hw _ (List.mem_of_getElem? (i := 10) rfl))) (mvT hZ (hw _ (List.mem_of_getElem? (i := 11) rfl))) (notFace_of_selects (args := #[]) (mvT hZ (hw _ (List.mem_of_getElem? (i := 13) rfl)))) (mvT hZ (hw _ (List.mem_of_getElem? (i := 13) rfl))) (mvT hZ (hw _ (List.mem_of_getElem? (i := 12) rfl))) (by decide) (backOf (W := 0) (rmVd l Z a0 hw [] b1 (((0 : Int64) + (1 : Int64)) + (1 : Int64)) s2 r T5.heap n0 Zc5 fc5_0 fc5_2 (by decide) hnv hvv) hZ (hw _ (List.mem_of_getElem? (i := 14) rfl)) (hw _ (List.mem_of_getElem? (i := 3) rfl)) (by decide) (by decide)) qa7 qc7 (g := (mkF m 93 #[.val (.int p1), .val (.int p2), .val (.int p3), .val (.int p4), .val (.int (p1 &&& (3 : Int32))), .val (.long (Int32.toInt64 (p2 % (1048576 : Int32)))), .second, .val (.long (Int32.toInt64 (p3 % (1048576 : Int32)))), .second, .val (.long (Int32.toInt64 (p4 % (1048576 : Int32)))), .second, .val (.ref b1), .unset, .unset, .unset, .unset] [(.ref b1)])) rfl (by rw [hml]; rfl) (Steps.refl _) (argsL := []) (rest := []) (lenOf pd2 rfl) rfl (by show 2 * 0 + _ ≤ _; exact Nat.le_of_eq rfl) (hb hby at_93) (fun _ _ => ⟨rfl, rfl, (by decide : 1 + 0 ≤ _), (by decide : 3 + 0 ≤ _)⟩)
  dsimp only [Pt.U, Pt.locs, Pt.cells, Pt.slots] at X7 l7 y7 z7 st7 hQ7
  subst l7 y7 z7
  obtain ⟨rfl, Nc7, ec7⟩ := hQ7
  have N7 := Fr.app N5 Nc7
  obtain ⟨fs, hr, hrun, hended, hW, hsame⟩ := X7.leave (v := some (.int (1 : Int32))) (fun h => by rw [Bd.returns] at h; cases h)
  refine ⟨_, _, pre0 _ ?_, hrun, hended, _, _, rfl, ?_, ⟨_, rfl⟩, hW, hsame.mono (by decide) (by decide)⟩
  · show Steps p.tables e below (s₁.setTop (mkF m 0 #[.val (.int p1), .val (.int p2), .val (.int p3), .val (.int p4), .unset, .unset, .unset, .unset, .unset, .unset, .unset, .unset, .unset, .unset, .unset, .unset] [])) _
    refine XS.iloadN X0.here hx rfl (hb hby at_0) rfl ?_
    show Steps p.tables e below (s₁.setTop (mkF m 1 #[.val (.int p1), .val (.int p2), .val (.int p3), .val (.int p4), .unset, .unset, .unset, .unset, .unset, .unset, .unset, .unset, .unset, .unset, .unset, .unset] [(.int p1)])) _
    refine XS.iconst X0.here hx rfl (hb hby at_1) ?_
    show Steps p.tables e below (s₁.setTop (mkF m 2 #[.val (.int p1), .val (.int p2), .val (.int p3), .val (.int p4), .unset, .unset, .unset, .unset, .unset, .unset, .unset, .unset, .unset, .unset, .unset, .unset] [(.int (3 : Int32)), (.int p1)])) _
    refine XS.iand X0.here hx rfl (hb hby at_2) rfl ?_
    show Steps p.tables e below (s₁.setTop (mkF m 3 #[.val (.int p1), .val (.int p2), .val (.int p3), .val (.int p4), .unset, .unset, .unset, .unset, .unset, .unset, .unset, .unset, .unset, .unset, .unset, .unset] [(.int (p1 &&& (3 : Int32)))])) _
    refine XS.istore X0.here hx rfl (hb hby at_3) rfl (l' := #[.val (.int p1), .val (.int p2), .val (.int p3), .val (.int p4), .val (.int (p1 &&& (3 : Int32))), .unset, .unset, .unset, .unset, .unset, .unset, .unset, .unset, .unset, .unset, .unset]) rfl ?_
    show Steps p.tables e below (s₁.setTop (mkF m 5 #[.val (.int p1), .val (.int p2), .val (.int p3), .val (.int p4), .val (.int (p1 &&& (3 : Int32))), .unset, .unset, .unset, .unset, .unset, .unset, .unset, .unset, .unset, .unset, .unset] [])) _
    refine XS.iloadN X0.here hx rfl (hb hby at_5) rfl ?_
    show Steps p.tables e below (s₁.setTop (mkF m 6 #[.val (.int p1), .val (.int p2), .val (.int p3), .val (.int p4), .val (.int (p1 &&& (3 : Int32))), .unset, .unset, .unset, .unset, .unset, .unset, .unset, .unset, .unset, .unset, .unset] [(.int p2)])) _
    refine X0.ldcInt hx hown (mvT hZ (hw _ (List.mem_of_getElem? (i := 0) rfl))) (g := (mkF m 6 #[.val (.int p1), .val (.int p2), .val (.int p3), .val (.int p4), .val (.int (p1 &&& (3 : Int32))), .unset, .unset, .unset, .unset, .unset, .unset, .unset, .unset, .unset, .unset, .unset] [(.int p2)])) rfl (hb hby at_6) _ ?_
    show Steps p.tables e below (s₁.setTop (mkF m 8 #[.val (.int p1), .val (.int p2), .val (.int p3), .val (.int p4), .val (.int (p1 &&& (3 : Int32))), .unset, .unset, .unset, .unset, .unset, .unset, .unset, .unset, .unset, .unset, .unset] [(.int (1048576 : Int32)), (.int p2)])) _
    refine iremM X0 hx rfl (hb hby at_8) rfl (by decide) ?_
    show Steps p.tables e below (s₁.setTop (mkF m 9 #[.val (.int p1), .val (.int p2), .val (.int p3), .val (.int p4), .val (.int (p1 &&& (3 : Int32))), .unset, .unset, .unset, .unset, .unset, .unset, .unset, .unset, .unset, .unset, .unset] [(.int (p2 % (1048576 : Int32)))])) _
    refine XS.i2l X0.here hx rfl (hb hby at_9) rfl ?_
    show Steps p.tables e below (s₁.setTop (mkF m 10 #[.val (.int p1), .val (.int p2), .val (.int p3), .val (.int p4), .val (.int (p1 &&& (3 : Int32))), .unset, .unset, .unset, .unset, .unset, .unset, .unset, .unset, .unset, .unset, .unset] [(.long (Int32.toInt64 (p2 % (1048576 : Int32))))])) _
    refine XS.lstore X0.here hx rfl (hb hby at_10) rfl (l' := #[.val (.int p1), .val (.int p2), .val (.int p3), .val (.int p4), .val (.int (p1 &&& (3 : Int32))), .val (.long (Int32.toInt64 (p2 % (1048576 : Int32)))), .second, .unset, .unset, .unset, .unset, .unset, .unset, .unset, .unset, .unset]) rfl ?_
    show Steps p.tables e below (s₁.setTop (mkF m 12 #[.val (.int p1), .val (.int p2), .val (.int p3), .val (.int p4), .val (.int (p1 &&& (3 : Int32))), .val (.long (Int32.toInt64 (p2 % (1048576 : Int32)))), .second, .unset, .unset, .unset, .unset, .unset, .unset, .unset, .unset, .unset] [])) _
    refine XS.iloadN X0.here hx rfl (hb hby at_12) rfl ?_
    show Steps p.tables e below (s₁.setTop (mkF m 13 #[.val (.int p1), .val (.int p2), .val (.int p3), .val (.int p4), .val (.int (p1 &&& (3 : Int32))), .val (.long (Int32.toInt64 (p2 % (1048576 : Int32)))), .second, .unset, .unset, .unset, .unset, .unset, .unset, .unset, .unset, .unset] [(.int p3)])) _
    refine X0.ldcInt hx hown (mvT hZ (hw _ (List.mem_of_getElem? (i := 0) rfl))) (g := (mkF m 13 #[.val (.int p1), .val (.int p2), .val (.int p3), .val (.int p4), .val (.int (p1 &&& (3 : Int32))), .val (.long (Int32.toInt64 (p2 % (1048576 : Int32)))), .second, .unset, .unset, .unset, .unset, .unset, .unset, .unset, .unset, .unset] [(.int p3)])) rfl (hb hby at_13) _ ?_
    show Steps p.tables e below (s₁.setTop (mkF m 15 #[.val (.int p1), .val (.int p2), .val (.int p3), .val (.int p4), .val (.int (p1 &&& (3 : Int32))), .val (.long (Int32.toInt64 (p2 % (1048576 : Int32)))), .second, .unset, .unset, .unset, .unset, .unset, .unset, .unset, .unset, .unset] [(.int (1048576 : Int32)), (.int p3)])) _
    refine iremM X0 hx rfl (hb hby at_15) rfl (by decide) ?_
    show Steps p.tables e below (s₁.setTop (mkF m 16 #[.val (.int p1), .val (.int p2), .val (.int p3), .val (.int p4), .val (.int (p1 &&& (3 : Int32))), .val (.long (Int32.toInt64 (p2 % (1048576 : Int32)))), .second, .unset, .unset, .unset, .unset, .unset, .unset, .unset, .unset, .unset] [(.int (p3 % (1048576 : Int32)))])) _
    refine XS.i2l X0.here hx rfl (hb hby at_16) rfl ?_
    show Steps p.tables e below (s₁.setTop (mkF m 17 #[.val (.int p1), .val (.int p2), .val (.int p3), .val (.int p4), .val (.int (p1 &&& (3 : Int32))), .val (.long (Int32.toInt64 (p2 % (1048576 : Int32)))), .second, .unset, .unset, .unset, .unset, .unset, .unset, .unset, .unset, .unset] [(.long (Int32.toInt64 (p3 % (1048576 : Int32))))])) _
    refine XS.lstore X0.here hx rfl (hb hby at_17) rfl (l' := #[.val (.int p1), .val (.int p2), .val (.int p3), .val (.int p4), .val (.int (p1 &&& (3 : Int32))), .val (.long (Int32.toInt64 (p2 % (1048576 : Int32)))), .second, .val (.long (Int32.toInt64 (p3 % (1048576 : Int32)))), .second, .unset, .unset, .unset, .unset, .unset, .unset, .unset]) rfl ?_
    show Steps p.tables e below (s₁.setTop (mkF m 19 #[.val (.int p1), .val (.int p2), .val (.int p3), .val (.int p4), .val (.int (p1 &&& (3 : Int32))), .val (.long (Int32.toInt64 (p2 % (1048576 : Int32)))), .second, .val (.long (Int32.toInt64 (p3 % (1048576 : Int32)))), .second, .unset, .unset, .unset, .unset, .unset, .unset, .unset] [])) _
    refine XS.iloadN X0.here hx rfl (hb hby at_19) rfl ?_
    show Steps p.tables e below (s₁.setTop (mkF m 20 #[.val (.int p1), .val (.int p2), .val (.int p3), .val (.int p4), .val (.int (p1 &&& (3 : Int32))), .val (.long (Int32.toInt64 (p2 % (1048576 : Int32)))), .second, .val (.long (Int32.toInt64 (p3 % (1048576 : Int32)))), .second, .unset, .unset, .unset, .unset, .unset, .unset, .unset] [(.int p4)])) _
    refine X0.ldcInt hx hown (mvT hZ (hw _ (List.mem_of_getElem? (i := 0) rfl))) (g := (mkF m 20 #[.val (.int p1), .val (.int p2), .val (.int p3), .val (.int p4), .val (.int (p1 &&& (3 : Int32))), .val (.long (Int32.toInt64 (p2 % (1048576 : Int32)))), .second, .val (.long (Int32.toInt64 (p3 % (1048576 : Int32)))), .second, .unset, .unset, .unset, .unset, .unset, .unset, .unset] [(.int p4)])) rfl (hb hby at_20) _ ?_
    show Steps p.tables e below (s₁.setTop (mkF m 22 #[.val (.int p1), .val (.int p2), .val (.int p3), .val (.int p4), .val (.int (p1 &&& (3 : Int32))), .val (.long (Int32.toInt64 (p2 % (1048576 : Int32)))), .second, .val (.long (Int32.toInt64 (p3 % (1048576 : Int32)))), .second, .unset, .unset, .unset, .unset, .unset, .unset, .unset] [(.int (1048576 : Int32)), (.int p4)])) _
    refine iremM X0 hx rfl (hb hby at_22) rfl (by decide) ?_
    show Steps p.tables e below (s₁.setTop (mkF m 23 #[.val (.int p1), .val (.int p2), .val (.int p3), .val (.int p4), .val (.int (p1 &&& (3 : Int32))), .val (.long (Int32.toInt64 (p2 % (1048576 : Int32)))), .second, .val (.long (Int32.toInt64 (p3 % (1048576 : Int32)))), .second, .unset, .unset, .unset, .unset, .unset, .unset, .unset] [(.int (p4 % (1048576 : Int32)))])) _
    refine XS.i2l X0.here hx rfl (hb hby at_23) rfl ?_
    show Steps p.tables e below (s₁.setTop (mkF m 24 #[.val (.int p1), .val (.int p2), .val (.int p3), .val (.int p4), .val (.int (p1 &&& (3 : Int32))), .val (.long (Int32.toInt64 (p2 % (1048576 : Int32)))), .second, .val (.long (Int32.toInt64 (p3 % (1048576 : Int32)))), .second, .unset, .unset, .unset, .unset, .unset, .unset, .unset] [(.long (Int32.toInt64 (p4 % (1048576 : Int32))))])) _
    refine XS.lstore X0.here hx rfl (hb hby at_24) rfl (l' := #[.val (.int p1), .val (.int p2), .val (.int p3), .val (.int p4), .val (.int (p1 &&& (3 : Int32))), .val (.long (Int32.toInt64 (p2 % (1048576 : Int32)))), .second, .val (.long (Int32.toInt64 (p3 % (1048576 : Int32)))), .second, .val (.long (Int32.toInt64 (p4 % (1048576 : Int32)))), .second, .unset, .unset, .unset, .unset, .unset]) rfl ?_
    show Steps p.tables e below (s₁.setTop (mkF m 26 #[.val (.int p1), .val (.int p2), .val (.int p3), .val (.int p4), .val (.int (p1 &&& (3 : Int32))), .val (.long (Int32.toInt64 (p2 % (1048576 : Int32)))), .second, .val (.long (Int32.toInt64 (p3 % (1048576 : Int32)))), .second, .val (.long (Int32.toInt64 (p4 % (1048576 : Int32)))), .second, .unset, .unset, .unset, .unset, .unset] [])) _
    refine st1 _ ?_
    show Steps p.tables e below (T1.setTop (mkF m 29 #[.val (.int p1), .val (.int p2), .val (.int p3), .val (.int p4), .val (.int (p1 &&& (3 : Int32))), .val (.long (Int32.toInt64 (p2 % (1048576 : Int32)))), .second, .val (.long (Int32.toInt64 (p3 % (1048576 : Int32)))), .second, .val (.long (Int32.toInt64 (p4 % (1048576 : Int32)))), .second, .unset, .unset, .unset, .unset, .unset] [(.ref b1)])) _
    refine XS.dup X1.here hx rfl (hb hby at_29) rfl rfl ?_
    show Steps p.tables e below (T1.setTop (mkF m 30 #[.val (.int p1), .val (.int p2), .val (.int p3), .val (.int p4), .val (.int (p1 &&& (3 : Int32))), .val (.long (Int32.toInt64 (p2 % (1048576 : Int32)))), .second, .val (.long (Int32.toInt64 (p3 % (1048576 : Int32)))), .second, .val (.long (Int32.toInt64 (p4 % (1048576 : Int32)))), .second, .unset, .unset, .unset, .unset, .unset] [(.ref b1), (.ref b1)])) _
    refine st3.trans ?_
    show Steps p.tables e below (T3.setTop (mkF m 33 #[.val (.int p1), .val (.int p2), .val (.int p3), .val (.int p4), .val (.int (p1 &&& (3 : Int32))), .val (.long (Int32.toInt64 (p2 % (1048576 : Int32)))), .second, .val (.long (Int32.toInt64 (p3 % (1048576 : Int32)))), .second, .val (.long (Int32.toInt64 (p4 % (1048576 : Int32)))), .second, .unset, .unset, .unset, .unset, .unset] [(.ref b1)])) _
    refine XS.astore X3.here hx rfl (hb hby at_33) rfl rfl (l' := #[.val (.int p1), .val (.int p2), .val (.int p3), .val (.int p4), .val (.int (p1 &&& (3 : Int32))), .val (.long (Int32.toInt64 (p2 % (1048576 : Int32)))), .second, .val (.long (Int32.toInt64 (p3 % (1048576 : Int32)))), .second, .val (.long (Int32.toInt64 (p4 % (1048576 : Int32)))), .second, .val (.ref b1), .unset, .unset, .unset, .unset]) rfl ?_
    show Steps p.tables e below (T3.setTop (mkF m 35 #[.val (.int p1), .val (.int p2), .val (.int p3), .val (.int p4), .val (.int (p1 &&& (3 : Int32))), .val (.long (Int32.toInt64 (p2 % (1048576 : Int32)))), .second, .val (.long (Int32.toInt64 (p3 % (1048576 : Int32)))), .second, .val (.long (Int32.toInt64 (p4 % (1048576 : Int32)))), .second, .val (.ref b1), .unset, .unset, .unset, .unset] [])) _
    refine XS.iload X3.here hx rfl (hb hby at_35) rfl ?_
    show Steps p.tables e below (T3.setTop (mkF m 37 #[.val (.int p1), .val (.int p2), .val (.int p3), .val (.int p4), .val (.int (p1 &&& (3 : Int32))), .val (.long (Int32.toInt64 (p2 % (1048576 : Int32)))), .second, .val (.long (Int32.toInt64 (p3 % (1048576 : Int32)))), .second, .val (.long (Int32.toInt64 (p4 % (1048576 : Int32)))), .second, .val (.ref b1), .unset, .unset, .unset, .unset] [(.int (p1 &&& (3 : Int32)))])) _
    refine XS.iconst X3.here hx rfl (hb hby at_37) ?_
    show Steps p.tables e below (T3.setTop (mkF m 38 #[.val (.int p1), .val (.int p2), .val (.int p3), .val (.int p4), .val (.int (p1 &&& (3 : Int32))), .val (.long (Int32.toInt64 (p2 % (1048576 : Int32)))), .second, .val (.long (Int32.toInt64 (p3 % (1048576 : Int32)))), .second, .val (.long (Int32.toInt64 (p4 % (1048576 : Int32)))), .second, .val (.ref b1), .unset, .unset, .unset, .unset] [(.int (1 : Int32)), (.int (p1 &&& (3 : Int32)))])) _
    refine XS.icmpNo X3.here hx rfl (hb hby at_38) rfl (flt (by rw [hk]; decide)).1 ?_
    show Steps p.tables e below (T3.setTop (mkF m 41 #[.val (.int p1), .val (.int p2), .val (.int p3), .val (.int p4), .val (.int (p1 &&& (3 : Int32))), .val (.long (Int32.toInt64 (p2 % (1048576 : Int32)))), .second, .val (.long (Int32.toInt64 (p3 % (1048576 : Int32)))), .second, .val (.long (Int32.toInt64 (p4 % (1048576 : Int32)))), .second, .val (.ref b1), .unset, .unset, .unset, .unset] [])) _
    refine XS.aload X3.here hx rfl (hb hby at_41) rfl rfl ?_
    show Steps p.tables e below (T3.setTop (mkF m 43 #[.val (.int p1), .val (.int p2), .val (.int p3), .val (.int p4), .val (.int (p1 &&& (3 : Int32))), .val (.long (Int32.toInt64 (p2 % (1048576 : Int32)))), .second, .val (.long (Int32.toInt64 (p3 % (1048576 : Int32)))), .second, .val (.long (Int32.toInt64 (p4 % (1048576 : Int32)))), .second, .val (.ref b1), .unset, .unset, .unset, .unset] [(.ref b1)])) _
    refine XS.lload X3.here hx rfl (hb hby at_43) rfl ?_
    show Steps p.tables e below (T3.setTop (mkF m 45 #[.val (.int p1), .val (.int p2), .val (.int p3), .val (.int p4), .val (.int (p1 &&& (3 : Int32))), .val (.long (Int32.toInt64 (p2 % (1048576 : Int32)))), .second, .val (.long (Int32.toInt64 (p3 % (1048576 : Int32)))), .second, .val (.long (Int32.toInt64 (p4 % (1048576 : Int32)))), .second, .val (.ref b1), .unset, .unset, .unset, .unset] [(.long (Int32.toInt64 (p2 % (1048576 : Int32)))), (.ref b1)])) _
    refine XS.l2dS X3.here hx rfl (v := (FP.l2d (Int32.toInt64 (p2 % (1048576 : Int32))))) (hb hby at_45) rfl rfl ?_
    show Steps p.tables e below (T3.setTop (mkF m 46 #[.val (.int p1), .val (.int p2), .val (.int p3), .val (.int p4), .val (.int (p1 &&& (3 : Int32))), .val (.long (Int32.toInt64 (p2 % (1048576 : Int32)))), .second, .val (.long (Int32.toInt64 (p3 % (1048576 : Int32)))), .second, .val (.long (Int32.toInt64 (p4 % (1048576 : Int32)))), .second, .val (.ref b1), .unset, .unset, .unset, .unset] [(.double (FP.l2d (Int32.toInt64 (p2 % (1048576 : Int32))))), (.ref b1)])) _
    refine st4.trans ?_
    show Steps p.tables e below (T4.setTop (mkF m 49 #[.val (.int p1), .val (.int p2), .val (.int p3), .val (.int p4), .val (.int (p1 &&& (3 : Int32))), .val (.long (Int32.toInt64 (p2 % (1048576 : Int32)))), .second, .val (.long (Int32.toInt64 (p3 % (1048576 : Int32)))), .second, .val (.long (Int32.toInt64 (p4 % (1048576 : Int32)))), .second, .val (.ref b1), .unset, .unset, .unset, .unset] [])) _
    refine XS.iload X4.here hx rfl (hb hby at_49) rfl ?_
    show Steps p.tables e below (T4.setTop (mkF m 51 #[.val (.int p1), .val (.int p2), .val (.int p3), .val (.int p4), .val (.int (p1 &&& (3 : Int32))), .val (.long (Int32.toInt64 (p2 % (1048576 : Int32)))), .second, .val (.long (Int32.toInt64 (p3 % (1048576 : Int32)))), .second, .val (.long (Int32.toInt64 (p4 % (1048576 : Int32)))), .second, .val (.ref b1), .unset, .unset, .unset, .unset] [(.int (p1 &&& (3 : Int32)))])) _
    refine XS.iconst X4.here hx rfl (hb hby at_51) ?_
    show Steps p.tables e below (T4.setTop (mkF m 52 #[.val (.int p1), .val (.int p2), .val (.int p3), .val (.int p4), .val (.int (p1 &&& (3 : Int32))), .val (.long (Int32.toInt64 (p2 % (1048576 : Int32)))), .second, .val (.long (Int32.toInt64 (p3 % (1048576 : Int32)))), .second, .val (.long (Int32.toInt64 (p4 % (1048576 : Int32)))), .second, .val (.ref b1), .unset, .unset, .unset, .unset] [(.int (2 : Int32)), (.int (p1 &&& (3 : Int32)))])) _
    refine XS.icmpNo X4.here hx rfl (hb hby at_52) rfl (flt (by rw [hk]; decide)).1 ?_
    show Steps p.tables e below (T4.setTop (mkF m 55 #[.val (.int p1), .val (.int p2), .val (.int p3), .val (.int p4), .val (.int (p1 &&& (3 : Int32))), .val (.long (Int32.toInt64 (p2 % (1048576 : Int32)))), .second, .val (.long (Int32.toInt64 (p3 % (1048576 : Int32)))), .second, .val (.long (Int32.toInt64 (p4 % (1048576 : Int32)))), .second, .val (.ref b1), .unset, .unset, .unset, .unset] [])) _
    refine XS.aload X4.here hx rfl (hb hby at_55) rfl rfl ?_
    show Steps p.tables e below (T4.setTop (mkF m 57 #[.val (.int p1), .val (.int p2), .val (.int p3), .val (.int p4), .val (.int (p1 &&& (3 : Int32))), .val (.long (Int32.toInt64 (p2 % (1048576 : Int32)))), .second, .val (.long (Int32.toInt64 (p3 % (1048576 : Int32)))), .second, .val (.long (Int32.toInt64 (p4 % (1048576 : Int32)))), .second, .val (.ref b1), .unset, .unset, .unset, .unset] [(.ref b1)])) _
    refine XS.lload X4.here hx rfl (hb hby at_57) rfl ?_
    show Steps p.tables e below (T4.setTop (mkF m 59 #[.val (.int p1), .val (.int p2), .val (.int p3), .val (.int p4), .val (.int (p1 &&& (3 : Int32))), .val (.long (Int32.toInt64 (p2 % (1048576 : Int32)))), .second, .val (.long (Int32.toInt64 (p3 % (1048576 : Int32)))), .second, .val (.long (Int32.toInt64 (p4 % (1048576 : Int32)))), .second, .val (.ref b1), .unset, .unset, .unset, .unset] [(.long (Int32.toInt64 (p3 % (1048576 : Int32)))), (.ref b1)])) _
    refine XS.l2dS X4.here hx rfl (v := (FP.l2d (Int32.toInt64 (p3 % (1048576 : Int32))))) (hb hby at_59) rfl rfl ?_
    show Steps p.tables e below (T4.setTop (mkF m 60 #[.val (.int p1), .val (.int p2), .val (.int p3), .val (.int p4), .val (.int (p1 &&& (3 : Int32))), .val (.long (Int32.toInt64 (p2 % (1048576 : Int32)))), .second, .val (.long (Int32.toInt64 (p3 % (1048576 : Int32)))), .second, .val (.long (Int32.toInt64 (p4 % (1048576 : Int32)))), .second, .val (.ref b1), .unset, .unset, .unset, .unset] [(.double (FP.l2d (Int32.toInt64 (p3 % (1048576 : Int32))))), (.ref b1)])) _
    refine st5.trans ?_
    show Steps p.tables e below (T5.setTop (mkF m 63 #[.val (.int p1), .val (.int p2), .val (.int p3), .val (.int p4), .val (.int (p1 &&& (3 : Int32))), .val (.long (Int32.toInt64 (p2 % (1048576 : Int32)))), .second, .val (.long (Int32.toInt64 (p3 % (1048576 : Int32)))), .second, .val (.long (Int32.toInt64 (p4 % (1048576 : Int32)))), .second, .val (.ref b1), .unset, .unset, .unset, .unset] [])) _
    refine XS.iload X5.here hx rfl (hb hby at_63) rfl ?_
    show Steps p.tables e below (T5.setTop (mkF m 65 #[.val (.int p1), .val (.int p2), .val (.int p3), .val (.int p4), .val (.int (p1 &&& (3 : Int32))), .val (.long (Int32.toInt64 (p2 % (1048576 : Int32)))), .second, .val (.long (Int32.toInt64 (p3 % (1048576 : Int32)))), .second, .val (.long (Int32.toInt64 (p4 % (1048576 : Int32)))), .second, .val (.ref b1), .unset, .unset, .unset, .unset] [(.int (p1 &&& (3 : Int32)))])) _
    refine XS.iconst X5.here hx rfl (hb hby at_65) ?_
    show Steps p.tables e below (T5.setTop (mkF m 66 #[.val (.int p1), .val (.int p2), .val (.int p3), .val (.int p4), .val (.int (p1 &&& (3 : Int32))), .val (.long (Int32.toInt64 (p2 % (1048576 : Int32)))), .second, .val (.long (Int32.toInt64 (p3 % (1048576 : Int32)))), .second, .val (.long (Int32.toInt64 (p4 % (1048576 : Int32)))), .second, .val (.ref b1), .unset, .unset, .unset, .unset] [(.int (3 : Int32)), (.int (p1 &&& (3 : Int32)))])) _
    refine XS.icmpYes X5.here hx rfl (pc0 := 66) (pc' := 91) rfl (hb hby at_66) rfl (tlt (by rw [hk]; decide)).1 (by decide) (by decide) ?_
    show Steps p.tables e below (T5.setTop (mkF m 91 #[.val (.int p1), .val (.int p2), .val (.int p3), .val (.int p4), .val (.int (p1 &&& (3 : Int32))), .val (.long (Int32.toInt64 (p2 % (1048576 : Int32)))), .second, .val (.long (Int32.toInt64 (p3 % (1048576 : Int32)))), .second, .val (.long (Int32.toInt64 (p4 % (1048576 : Int32)))), .second, .val (.ref b1), .unset, .unset, .unset, .unset] [])) _
    refine XS.aload X5.here hx rfl (hb hby at_91) rfl rfl ?_
    show Steps p.tables e below (T5.setTop (mkF m 93 #[.val (.int p1), .val (.int p2), .val (.int p3), .val (.int p4), .val (.int (p1 &&& (3 : Int32))), .val (.long (Int32.toInt64 (p2 % (1048576 : Int32)))), .second, .val (.long (Int32.toInt64 (p3 % (1048576 : Int32)))), .second, .val (.long (Int32.toInt64 (p4 % (1048576 : Int32)))), .second, .val (.ref b1), .unset, .unset, .unset, .unset] [(.ref b1)])) _
    refine st7.trans ?_
    show Steps p.tables e below (T7.setTop (mkF m 96 #[.val (.int p1), .val (.int p2), .val (.int p3), .val (.int p4), .val (.int (p1 &&& (3 : Int32))), .val (.long (Int32.toInt64 (p2 % (1048576 : Int32)))), .second, .val (.long (Int32.toInt64 (p3 % (1048576 : Int32)))), .second, .val (.long (Int32.toInt64 (p4 % (1048576 : Int32)))), .second, .val (.ref b1), .unset, .unset, .unset, .unset] [(.double r)])) _
    refine XS.dstore X7.here hx rfl (hb hby at_96) rfl (l' := #[.val (.int p1), .val (.int p2), .val (.int p3), .val (.int p4), .val (.int (p1 &&& (3 : Int32))), .val (.long (Int32.toInt64 (p2 % (1048576 : Int32)))), .second, .val (.long (Int32.toInt64 (p3 % (1048576 : Int32)))), .second, .val (.long (Int32.toInt64 (p4 % (1048576 : Int32)))), .second, .val (.ref b1), .val (.double r), .second, .unset, .unset]) rfl ?_
    show Steps p.tables e below (T7.setTop (mkF m 98 #[.val (.int p1), .val (.int p2), .val (.int p3), .val (.int p4), .val (.int (p1 &&& (3 : Int32))), .val (.long (Int32.toInt64 (p2 % (1048576 : Int32)))), .second, .val (.long (Int32.toInt64 (p3 % (1048576 : Int32)))), .second, .val (.long (Int32.toInt64 (p4 % (1048576 : Int32)))), .second, .val (.ref b1), .val (.double r), .second, .unset, .unset] [])) _
    refine XS.iload X7.here hx rfl (hb hby at_98) rfl ?_
    show Steps p.tables e below (T7.setTop (mkF m 100 #[.val (.int p1), .val (.int p2), .val (.int p3), .val (.int p4), .val (.int (p1 &&& (3 : Int32))), .val (.long (Int32.toInt64 (p2 % (1048576 : Int32)))), .second, .val (.long (Int32.toInt64 (p3 % (1048576 : Int32)))), .second, .val (.long (Int32.toInt64 (p4 % (1048576 : Int32)))), .second, .val (.ref b1), .val (.double r), .second, .unset, .unset] [(.int (p1 &&& (3 : Int32)))])) _
    refine XS.iconst X7.here hx rfl (hb hby at_100) ?_
    show Steps p.tables e below (T7.setTop (mkF m 101 #[.val (.int p1), .val (.int p2), .val (.int p3), .val (.int p4), .val (.int (p1 &&& (3 : Int32))), .val (.long (Int32.toInt64 (p2 % (1048576 : Int32)))), .second, .val (.long (Int32.toInt64 (p3 % (1048576 : Int32)))), .second, .val (.long (Int32.toInt64 (p4 % (1048576 : Int32)))), .second, .val (.ref b1), .val (.double r), .second, .unset, .unset] [(.int (2 : Int32)), (.int (p1 &&& (3 : Int32)))])) _
    refine XS.icmpYes X7.here hx rfl (pc0 := 101) (pc' := 118) rfl (hb hby at_101) rfl (flt (by rw [hk]; decide)).2.1 (by decide) (by decide) ?_
    show Steps p.tables e below (T7.setTop (mkF m 118 #[.val (.int p1), .val (.int p2), .val (.int p3), .val (.int p4), .val (.int (p1 &&& (3 : Int32))), .val (.long (Int32.toInt64 (p2 % (1048576 : Int32)))), .second, .val (.long (Int32.toInt64 (p3 % (1048576 : Int32)))), .second, .val (.long (Int32.toInt64 (p4 % (1048576 : Int32)))), .second, .val (.ref b1), .val (.double r), .second, .unset, .unset] [])) _
    refine XS.lload X7.here hx rfl (hb hby at_118) rfl ?_
    show Steps p.tables e below (T7.setTop (mkF m 120 #[.val (.int p1), .val (.int p2), .val (.int p3), .val (.int p4), .val (.int (p1 &&& (3 : Int32))), .val (.long (Int32.toInt64 (p2 % (1048576 : Int32)))), .second, .val (.long (Int32.toInt64 (p3 % (1048576 : Int32)))), .second, .val (.long (Int32.toInt64 (p4 % (1048576 : Int32)))), .second, .val (.ref b1), .val (.double r), .second, .unset, .unset] [(.long (Int32.toInt64 (p3 % (1048576 : Int32))))])) _
    refine XS.lload X7.here hx rfl (hb hby at_120) rfl ?_
    show Steps p.tables e below (T7.setTop (mkF m 122 #[.val (.int p1), .val (.int p2), .val (.int p3), .val (.int p4), .val (.int (p1 &&& (3 : Int32))), .val (.long (Int32.toInt64 (p2 % (1048576 : Int32)))), .second, .val (.long (Int32.toInt64 (p3 % (1048576 : Int32)))), .second, .val (.long (Int32.toInt64 (p4 % (1048576 : Int32)))), .second, .val (.ref b1), .val (.double r), .second, .unset, .unset] [(.long (Int32.toInt64 (p2 % (1048576 : Int32)))), (.long (Int32.toInt64 (p3 % (1048576 : Int32))))])) _
    refine XS.lsub X7.here hx rfl (hb hby at_122) rfl ?_
    show Steps p.tables e below (T7.setTop (mkF m 123 #[.val (.int p1), .val (.int p2), .val (.int p3), .val (.int p4), .val (.int (p1 &&& (3 : Int32))), .val (.long (Int32.toInt64 (p2 % (1048576 : Int32)))), .second, .val (.long (Int32.toInt64 (p3 % (1048576 : Int32)))), .second, .val (.long (Int32.toInt64 (p4 % (1048576 : Int32)))), .second, .val (.ref b1), .val (.double r), .second, .unset, .unset] [(.long ((Int32.toInt64 (p3 % (1048576 : Int32))) - (Int32.toInt64 (p2 % (1048576 : Int32)))))])) _
    refine XS.lstore X7.here hx rfl (hb hby at_123) rfl (l' := #[.val (.int p1), .val (.int p2), .val (.int p3), .val (.int p4), .val (.int (p1 &&& (3 : Int32))), .val (.long (Int32.toInt64 (p2 % (1048576 : Int32)))), .second, .val (.long (Int32.toInt64 (p3 % (1048576 : Int32)))), .second, .val (.long (Int32.toInt64 (p4 % (1048576 : Int32)))), .second, .val (.ref b1), .val (.double r), .second, .val (.long ((Int32.toInt64 (p3 % (1048576 : Int32))) - (Int32.toInt64 (p2 % (1048576 : Int32))))), .second]) rfl ?_
    show Steps p.tables e below (T7.setTop (mkF m 125 #[.val (.int p1), .val (.int p2), .val (.int p3), .val (.int p4), .val (.int (p1 &&& (3 : Int32))), .val (.long (Int32.toInt64 (p2 % (1048576 : Int32)))), .second, .val (.long (Int32.toInt64 (p3 % (1048576 : Int32)))), .second, .val (.long (Int32.toInt64 (p4 % (1048576 : Int32)))), .second, .val (.ref b1), .val (.double r), .second, .val (.long ((Int32.toInt64 (p3 % (1048576 : Int32))) - (Int32.toInt64 (p2 % (1048576 : Int32))))), .second] [])) _
    refine XS.iload X7.here hx rfl (hb hby at_125) rfl ?_
    show Steps p.tables e below (T7.setTop (mkF m 127 #[.val (.int p1), .val (.int p2), .val (.int p3), .val (.int p4), .val (.int (p1 &&& (3 : Int32))), .val (.long (Int32.toInt64 (p2 % (1048576 : Int32)))), .second, .val (.long (Int32.toInt64 (p3 % (1048576 : Int32)))), .second, .val (.long (Int32.toInt64 (p4 % (1048576 : Int32)))), .second, .val (.ref b1), .val (.double r), .second, .val (.long ((Int32.toInt64 (p3 % (1048576 : Int32))) - (Int32.toInt64 (p2 % (1048576 : Int32))))), .second] [(.int (p1 &&& (3 : Int32)))])) _
    refine XS.iconst X7.here hx rfl (hb hby at_127) ?_
    show Steps p.tables e below (T7.setTop (mkF m 128 #[.val (.int p1), .val (.int p2), .val (.int p3), .val (.int p4), .val (.int (p1 &&& (3 : Int32))), .val (.long (Int32.toInt64 (p2 % (1048576 : Int32)))), .second, .val (.long (Int32.toInt64 (p3 % (1048576 : Int32)))), .second, .val (.long (Int32.toInt64 (p4 % (1048576 : Int32)))), .second, .val (.ref b1), .val (.double r), .second, .val (.long ((Int32.toInt64 (p3 % (1048576 : Int32))) - (Int32.toInt64 (p2 % (1048576 : Int32))))), .second] [(.int (2 : Int32)), (.int (p1 &&& (3 : Int32)))])) _
    refine XS.icmpNo X7.here hx rfl (hb hby at_128) rfl (teq hk).2 ?_
    show Steps p.tables e below (T7.setTop (mkF m 131 #[.val (.int p1), .val (.int p2), .val (.int p3), .val (.int p4), .val (.int (p1 &&& (3 : Int32))), .val (.long (Int32.toInt64 (p2 % (1048576 : Int32)))), .second, .val (.long (Int32.toInt64 (p3 % (1048576 : Int32)))), .second, .val (.long (Int32.toInt64 (p4 % (1048576 : Int32)))), .second, .val (.ref b1), .val (.double r), .second, .val (.long ((Int32.toInt64 (p3 % (1048576 : Int32))) - (Int32.toInt64 (p2 % (1048576 : Int32))))), .second] [])) _
    refine XS.dload X7.here hx rfl (hb hby at_131) rfl ?_
    show Steps p.tables e below (T7.setTop (mkF m 133 #[.val (.int p1), .val (.int p2), .val (.int p3), .val (.int p4), .val (.int (p1 &&& (3 : Int32))), .val (.long (Int32.toInt64 (p2 % (1048576 : Int32)))), .second, .val (.long (Int32.toInt64 (p3 % (1048576 : Int32)))), .second, .val (.long (Int32.toInt64 (p4 % (1048576 : Int32)))), .second, .val (.ref b1), .val (.double r), .second, .val (.long ((Int32.toInt64 (p3 % (1048576 : Int32))) - (Int32.toInt64 (p2 % (1048576 : Int32))))), .second] [(.double r)])) _
    refine XS.lload X7.here hx rfl (hb hby at_133) rfl ?_
    show Steps p.tables e below (T7.setTop (mkF m 135 #[.val (.int p1), .val (.int p2), .val (.int p3), .val (.int p4), .val (.int (p1 &&& (3 : Int32))), .val (.long (Int32.toInt64 (p2 % (1048576 : Int32)))), .second, .val (.long (Int32.toInt64 (p3 % (1048576 : Int32)))), .second, .val (.long (Int32.toInt64 (p4 % (1048576 : Int32)))), .second, .val (.ref b1), .val (.double r), .second, .val (.long ((Int32.toInt64 (p3 % (1048576 : Int32))) - (Int32.toInt64 (p2 % (1048576 : Int32))))), .second] [(.long ((Int32.toInt64 (p3 % (1048576 : Int32))) - (Int32.toInt64 (p2 % (1048576 : Int32))))), (.double r)])) _
    refine XS.lload X7.here hx rfl (hb hby at_135) rfl ?_
    show Steps p.tables e below (T7.setTop (mkF m 137 #[.val (.int p1), .val (.int p2), .val (.int p3), .val (.int p4), .val (.int (p1 &&& (3 : Int32))), .val (.long (Int32.toInt64 (p2 % (1048576 : Int32)))), .second, .val (.long (Int32.toInt64 (p3 % (1048576 : Int32)))), .second, .val (.long (Int32.toInt64 (p4 % (1048576 : Int32)))), .second, .val (.ref b1), .val (.double r), .second, .val (.long ((Int32.toInt64 (p3 % (1048576 : Int32))) - (Int32.toInt64 (p2 % (1048576 : Int32))))), .second] [(.long ((Int32.toInt64 (p3 % (1048576 : Int32))) - (Int32.toInt64 (p2 % (1048576 : Int32))))), (.long ((Int32.toInt64 (p3 % (1048576 : Int32))) - (Int32.toInt64 (p2 % (1048576 : Int32))))), (.double r)])) _
    refine XS.lmul X7.here hx rfl (hb hby at_137) rfl ?_
    show Steps p.tables e below (T7.setTop (mkF m 138 #[.val (.int p1), .val (.int p2), .val (.int p3), .val (.int p4), .val (.int (p1 &&& (3 : Int32))), .val (.long (Int32.toInt64 (p2 % (1048576 : Int32)))), .second, .val (.long (Int32.toInt64 (p3 % (1048576 : Int32)))), .second, .val (.long (Int32.toInt64 (p4 % (1048576 : Int32)))), .second, .val (.ref b1), .val (.double r), .second, .val (.long ((Int32.toInt64 (p3 % (1048576 : Int32))) - (Int32.toInt64 (p2 % (1048576 : Int32))))), .second] [(.long (((Int32.toInt64 (p3 % (1048576 : Int32))) - (Int32.toInt64 (p2 % (1048576 : Int32)))) * ((Int32.toInt64 (p3 % (1048576 : Int32))) - (Int32.toInt64 (p2 % (1048576 : Int32)))))), (.double r)])) _
    refine XS.l2dS X7.here hx rfl (v := (FP.l2d (((Int32.toInt64 (p3 % (1048576 : Int32))) - (Int32.toInt64 (p2 % (1048576 : Int32)))) * ((Int32.toInt64 (p3 % (1048576 : Int32))) - (Int32.toInt64 (p2 % (1048576 : Int32))))))) (hb hby at_138) rfl rfl ?_
    show Steps p.tables e below (T7.setTop (mkF m 139 #[.val (.int p1), .val (.int p2), .val (.int p3), .val (.int p4), .val (.int (p1 &&& (3 : Int32))), .val (.long (Int32.toInt64 (p2 % (1048576 : Int32)))), .second, .val (.long (Int32.toInt64 (p3 % (1048576 : Int32)))), .second, .val (.long (Int32.toInt64 (p4 % (1048576 : Int32)))), .second, .val (.ref b1), .val (.double r), .second, .val (.long ((Int32.toInt64 (p3 % (1048576 : Int32))) - (Int32.toInt64 (p2 % (1048576 : Int32))))), .second] [(.double (FP.l2d (((Int32.toInt64 (p3 % (1048576 : Int32))) - (Int32.toInt64 (p2 % (1048576 : Int32)))) * ((Int32.toInt64 (p3 % (1048576 : Int32))) - (Int32.toInt64 (p2 % (1048576 : Int32))))))), (.double r)])) _
    refine X7.ldc2DoubleC hx hown (mvT hZ (hw _ (List.mem_of_getElem? (i := 29) rfl))) (g := (mkF m 139 #[.val (.int p1), .val (.int p2), .val (.int p3), .val (.int p4), .val (.int (p1 &&& (3 : Int32))), .val (.long (Int32.toInt64 (p2 % (1048576 : Int32)))), .second, .val (.long (Int32.toInt64 (p3 % (1048576 : Int32)))), .second, .val (.long (Int32.toInt64 (p4 % (1048576 : Int32)))), .second, .val (.ref b1), .val (.double r), .second, .val (.long ((Int32.toInt64 (p3 % (1048576 : Int32))) - (Int32.toInt64 (p2 % (1048576 : Int32))))), .second] [(.double (FP.l2d (((Int32.toInt64 (p3 % (1048576 : Int32))) - (Int32.toInt64 (p2 % (1048576 : Int32)))) * ((Int32.toInt64 (p3 % (1048576 : Int32))) - (Int32.toInt64 (p2 % (1048576 : Int32))))))), (.double r)])) rfl (hb hby at_139) _ ?_
    show Steps p.tables e below (T7.setTop (mkF m 142 #[.val (.int p1), .val (.int p2), .val (.int p3), .val (.int p4), .val (.int (p1 &&& (3 : Int32))), .val (.long (Int32.toInt64 (p2 % (1048576 : Int32)))), .second, .val (.long (Int32.toInt64 (p3 % (1048576 : Int32)))), .second, .val (.long (Int32.toInt64 (p4 % (1048576 : Int32)))), .second, .val (.ref b1), .val (.double r), .second, .val (.long ((Int32.toInt64 (p3 % (1048576 : Int32))) - (Int32.toInt64 (p2 % (1048576 : Int32))))), .second] [(.double (4611686018427387904 : UInt64)), (.double (FP.l2d (((Int32.toInt64 (p3 % (1048576 : Int32))) - (Int32.toInt64 (p2 % (1048576 : Int32)))) * ((Int32.toInt64 (p3 % (1048576 : Int32))) - (Int32.toInt64 (p2 % (1048576 : Int32))))))), (.double r)])) _
    refine XS.ddivS X7.here hx rfl (v := (FP.ddiv (FP.l2d (((Int32.toInt64 (p3 % (1048576 : Int32))) - (Int32.toInt64 (p2 % (1048576 : Int32)))) * ((Int32.toInt64 (p3 % (1048576 : Int32))) - (Int32.toInt64 (p2 % (1048576 : Int32)))))) (4611686018427387904 : UInt64))) (hb hby at_142) rfl hnx rfl ?_
    show Steps p.tables e below (T7.setTop (mkF m 143 #[.val (.int p1), .val (.int p2), .val (.int p3), .val (.int p4), .val (.int (p1 &&& (3 : Int32))), .val (.long (Int32.toInt64 (p2 % (1048576 : Int32)))), .second, .val (.long (Int32.toInt64 (p3 % (1048576 : Int32)))), .second, .val (.long (Int32.toInt64 (p4 % (1048576 : Int32)))), .second, .val (.ref b1), .val (.double r), .second, .val (.long ((Int32.toInt64 (p3 % (1048576 : Int32))) - (Int32.toInt64 (p2 % (1048576 : Int32))))), .second] [(.double (FP.ddiv (FP.l2d (((Int32.toInt64 (p3 % (1048576 : Int32))) - (Int32.toInt64 (p2 % (1048576 : Int32)))) * ((Int32.toInt64 (p3 % (1048576 : Int32))) - (Int32.toInt64 (p2 % (1048576 : Int32)))))) (4611686018427387904 : UInt64))), (.double r)])) _
    refine XS.dcmpS X7.here hx rfl (v := (0 : Int32)) (hb hby at_143) rfl hcm ?_
    show Steps p.tables e below (T7.setTop (mkF m 144 #[.val (.int p1), .val (.int p2), .val (.int p3), .val (.int p4), .val (.int (p1 &&& (3 : Int32))), .val (.long (Int32.toInt64 (p2 % (1048576 : Int32)))), .second, .val (.long (Int32.toInt64 (p3 % (1048576 : Int32)))), .second, .val (.long (Int32.toInt64 (p4 % (1048576 : Int32)))), .second, .val (.ref b1), .val (.double r), .second, .val (.long ((Int32.toInt64 (p3 % (1048576 : Int32))) - (Int32.toInt64 (p2 % (1048576 : Int32))))), .second] [(.int (0 : Int32))])) _
    refine XS.ifNo X7.here hx rfl (hb hby at_144) rfl ((if0 _ _).trans (teq rfl).2) ?_
    show Steps p.tables e below (T7.setTop (mkF m 147 #[.val (.int p1), .val (.int p2), .val (.int p3), .val (.int p4), .val (.int (p1 &&& (3 : Int32))), .val (.long (Int32.toInt64 (p2 % (1048576 : Int32)))), .second, .val (.long (Int32.toInt64 (p3 % (1048576 : Int32)))), .second, .val (.long (Int32.toInt64 (p4 % (1048576 : Int32)))), .second, .val (.ref b1), .val (.double r), .second, .val (.long ((Int32.toInt64 (p3 % (1048576 : Int32))) - (Int32.toInt64 (p2 % (1048576 : Int32))))), .second] [])) _
    refine XS.iconst X7.here hx rfl (hb hby at_147) ?_
    show Steps p.tables e below (T7.setTop (mkF m 148 #[.val (.int p1), .val (.int p2), .val (.int p3), .val (.int p4), .val (.int (p1 &&& (3 : Int32))), .val (.long (Int32.toInt64 (p2 % (1048576 : Int32)))), .second, .val (.long (Int32.toInt64 (p3 % (1048576 : Int32)))), .second, .val (.long (Int32.toInt64 (p4 % (1048576 : Int32)))), .second, .val (.ref b1), .val (.double r), .second, .val (.long ((Int32.toInt64 (p3 % (1048576 : Int32))) - (Int32.toInt64 (p2 % (1048576 : Int32))))), .second] [(.int (1 : Int32))])) _
    refine XS.goto X7.here hx rfl (pc0 := 148) (pc' := 152) rfl (hb hby at_148) (by decide) (by decide) ?_
    show Steps p.tables e below (T7.setTop (mkF m 152 #[.val (.int p1), .val (.int p2), .val (.int p3), .val (.int p4), .val (.int (p1 &&& (3 : Int32))), .val (.long (Int32.toInt64 (p2 % (1048576 : Int32)))), .second, .val (.long (Int32.toInt64 (p3 % (1048576 : Int32)))), .second, .val (.long (Int32.toInt64 (p4 % (1048576 : Int32)))), .second, .val (.ref b1), .val (.double r), .second, .val (.long ((Int32.toInt64 (p3 % (1048576 : Int32))) - (Int32.toInt64 (p2 % (1048576 : Int32))))), .second] [(.int (1 : Int32))])) _
    exact retN X7 hx (t := .boolean) Bd.returns (by simp) (hb hby at_152) hr
  · show Q0 n0 _ _
    exact ⟨rfl, N7⟩
set_option maxRecDepth 65536 in
set_option maxHeartbeats 40000000 in
theorem rm0_3 (l : Launch) (Z : State) (a0 : Array Value) (hw : ∀ d ∈ tables_1, d.before a0 Z = true) (ws : List Jvm.Cond) (p1 p2 p3 p4 : Int32) (m1 m2 m3 s1 s2 s3 x3 r : UInt64) (h0 : Heap) (n0 : Nat) (Z0 : n0 ≤ h0.size) (hk : p1 &&& (3 : Int32) = (3 : Int32)) (ok1 : own_okAdd (0 : Int64) 0 0 (FP.l2d (Int32.toInt64 (p2 % (1048576 : Int32)))) m1 s1) (ok2 : own_okAdd ((0 : Int64) + (1 : Int64)) m1 s1 (FP.l2d (Int32.toInt64 (p3 % (1048576 : Int32)))) m2 s2) (ok3 : own_okAdd (((0 : Int64) + (1 : Int64)) + (1 : Int64)) m2 s2 x3 m3 s3) (hn87 : NoNaN64 (FP.ddiv (FP.l2d (((Int32.toInt64 (p2 % (1048576 : Int32))) + (Int32.toInt64 (p3 % (1048576 : Int32)))) + ((6 : Int64) * (Int32.toInt64 (p4 % (1048576 : Int32)))))) (4611686018427387904 : UInt64))) (hv87 : (FP.ddiv (FP.l2d (((Int32.toInt64 (p2 % (1048576 : Int32))) + (Int32.toInt64 (p3 % (1048576 : Int32)))) + ((6 : Int64) * (Int32.toInt64 (p4 % (1048576 : Int32)))))) (4611686018427387904 : UInt64)) = x3) (hnv : NoNaN64 (FP.ddiv s3 (FP.l2d (((((0 : Int64) + (1 : Int64)) + (1 : Int64)) + (1 : Int64)) - (1 : Int64))))) (hvv : FP.ddiv s3 (FP.l2d (((((0 : Int64) + (1 : Int64)) + (1 : Int64)) + (1 : Int64)) - (1 : Int64))) = r) (hnx : NoNaN64 (FP.ddiv (FP.l2d ((((Int32.toInt64 (p3 % (1048576 : Int32))) - (Int32.toInt64 (p2 % (1048576 : Int32)))) * ((Int32.toInt64 (p3 % (1048576 : Int32))) - (Int32.toInt64 (p2 % (1048576 : Int32))))) + (((12 : Int64) * (Int32.toInt64 (p4 % (1048576 : Int32)))) * (Int32.toInt64 (p4 % (1048576 : Int32)))))) (4616189618054758400 : UInt64))) (hcm : cmpValue (FP.dcmp r (FP.ddiv (FP.l2d ((((Int32.toInt64 (p3 % (1048576 : Int32))) - (Int32.toInt64 (p2 % (1048576 : Int32)))) * ((Int32.toInt64 (p3 % (1048576 : Int32))) - (Int32.toInt64 (p2 % (1048576 : Int32))))) + (((12 : Int64) * (Int32.toInt64 (p4 % (1048576 : Int32)))) * (Int32.toInt64 (p4 % (1048576 : Int32)))))) (4616189618054758400 : UInt64))) .l = 0) :
    MetFree l x (head1 (Jvm.Cond.code x code maxLocals ret :: ws) room_1) (fun a U => a = #[(.int p1), (.int p2), (.int p3), (.int p4)] ∧ Z.Warmed39 U.vm ∧ U.heap = h0) (fun _ _ _ _ _ => True) (fun _ U o U' => ∃ v L, o = .returned v ∧ Q0 n0 v L ∧ FrameEnd U o U' L 1 3) := by
  refine MetFree.of_bodySF (plainFor_of_name pn2) hisR ?_
  intro p e s m args below meth c s₁ Bd hml0 hP hK
  obtain ⟨rfl, hZ, hh⟩ := hP
  have hx := Bd.exec
  have hby := Bd.bytes
  have hml : c.maxLocals = 16 := hml0
  have hown : s.vm.findClass "com/example/tidegate/tidegate/stats/RunningMomentsVariancePinLaw" = some m.cls := findClass_of_methodNamed Bd.named
  have hnm := (name_of_methodNamed Bd.named Bd.method).1
  have X0 : Stand p l e room_1 s m #[(.int p1), (.int p2), (.int p3), (.int p4)] below meth c s₁ [] 0 0 := Stand.of_body Bd
  have e0 : s₁.heap = h0 := by rw [← hh, Bd.state]; rfl
  have N0 := Fr.nil n0
  have pre0 : ∀ t, Steps p.tables e below (s₁.setTop (mkF m 0 #[.val (.int p1), .val (.int p2), .val (.int p3), .val (.int p4), .unset, .unset, .unset, .unset, .unset, .unset, .unset, .unset, .unset, .unset, .unset, .unset] [])) t → Steps p.tables e below (s₁.setTop (entryFrame m #[(.int p1), (.int p2), (.int p3), (.int p4)] maxLocals)) t := fun t k => castTop (ef3 m p1 p2 p3 p4) k
  obtain ⟨T1, h1, X1, e1, E1, A1, D1, -, st1⟩ := newO X0 hx hZ hown (hw _ (List.mem_of_getElem? (i := 1) rfl)) (hw _ (List.mem_of_getElem? (i := 2) rfl)) (hw _ (List.mem_of_getElem? (i := 3) rfl)) e0 (g := (mkF m 26 #[.val (.int p1), .val (.int p2), .val (.int p3), .val (.int p4), .val (.int (p1 &&& (3 : Int32))), .val (.long (Int32.toInt64 (p2 % (1048576 : Int32)))), .second, .val (.long (Int32.toInt64 (p3 % (1048576 : Int32)))), .second, .val (.long (Int32.toInt64 (p4 % (1048576 : Int32)))), .second, .unset, .unset, .unset, .unset, .unset] [])) rfl (hb hby at_26) (by decide) (by decide)
  obtain ⟨b1, g1⟩ : ∃ z, z = h0.size := ⟨_, rfl⟩
  rw [← g1] at A1 D1 st1
  have g_b1 : n0 ≤ b1 := Nat.le_trans Z0 (Nat.le_of_eq g1.symm)
  have sz_b1 : h0.size ≤ b1 := Nat.le_trans (Keep.refl h0 []).1 (Nat.le_of_eq g1.symm)
  have K2 : Keep h0 h1 [] := Keep.ext (Keep.refl h0 []) E1
  have Zc2 : n0 ≤ h1.size := Nat.le_trans Z0 E1.1
  have F1_count : Fld Z h1 b1 "com/example/tidegate/tidegate/stats/RunningMoments" "count" "J" (.long (0 : Int64)) := D1 (Or.inl (hw _ (List.mem_of_getElem? (i := 16) rfl))) (ty := .long) (by decide)
  have F1_mean : Fld Z h1 b1 "com/example/tidegate/tidegate/stats/RunningMoments" "mean" "D" (.double 0) := D1 (Or.inl (hw _ (List.mem_of_getElem? (i := 25) rfl))) (ty := .double) (by decide)
  have F1_squaredDeviations : Fld Z h1 b1 "com/example/tidegate/tidegate/stats/RunningMoments" "squaredDeviations" "D" (.double 0) := D1 (Or.inl (hw _ (List.mem_of_getElem? (i := 27) rfl))) (ty := .double) (by decide)
  obtain ⟨_, _, ⟨T3, L3, k3, n3⟩, -, X3, ⟨Lc3, hQ3, l3, y3, z3⟩, st3⟩ := X1.specialBack hx (y := (⟨"com/example/tidegate/tidegate/stats/RunningMoments", "<init>", "()V"⟩ : MethodName)) rfl hown (mvT hZ (hw _ (List.mem_of_getElem? (i := 4) rfl))) (mvT hZ (hw _ (List.mem_of_getElem? (i := 5) rfl))) (mvT hZ (hw _ (List.mem_of_getElem? (i := 6) rfl))) (by decide) (backOf (W := 1) (rmI l Z a0 hw [] b1 h1 n0 Zc2) hZ (hw _ (List.mem_of_getElem? (i := 6) rfl)) (hw _ (List.mem_of_getElem? (i := 3) rfl)) (by decide) (by decide)) (g := (mkF m 30 #[.val (.int p1), .val (.int p2), .val (.int p3), .val (.int p4), .val (.int (p1 &&& (3 : Int32))), .val (.long (Int32.toInt64 (p2 % (1048576 : Int32)))), .second, .val (.long (Int32.toInt64 (p3 % (1048576 : Int32)))), .second, .val (.long (Int32.toInt64 (p4 % (1048576 : Int32)))), .second, .unset, .unset, .unset, .unset, .unset] [(.ref b1), (.ref b1)])) rfl (by rw [hml]; rfl) (Steps.refl _) (a := b1) (argsL := []) (rest := [(.ref b1)]) (lenOf pd1 rfl) rfl (by show 2 * 0 + _ ≤ _; exact Nat.le_of_eq rfl) (hb hby at_30) (fun _ _ => ⟨rfl, e1, (by decide : 1 + 0 ≤ _), (by decide : 3 + 0 ≤ _)⟩)
  dsimp only [Pt.U, Pt.locs, Pt.cells, Pt.slots] at X3 l3 y3 z3 st3 hQ3
  subst l3 y3 z3
  obtain ⟨rfl, Nc3, ec3⟩ := hQ3
  have N3 := Fr.app N0 Nc3
  obtain ⟨cq4, kq4, qa4, qb4, qc4⟩ := isOf hZ ec3 A1
  obtain ⟨_, _, ⟨T4, L4, k4, n4⟩, -, X4, ⟨Lc4, hQ4, l4, y4, z4⟩, st4⟩ := X3.virtualBack hx (y := (⟨"com/example/tidegate/tidegate/stats/RunningMoments", "add", "(D)V"⟩ : MethodName)) (z := (⟨"com/example/tidegate/tidegate/stats/RunningMoments", "add", "(D)V"⟩ : MethodName)) hown (mvT hZ (hw _ (List.mem_of_getElem? (i := 19) rfl))) (mvT hZ (hw _ (List.mem_of_getElem? (i := 20) rfl))) (notFace_of_selects (args := #[]) (mvT hZ (hw _ (List.mem_of_getElem? (i := 22) rfl)))) (mvT hZ (hw _ (List.mem_of_getElem? (i := 22) rfl))) (mvT hZ (hw _ (List.mem_of_getElem? (i := 21) rfl))) (by decide) (backOf (W := 0) (rmA l Z a0 hw [] b1 (0 : Int64) 0 0 (FP.l2d (Int32.toInt64 (p2 % (1048576 : Int32)))) m1 s1 h1 n0 Zc2 F1_count F1_mean F1_squaredDeviations A1 g_b1 ok1) hZ (hw _ (List.mem_of_getElem? (i := 23) rfl)) (hw _ (List.mem_of_getElem? (i := 3) rfl)) (by decide) (by decide)) qa4 qc4 (g := (mkF m 46 #[.val (.int p1), .val (.int p2), .val (.int p3), .val (.int p4), .val (.int (p1 &&& (3 : Int32))), .val (.long (Int32.toInt64 (p2 % (1048576 : Int32)))), .second, .val (.long (Int32.toInt64 (p3 % (1048576 : Int32)))), .second, .val (.long (Int32.toInt64 (p4 % (1048576 : Int32)))), .second, .val (.ref b1), .unset, .unset, .unset, .unset] [(.double (FP.l2d (Int32.toInt64 (p2 % (1048576 : Int32))))), (.ref b1)])) rfl (by rw [hml]; rfl) (Steps.refl _) (argsL := [(.double (FP.l2d (Int32.toInt64 (p2 % (1048576 : Int32)))))]) (rest := []) (lenOf pd3 rfl) rfl (by show 2 * 0 + _ ≤ _; exact Nat.le_of_eq rfl) (hb hby at_46) (fun _ _ => ⟨rfl, ec3, (by decide : 1 + 0 ≤ _), (by decide : 3 + 0 ≤ _)⟩)
  dsimp only [Pt.U, Pt.locs, Pt.cells, Pt.slots] at X4 l4 y4 z4 st4 hQ4
  subst l4 y4 z4
  obtain ⟨rfl, Nc4, Kc4, fc4_0, fc4_1, fc4_2⟩ := hQ4
  have N4 := Fr.app N3 Nc4
  have K4 : Keep h0 T4.heap [] := Keep.trans K2 Kc4 (allS (Or.inr sz_b1) all0)
  have Zc4 : n0 ≤ T4.heap.size := Nat.le_trans Zc2 Kc4.1
  have f6 : Exa Z T4.heap b1 "com/example/tidegate/tidegate/stats/RunningMoments" := (Exa.keep A1 Kc4)
  obtain ⟨cq5, kq5, qa5, qb5, qc5⟩ := isOf hZ rfl f6
  obtain ⟨_, _, ⟨T5, L5, k5, n5⟩, -, X5, ⟨Lc5, hQ5, l5, y5, z5⟩, st5⟩ := X4.virtualBack hx (y := (⟨"com/example/tidegate/tidegate/stats/RunningMoments", "add", "(D)V"⟩ : MethodName)) (z := (⟨"com/example/tidegate/tidegate/stats/RunningMoments", "add", "(D)V"⟩ : MethodName)) hown (mvT hZ (hw _ (List.mem_of_getElem? (i := 19) rfl))) (mvT hZ (hw _ (List.mem_of_getElem? (i := 20) rfl))) (notFace_of_selects (args := #[]) (mvT hZ (hw _ (List.mem_of_getElem? (i := 22) rfl)))) (mvT hZ (hw _ (List.mem_of_getElem? (i := 22) rfl))) (mvT hZ (hw _ (List.mem_of_getElem? (i := 21) rfl))) (by decide) (backOf (W := 0) (rmA l Z a0 hw [] b1 ((0 : Int64) + (1 : Int64)) m1 s1 (FP.l2d (Int32.toInt64 (p3 % (1048576 : Int32)))) m2 s2 T4.heap n0 Zc4 fc4_0 fc4_1 fc4_2 f6 g_b1 ok2) hZ (hw _ (List.mem_of_getElem? (i := 23) rfl)) (hw _ (List.mem_of_getElem? (i := 3) rfl)) (by decide) (by decide)) qa5 qc5 (g := (mkF m 60 #[.val (.int p1), .val (.int p2), .val (.int p3), .val (.int p4), .val (.int (p1 &&& (3 : Int32))), .val (.long (Int32.toInt64 (p2 % (1048576 : Int32)))), .second, .val (.long (Int32.toInt64 (p3 % (1048576 : Int32)))), .second, .val (.long (Int32.toInt64 (p4 % (1048576 : Int32)))), .second, .val (.ref b1), .unset, .unset, .unset, .unset] [(.double (FP.l2d (Int32.toInt64 (p3 % (1048576 : Int32))))), (.ref b1)])) rfl (by rw [hml]; rfl) (Steps.refl _) (argsL := [(.double (FP.l2d (Int32.toInt64 (p3 % (1048576 : Int32)))))]) (rest := []) (lenOf pd3 rfl) rfl (by show 2 * 0 + _ ≤ _; exact Nat.le_of_eq rfl) (hb hby at_60) (fun _ _ => ⟨rfl, rfl, (by decide : 1 + 0 ≤ _), (by decide : 3 + 0 ≤ _)⟩)
  dsimp only [Pt.U, Pt.locs, Pt.cells, Pt.slots] at X5 l5 y5 z5 st5 hQ5
  subst l5 y5 z5
  obtain ⟨rfl, Nc5, Kc5, fc5_0, fc5_1, fc5_2⟩ := hQ5
  have N5 := Fr.app N4 Nc5
  have K5 : Keep h0 T5.heap [] := Keep.trans K4 Kc5 (allS (Or.inr sz_b1) all0)
  have Zc5 : n0 ≤ T5.heap.size := Nat.le_trans Zc4 Kc5.1
  have f8 : Exa Z T5.heap b1 "com/example/tidegate/tidegate/stats/RunningMoments" := (Exa.keep f6 Kc5)
  obtain ⟨cq7, kq7, qa7, qb7, qc7⟩ := isOf hZ rfl f8
  obtain ⟨_, _, ⟨T7, L7, k7, n7⟩, -, X7, ⟨Lc7, hQ7, l7, y7, z7⟩, st7⟩ := X5.virtualBack hx (y := (⟨"com/example/tidegate/tidegate/stats/RunningMoments", "add", "(D)V"⟩ : MethodName)) (z := (⟨"com/example/tidegate/tidegate/stats/RunningMoments", "add", "(D)V"⟩ : MethodName)) hown (mvT hZ (hw _ (List.mem_of_getElem? (i := 19) rfl))) (mvT hZ (hw _ (List.mem_of_getElem? (i := 20) rfl))) (notFace_of_selects (args := #[]) (mvT hZ (hw _ (List.mem_of_getElem? (i := 22) rfl)))) (mvT hZ (hw _ (List.mem_of_getElem? (i := 22) rfl))) (mvT hZ (hw _ (List.mem_of_getElem? (i := 21) rfl))) (by decide) (backOf (W := 0) (rmA l Z a0 hw [] b1 (((0 : Int64) + (1 : Int64)) + (1 : Int64)) m2 s2 x3 m3 s3 T5.heap n0 Zc5 fc5_0 fc5_1 fc5_2 f8 g_b1 ok3) hZ (hw _ (List.mem_of_getElem? (i := 23) rfl)) (hw _ (List.mem_of_getElem? (i := 3) rfl)) (by decide) (by decide)) qa7 qc7 (g := (mkF m 88 #[.val (.int p1), .val (.int p2), .val (.int p3), .val (.int p4), .val (.int (p1 &&& (3 : Int32))), .val (.long (Int32.toInt64 (p2 % (1048576 : Int32)))), .second, .val (.long (Int32.toInt64 (p3 % (1048576 : Int32)))), .second, .val (.long (Int32.toInt64 (p4 % (1048576 : Int32)))), .second, .val (.ref b1), .unset, .unset, .unset, .unset] [(.double x3), (.ref b1)])) rfl (by rw [hml]; rfl) (Steps.refl _) (argsL := [(.double x3)]) (rest := []) (lenOf pd3 rfl) rfl (by show 2 * 0 + _ ≤ _; exact Nat.le_of_eq rfl) (hb hby at_88) (fun _ _ => ⟨rfl, rfl, (by decide : 1 + 0 ≤ _), (by decide : 3 + 0 ≤ _)⟩)
  dsimp only [Pt.U, Pt.locs, Pt.cells, Pt.slots] at X7 l7 y7 z7 st7 hQ7
  subst l7 y7 z7
  obtain ⟨rfl, Nc7, Kc7, fc7_0, fc7_1, fc7_2⟩ := hQ7
  have N7 := Fr.app N5 Nc7
  have K7 : Keep h0 T7.heap [] := Keep.trans K5 Kc7 (allS (Or.inr sz_b1) all0)
  have Zc7 : n0 ≤ T7.heap.size := Nat.le_trans Zc5 Kc7.1
  have f10 : Exa Z T7.heap b1 "com/example/tidegate/tidegate/stats/RunningMoments" := (Exa.keep f8 Kc7)
  obtain ⟨cq9, kq9, qa9, qb9, qc9⟩ := isOf hZ rfl f10
  obtain ⟨_, _, ⟨T9, L9, k9, n9⟩, -, X9, ⟨Lc9, hQ9, l9, y9, z9⟩, st9⟩ := X7.virtualBack hx (y := (⟨"com/example/tidegate/tidegate/stats/RunningMoments", "variance", "()D"⟩ : MethodName)) (z := (⟨"com/example/tidegate/tidegate/stats/RunningMoments", "variance", "()D"⟩ : MethodName)) hown (mvT hZ (hw _ (List.mem_of_getElem? (i := 10) rfl))) (mvT hZ (hw _ (List.mem_of_getElem? (i := 11) rfl))) (notFace_of_selects (args := #[]) (mvT hZ (hw _ (List.mem_of_getElem? (i := 13) rfl)))) (mvT hZ (hw _ (List.mem_of_getElem? (i := 13) rfl))) (mvT hZ (hw _ (List.mem_of_getElem? (i := 12) rfl))) (by decide) (backOf (W := 0) (rmVd l Z a0 hw [] b1 ((((0 : Int64) + (1 : Int64)) + (1 : Int64)) + (1 : Int64)) s3 r T7.heap n0 Zc7 fc7_0 fc7_2 (by decide) hnv hvv) hZ (hw _ (List.mem_of_getElem? (i := 14) rfl)) (hw _ (List.mem_of_getElem? (i := 3) rfl)) (by decide) (by decide)) qa9 qc9 (g := (mkF m 93 #[.val (.int p1), .val (.int p2), .val (.int p3), .val (.int p4), .val (.int (p1 &&& (3 : Int32))), .val (.long (Int32.toInt64 (p2 % (1048576 : Int32)))), .second, .val (.long (Int32.toInt64 (p3 % (1048576 : Int32)))), .second, .val (.long (Int32.toInt64 (p4 % (1048576 : Int32)))), .second, .val (.ref b1), .unset, .unset, .unset, .unset] [(.ref b1)])) rfl (by rw [hml]; rfl) (Steps.refl _) (argsL := []) (rest := []) (lenOf pd2 rfl) rfl (by show 2 * 0 + _ ≤ _; exact Nat.le_of_eq rfl) (hb hby at_93) (fun _ _ => ⟨rfl, rfl, (by decide : 1 + 0 ≤ _), (by decide : 3 + 0 ≤ _)⟩)
  dsimp only [Pt.U, Pt.locs, Pt.cells, Pt.slots] at X9 l9 y9 z9 st9 hQ9
  subst l9 y9 z9
  obtain ⟨rfl, Nc9, ec9⟩ := hQ9
  have N9 := Fr.app N7 Nc9
  obtain ⟨fs, hr, hrun, hended, hW, hsame⟩ := X9.leave (v := some (.int (1 : Int32))) (fun h => by rw [Bd.returns] at h; cases h)
  refine ⟨_, _, pre0 _ ?_, hrun, hended, _, _, rfl, ?_, ⟨_, rfl⟩, hW, hsame.mono (by decide) (by decide)⟩
  · show Steps p.tables e below (s₁.setTop (mkF m 0 #[.val (.int p1), .val (.int p2), .val (.int p3), .val (.int p4), .unset, .unset, .unset, .unset, .unset, .unset, .unset, .unset, .unset, .unset, .unset, .unset] [])) _
    refine XS.iloadN X0.here hx rfl (hb hby at_0) rfl ?_
    show Steps p.tables e below (s₁.setTop (mkF m 1 #[.val (.int p1), .val (.int p2), .val (.int p3), .val (.int p4), .unset, .unset, .unset, .unset, .unset, .unset, .unset, .unset, .unset, .unset, .unset, .unset] [(.int p1)])) _
    refine XS.iconst X0.here hx rfl (hb hby at_1) ?_
    show Steps p.tables e below (s₁.setTop (mkF m 2 #[.val (.int p1), .val (.int p2), .val (.int p3), .val (.int p4), .unset, .unset, .unset, .unset, .unset, .unset, .unset, .unset, .unset, .unset, .unset, .unset] [(.int (3 : Int32)), (.int p1)])) _
    refine XS.iand X0.here hx rfl (hb hby at_2) rfl ?_
    show Steps p.tables e below (s₁.setTop (mkF m 3 #[.val (.int p1), .val (.int p2), .val (.int p3), .val (.int p4), .unset, .unset, .unset, .unset, .unset, .unset, .unset, .unset, .unset, .unset, .unset, .unset] [(.int (p1 &&& (3 : Int32)))])) _
    refine XS.istore X0.here hx rfl (hb hby at_3) rfl (l' := #[.val (.int p1), .val (.int p2), .val (.int p3), .val (.int p4), .val (.int (p1 &&& (3 : Int32))), .unset, .unset, .unset, .unset, .unset, .unset, .unset, .unset, .unset, .unset, .unset]) rfl ?_
    show Steps p.tables e below (s₁.setTop (mkF m 5 #[.val (.int p1), .val (.int p2), .val (.int p3), .val (.int p4), .val (.int (p1 &&& (3 : Int32))), .unset, .unset, .unset, .unset, .unset, .unset, .unset, .unset, .unset, .unset, .unset] [])) _
    refine XS.iloadN X0.here hx rfl (hb hby at_5) rfl ?_
    show Steps p.tables e below (s₁.setTop (mkF m 6 #[.val (.int p1), .val (.int p2), .val (.int p3), .val (.int p4), .val (.int (p1 &&& (3 : Int32))), .unset, .unset, .unset, .unset, .unset, .unset, .unset, .unset, .unset, .unset, .unset] [(.int p2)])) _
    refine X0.ldcInt hx hown (mvT hZ (hw _ (List.mem_of_getElem? (i := 0) rfl))) (g := (mkF m 6 #[.val (.int p1), .val (.int p2), .val (.int p3), .val (.int p4), .val (.int (p1 &&& (3 : Int32))), .unset, .unset, .unset, .unset, .unset, .unset, .unset, .unset, .unset, .unset, .unset] [(.int p2)])) rfl (hb hby at_6) _ ?_
    show Steps p.tables e below (s₁.setTop (mkF m 8 #[.val (.int p1), .val (.int p2), .val (.int p3), .val (.int p4), .val (.int (p1 &&& (3 : Int32))), .unset, .unset, .unset, .unset, .unset, .unset, .unset, .unset, .unset, .unset, .unset] [(.int (1048576 : Int32)), (.int p2)])) _
    refine iremM X0 hx rfl (hb hby at_8) rfl (by decide) ?_
    show Steps p.tables e below (s₁.setTop (mkF m 9 #[.val (.int p1), .val (.int p2), .val (.int p3), .val (.int p4), .val (.int (p1 &&& (3 : Int32))), .unset, .unset, .unset, .unset, .unset, .unset, .unset, .unset, .unset, .unset, .unset] [(.int (p2 % (1048576 : Int32)))])) _
    refine XS.i2l X0.here hx rfl (hb hby at_9) rfl ?_
    show Steps p.tables e below (s₁.setTop (mkF m 10 #[.val (.int p1), .val (.int p2), .val (.int p3), .val (.int p4), .val (.int (p1 &&& (3 : Int32))), .unset, .unset, .unset, .unset, .unset, .unset, .unset, .unset, .unset, .unset, .unset] [(.long (Int32.toInt64 (p2 % (1048576 : Int32))))])) _
    refine XS.lstore X0.here hx rfl (hb hby at_10) rfl (l' := #[.val (.int p1), .val (.int p2), .val (.int p3), .val (.int p4), .val (.int (p1 &&& (3 : Int32))), .val (.long (Int32.toInt64 (p2 % (1048576 : Int32)))), .second, .unset, .unset, .unset, .unset, .unset, .unset, .unset, .unset, .unset]) rfl ?_
    show Steps p.tables e below (s₁.setTop (mkF m 12 #[.val (.int p1), .val (.int p2), .val (.int p3), .val (.int p4), .val (.int (p1 &&& (3 : Int32))), .val (.long (Int32.toInt64 (p2 % (1048576 : Int32)))), .second, .unset, .unset, .unset, .unset, .unset, .unset, .unset, .unset, .unset] [])) _
    refine XS.iloadN X0.here hx rfl (hb hby at_12) rfl ?_
    show Steps p.tables e below (s₁.setTop (mkF m 13 #[.val (.int p1), .val (.int p2), .val (.int p3), .val (.int p4), .val (.int (p1 &&& (3 : Int32))), .val (.long (Int32.toInt64 (p2 % (1048576 : Int32)))), .second, .unset, .unset, .unset, .unset, .unset, .unset, .unset, .unset, .unset] [(.int p3)])) _
    refine X0.ldcInt hx hown (mvT hZ (hw _ (List.mem_of_getElem? (i := 0) rfl))) (g := (mkF m 13 #[.val (.int p1), .val (.int p2), .val (.int p3), .val (.int p4), .val (.int (p1 &&& (3 : Int32))), .val (.long (Int32.toInt64 (p2 % (1048576 : Int32)))), .second, .unset, .unset, .unset, .unset, .unset, .unset, .unset, .unset, .unset] [(.int p3)])) rfl (hb hby at_13) _ ?_
    show Steps p.tables e below (s₁.setTop (mkF m 15 #[.val (.int p1), .val (.int p2), .val (.int p3), .val (.int p4), .val (.int (p1 &&& (3 : Int32))), .val (.long (Int32.toInt64 (p2 % (1048576 : Int32)))), .second, .unset, .unset, .unset, .unset, .unset, .unset, .unset, .unset, .unset] [(.int (1048576 : Int32)), (.int p3)])) _
    refine iremM X0 hx rfl (hb hby at_15) rfl (by decide) ?_
    show Steps p.tables e below (s₁.setTop (mkF m 16 #[.val (.int p1), .val (.int p2), .val (.int p3), .val (.int p4), .val (.int (p1 &&& (3 : Int32))), .val (.long (Int32.toInt64 (p2 % (1048576 : Int32)))), .second, .unset, .unset, .unset, .unset, .unset, .unset, .unset, .unset, .unset] [(.int (p3 % (1048576 : Int32)))])) _
    refine XS.i2l X0.here hx rfl (hb hby at_16) rfl ?_
    show Steps p.tables e below (s₁.setTop (mkF m 17 #[.val (.int p1), .val (.int p2), .val (.int p3), .val (.int p4), .val (.int (p1 &&& (3 : Int32))), .val (.long (Int32.toInt64 (p2 % (1048576 : Int32)))), .second, .unset, .unset, .unset, .unset, .unset, .unset, .unset, .unset, .unset] [(.long (Int32.toInt64 (p3 % (1048576 : Int32))))])) _
    refine XS.lstore X0.here hx rfl (hb hby at_17) rfl (l' := #[.val (.int p1), .val (.int p2), .val (.int p3), .val (.int p4), .val (.int (p1 &&& (3 : Int32))), .val (.long (Int32.toInt64 (p2 % (1048576 : Int32)))), .second, .val (.long (Int32.toInt64 (p3 % (1048576 : Int32)))), .second, .unset, .unset, .unset, .unset, .unset, .unset, .unset]) rfl ?_
    show Steps p.tables e below (s₁.setTop (mkF m 19 #[.val (.int p1), .val (.int p2), .val (.int p3), .val (.int p4), .val (.int (p1 &&& (3 : Int32))), .val (.long (Int32.toInt64 (p2 % (1048576 : Int32)))), .second, .val (.long (Int32.toInt64 (p3 % (1048576 : Int32)))), .second, .unset, .unset, .unset, .unset, .unset, .unset, .unset] [])) _
    refine XS.iloadN X0.here hx rfl (hb hby at_19) rfl ?_
    show Steps p.tables e below (s₁.setTop (mkF m 20 #[.val (.int p1), .val (.int p2), .val (.int p3), .val (.int p4), .val (.int (p1 &&& (3 : Int32))), .val (.long (Int32.toInt64 (p2 % (1048576 : Int32)))), .second, .val (.long (Int32.toInt64 (p3 % (1048576 : Int32)))), .second, .unset, .unset, .unset, .unset, .unset, .unset, .unset] [(.int p4)])) _
    refine X0.ldcInt hx hown (mvT hZ (hw _ (List.mem_of_getElem? (i := 0) rfl))) (g := (mkF m 20 #[.val (.int p1), .val (.int p2), .val (.int p3), .val (.int p4), .val (.int (p1 &&& (3 : Int32))), .val (.long (Int32.toInt64 (p2 % (1048576 : Int32)))), .second, .val (.long (Int32.toInt64 (p3 % (1048576 : Int32)))), .second, .unset, .unset, .unset, .unset, .unset, .unset, .unset] [(.int p4)])) rfl (hb hby at_20) _ ?_
    show Steps p.tables e below (s₁.setTop (mkF m 22 #[.val (.int p1), .val (.int p2), .val (.int p3), .val (.int p4), .val (.int (p1 &&& (3 : Int32))), .val (.long (Int32.toInt64 (p2 % (1048576 : Int32)))), .second, .val (.long (Int32.toInt64 (p3 % (1048576 : Int32)))), .second, .unset, .unset, .unset, .unset, .unset, .unset, .unset] [(.int (1048576 : Int32)), (.int p4)])) _
    refine iremM X0 hx rfl (hb hby at_22) rfl (by decide) ?_
    show Steps p.tables e below (s₁.setTop (mkF m 23 #[.val (.int p1), .val (.int p2), .val (.int p3), .val (.int p4), .val (.int (p1 &&& (3 : Int32))), .val (.long (Int32.toInt64 (p2 % (1048576 : Int32)))), .second, .val (.long (Int32.toInt64 (p3 % (1048576 : Int32)))), .second, .unset, .unset, .unset, .unset, .unset, .unset, .unset] [(.int (p4 % (1048576 : Int32)))])) _
    refine XS.i2l X0.here hx rfl (hb hby at_23) rfl ?_
    show Steps p.tables e below (s₁.setTop (mkF m 24 #[.val (.int p1), .val (.int p2), .val (.int p3), .val (.int p4), .val (.int (p1 &&& (3 : Int32))), .val (.long (Int32.toInt64 (p2 % (1048576 : Int32)))), .second, .val (.long (Int32.toInt64 (p3 % (1048576 : Int32)))), .second, .unset, .unset, .unset, .unset, .unset, .unset, .unset] [(.long (Int32.toInt64 (p4 % (1048576 : Int32))))])) _
    refine XS.lstore X0.here hx rfl (hb hby at_24) rfl (l' := #[.val (.int p1), .val (.int p2), .val (.int p3), .val (.int p4), .val (.int (p1 &&& (3 : Int32))), .val (.long (Int32.toInt64 (p2 % (1048576 : Int32)))), .second, .val (.long (Int32.toInt64 (p3 % (1048576 : Int32)))), .second, .val (.long (Int32.toInt64 (p4 % (1048576 : Int32)))), .second, .unset, .unset, .unset, .unset, .unset]) rfl ?_
    show Steps p.tables e below (s₁.setTop (mkF m 26 #[.val (.int p1), .val (.int p2), .val (.int p3), .val (.int p4), .val (.int (p1 &&& (3 : Int32))), .val (.long (Int32.toInt64 (p2 % (1048576 : Int32)))), .second, .val (.long (Int32.toInt64 (p3 % (1048576 : Int32)))), .second, .val (.long (Int32.toInt64 (p4 % (1048576 : Int32)))), .second, .unset, .unset, .unset, .unset, .unset] [])) _
    refine st1 _ ?_
    show Steps p.tables e below (T1.setTop (mkF m 29 #[.val (.int p1), .val (.int p2), .val (.int p3), .val (.int p4), .val (.int (p1 &&& (3 : Int32))), .val (.long (Int32.toInt64 (p2 % (1048576 : Int32)))), .second, .val (.long (Int32.toInt64 (p3 % (1048576 : Int32)))), .second, .val (.long (Int32.toInt64 (p4 % (1048576 : Int32)))), .second, .unset, .unset, .unset, .unset, .unset] [(.ref b1)])) _
    refine XS.dup X1.here hx rfl (hb hby at_29) rfl rfl ?_
    show Steps p.tables e below (T1.setTop (mkF m 30 #[.val (.int p1), .val (.int p2), .val (.int p3), .val (.int p4), .val (.int (p1 &&& (3 : Int32))), .val (.long (Int32.toInt64 (p2 % (1048576 : Int32)))), .second, .val (.long (Int32.toInt64 (p3 % (1048576 : Int32)))), .second, .val (.long (Int32.toInt64 (p4 % (1048576 : Int32)))), .second, .unset, .unset, .unset, .unset, .unset] [(.ref b1), (.ref b1)])) _
    refine st3.trans ?_
    show Steps p.tables e below (T3.setTop (mkF m 33 #[.val (.int p1), .val (.int p2), .val (.int p3), .val (.int p4), .val (.int (p1 &&& (3 : Int32))), .val (.long (Int32.toInt64 (p2 % (1048576 : Int32)))), .second, .val (.long (Int32.toInt64 (p3 % (1048576 : Int32)))), .second, .val (.long (Int32.toInt64 (p4 % (1048576 : Int32)))), .second, .unset, .unset, .unset, .unset, .unset] [(.ref b1)])) _
    refine XS.astore X3.here hx rfl (hb hby at_33) rfl rfl (l' := #[.val (.int p1), .val (.int p2), .val (.int p3), .val (.int p4), .val (.int (p1 &&& (3 : Int32))), .val (.long (Int32.toInt64 (p2 % (1048576 : Int32)))), .second, .val (.long (Int32.toInt64 (p3 % (1048576 : Int32)))), .second, .val (.long (Int32.toInt64 (p4 % (1048576 : Int32)))), .second, .val (.ref b1), .unset, .unset, .unset, .unset]) rfl ?_
    show Steps p.tables e below (T3.setTop (mkF m 35 #[.val (.int p1), .val (.int p2), .val (.int p3), .val (.int p4), .val (.int (p1 &&& (3 : Int32))), .val (.long (Int32.toInt64 (p2 % (1048576 : Int32)))), .second, .val (.long (Int32.toInt64 (p3 % (1048576 : Int32)))), .second, .val (.long (Int32.toInt64 (p4 % (1048576 : Int32)))), .second, .val (.ref b1), .unset, .unset, .unset, .unset] [])) _
    refine XS.iload X3.here hx rfl (hb hby at_35) rfl ?_
    show Steps p.tables e below (T3.setTop (mkF m 37 #[.val (.int p1), .val (.int p2), .val (.int p3), .val (.int p4), .val (.int (p1 &&& (3 : Int32))), .val (.long (Int32.toInt64 (p2 % (1048576 : Int32)))), .second, .val (.long (Int32.toInt64 (p3 % (1048576 : Int32)))), .second, .val (.long (Int32.toInt64 (p4 % (1048576 : Int32)))), .second, .val (.ref b1), .unset, .unset, .unset, .unset] [(.int (p1 &&& (3 : Int32)))])) _
    refine XS.iconst X3.here hx rfl (hb hby at_37) ?_
    show Steps p.tables e below (T3.setTop (mkF m 38 #[.val (.int p1), .val (.int p2), .val (.int p3), .val (.int p4), .val (.int (p1 &&& (3 : Int32))), .val (.long (Int32.toInt64 (p2 % (1048576 : Int32)))), .second, .val (.long (Int32.toInt64 (p3 % (1048576 : Int32)))), .second, .val (.long (Int32.toInt64 (p4 % (1048576 : Int32)))), .second, .val (.ref b1), .unset, .unset, .unset, .unset] [(.int (1 : Int32)), (.int (p1 &&& (3 : Int32)))])) _
    refine XS.icmpNo X3.here hx rfl (hb hby at_38) rfl (flt (by rw [hk]; decide)).1 ?_
    show Steps p.tables e below (T3.setTop (mkF m 41 #[.val (.int p1), .val (.int p2), .val (.int p3), .val (.int p4), .val (.int (p1 &&& (3 : Int32))), .val (.long (Int32.toInt64 (p2 % (1048576 : Int32)))), .second, .val (.long (Int32.toInt64 (p3 % (1048576 : Int32)))), .second, .val (.long (Int32.toInt64 (p4 % (1048576 : Int32)))), .second, .val (.ref b1), .unset, .unset, .unset, .unset] [])) _
    refine XS.aload X3.here hx rfl (hb hby at_41) rfl rfl ?_
    show Steps p.tables e below (T3.setTop (mkF m 43 #[.val (.int p1), .val (.int p2), .val (.int p3), .val (.int p4), .val (.int (p1 &&& (3 : Int32))), .val (.long (Int32.toInt64 (p2 % (1048576 : Int32)))), .second, .val (.long (Int32.toInt64 (p3 % (1048576 : Int32)))), .second, .val (.long (Int32.toInt64 (p4 % (1048576 : Int32)))), .second, .val (.ref b1), .unset, .unset, .unset, .unset] [(.ref b1)])) _
    refine XS.lload X3.here hx rfl (hb hby at_43) rfl ?_
    show Steps p.tables e below (T3.setTop (mkF m 45 #[.val (.int p1), .val (.int p2), .val (.int p3), .val (.int p4), .val (.int (p1 &&& (3 : Int32))), .val (.long (Int32.toInt64 (p2 % (1048576 : Int32)))), .second, .val (.long (Int32.toInt64 (p3 % (1048576 : Int32)))), .second, .val (.long (Int32.toInt64 (p4 % (1048576 : Int32)))), .second, .val (.ref b1), .unset, .unset, .unset, .unset] [(.long (Int32.toInt64 (p2 % (1048576 : Int32)))), (.ref b1)])) _
    refine XS.l2dS X3.here hx rfl (v := (FP.l2d (Int32.toInt64 (p2 % (1048576 : Int32))))) (hb hby at_45) rfl rfl ?_
    show Steps p.tables e below (T3.setTop (mkF m 46 #[.val (.int p1), .val (.int p2), .val (.int p3), .val (.int p4), .val (.int (p1 &&& (3 : Int32))), .val (.long (Int32.toInt64 (p2 % (1048576 : Int32)))), .second, .val (.long (Int32.toInt64 (p3 % (1048576 : Int32)))), .second, .val (.long (Int32.toInt64 (p4 % (1048576 : Int32)))), .second, .val (.ref b1), .unset, .unset, .unset, .unset] [(.double (FP.l2d (Int32.toInt64 (p2 % (1048576 : Int32))))), (.ref b1)])) _
    refine st4.trans ?_
    show Steps p.tables e below (T4.setTop (mkF m 49 #[.val (.int p1), .val (.int p2), .val (.int p3), .val (.int p4), .val (.int (p1 &&& (3 : Int32))), .val (.long (Int32.toInt64 (p2 % (1048576 : Int32)))), .second, .val (.long (Int32.toInt64 (p3 % (1048576 : Int32)))), .second, .val (.long (Int32.toInt64 (p4 % (1048576 : Int32)))), .second, .val (.ref b1), .unset, .unset, .unset, .unset] [])) _
    refine XS.iload X4.here hx rfl (hb hby at_49) rfl ?_
    show Steps p.tables e below (T4.setTop (mkF m 51 #[.val (.int p1), .val (.int p2), .val (.int p3), .val (.int p4), .val (.int (p1 &&& (3 : Int32))), .val (.long (Int32.toInt64 (p2 % (1048576 : Int32)))), .second, .val (.long (Int32.toInt64 (p3 % (1048576 : Int32)))), .second, .val (.long (Int32.toInt64 (p4 % (1048576 : Int32)))), .second, .val (.ref b1), .unset, .unset, .unset, .unset] [(.int (p1 &&& (3 : Int32)))])) _
    refine XS.iconst X4.here hx rfl (hb hby at_51) ?_
    show Steps p.tables e below (T4.setTop (mkF m 52 #[.val (.int p1), .val (.int p2), .val (.int p3), .val (.int p4), .val (.int (p1 &&& (3 : Int32))), .val (.long (Int32.toInt64 (p2 % (1048576 : Int32)))), .second, .val (.long (Int32.toInt64 (p3 % (1048576 : Int32)))), .second, .val (.long (Int32.toInt64 (p4 % (1048576 : Int32)))), .second, .val (.ref b1), .unset, .unset, .unset, .unset] [(.int (2 : Int32)), (.int (p1 &&& (3 : Int32)))])) _
    refine XS.icmpNo X4.here hx rfl (hb hby at_52) rfl (flt (by rw [hk]; decide)).1 ?_
    show Steps p.tables e below (T4.setTop (mkF m 55 #[.val (.int p1), .val (.int p2), .val (.int p3), .val (.int p4), .val (.int (p1 &&& (3 : Int32))), .val (.long (Int32.toInt64 (p2 % (1048576 : Int32)))), .second, .val (.long (Int32.toInt64 (p3 % (1048576 : Int32)))), .second, .val (.long (Int32.toInt64 (p4 % (1048576 : Int32)))), .second, .val (.ref b1), .unset, .unset, .unset, .unset] [])) _
    refine XS.aload X4.here hx rfl (hb hby at_55) rfl rfl ?_
    show Steps p.tables e below (T4.setTop (mkF m 57 #[.val (.int p1), .val (.int p2), .val (.int p3), .val (.int p4), .val (.int (p1 &&& (3 : Int32))), .val (.long (Int32.toInt64 (p2 % (1048576 : Int32)))), .second, .val (.long (Int32.toInt64 (p3 % (1048576 : Int32)))), .second, .val (.long (Int32.toInt64 (p4 % (1048576 : Int32)))), .second, .val (.ref b1), .unset, .unset, .unset, .unset] [(.ref b1)])) _
    refine XS.lload X4.here hx rfl (hb hby at_57) rfl ?_
    show Steps p.tables e below (T4.setTop (mkF m 59 #[.val (.int p1), .val (.int p2), .val (.int p3), .val (.int p4), .val (.int (p1 &&& (3 : Int32))), .val (.long (Int32.toInt64 (p2 % (1048576 : Int32)))), .second, .val (.long (Int32.toInt64 (p3 % (1048576 : Int32)))), .second, .val (.long (Int32.toInt64 (p4 % (1048576 : Int32)))), .second, .val (.ref b1), .unset, .unset, .unset, .unset] [(.long (Int32.toInt64 (p3 % (1048576 : Int32)))), (.ref b1)])) _
    refine XS.l2dS X4.here hx rfl (v := (FP.l2d (Int32.toInt64 (p3 % (1048576 : Int32))))) (hb hby at_59) rfl rfl ?_
    show Steps p.tables e below (T4.setTop (mkF m 60 #[.val (.int p1), .val (.int p2), .val (.int p3), .val (.int p4), .val (.int (p1 &&& (3 : Int32))), .val (.long (Int32.toInt64 (p2 % (1048576 : Int32)))), .second, .val (.long (Int32.toInt64 (p3 % (1048576 : Int32)))), .second, .val (.long (Int32.toInt64 (p4 % (1048576 : Int32)))), .second, .val (.ref b1), .unset, .unset, .unset, .unset] [(.double (FP.l2d (Int32.toInt64 (p3 % (1048576 : Int32))))), (.ref b1)])) _
    refine st5.trans ?_
    show Steps p.tables e below (T5.setTop (mkF m 63 #[.val (.int p1), .val (.int p2), .val (.int p3), .val (.int p4), .val (.int (p1 &&& (3 : Int32))), .val (.long (Int32.toInt64 (p2 % (1048576 : Int32)))), .second, .val (.long (Int32.toInt64 (p3 % (1048576 : Int32)))), .second, .val (.long (Int32.toInt64 (p4 % (1048576 : Int32)))), .second, .val (.ref b1), .unset, .unset, .unset, .unset] [])) _
    refine XS.iload X5.here hx rfl (hb hby at_63) rfl ?_
    show Steps p.tables e below (T5.setTop (mkF m 65 #[.val (.int p1), .val (.int p2), .val (.int p3), .val (.int p4), .val (.int (p1 &&& (3 : Int32))), .val (.long (Int32.toInt64 (p2 % (1048576 : Int32)))), .second, .val (.long (Int32.toInt64 (p3 % (1048576 : Int32)))), .second, .val (.long (Int32.toInt64 (p4 % (1048576 : Int32)))), .second, .val (.ref b1), .unset, .unset, .unset, .unset] [(.int (p1 &&& (3 : Int32)))])) _
    refine XS.iconst X5.here hx rfl (hb hby at_65) ?_
    show Steps p.tables e below (T5.setTop (mkF m 66 #[.val (.int p1), .val (.int p2), .val (.int p3), .val (.int p4), .val (.int (p1 &&& (3 : Int32))), .val (.long (Int32.toInt64 (p2 % (1048576 : Int32)))), .second, .val (.long (Int32.toInt64 (p3 % (1048576 : Int32)))), .second, .val (.long (Int32.toInt64 (p4 % (1048576 : Int32)))), .second, .val (.ref b1), .unset, .unset, .unset, .unset] [(.int (3 : Int32)), (.int (p1 &&& (3 : Int32)))])) _
    refine XS.icmpNo X5.here hx rfl (hb hby at_66) rfl (flt (by rw [hk]; decide)).1 ?_
    show Steps p.tables e below (T5.setTop (mkF m 69 #[.val (.int p1), .val (.int p2), .val (.int p3), .val (.int p4), .val (.int (p1 &&& (3 : Int32))), .val (.long (Int32.toInt64 (p2 % (1048576 : Int32)))), .second, .val (.long (Int32.toInt64 (p3 % (1048576 : Int32)))), .second, .val (.long (Int32.toInt64 (p4 % (1048576 : Int32)))), .second, .val (.ref b1), .unset, .unset, .unset, .unset] [])) _
    refine XS.aload X5.here hx rfl (hb hby at_69) rfl rfl ?_
    show Steps p.tables e below (T5.setTop (mkF m 71 #[.val (.int p1), .val (.int p2), .val (.int p3), .val (.int p4), .val (.int (p1 &&& (3 : Int32))), .val (.long (Int32.toInt64 (p2 % (1048576 : Int32)))), .second, .val (.long (Int32.toInt64 (p3 % (1048576 : Int32)))), .second, .val (.long (Int32.toInt64 (p4 % (1048576 : Int32)))), .second, .val (.ref b1), .unset, .unset, .unset, .unset] [(.ref b1)])) _
    refine XS.lload X5.here hx rfl (hb hby at_71) rfl ?_
    show Steps p.tables e below (T5.setTop (mkF m 73 #[.val (.int p1), .val (.int p2), .val (.int p3), .val (.int p4), .val (.int (p1 &&& (3 : Int32))), .val (.long (Int32.toInt64 (p2 % (1048576 : Int32)))), .second, .val (.long (Int32.toInt64 (p3 % (1048576 : Int32)))), .second, .val (.long (Int32.toInt64 (p4 % (1048576 : Int32)))), .second, .val (.ref b1), .unset, .unset, .unset, .unset] [(.long (Int32.toInt64 (p2 % (1048576 : Int32)))), (.ref b1)])) _
    refine XS.lload X5.here hx rfl (hb hby at_73) rfl ?_
    show Steps p.tables e below (T5.setTop (mkF m 75 #[.val (.int p1), .val (.int p2), .val (.int p3), .val (.int p4), .val (.int (p1 &&& (3 : Int32))), .val (.long (Int32.toInt64 (p2 % (1048576 : Int32)))), .second, .val (.long (Int32.toInt64 (p3 % (1048576 : Int32)))), .second, .val (.long (Int32.toInt64 (p4 % (1048576 : Int32)))), .second, .val (.ref b1), .unset, .unset, .unset, .unset] [(.long (Int32.toInt64 (p3 % (1048576 : Int32)))), (.long (Int32.toInt64 (p2 % (1048576 : Int32)))), (.ref b1)])) _
    refine XS.ladd X5.here hx rfl (hb hby at_75) rfl ?_
    show Steps p.tables e below (T5.setTop (mkF m 76 #[.val (.int p1), .val (.int p2), .val (.int p3), .val (.int p4), .val (.int (p1 &&& (3 : Int32))), .val (.long (Int32.toInt64 (p2 % (1048576 : Int32)))), .second, .val (.long (Int32.toInt64 (p3 % (1048576 : Int32)))), .second, .val (.long (Int32.toInt64 (p4 % (1048576 : Int32)))), .second, .val (.ref b1), .unset, .unset, .unset, .unset] [(.long ((Int32.toInt64 (p2 % (1048576 : Int32))) + (Int32.toInt64 (p3 % (1048576 : Int32))))), (.ref b1)])) _
    refine X5.ldc2Long hx hown (mvT hZ (hw _ (List.mem_of_getElem? (i := 28) rfl))) (g := (mkF m 76 #[.val (.int p1), .val (.int p2), .val (.int p3), .val (.int p4), .val (.int (p1 &&& (3 : Int32))), .val (.long (Int32.toInt64 (p2 % (1048576 : Int32)))), .second, .val (.long (Int32.toInt64 (p3 % (1048576 : Int32)))), .second, .val (.long (Int32.toInt64 (p4 % (1048576 : Int32)))), .second, .val (.ref b1), .unset, .unset, .unset, .unset] [(.long ((Int32.toInt64 (p2 % (1048576 : Int32))) + (Int32.toInt64 (p3 % (1048576 : Int32))))), (.ref b1)])) rfl (hb hby at_76) _ ?_
    show Steps p.tables e below (T5.setTop (mkF m 79 #[.val (.int p1), .val (.int p2), .val (.int p3), .val (.int p4), .val (.int (p1 &&& (3 : Int32))), .val (.long (Int32.toInt64 (p2 % (1048576 : Int32)))), .second, .val (.long (Int32.toInt64 (p3 % (1048576 : Int32)))), .second, .val (.long (Int32.toInt64 (p4 % (1048576 : Int32)))), .second, .val (.ref b1), .unset, .unset, .unset, .unset] [(.long (6 : Int64)), (.long ((Int32.toInt64 (p2 % (1048576 : Int32))) + (Int32.toInt64 (p3 % (1048576 : Int32))))), (.ref b1)])) _
    refine XS.lload X5.here hx rfl (hb hby at_79) rfl ?_
    show Steps p.tables e below (T5.setTop (mkF m 81 #[.val (.int p1), .val (.int p2), .val (.int p3), .val (.int p4), .val (.int (p1 &&& (3 : Int32))), .val (.long (Int32.toInt64 (p2 % (1048576 : Int32)))), .second, .val (.long (Int32.toInt64 (p3 % (1048576 : Int32)))), .second, .val (.long (Int32.toInt64 (p4 % (1048576 : Int32)))), .second, .val (.ref b1), .unset, .unset, .unset, .unset] [(.long (Int32.toInt64 (p4 % (1048576 : Int32)))), (.long (6 : Int64)), (.long ((Int32.toInt64 (p2 % (1048576 : Int32))) + (Int32.toInt64 (p3 % (1048576 : Int32))))), (.ref b1)])) _
    refine XS.lmul X5.here hx rfl (hb hby at_81) rfl ?_
    show Steps p.tables e below (T5.setTop (mkF m 82 #[.val (.int p1), .val (.int p2), .val (.int p3), .val (.int p4), .val (.int (p1 &&& (3 : Int32))), .val (.long (Int32.toInt64 (p2 % (1048576 : Int32)))), .second, .val (.long (Int32.toInt64 (p3 % (1048576 : Int32)))), .second, .val (.long (Int32.toInt64 (p4 % (1048576 : Int32)))), .second, .val (.ref b1), .unset, .unset, .unset, .unset] [(.long ((6 : Int64) * (Int32.toInt64 (p4 % (1048576 : Int32))))), (.long ((Int32.toInt64 (p2 % (1048576 : Int32))) + (Int32.toInt64 (p3 % (1048576 : Int32))))), (.ref b1)])) _
    refine XS.ladd X5.here hx rfl (hb hby at_82) rfl ?_
    show Steps p.tables e below (T5.setTop (mkF m 83 #[.val (.int p1), .val (.int p2), .val (.int p3), .val (.int p4), .val (.int (p1 &&& (3 : Int32))), .val (.long (Int32.toInt64 (p2 % (1048576 : Int32)))), .second, .val (.long (Int32.toInt64 (p3 % (1048576 : Int32)))), .second, .val (.long (Int32.toInt64 (p4 % (1048576 : Int32)))), .second, .val (.ref b1), .unset, .unset, .unset, .unset] [(.long (((Int32.toInt64 (p2 % (1048576 : Int32))) + (Int32.toInt64 (p3 % (1048576 : Int32)))) + ((6 : Int64) * (Int32.toInt64 (p4 % (1048576 : Int32)))))), (.ref b1)])) _
    refine XS.l2dS X5.here hx rfl (v := (FP.l2d (((Int32.toInt64 (p2 % (1048576 : Int32))) + (Int32.toInt64 (p3 % (1048576 : Int32)))) + ((6 : Int64) * (Int32.toInt64 (p4 % (1048576 : Int32))))))) (hb hby at_83) rfl rfl ?_
    show Steps p.tables e below (T5.setTop (mkF m 84 #[.val (.int p1), .val (.int p2), .val (.int p3), .val (.int p4), .val (.int (p1 &&& (3 : Int32))), .val (.long (Int32.toInt64 (p2 % (1048576 : Int32)))), .second, .val (.long (Int32.toInt64 (p3 % (1048576 : Int32)))), .second, .val (.long (Int32.toInt64 (p4 % (1048576 : Int32)))), .second, .val (.ref b1), .unset, .unset, .unset, .unset] [(.double (FP.l2d (((Int32.toInt64 (p2 % (1048576 : Int32))) + (Int32.toInt64 (p3 % (1048576 : Int32)))) + ((6 : Int64) * (Int32.toInt64 (p4 % (1048576 : Int32))))))), (.ref b1)])) _
    refine X5.ldc2DoubleC hx hown (mvT hZ (hw _ (List.mem_of_getElem? (i := 29) rfl))) (g := (mkF m 84 #[.val (.int p1), .val (.int p2), .val (.int p3), .val (.int p4), .val (.int (p1 &&& (3 : Int32))), .val (.long (Int32.toInt64 (p2 % (1048576 : Int32)))), .second, .val (.long (Int32.toInt64 (p3 % (1048576 : Int32)))), .second, .val (.long (Int32.toInt64 (p4 % (1048576 : Int32)))), .second, .val (.ref b1), .unset, .unset, .unset, .unset] [(.double (FP.l2d (((Int32.toInt64 (p2 % (1048576 : Int32))) + (Int32.toInt64 (p3 % (1048576 : Int32)))) + ((6 : Int64) * (Int32.toInt64 (p4 % (1048576 : Int32))))))), (.ref b1)])) rfl (hb hby at_84) _ ?_
    show Steps p.tables e below (T5.setTop (mkF m 87 #[.val (.int p1), .val (.int p2), .val (.int p3), .val (.int p4), .val (.int (p1 &&& (3 : Int32))), .val (.long (Int32.toInt64 (p2 % (1048576 : Int32)))), .second, .val (.long (Int32.toInt64 (p3 % (1048576 : Int32)))), .second, .val (.long (Int32.toInt64 (p4 % (1048576 : Int32)))), .second, .val (.ref b1), .unset, .unset, .unset, .unset] [(.double (4611686018427387904 : UInt64)), (.double (FP.l2d (((Int32.toInt64 (p2 % (1048576 : Int32))) + (Int32.toInt64 (p3 % (1048576 : Int32)))) + ((6 : Int64) * (Int32.toInt64 (p4 % (1048576 : Int32))))))), (.ref b1)])) _
    refine XS.ddivS X5.here hx rfl (v := x3) (hb hby at_87) rfl hn87 hv87 ?_
    show Steps p.tables e below (T5.setTop (mkF m 88 #[.val (.int p1), .val (.int p2), .val (.int p3), .val (.int p4), .val (.int (p1 &&& (3 : Int32))), .val (.long (Int32.toInt64 (p2 % (1048576 : Int32)))), .second, .val (.long (Int32.toInt64 (p3 % (1048576 : Int32)))), .second, .val (.long (Int32.toInt64 (p4 % (1048576 : Int32)))), .second, .val (.ref b1), .unset, .unset, .unset, .unset] [(.double x3), (.ref b1)])) _
    refine st7.trans ?_
    show Steps p.tables e below (T7.setTop (mkF m 91 #[.val (.int p1), .val (.int p2), .val (.int p3), .val (.int p4), .val (.int (p1 &&& (3 : Int32))), .val (.long (Int32.toInt64 (p2 % (1048576 : Int32)))), .second, .val (.long (Int32.toInt64 (p3 % (1048576 : Int32)))), .second, .val (.long (Int32.toInt64 (p4 % (1048576 : Int32)))), .second, .val (.ref b1), .unset, .unset, .unset, .unset] [])) _
    refine XS.aload X7.here hx rfl (hb hby at_91) rfl rfl ?_
    show Steps p.tables e below (T7.setTop (mkF m 93 #[.val (.int p1), .val (.int p2), .val (.int p3), .val (.int p4), .val (.int (p1 &&& (3 : Int32))), .val (.long (Int32.toInt64 (p2 % (1048576 : Int32)))), .second, .val (.long (Int32.toInt64 (p3 % (1048576 : Int32)))), .second, .val (.long (Int32.toInt64 (p4 % (1048576 : Int32)))), .second, .val (.ref b1), .unset, .unset, .unset, .unset] [(.ref b1)])) _
    refine st9.trans ?_
    show Steps p.tables e below (T9.setTop (mkF m 96 #[.val (.int p1), .val (.int p2), .val (.int p3), .val (.int p4), .val (.int (p1 &&& (3 : Int32))), .val (.long (Int32.toInt64 (p2 % (1048576 : Int32)))), .second, .val (.long (Int32.toInt64 (p3 % (1048576 : Int32)))), .second, .val (.long (Int32.toInt64 (p4 % (1048576 : Int32)))), .second, .val (.ref b1), .unset, .unset, .unset, .unset] [(.double r)])) _
    refine XS.dstore X9.here hx rfl (hb hby at_96) rfl (l' := #[.val (.int p1), .val (.int p2), .val (.int p3), .val (.int p4), .val (.int (p1 &&& (3 : Int32))), .val (.long (Int32.toInt64 (p2 % (1048576 : Int32)))), .second, .val (.long (Int32.toInt64 (p3 % (1048576 : Int32)))), .second, .val (.long (Int32.toInt64 (p4 % (1048576 : Int32)))), .second, .val (.ref b1), .val (.double r), .second, .unset, .unset]) rfl ?_
    show Steps p.tables e below (T9.setTop (mkF m 98 #[.val (.int p1), .val (.int p2), .val (.int p3), .val (.int p4), .val (.int (p1 &&& (3 : Int32))), .val (.long (Int32.toInt64 (p2 % (1048576 : Int32)))), .second, .val (.long (Int32.toInt64 (p3 % (1048576 : Int32)))), .second, .val (.long (Int32.toInt64 (p4 % (1048576 : Int32)))), .second, .val (.ref b1), .val (.double r), .second, .unset, .unset] [])) _
    refine XS.iload X9.here hx rfl (hb hby at_98) rfl ?_
    show Steps p.tables e below (T9.setTop (mkF m 100 #[.val (.int p1), .val (.int p2), .val (.int p3), .val (.int p4), .val (.int (p1 &&& (3 : Int32))), .val (.long (Int32.toInt64 (p2 % (1048576 : Int32)))), .second, .val (.long (Int32.toInt64 (p3 % (1048576 : Int32)))), .second, .val (.long (Int32.toInt64 (p4 % (1048576 : Int32)))), .second, .val (.ref b1), .val (.double r), .second, .unset, .unset] [(.int (p1 &&& (3 : Int32)))])) _
    refine XS.iconst X9.here hx rfl (hb hby at_100) ?_
    show Steps p.tables e below (T9.setTop (mkF m 101 #[.val (.int p1), .val (.int p2), .val (.int p3), .val (.int p4), .val (.int (p1 &&& (3 : Int32))), .val (.long (Int32.toInt64 (p2 % (1048576 : Int32)))), .second, .val (.long (Int32.toInt64 (p3 % (1048576 : Int32)))), .second, .val (.long (Int32.toInt64 (p4 % (1048576 : Int32)))), .second, .val (.ref b1), .val (.double r), .second, .unset, .unset] [(.int (2 : Int32)), (.int (p1 &&& (3 : Int32)))])) _
    refine XS.icmpYes X9.here hx rfl (pc0 := 101) (pc' := 118) rfl (hb hby at_101) rfl (flt (by rw [hk]; decide)).2.1 (by decide) (by decide) ?_
    show Steps p.tables e below (T9.setTop (mkF m 118 #[.val (.int p1), .val (.int p2), .val (.int p3), .val (.int p4), .val (.int (p1 &&& (3 : Int32))), .val (.long (Int32.toInt64 (p2 % (1048576 : Int32)))), .second, .val (.long (Int32.toInt64 (p3 % (1048576 : Int32)))), .second, .val (.long (Int32.toInt64 (p4 % (1048576 : Int32)))), .second, .val (.ref b1), .val (.double r), .second, .unset, .unset] [])) _
    refine XS.lload X9.here hx rfl (hb hby at_118) rfl ?_
    show Steps p.tables e below (T9.setTop (mkF m 120 #[.val (.int p1), .val (.int p2), .val (.int p3), .val (.int p4), .val (.int (p1 &&& (3 : Int32))), .val (.long (Int32.toInt64 (p2 % (1048576 : Int32)))), .second, .val (.long (Int32.toInt64 (p3 % (1048576 : Int32)))), .second, .val (.long (Int32.toInt64 (p4 % (1048576 : Int32)))), .second, .val (.ref b1), .val (.double r), .second, .unset, .unset] [(.long (Int32.toInt64 (p3 % (1048576 : Int32))))])) _
    refine XS.lload X9.here hx rfl (hb hby at_120) rfl ?_
    show Steps p.tables e below (T9.setTop (mkF m 122 #[.val (.int p1), .val (.int p2), .val (.int p3), .val (.int p4), .val (.int (p1 &&& (3 : Int32))), .val (.long (Int32.toInt64 (p2 % (1048576 : Int32)))), .second, .val (.long (Int32.toInt64 (p3 % (1048576 : Int32)))), .second, .val (.long (Int32.toInt64 (p4 % (1048576 : Int32)))), .second, .val (.ref b1), .val (.double r), .second, .unset, .unset] [(.long (Int32.toInt64 (p2 % (1048576 : Int32)))), (.long (Int32.toInt64 (p3 % (1048576 : Int32))))])) _
    refine XS.lsub X9.here hx rfl (hb hby at_122) rfl ?_
    show Steps p.tables e below (T9.setTop (mkF m 123 #[.val (.int p1), .val (.int p2), .val (.int p3), .val (.int p4), .val (.int (p1 &&& (3 : Int32))), .val (.long (Int32.toInt64 (p2 % (1048576 : Int32)))), .second, .val (.long (Int32.toInt64 (p3 % (1048576 : Int32)))), .second, .val (.long (Int32.toInt64 (p4 % (1048576 : Int32)))), .second, .val (.ref b1), .val (.double r), .second, .unset, .unset] [(.long ((Int32.toInt64 (p3 % (1048576 : Int32))) - (Int32.toInt64 (p2 % (1048576 : Int32)))))])) _
    refine XS.lstore X9.here hx rfl (hb hby at_123) rfl (l' := #[.val (.int p1), .val (.int p2), .val (.int p3), .val (.int p4), .val (.int (p1 &&& (3 : Int32))), .val (.long (Int32.toInt64 (p2 % (1048576 : Int32)))), .second, .val (.long (Int32.toInt64 (p3 % (1048576 : Int32)))), .second, .val (.long (Int32.toInt64 (p4 % (1048576 : Int32)))), .second, .val (.ref b1), .val (.double r), .second, .val (.long ((Int32.toInt64 (p3 % (1048576 : Int32))) - (Int32.toInt64 (p2 % (1048576 : Int32))))), .second]) rfl ?_
    show Steps p.tables e below (T9.setTop (mkF m 125 #[.val (.int p1), .val (.int p2), .val (.int p3), .val (.int p4), .val (.int (p1 &&& (3 : Int32))), .val (.long (Int32.toInt64 (p2 % (1048576 : Int32)))), .second, .val (.long (Int32.toInt64 (p3 % (1048576 : Int32)))), .second, .val (.long (Int32.toInt64 (p4 % (1048576 : Int32)))), .second, .val (.ref b1), .val (.double r), .second, .val (.long ((Int32.toInt64 (p3 % (1048576 : Int32))) - (Int32.toInt64 (p2 % (1048576 : Int32))))), .second] [])) _
    refine XS.iload X9.here hx rfl (hb hby at_125) rfl ?_
    show Steps p.tables e below (T9.setTop (mkF m 127 #[.val (.int p1), .val (.int p2), .val (.int p3), .val (.int p4), .val (.int (p1 &&& (3 : Int32))), .val (.long (Int32.toInt64 (p2 % (1048576 : Int32)))), .second, .val (.long (Int32.toInt64 (p3 % (1048576 : Int32)))), .second, .val (.long (Int32.toInt64 (p4 % (1048576 : Int32)))), .second, .val (.ref b1), .val (.double r), .second, .val (.long ((Int32.toInt64 (p3 % (1048576 : Int32))) - (Int32.toInt64 (p2 % (1048576 : Int32))))), .second] [(.int (p1 &&& (3 : Int32)))])) _
    refine XS.iconst X9.here hx rfl (hb hby at_127) ?_
    show Steps p.tables e below (T9.setTop (mkF m 128 #[.val (.int p1), .val (.int p2), .val (.int p3), .val (.int p4), .val (.int (p1 &&& (3 : Int32))), .val (.long (Int32.toInt64 (p2 % (1048576 : Int32)))), .second, .val (.long (Int32.toInt64 (p3 % (1048576 : Int32)))), .second, .val (.long (Int32.toInt64 (p4 % (1048576 : Int32)))), .second, .val (.ref b1), .val (.double r), .second, .val (.long ((Int32.toInt64 (p3 % (1048576 : Int32))) - (Int32.toInt64 (p2 % (1048576 : Int32))))), .second] [(.int (2 : Int32)), (.int (p1 &&& (3 : Int32)))])) _
    refine XS.icmpYes X9.here hx rfl (pc0 := 128) (pc' := 153) rfl (hb hby at_128) rfl (feq (by rw [hk]; decide)).2 (by decide) (by decide) ?_
    show Steps p.tables e below (T9.setTop (mkF m 153 #[.val (.int p1), .val (.int p2), .val (.int p3), .val (.int p4), .val (.int (p1 &&& (3 : Int32))), .val (.long (Int32.toInt64 (p2 % (1048576 : Int32)))), .second, .val (.long (Int32.toInt64 (p3 % (1048576 : Int32)))), .second, .val (.long (Int32.toInt64 (p4 % (1048576 : Int32)))), .second, .val (.ref b1), .val (.double r), .second, .val (.long ((Int32.toInt64 (p3 % (1048576 : Int32))) - (Int32.toInt64 (p2 % (1048576 : Int32))))), .second] [])) _
    refine XS.dload X9.here hx rfl (hb hby at_153) rfl ?_
    show Steps p.tables e below (T9.setTop (mkF m 155 #[.val (.int p1), .val (.int p2), .val (.int p3), .val (.int p4), .val (.int (p1 &&& (3 : Int32))), .val (.long (Int32.toInt64 (p2 % (1048576 : Int32)))), .second, .val (.long (Int32.toInt64 (p3 % (1048576 : Int32)))), .second, .val (.long (Int32.toInt64 (p4 % (1048576 : Int32)))), .second, .val (.ref b1), .val (.double r), .second, .val (.long ((Int32.toInt64 (p3 % (1048576 : Int32))) - (Int32.toInt64 (p2 % (1048576 : Int32))))), .second] [(.double r)])) _
    refine XS.lload X9.here hx rfl (hb hby at_155) rfl ?_
    show Steps p.tables e below (T9.setTop (mkF m 157 #[.val (.int p1), .val (.int p2), .val (.int p3), .val (.int p4), .val (.int (p1 &&& (3 : Int32))), .val (.long (Int32.toInt64 (p2 % (1048576 : Int32)))), .second, .val (.long (Int32.toInt64 (p3 % (1048576 : Int32)))), .second, .val (.long (Int32.toInt64 (p4 % (1048576 : Int32)))), .second, .val (.ref b1), .val (.double r), .second, .val (.long ((Int32.toInt64 (p3 % (1048576 : Int32))) - (Int32.toInt64 (p2 % (1048576 : Int32))))), .second] [(.long ((Int32.toInt64 (p3 % (1048576 : Int32))) - (Int32.toInt64 (p2 % (1048576 : Int32))))), (.double r)])) _
    refine XS.lload X9.here hx rfl (hb hby at_157) rfl ?_
    show Steps p.tables e below (T9.setTop (mkF m 159 #[.val (.int p1), .val (.int p2), .val (.int p3), .val (.int p4), .val (.int (p1 &&& (3 : Int32))), .val (.long (Int32.toInt64 (p2 % (1048576 : Int32)))), .second, .val (.long (Int32.toInt64 (p3 % (1048576 : Int32)))), .second, .val (.long (Int32.toInt64 (p4 % (1048576 : Int32)))), .second, .val (.ref b1), .val (.double r), .second, .val (.long ((Int32.toInt64 (p3 % (1048576 : Int32))) - (Int32.toInt64 (p2 % (1048576 : Int32))))), .second] [(.long ((Int32.toInt64 (p3 % (1048576 : Int32))) - (Int32.toInt64 (p2 % (1048576 : Int32))))), (.long ((Int32.toInt64 (p3 % (1048576 : Int32))) - (Int32.toInt64 (p2 % (1048576 : Int32))))), (.double r)])) _
    refine XS.lmul X9.here hx rfl (hb hby at_159) rfl ?_
    show Steps p.tables e below (T9.setTop (mkF m 160 #[.val (.int p1), .val (.int p2), .val (.int p3), .val (.int p4), .val (.int (p1 &&& (3 : Int32))), .val (.long (Int32.toInt64 (p2 % (1048576 : Int32)))), .second, .val (.long (Int32.toInt64 (p3 % (1048576 : Int32)))), .second, .val (.long (Int32.toInt64 (p4 % (1048576 : Int32)))), .second, .val (.ref b1), .val (.double r), .second, .val (.long ((Int32.toInt64 (p3 % (1048576 : Int32))) - (Int32.toInt64 (p2 % (1048576 : Int32))))), .second] [(.long (((Int32.toInt64 (p3 % (1048576 : Int32))) - (Int32.toInt64 (p2 % (1048576 : Int32)))) * ((Int32.toInt64 (p3 % (1048576 : Int32))) - (Int32.toInt64 (p2 % (1048576 : Int32)))))), (.double r)])) _
    refine X9.ldc2Long hx hown (mvT hZ (hw _ (List.mem_of_getElem? (i := 30) rfl))) (g := (mkF m 160 #[.val (.int p1), .val (.int p2), .val (.int p3), .val (.int p4), .val (.int (p1 &&& (3 : Int32))), .val (.long (Int32.toInt64 (p2 % (1048576 : Int32)))), .second, .val (.long (Int32.toInt64 (p3 % (1048576 : Int32)))), .second, .val (.long (Int32.toInt64 (p4 % (1048576 : Int32)))), .second, .val (.ref b1), .val (.double r), .second, .val (.long ((Int32.toInt64 (p3 % (1048576 : Int32))) - (Int32.toInt64 (p2 % (1048576 : Int32))))), .second] [(.long (((Int32.toInt64 (p3 % (1048576 : Int32))) - (Int32.toInt64 (p2 % (1048576 : Int32)))) * ((Int32.toInt64 (p3 % (1048576 : Int32))) - (Int32.toInt64 (p2 % (1048576 : Int32)))))), (.double r)])) rfl (hb hby at_160) _ ?_
    show Steps p.tables e below (T9.setTop (mkF m 163 #[.val (.int p1), .val (.int p2), .val (.int p3), .val (.int p4), .val (.int (p1 &&& (3 : Int32))), .val (.long (Int32.toInt64 (p2 % (1048576 : Int32)))), .second, .val (.long (Int32.toInt64 (p3 % (1048576 : Int32)))), .second, .val (.long (Int32.toInt64 (p4 % (1048576 : Int32)))), .second, .val (.ref b1), .val (.double r), .second, .val (.long ((Int32.toInt64 (p3 % (1048576 : Int32))) - (Int32.toInt64 (p2 % (1048576 : Int32))))), .second] [(.long (12 : Int64)), (.long (((Int32.toInt64 (p3 % (1048576 : Int32))) - (Int32.toInt64 (p2 % (1048576 : Int32)))) * ((Int32.toInt64 (p3 % (1048576 : Int32))) - (Int32.toInt64 (p2 % (1048576 : Int32)))))), (.double r)])) _
    refine XS.lload X9.here hx rfl (hb hby at_163) rfl ?_
    show Steps p.tables e below (T9.setTop (mkF m 165 #[.val (.int p1), .val (.int p2), .val (.int p3), .val (.int p4), .val (.int (p1 &&& (3 : Int32))), .val (.long (Int32.toInt64 (p2 % (1048576 : Int32)))), .second, .val (.long (Int32.toInt64 (p3 % (1048576 : Int32)))), .second, .val (.long (Int32.toInt64 (p4 % (1048576 : Int32)))), .second, .val (.ref b1), .val (.double r), .second, .val (.long ((Int32.toInt64 (p3 % (1048576 : Int32))) - (Int32.toInt64 (p2 % (1048576 : Int32))))), .second] [(.long (Int32.toInt64 (p4 % (1048576 : Int32)))), (.long (12 : Int64)), (.long (((Int32.toInt64 (p3 % (1048576 : Int32))) - (Int32.toInt64 (p2 % (1048576 : Int32)))) * ((Int32.toInt64 (p3 % (1048576 : Int32))) - (Int32.toInt64 (p2 % (1048576 : Int32)))))), (.double r)])) _
    refine XS.lmul X9.here hx rfl (hb hby at_165) rfl ?_
    show Steps p.tables e below (T9.setTop (mkF m 166 #[.val (.int p1), .val (.int p2), .val (.int p3), .val (.int p4), .val (.int (p1 &&& (3 : Int32))), .val (.long (Int32.toInt64 (p2 % (1048576 : Int32)))), .second, .val (.long (Int32.toInt64 (p3 % (1048576 : Int32)))), .second, .val (.long (Int32.toInt64 (p4 % (1048576 : Int32)))), .second, .val (.ref b1), .val (.double r), .second, .val (.long ((Int32.toInt64 (p3 % (1048576 : Int32))) - (Int32.toInt64 (p2 % (1048576 : Int32))))), .second] [(.long ((12 : Int64) * (Int32.toInt64 (p4 % (1048576 : Int32))))), (.long (((Int32.toInt64 (p3 % (1048576 : Int32))) - (Int32.toInt64 (p2 % (1048576 : Int32)))) * ((Int32.toInt64 (p3 % (1048576 : Int32))) - (Int32.toInt64 (p2 % (1048576 : Int32)))))), (.double r)])) _
    refine XS.lload X9.here hx rfl (hb hby at_166) rfl ?_
    show Steps p.tables e below (T9.setTop (mkF m 168 #[.val (.int p1), .val (.int p2), .val (.int p3), .val (.int p4), .val (.int (p1 &&& (3 : Int32))), .val (.long (Int32.toInt64 (p2 % (1048576 : Int32)))), .second, .val (.long (Int32.toInt64 (p3 % (1048576 : Int32)))), .second, .val (.long (Int32.toInt64 (p4 % (1048576 : Int32)))), .second, .val (.ref b1), .val (.double r), .second, .val (.long ((Int32.toInt64 (p3 % (1048576 : Int32))) - (Int32.toInt64 (p2 % (1048576 : Int32))))), .second] [(.long (Int32.toInt64 (p4 % (1048576 : Int32)))), (.long ((12 : Int64) * (Int32.toInt64 (p4 % (1048576 : Int32))))), (.long (((Int32.toInt64 (p3 % (1048576 : Int32))) - (Int32.toInt64 (p2 % (1048576 : Int32)))) * ((Int32.toInt64 (p3 % (1048576 : Int32))) - (Int32.toInt64 (p2 % (1048576 : Int32)))))), (.double r)])) _
    refine XS.lmul X9.here hx rfl (hb hby at_168) rfl ?_
    show Steps p.tables e below (T9.setTop (mkF m 169 #[.val (.int p1), .val (.int p2), .val (.int p3), .val (.int p4), .val (.int (p1 &&& (3 : Int32))), .val (.long (Int32.toInt64 (p2 % (1048576 : Int32)))), .second, .val (.long (Int32.toInt64 (p3 % (1048576 : Int32)))), .second, .val (.long (Int32.toInt64 (p4 % (1048576 : Int32)))), .second, .val (.ref b1), .val (.double r), .second, .val (.long ((Int32.toInt64 (p3 % (1048576 : Int32))) - (Int32.toInt64 (p2 % (1048576 : Int32))))), .second] [(.long (((12 : Int64) * (Int32.toInt64 (p4 % (1048576 : Int32)))) * (Int32.toInt64 (p4 % (1048576 : Int32))))), (.long (((Int32.toInt64 (p3 % (1048576 : Int32))) - (Int32.toInt64 (p2 % (1048576 : Int32)))) * ((Int32.toInt64 (p3 % (1048576 : Int32))) - (Int32.toInt64 (p2 % (1048576 : Int32)))))), (.double r)])) _
    refine XS.ladd X9.here hx rfl (hb hby at_169) rfl ?_
    show Steps p.tables e below (T9.setTop (mkF m 170 #[.val (.int p1), .val (.int p2), .val (.int p3), .val (.int p4), .val (.int (p1 &&& (3 : Int32))), .val (.long (Int32.toInt64 (p2 % (1048576 : Int32)))), .second, .val (.long (Int32.toInt64 (p3 % (1048576 : Int32)))), .second, .val (.long (Int32.toInt64 (p4 % (1048576 : Int32)))), .second, .val (.ref b1), .val (.double r), .second, .val (.long ((Int32.toInt64 (p3 % (1048576 : Int32))) - (Int32.toInt64 (p2 % (1048576 : Int32))))), .second] [(.long ((((Int32.toInt64 (p3 % (1048576 : Int32))) - (Int32.toInt64 (p2 % (1048576 : Int32)))) * ((Int32.toInt64 (p3 % (1048576 : Int32))) - (Int32.toInt64 (p2 % (1048576 : Int32))))) + (((12 : Int64) * (Int32.toInt64 (p4 % (1048576 : Int32)))) * (Int32.toInt64 (p4 % (1048576 : Int32)))))), (.double r)])) _
    refine XS.l2dS X9.here hx rfl (v := (FP.l2d ((((Int32.toInt64 (p3 % (1048576 : Int32))) - (Int32.toInt64 (p2 % (1048576 : Int32)))) * ((Int32.toInt64 (p3 % (1048576 : Int32))) - (Int32.toInt64 (p2 % (1048576 : Int32))))) + (((12 : Int64) * (Int32.toInt64 (p4 % (1048576 : Int32)))) * (Int32.toInt64 (p4 % (1048576 : Int32))))))) (hb hby at_170) rfl rfl ?_
    show Steps p.tables e below (T9.setTop (mkF m 171 #[.val (.int p1), .val (.int p2), .val (.int p3), .val (.int p4), .val (.int (p1 &&& (3 : Int32))), .val (.long (Int32.toInt64 (p2 % (1048576 : Int32)))), .second, .val (.long (Int32.toInt64 (p3 % (1048576 : Int32)))), .second, .val (.long (Int32.toInt64 (p4 % (1048576 : Int32)))), .second, .val (.ref b1), .val (.double r), .second, .val (.long ((Int32.toInt64 (p3 % (1048576 : Int32))) - (Int32.toInt64 (p2 % (1048576 : Int32))))), .second] [(.double (FP.l2d ((((Int32.toInt64 (p3 % (1048576 : Int32))) - (Int32.toInt64 (p2 % (1048576 : Int32)))) * ((Int32.toInt64 (p3 % (1048576 : Int32))) - (Int32.toInt64 (p2 % (1048576 : Int32))))) + (((12 : Int64) * (Int32.toInt64 (p4 % (1048576 : Int32)))) * (Int32.toInt64 (p4 % (1048576 : Int32))))))), (.double r)])) _
    refine X9.ldc2DoubleC hx hown (mvT hZ (hw _ (List.mem_of_getElem? (i := 31) rfl))) (g := (mkF m 171 #[.val (.int p1), .val (.int p2), .val (.int p3), .val (.int p4), .val (.int (p1 &&& (3 : Int32))), .val (.long (Int32.toInt64 (p2 % (1048576 : Int32)))), .second, .val (.long (Int32.toInt64 (p3 % (1048576 : Int32)))), .second, .val (.long (Int32.toInt64 (p4 % (1048576 : Int32)))), .second, .val (.ref b1), .val (.double r), .second, .val (.long ((Int32.toInt64 (p3 % (1048576 : Int32))) - (Int32.toInt64 (p2 % (1048576 : Int32))))), .second] [(.double (FP.l2d ((((Int32.toInt64 (p3 % (1048576 : Int32))) - (Int32.toInt64 (p2 % (1048576 : Int32)))) * ((Int32.toInt64 (p3 % (1048576 : Int32))) - (Int32.toInt64 (p2 % (1048576 : Int32))))) + (((12 : Int64) * (Int32.toInt64 (p4 % (1048576 : Int32)))) * (Int32.toInt64 (p4 % (1048576 : Int32))))))), (.double r)])) rfl (hb hby at_171) _ ?_
    show Steps p.tables e below (T9.setTop (mkF m 174 #[.val (.int p1), .val (.int p2), .val (.int p3), .val (.int p4), .val (.int (p1 &&& (3 : Int32))), .val (.long (Int32.toInt64 (p2 % (1048576 : Int32)))), .second, .val (.long (Int32.toInt64 (p3 % (1048576 : Int32)))), .second, .val (.long (Int32.toInt64 (p4 % (1048576 : Int32)))), .second, .val (.ref b1), .val (.double r), .second, .val (.long ((Int32.toInt64 (p3 % (1048576 : Int32))) - (Int32.toInt64 (p2 % (1048576 : Int32))))), .second] [(.double (4616189618054758400 : UInt64)), (.double (FP.l2d ((((Int32.toInt64 (p3 % (1048576 : Int32))) - (Int32.toInt64 (p2 % (1048576 : Int32)))) * ((Int32.toInt64 (p3 % (1048576 : Int32))) - (Int32.toInt64 (p2 % (1048576 : Int32))))) + (((12 : Int64) * (Int32.toInt64 (p4 % (1048576 : Int32)))) * (Int32.toInt64 (p4 % (1048576 : Int32))))))), (.double r)])) _
    refine XS.ddivS X9.here hx rfl (v := (FP.ddiv (FP.l2d ((((Int32.toInt64 (p3 % (1048576 : Int32))) - (Int32.toInt64 (p2 % (1048576 : Int32)))) * ((Int32.toInt64 (p3 % (1048576 : Int32))) - (Int32.toInt64 (p2 % (1048576 : Int32))))) + (((12 : Int64) * (Int32.toInt64 (p4 % (1048576 : Int32)))) * (Int32.toInt64 (p4 % (1048576 : Int32)))))) (4616189618054758400 : UInt64))) (hb hby at_174) rfl hnx rfl ?_
    show Steps p.tables e below (T9.setTop (mkF m 175 #[.val (.int p1), .val (.int p2), .val (.int p3), .val (.int p4), .val (.int (p1 &&& (3 : Int32))), .val (.long (Int32.toInt64 (p2 % (1048576 : Int32)))), .second, .val (.long (Int32.toInt64 (p3 % (1048576 : Int32)))), .second, .val (.long (Int32.toInt64 (p4 % (1048576 : Int32)))), .second, .val (.ref b1), .val (.double r), .second, .val (.long ((Int32.toInt64 (p3 % (1048576 : Int32))) - (Int32.toInt64 (p2 % (1048576 : Int32))))), .second] [(.double (FP.ddiv (FP.l2d ((((Int32.toInt64 (p3 % (1048576 : Int32))) - (Int32.toInt64 (p2 % (1048576 : Int32)))) * ((Int32.toInt64 (p3 % (1048576 : Int32))) - (Int32.toInt64 (p2 % (1048576 : Int32))))) + (((12 : Int64) * (Int32.toInt64 (p4 % (1048576 : Int32)))) * (Int32.toInt64 (p4 % (1048576 : Int32)))))) (4616189618054758400 : UInt64))), (.double r)])) _
    refine XS.dcmpS X9.here hx rfl (v := (0 : Int32)) (hb hby at_175) rfl hcm ?_
    show Steps p.tables e below (T9.setTop (mkF m 176 #[.val (.int p1), .val (.int p2), .val (.int p3), .val (.int p4), .val (.int (p1 &&& (3 : Int32))), .val (.long (Int32.toInt64 (p2 % (1048576 : Int32)))), .second, .val (.long (Int32.toInt64 (p3 % (1048576 : Int32)))), .second, .val (.long (Int32.toInt64 (p4 % (1048576 : Int32)))), .second, .val (.ref b1), .val (.double r), .second, .val (.long ((Int32.toInt64 (p3 % (1048576 : Int32))) - (Int32.toInt64 (p2 % (1048576 : Int32))))), .second] [(.int (0 : Int32))])) _
    refine XS.ifNo X9.here hx rfl (hb hby at_176) rfl ((if0 _ _).trans (teq rfl).2) ?_
    show Steps p.tables e below (T9.setTop (mkF m 179 #[.val (.int p1), .val (.int p2), .val (.int p3), .val (.int p4), .val (.int (p1 &&& (3 : Int32))), .val (.long (Int32.toInt64 (p2 % (1048576 : Int32)))), .second, .val (.long (Int32.toInt64 (p3 % (1048576 : Int32)))), .second, .val (.long (Int32.toInt64 (p4 % (1048576 : Int32)))), .second, .val (.ref b1), .val (.double r), .second, .val (.long ((Int32.toInt64 (p3 % (1048576 : Int32))) - (Int32.toInt64 (p2 % (1048576 : Int32))))), .second] [])) _
    refine XS.iconst X9.here hx rfl (hb hby at_179) ?_
    show Steps p.tables e below (T9.setTop (mkF m 180 #[.val (.int p1), .val (.int p2), .val (.int p3), .val (.int p4), .val (.int (p1 &&& (3 : Int32))), .val (.long (Int32.toInt64 (p2 % (1048576 : Int32)))), .second, .val (.long (Int32.toInt64 (p3 % (1048576 : Int32)))), .second, .val (.long (Int32.toInt64 (p4 % (1048576 : Int32)))), .second, .val (.ref b1), .val (.double r), .second, .val (.long ((Int32.toInt64 (p3 % (1048576 : Int32))) - (Int32.toInt64 (p2 % (1048576 : Int32))))), .second] [(.int (1 : Int32))])) _
    refine XS.goto X9.here hx rfl (pc0 := 180) (pc' := 184) rfl (hb hby at_180) (by decide) (by decide) ?_
    show Steps p.tables e below (T9.setTop (mkF m 184 #[.val (.int p1), .val (.int p2), .val (.int p3), .val (.int p4), .val (.int (p1 &&& (3 : Int32))), .val (.long (Int32.toInt64 (p2 % (1048576 : Int32)))), .second, .val (.long (Int32.toInt64 (p3 % (1048576 : Int32)))), .second, .val (.long (Int32.toInt64 (p4 % (1048576 : Int32)))), .second, .val (.ref b1), .val (.double r), .second, .val (.long ((Int32.toInt64 (p3 % (1048576 : Int32))) - (Int32.toInt64 (p2 % (1048576 : Int32))))), .second] [(.int (1 : Int32))])) _
    exact retN X9 hx (t := .boolean) Bd.returns (by simp) (hb hby at_184) hr
  · show Q0 n0 _ _
    exact ⟨rfl, N9⟩
end Jvm.Pilot.@@N@@
namespace Jvm.Pilot.@@N@@.OwnFp
open Jvm.FP.Core Jvm.Free.Fl Jvm.Op
/-! What a double is worth, in quarters: exact sums, differences, products and quotients. -/
def Hv (u : UInt64) (k : Int) : Prop := ∃ s c q, val64 u = .fin s c q ∧ zval b64 (.fin s c q) = k * ((2 ^ 1072 : Nat) : Int)
theorem pw1 : (2 : Nat) ^ 2146 = 2 ^ 1072 * 2 ^ 1072 * 4 := by decide +kernel
theorem pw2 : (2 : Nat) ^ 1074 = 4 * 2 ^ 1072 := by decide +kernel
theorem cancel {A M P R : Nat} (h : A * 2 ^ P = M * 2 ^ R) : A * 2 ^ (P - R) = M * 2 ^ (R - P) := by
  rcases Nat.le_total P R with q | q
  · obtain ⟨d, rfl⟩ := Nat.exists_eq_add_of_le q
    rw [Nat.pow_add, Nat.mul_comm (2 ^ P), ← Nat.mul_assoc] at h
    have := Nat.eq_of_mul_eq_mul_right (Nat.two_pow_pos P) h
    rw [Nat.sub_eq_zero_of_le q, Nat.add_sub_cancel_left]; simpa using this
  · obtain ⟨d, rfl⟩ := Nat.exists_eq_add_of_le q
    rw [Nat.pow_add, Nat.mul_comm (2 ^ R), ← Nat.mul_assoc] at h
    have := Nat.eq_of_mul_eq_mul_right (Nat.two_pow_pos R) h
    rw [Nat.sub_eq_zero_of_le q, Nat.add_sub_cancel_left]; simpa using this
theorem units_two (m : Nat) : inUnits m (-2) b64.qmin = m * 2 ^ 1072 := by
  unfold inUnits
  rw [qmin_b64, show ((-2 : Int) - (-1074)).toNat = 1072 by decide]
theorem rr {s : Bool} {A B m P R : Nat} {e : Int} (hB : 0 < B) (hm : m < 2 ^ 53) (h : A * 2 ^ P = m * B * 2 ^ R) (he : (P : Int) - R = e + 2) :
    ∃ c q, roundRatio b64 s A B e = .fin s c q ∧ inUnits c q b64.qmin = m * 2 ^ 1072 := by
  have h1 := cancel h
  have e1 : (e - (-2)).toNat = P - R := by omega
  have e2 : ((-2) - e).toNat = R - P := by omega
  obtain ⟨c, q, h2, h3⟩ := round_exact good_b64 s (c := m) (q := -2) hm (by rw [qmin_b64]; decide) (by decide)
  refine ⟨c, q, ?_, ?_⟩
  · rw [← h2]
    exact roundRatio_congr hB (by decide) (by rw [e1, e2, Nat.mul_one]; exact h1)
  · rw [h3]; exact units_two m
theorem zm {s : Bool} {c : Nat} {q k : Int} {U : Nat} (h : zval b64 (.fin s c q) = k * (U : Int)) : inUnits c q b64.qmin = k.natAbs * U := by
  have h1 : signed s (inUnits c q b64.qmin) = k * (U : Int) := h
  have := congrArg Int.natAbs h1
  rw [natAbs_signed, Int.natAbs_mul, Int.natAbs_natCast] at this
  exact this
theorem of_sum {x : UInt64} {sg : Bool} {n : Nat} {e k : Int} (hv : val64 x = round b64 (.fin sg n e)) (he : b64.qmin ≤ e) (h : signed sg (inUnits n e b64.qmin) = k * ((2 ^ 1072 : Nat) : Int)) (hk : k.natAbs < 2 ^ 53) : Hv x k := by
  have hm := zm (s := sg) (q := e) (c := n) (k := k) h
  rw [qmin_b64] at he
  have h0 : n * 2 ^ (e + 1074).toNat = k.natAbs * 1 * 2 ^ 1072 := by
    rw [Nat.mul_one, ← hm]; unfold inUnits; rw [qmin_b64, show e - (-1074) = e + 1074 by omega]
  obtain ⟨c, q, r1, r2⟩ := rr (s := sg) (e := e) (by decide) hk h0 (by omega)
  refine ⟨sg, c, q, hv.trans r1, ?_⟩
  show signed sg (inUnits c q b64.qmin) = _
  rw [r2, ← hm]; exact h
theorem Hv.fin {a : UInt64} {i : Int} (ha : Hv a i) : DFin a := by obtain ⟨s, c, q, h, -⟩ := ha; exact ⟨s, c, q, h⟩
theorem Hv.nn {a : UInt64} {i : Int} (ha : Hv a i) : NoNaN64 a := (fin64_core.mpr ha.fin).noNaN
theorem Hv.add {a b : UInt64} {i j : Int} (ha : Hv a i) (hb : Hv b j) (h : (i + j).natAbs < 2 ^ 53) : Hv (FP.dadd a b) (i + j) := by
  obtain ⟨s, c, q, h1, h2⟩ := ha
  obtain ⟨t, d, r, g1, g2⟩ := hb
  have f1 : FP.Core.fits b64 (.fin s c q) := h1 ▸ val64_fits a
  have f2 : FP.Core.fits b64 (.fin t d r) := g1 ▸ val64_fits b
  obtain ⟨sg, n, e, k1, k2, k3⟩ := sum_units f1 f2
  rw [h2, g2, ← Int.add_mul] at k3
  refine of_sum ?_ k2 k3 h
  rw [← k1, ← h1, ← g1]; exact val64_dadd a b
theorem Hv.sub {a b : UInt64} {i j : Int} (ha : Hv a i) (hb : Hv b j) (h : (i - j).natAbs < 2 ^ 53) : Hv (FP.dsub a b) (i - j) := by
  obtain ⟨s, c, q, h1, h2⟩ := ha
  obtain ⟨t, d, r, g1, g2⟩ := hb
  have f1 : FP.Core.fits b64 (.fin s c q) := h1 ▸ val64_fits a
  have f2 : FP.Core.fits b64 (negate (.fin t d r)) := negate_fits (g1 ▸ val64_fits b)
  have g3 : zval b64 (negate (.fin t d r)) = -(j * ((2 ^ 1072 : Nat) : Int)) := by rw [zval_negate, g2]
  obtain ⟨sg, n, e, k1, k2, k3⟩ := sum_units f1 f2
  have k4 : signed sg (inUnits n e b64.qmin) = (i - j) * ((2 ^ 1072 : Nat) : Int) := by
    rw [Int.sub_mul, Int.sub_eq_add_neg, ← h2, ← g3]; exact k3
  refine of_sum ?_ k2 k4 h
  rw [← k1, ← h1]
  have := val64_dsub a b
  rw [g1] at this; exact this
theorem signed_mul2 (s t : Bool) (x y : Nat) : signed (s != t) (x * y) = signed s x * signed t y := by
  cases s <;> cases t <;> simp [signed, Int.neg_mul, Int.mul_neg, Int.neg_neg]
theorem Hv.mul {a b : UInt64} {i j k : Int} (ha : Hv a i) (hb : Hv b j) (hk : i * j = 4 * k) (h : k.natAbs < 2 ^ 53) : Hv (FP.dmul a b) k := by
  obtain ⟨s, c, q, h1, h2⟩ := ha
  obtain ⟨t, d, r, g1, g2⟩ := hb
  have f1 : FP.Core.fits b64 (.fin s c q) := h1 ▸ val64_fits a
  have f2 : FP.Core.fits b64 (.fin t d r) := g1 ▸ val64_fits b
  obtain ⟨p1, p2, p3⟩ := product_units f1 f2
  have hij : i.natAbs * j.natAbs = 4 * k.natAbs := by rw [← Int.natAbs_mul, hk, Int.natAbs_mul]; rfl
  have z1 := zm h2
  have z2 := zm g2
  have zz : inUnits c q b64.qmin * inUnits d r b64.qmin = k.natAbs * 2 ^ 1072 * (4 * 2 ^ 1072) := by
    rw [z1, z2]
    generalize (2 : Nat) ^ 1072 = U
    calc i.natAbs * U * (j.natAbs * U) = (i.natAbs * j.natAbs) * (U * U) := by ac_rfl
      _ = (4 * k.natAbs) * (U * U) := by rw [hij]
      _ = k.natAbs * U * (4 * U) := by ac_rfl
  have e1 : inUnits (c * d) (q + r) (2 * b64.qmin) = (c * d) * 2 ^ (q + r + 2148).toNat := by
    unfold inUnits; rw [qmin_b64, show q + r - 2 * (-1074) = q + r + 2148 by omega]
  have e2 : (c * d) * 2 ^ (q + r + 2148).toNat = k.natAbs * 1 * 2 ^ 2146 := by
    rw [← e1, p3]
    show inUnits c q b64.qmin * inUnits d r b64.qmin = _
    rw [zz, pw1, Nat.mul_one]
    generalize (2 : Nat) ^ 1072 = U
    ac_rfl
  rw [qmin_b64] at p2
  obtain ⟨c', q', r1, r2⟩ := rr (s := (s != t)) (e := q + r) (by decide) h e2 (by omega)
  refine ⟨s != t, c', q', ?_, ?_⟩
  · rw [← r1]
    have := val64_dmul a b
    rw [h1, g1, p1] at this; exact this
  · show signed (s != t) (inUnits c' q' b64.qmin) = _
    rw [r2]
    have m1 := signed_mul2 s t (inUnits c q b64.qmin) (inUnits d r b64.qmin)
    rw [zz, signed_mul] at m1
    have m2 : signed s (inUnits c q b64.qmin) = i * ((2 ^ 1072 : Nat) : Int) := h2
    have m3 : signed t (inUnits d r b64.qmin) = j * ((2 ^ 1072 : Nat) : Int) := g2
    rw [m2, m3] at m1
    have hU : 0 < (2 : Nat) ^ 1072 := Nat.two_pow_pos _
    generalize (2 : Nat) ^ 1072 = U at *
    have m4 : signed (s != t) (k.natAbs * U) * ((4 * U : Nat) : Int) = (k * (U : Int)) * ((4 * U : Nat) : Int) := by
      rw [m1, Int.natCast_mul]
      calc i * (U : Int) * (j * (U : Int)) = (i * j) * ((U : Int) * (U : Int)) := by ac_rfl
        _ = 4 * k * ((U : Int) * (U : Int)) := by rw [hk]
        _ = k * (U : Int) * (((4 : Nat) : Int) * (U : Int)) := by show 4 * k * ((U : Int) * (U : Int)) = k * (U : Int) * ((4 : Int) * (U : Int)); ac_rfl
    exact Int.eq_of_mul_eq_mul_right (by omega) m4
theorem Hv.div {a b : UInt64} {i j k : Int} (ha : Hv a i) (hb : Hv b j) (hj : 0 < j) (hk : 4 * i = k * j) (h : k.natAbs < 2 ^ 53) : Hv (FP.ddiv a b) k := by
  obtain ⟨s, c, q, h1, h2⟩ := ha
  obtain ⟨t, d, r, g1, g2⟩ := hb
  have f1 : FP.Core.fits b64 (.fin s c q) := h1 ▸ val64_fits a
  have f2 : FP.Core.fits b64 (.fin t d r) := g1 ▸ val64_fits b
  have z1 := zm h2
  have z2 := zm g2
  have hij : 4 * i.natAbs = k.natAbs * j.natAbs := by rw [← Int.natAbs_mul, ← hk, Int.natAbs_mul]; rfl
  have hU : 0 < (2 : Nat) ^ 1072 := Nat.two_pow_pos _
  have hd : 0 < d := by
    rcases Nat.eq_zero_or_pos d with q0 | q0
    · rw [q0] at z2; unfold inUnits at z2; rw [Nat.zero_mul] at z2
      have : 0 < j.natAbs * 2 ^ 1072 := Nat.mul_pos (by omega) hU
      omega
    · exact q0
  have ht : t = false := by
    cases t
    · rfl
    · have g3 : -((inUnits d r b64.qmin : Nat) : Int) = j * ((2 ^ 1072 : Nat) : Int) := g2
      have : 0 < j * ((2 ^ 1072 : Nat) : Int) := Int.mul_pos hj (by omega)
      omega
  subst ht
  have e1 : c * 2 ^ (q + 1074).toNat = i.natAbs * 2 ^ 1072 := by rw [← z1]; unfold inUnits; rw [qmin_b64, show q - (-1074) = q + 1074 by omega]
  have e2 : d * 2 ^ (r + 1074).toNat = j.natAbs * 2 ^ 1072 := by rw [← z2]; unfold inUnits; rw [qmin_b64, show r - (-1074) = r + 1074 by omega]
  have e3 : c * 2 ^ ((q + 1074).toNat + 2) = k.natAbs * d * 2 ^ (r + 1074).toNat := by
    rw [Nat.pow_add, ← Nat.mul_assoc, e1, Nat.mul_assoc k.natAbs, e2, ← Nat.mul_assoc k.natAbs, ← hij]
    show i.natAbs * 2 ^ 1072 * 4 = _
    generalize (2 : Nat) ^ 1072 = U
    ac_rfl
  have l1 := f1.2.1
  have l2 := f2.2.1
  rw [qmin_b64] at l1 l2
  obtain ⟨c', q', r1, r2⟩ := rr (s := (s != false)) (e := q - r) hd h e3 (by omega)
  refine ⟨s != false, c', q', ?_, ?_⟩
  · rw [← r1]
    have := val64_ddiv a b
    rw [h1, g1] at this
    refine this.trans ?_
    show (if d = 0 then _ else roundRatio b64 (s != false) c d (q - r)) = _
    rw [if_neg (by omega)]
  · show signed (s != false) (inUnits c' q' b64.qmin) = _
    rw [r2]
    have m2 : signed s (inUnits c q b64.qmin) = i * ((2 ^ 1072 : Nat) : Int) := h2
    rw [z1] at m2
    have hs : (s != false) = s := by cases s <;> rfl
    rw [hs]
    generalize (2 : Nat) ^ 1072 = U at *
    have m4 : signed s (k.natAbs * U) * (j.natAbs : Int) = (k * (U : Int)) * (j.natAbs : Int) := by
      rw [← signed_mul, show k.natAbs * U * j.natAbs = i.natAbs * U * 4 by rw [Nat.mul_right_comm, ← hij]; ac_rfl, signed_mul, m2]
      rw [show ((j.natAbs : Nat) : Int) = j by omega]
      calc i * (U : Int) * ((4 : Nat) : Int) = (4 * i) * (U : Int) := by show i * (U : Int) * (4 : Int) = _; ac_rfl
        _ = k * j * (U : Int) := by rw [hk]
        _ = k * (U : Int) * j := by ac_rfl
    exact Int.eq_of_mul_eq_mul_right (by omega) m4
theorem Hv.cmp {a b : UInt64} {k : Int} (ha : Hv a k) (hb : Hv b k) (o : ClassFile.CmpOp) : cmpValue (FP.dcmp a b) o = 0 := by
  obtain ⟨s, c, q, h1, h2⟩ := ha
  obtain ⟨t, d, r, g1, g2⟩ := hb
  have f1 : FP.Core.fits b64 (.fin s c q) := h1 ▸ val64_fits a
  have f2 : FP.Core.fits b64 (.fin t d r) := g1 ▸ val64_fits b
  have : FP.dcmp a b = some .eq := by
    show order (val64 a) (val64 b) = _
    rw [h1, g1, order_zval good_b64 f1 f2 (fun q => nomatch q) (fun q => nomatch q), h2, g2, compare_ite]
    simp
  rw [this]; cases o <;> rfl
theorem Hv.l2d {n : Int64} (h : n.toInt.natAbs < 2 ^ 53) : Hv (FP.l2d n) (4 * n.toInt) := by
  obtain ⟨c, q, r1, r2⟩ := round_exact good_b64 (decide (n.toInt < 0)) (c := n.toInt.natAbs) (q := 0) h (by rw [qmin_b64]; decide) (by decide)
  refine ⟨decide (n.toInt < 0), c, q, ?_, ?_⟩
  · rw [← r1]; exact val64_l2d n
  · show signed (decide (n.toInt < 0)) (inUnits c q b64.qmin) = _
    rw [r2]; unfold inUnits
    rw [qmin_b64, show ((0 : Int) - (-1074)).toNat = 1074 by decide, pw2, signed_mul]
    have : signed (decide (n.toInt < 0)) n.toInt.natAbs = n.toInt := by
      unfold signed; by_cases q : n.toInt < 0
      · simp [q]; omega
      · simp [q]; omega
    rw [this, Int.natCast_mul]
    show n.toInt * ((4 : Int) * _) = _
    generalize ((2 ^ 1072 : Nat) : Int) = U
    ac_rfl
theorem Hv.zero : Hv 0 0 := ⟨false, 0, b64.qmin, val64_dconst0, by
  show signed false (inUnits 0 b64.qmin b64.qmin) = _
  unfold inUnits; rw [Nat.zero_mul, Int.zero_mul]; rfl⟩
theorem Hv.two : Hv 4611686018427387904 8 := ⟨false, 4503599627370496, -51, by decide +kernel, by decide +kernel⟩
theorem Hv.four : Hv 4616189618054758400 16 := ⟨false, 4503599627370496, -50, by decide +kernel, by decide +kernel⟩
theorem Hv.eq {a : UInt64} {i j : Int} (ha : Hv a i) (h : i = j) : Hv a j := h ▸ ha
end Jvm.Pilot.@@N@@.OwnFp
namespace Jvm.Pilot.@@N@@
open Jvm Jvm.ClassFile Sem Op Lib Jvm.Free Jvm.Stand Jvm.LawKit Jvm.RoadKit Bundle Jvm.Free.Fl Jvm.Pilot.@@N@@.Jvm.D

open OwnFp in
theorem own_ok_add {n : Int64} {mu sq x : UInt64} {N i j k g z : Int} (hN : (n + 1).toInt = N) (hN0 : 0 < N) (hN1 : N < 100) (hmu : Hv mu i) (hsq : Hv sq j) (hx : Hv x k)
    (hg : k - i = N * g) (hz : (k - i) * (k - (i + g)) = 4 * z) (b1 : (k - i).natAbs < 2 ^ 53) (b2 : g.natAbs < 2 ^ 53) (b3 : (i + g).natAbs < 2 ^ 53) (b4 : (k - (i + g)).natAbs < 2 ^ 53) (b5 : z.natAbs < 2 ^ 53) (b6 : (j + z).natAbs < 2 ^ 53) :
    ∃ mu' sq', own_okAdd n mu sq x mu' sq' ∧ Hv mu' (i + g) ∧ Hv sq' (j + z) := by
  have d1 := hx.sub hmu b1
  have n1 : Hv (FP.l2d (n + 1)) (4 * N) := hN ▸ Hv.l2d (by rw [hN]; omega)
  have q1 : Hv (FP.ddiv (FP.dsub x mu) (FP.l2d (n + 1))) g := d1.div n1 (by omega) (by rw [hg, ← Int.mul_assoc, Int.mul_comm g]) b2
  have m1 := hmu.add q1 b3
  have e1 := hx.sub m1 b4
  have f1 := d1.mul e1 hz b5
  have s1 := hsq.add f1 b6
  exact ⟨_, _, ⟨d1.nn, q1.nn, m1.nn, rfl, e1.nn, f1.nn, s1.nn, rfl⟩, m1, s1⟩
theorem own_sqb {d M : Int} (h1 : -M < d) (h2 : d < M) : 0 ≤ d * d ∧ d * d ≤ M * M := by
  have h0 : d.natAbs ≤ M.natAbs := by omega
  have h3 : d.natAbs * d.natAbs ≤ M.natAbs * M.natAbs := Nat.mul_le_mul h0 h0
  have e1 : ((d.natAbs * d.natAbs : Nat) : Int) = d * d := Int.natAbs_mul_self
  have e2 : ((M.natAbs * M.natAbs : Nat) : Int) = M * M := Int.natAbs_mul_self
  omega
theorem own_rng (p : Int32) : -1048576 < (Int32.toInt64 (p % (1048576 : Int32))).toInt ∧ (Int32.toInt64 (p % (1048576 : Int32))).toInt < 1048576 := by
  rw [Int32.toInt_toInt64, Int32.toInt_mod, show (1048576 : Int32).toInt = 1048576 by decide]
  exact ⟨Int.lt_tmod_of_pos _ (by decide), Int.tmod_lt_of_pos _ (by decide)⟩
theorem own_four (p : Int32) : p &&& (3 : Int32) = 0 ∨ p &&& (3 : Int32) = 1 ∨ p &&& (3 : Int32) = 2 ∨ p &&& (3 : Int32) = 3 := by
  have h := Jvm.Kit.i32_mask p 3 (k := 2) (by decide) (by decide)
  have h1 : (p &&& 3).toInt = 0 ∨ (p &&& 3).toInt = 1 ∨ (p &&& 3).toInt = 2 ∨ (p &&& 3).toInt = 3 := by omega
  rcases h1 with h1 | h1 | h1 | h1
  · exact Or.inl (Int32.toInt_inj.mp h1)
  · exact Or.inr (Or.inl (Int32.toInt_inj.mp h1))
  · exact Or.inr (Or.inr (Or.inl (Int32.toInt_inj.mp h1)))
  · exact Or.inr (Or.inr (Or.inr (Int32.toInt_inj.mp h1)))
open OwnFp in
theorem own_ok1 {a : Int64} (ha : -1048576 < a.toInt ∧ a.toInt < 1048576) : ∃ m1 s1, own_okAdd (0 : Int64) 0 0 (FP.l2d a) m1 s1 ∧ Hv m1 (4 * a.toInt) ∧ Hv s1 0 := by
  obtain ⟨m, s, h1, h2, h3⟩ := own_ok_add (n := 0) (N := 1) (i := 0) (j := 0) (k := 4 * a.toInt) (g := 4 * a.toInt) (z := 0) (by decide) (by decide) (by decide) Hv.zero Hv.zero (Hv.l2d (by omega))
    (by omega) (by rw [show 4 * a.toInt - (0 + 4 * a.toInt) = 0 by omega, Int.mul_zero]; rfl) (by omega) (by omega) (by omega) (by omega) (by decide) (by decide)
  exact ⟨m, s, h1, h2.eq (by omega), h3.eq (by omega)⟩
open OwnFp in
theorem own_ok2 {a b : Int64} (ha : -1048576 < a.toInt ∧ a.toInt < 1048576) (hb : -1048576 < b.toInt ∧ b.toInt < 1048576) {m1 s1 : UInt64} (hm : Hv m1 (4 * a.toInt)) (hs : Hv s1 0) :
    ∃ m2 s2, own_okAdd ((0 : Int64) + (1 : Int64)) m1 s1 (FP.l2d b) m2 s2 ∧ Hv m2 (2 * (a.toInt + b.toInt)) ∧ Hv s2 (2 * ((b.toInt - a.toInt) * (b.toInt - a.toInt))) := by
  have hq := own_sqb (d := b.toInt - a.toInt) (M := 2097152) (by omega) (by omega)
  have e1 : 4 * b.toInt - 4 * a.toInt = 4 * (b.toInt - a.toInt) := by omega
  have e2 : 4 * b.toInt - (4 * a.toInt + 2 * (b.toInt - a.toInt)) = 2 * (b.toInt - a.toInt) := by omega
  obtain ⟨m, s, h1, h2, h3⟩ := own_ok_add (n := (0 : Int64) + (1 : Int64)) (N := 2) (i := 4 * a.toInt) (j := 0) (k := 4 * b.toInt) (g := 2 * (b.toInt - a.toInt)) (z := 2 * ((b.toInt - a.toInt) * (b.toInt - a.toInt))) (by decide) (by decide) (by decide) hm hs (Hv.l2d (by omega))
    (by omega) (by rw [e1, e2]; generalize b.toInt - a.toInt = d; rw [Int.mul_assoc, Int.mul_left_comm d, ← Int.mul_assoc 4]) (by omega) (by omega) (by omega) (by omega) (by omega) (by omega)
  exact ⟨m, s, h1, h2.eq (by omega), h3.eq (by omega)⟩
open OwnFp in
theorem own_ok3 {a b k : Int64} (ha : -1048576 < a.toInt ∧ a.toInt < 1048576) (hb : -1048576 < b.toInt ∧ b.toInt < 1048576) (hk : -1048576 < k.toInt ∧ k.toInt < 1048576) {m2 s2 x3 : UInt64} (hm : Hv m2 (2 * (a.toInt + b.toInt))) (hs : Hv s2 (2 * ((b.toInt - a.toInt) * (b.toInt - a.toInt))))
    (hx : Hv x3 (2 * (a.toInt + b.toInt + 6 * k.toInt))) :
    ∃ m3 s3, own_okAdd (((0 : Int64) + (1 : Int64)) + (1 : Int64)) m2 s2 x3 m3 s3 ∧ Hv s3 (2 * ((b.toInt - a.toInt) * (b.toInt - a.toInt) + 12 * (k.toInt * k.toInt))) := by
  have hq := own_sqb (d := b.toInt - a.toInt) (M := 2097152) (by omega) (by omega)
  have hr := own_sqb (d := k.toInt) (M := 1048576) (by omega) (by omega)
  have e1 : 2 * (a.toInt + b.toInt + 6 * k.toInt) - 2 * (a.toInt + b.toInt) = 12 * k.toInt := by omega
  have e2 : 2 * (a.toInt + b.toInt + 6 * k.toInt) - (2 * (a.toInt + b.toInt) + 4 * k.toInt) = 8 * k.toInt := by omega
  obtain ⟨m, s, h1, h2, h3⟩ := own_ok_add (n := ((0 : Int64) + (1 : Int64)) + (1 : Int64)) (N := 3) (i := 2 * (a.toInt + b.toInt)) (j := 2 * ((b.toInt - a.toInt) * (b.toInt - a.toInt))) (k := 2 * (a.toInt + b.toInt + 6 * k.toInt)) (g := 4 * k.toInt) (z := 24 * (k.toInt * k.toInt)) (by decide) (by decide) (by decide) hm hs hx
    (by omega) (by rw [e1, e2]; generalize k.toInt = d; rw [Int.mul_assoc, Int.mul_left_comm d, ← Int.mul_assoc 12]; omega) (by omega) (by omega) (by omega) (by omega) (by omega) (by omega)
  exact ⟨m, s, h1, h3.eq (by omega)⟩
open OwnFp in
theorem own_x3 {a b k : Int64} (ha : -1048576 < a.toInt ∧ a.toInt < 1048576) (hb : -1048576 < b.toInt ∧ b.toInt < 1048576) (hk : -1048576 < k.toInt ∧ k.toInt < 1048576) : Hv (FP.ddiv (FP.l2d ((a + b) + ((6 : Int64) * k))) (4611686018427387904 : UInt64)) (2 * (a.toInt + b.toInt + 6 * k.toInt)) := by
  have e1 : (a + b).toInt = a.toInt + b.toInt := FP.Core.int64_add (by omega) (by omega)
  have e2 : ((6 : Int64) * k).toInt = 6 * k.toInt := FP.Core.int64_mul (a := 6) (by show -2 ^ 63 ≤ 6 * k.toInt; omega) (by show 6 * k.toInt < 2 ^ 63; omega)
  have e3 : ((a + b) + ((6 : Int64) * k)).toInt = a.toInt + b.toInt + 6 * k.toInt := by rw [FP.Core.int64_add (by omega) (by omega), e1, e2]
  exact (Hv.l2d (by omega)).div Hv.two (by decide) (by rw [e3]; omega) (by omega)
open OwnFp in
theorem own_exp {t : Int64} {k v : UInt64} {j z : Int} (hk : Hv k j) (hj : 0 < j) (hv : Hv v z) (h : t.toInt.natAbs < 2 ^ 53) (he : 4 * (4 * t.toInt) = z * j) (hz : z.natAbs < 2 ^ 53) : NoNaN64 (FP.ddiv (FP.l2d t) k) ∧ cmpValue (FP.dcmp v (FP.ddiv (FP.l2d t) k)) .l = 0 := by
  have := (Hv.l2d h).div hk hj he hz
  exact ⟨this.nn, hv.cmp this .l⟩
open OwnFp in
theorem own_var {n : Int64} {N z k : Int} {s : UInt64} (hN : (n - (1 : Int64)).toInt = N) (hN0 : 0 < N) (hN1 : N < 100) (hs : Hv s z) (he : z = k * N) (hk : k.natAbs < 2 ^ 53) : Hv (FP.ddiv s (FP.l2d (n - (1 : Int64)))) k :=
  hs.div (hN ▸ Hv.l2d (by rw [hN]; omega)) (by omega) (by rw [he, Int.mul_left_comm]) hk

set_option maxRecDepth 65536 in
set_option maxHeartbeats 40000000 in
open OwnFp in
theorem rm0 (l : Launch) (Z : State) (a0 : Array Value) (hw : ∀ d ∈ tables_1, d.before a0 Z = true) (ws : List Jvm.Cond) (p1 p2 p3 p4 : Int32) (h0 : Heap) (n0 : Nat) (Z0 : n0 ≤ h0.size) :
    MetFree l x (head1 (Jvm.Cond.code x code maxLocals ret :: ws) room_1) (fun a U => a = #[(.int p1), (.int p2), (.int p3), (.int p4)] ∧ Z.Warmed39 U.vm ∧ U.heap = h0) (fun _ _ _ _ _ => True) (fun _ U o U' => ∃ v L, o = .returned v ∧ Q0 n0 v L ∧ FrameEnd U o U' L 1 3) := by
  have ha := own_rng p2
  have hb := own_rng p3
  have hk := own_rng p4
  obtain ⟨m1, s1, o1, v1, w1⟩ := own_ok1 ha
  obtain ⟨m2, s2, o2, v2, w2⟩ := own_ok2 ha hb v1 w1
  have x3 := own_x3 ha hb hk
  obtain ⟨m3, s3, o3, w3⟩ := own_ok3 ha hb hk v2 w2 x3
  have hq := own_sqb (d := (Int32.toInt64 (p3 % (1048576 : Int32))).toInt - (Int32.toInt64 (p2 % (1048576 : Int32))).toInt) (M := 2097152) (by omega) (by omega)
  have hr := own_sqb (d := (Int32.toInt64 (p4 % (1048576 : Int32))).toInt) (M := 1048576) (by omega) (by omega)
  have ed := FP.Core.int64_sub (a := Int32.toInt64 (p3 % (1048576 : Int32))) (b := Int32.toInt64 (p2 % (1048576 : Int32))) (by omega) (by omega)
  have edd := FP.Core.int64_mul (a := Int32.toInt64 (p3 % (1048576 : Int32)) - Int32.toInt64 (p2 % (1048576 : Int32))) (b := Int32.toInt64 (p3 % (1048576 : Int32)) - Int32.toInt64 (p2 % (1048576 : Int32))) (by rw [ed]; omega) (by rw [ed]; omega)
  rw [ed] at edd
  rcases own_four p1 with hn | hn | hn | hn
  · exact rm0_0 l Z a0 hw ws p1 p2 p3 p4 h0 n0 Z0 hn
  · exact rm0_1 l Z a0 hw ws p1 p2 p3 p4 m1 s1 h0 n0 Z0 hn o1
  · have hv := own_var (n := ((0 : Int64) + (1 : Int64)) + (1 : Int64)) (N := 1) (k := 2 * (((Int32.toInt64 (p3 % (1048576 : Int32))).toInt - (Int32.toInt64 (p2 % (1048576 : Int32))).toInt) * ((Int32.toInt64 (p3 % (1048576 : Int32))).toInt - (Int32.toInt64 (p2 % (1048576 : Int32))).toInt))) (by decide) (by decide) (by decide) w2 (by omega) (by omega)
    have hx := own_exp Hv.two (by decide) hv (t := (Int32.toInt64 (p3 % (1048576 : Int32)) - Int32.toInt64 (p2 % (1048576 : Int32))) * (Int32.toInt64 (p3 % (1048576 : Int32)) - Int32.toInt64 (p2 % (1048576 : Int32)))) (by rw [edd]; omega) (by rw [edd]; omega) (by omega)
    exact rm0_2 l Z a0 hw ws p1 p2 p3 p4 m1 m2 s1 s2 _ h0 n0 Z0 hn o1 o2 hv.nn rfl hx.1 hx.2
  · have ek := FP.Core.int64_mul (a := (12 : Int64)) (b := Int32.toInt64 (p4 % (1048576 : Int32))) (by show -2 ^ 63 ≤ 12 * (Int32.toInt64 (p4 % (1048576 : Int32))).toInt; omega) (by show 12 * (Int32.toInt64 (p4 % (1048576 : Int32))).toInt < 2 ^ 63; omega)
    have ek' : ((12 : Int64) * Int32.toInt64 (p4 % (1048576 : Int32))).toInt * (Int32.toInt64 (p4 % (1048576 : Int32))).toInt = 12 * ((Int32.toInt64 (p4 % (1048576 : Int32))).toInt * (Int32.toInt64 (p4 % (1048576 : Int32))).toInt) := by rw [ek]; exact Int.mul_assoc _ _ _
    have ekk := FP.Core.int64_mul (a := (12 : Int64) * Int32.toInt64 (p4 % (1048576 : Int32))) (b := Int32.toInt64 (p4 % (1048576 : Int32))) (by rw [ek']; omega) (by rw [ek']; omega)
    rw [ek'] at ekk
    have et := FP.Core.int64_add (a := (Int32.toInt64 (p3 % (1048576 : Int32)) - Int32.toInt64 (p2 % (1048576 : Int32))) * (Int32.toInt64 (p3 % (1048576 : Int32)) - Int32.toInt64 (p2 % (1048576 : Int32)))) (b := ((12 : Int64) * Int32.toInt64 (p4 % (1048576 : Int32))) * Int32.toInt64 (p4 % (1048576 : Int32))) (by rw [edd, ekk]; omega) (by rw [edd, ekk]; omega)
    rw [edd, ekk] at et
    have hv := own_var (n := (((0 : Int64) + (1 : Int64)) + (1 : Int64)) + (1 : Int64)) (N := 2) (k := ((Int32.toInt64 (p3 % (1048576 : Int32))).toInt - (Int32.toInt64 (p2 % (1048576 : Int32))).toInt) * ((Int32.toInt64 (p3 % (1048576 : Int32))).toInt - (Int32.toInt64 (p2 % (1048576 : Int32))).toInt) + 12 * ((Int32.toInt64 (p4 % (1048576 : Int32))).toInt * (Int32.toInt64 (p4 % (1048576 : Int32))).toInt)) (by decide) (by decide) (by decide) w3 (by omega) (by omega)
    have hx := own_exp Hv.four (by decide) hv (t := (Int32.toInt64 (p3 % (1048576 : Int32)) - Int32.toInt64 (p2 % (1048576 : Int32))) * (Int32.toInt64 (p3 % (1048576 : Int32)) - Int32.toInt64 (p2 % (1048576 : Int32))) + ((12 : Int64) * Int32.toInt64 (p4 % (1048576 : Int32))) * Int32.toInt64 (p4 % (1048576 : Int32))) (by rw [et]; omega) (by rw [et]; omega) (by omega)
    exact rm0_3 l Z a0 hw ws p1 p2 p3 p4 m1 m2 m3 s1 s2 s3 _ _ h0 n0 Z0 hn o1 o2 o3 x3.nn rfl hv.nn rfl hx.1 hx.2
set_option maxRecDepth 65536 in
set_option maxHeartbeats 40000000 in
theorem comes_1 {Post : Tables → Env → Array Value → State → Outcome → State → Prop} (hpost : ∀ tb e args s v u, (limb_1_1.after args s (.returned v) u = true ∧ limb_1_2.after args s (.returned v) u = true ∧ True) → FrameEnd s (.returned v) u (Jvm.fieldLocs frame_1_writes args s ++ Jvm.arrayLocs frame_1_arrays args s ++ Jvm.staticLocs frame_1_statics s) 16 128 → Post tb e args s (.returned v) u) :
    ArmFor flags0 classFile x code maxLocals ret World_1 tables_1 room_1 Calls_1 rest_1 Pre_1 Post := by
  intro l hfl _ _ p e ha hc hk s m args below hf hA hF happ hP
  obtain ⟨hcalls, hrest, hpre⟩ := hP
  obtain ⟨-, -, -, hnamed, -, -, -, hat⟩ := (Spec.applies_iff hf).mp happ
  obtain ⟨hg, hn⟩ := and_e (Cond.before_iff.mp (show (Jvm.Cond.and given_1 narrow_1).before args s = true from hpre))
  obtain ⟨c0, g0⟩ := and_e hg
  obtain ⟨c1, g1⟩ := and_e g0
  obtain ⟨c2, g2⟩ := and_e g1
  obtain ⟨c3, g3⟩ := and_e g2
  obtain ⟨w0, w1, w2, w3, rfl⟩ : ∃ w0 w1 w2 w3 : Value, args = #[w0, w1, w2, w3] := by
    have hs : args.size = 4 := by simpa [Cond.value, given_1] using c0
    obtain ⟨L⟩ := args
    match L, hs with
    | [w0, w1, w2, w3], _ => exact ⟨w0, w1, w2, w3, rfl⟩
  have hw := fun d (hd : d ∈ tables_1) => atoms_spec (ws := Jvm.Cond.code x code maxLocals ret :: tables_1) hat d (List.mem_cons_of_mem _ hd)
  obtain ⟨i0, e0⟩ := is_v c1
  obtain rfl : w0 = (.int i0) := Option.some.inj e0
  obtain ⟨i1, e1⟩ := is_v c2
  obtain rfl : w1 = (.int i1) := Option.some.inj e1
  obtain ⟨i2, e2⟩ := is_v c3
  obtain rfl : w2 = (.int i2) := Option.some.inj e2
  obtain ⟨i3, e3⟩ := is_v g3
  obtain rfl : w3 = (.int i3) := Option.some.inj e3
  obtain ⟨n, o, h1, h2, h3, _, L, rfl, ⟨rfl, N⟩, hq⟩ := rm0 l s _ hw tables_1 i0 i1 i2 i3 s.heap s.heap.size (Nat.le_refl _) p e ha hc hk s m _ below hf ((Spec.applies_iff_loose hf).mp happ).1 ⟨rfl, State.Warmed39.refl s, rfl⟩ trivial
  refine ⟨n, _, h1, h2, h3, hpost _ _ _ _ _ _ ⟨Cond.after_iff.mpr rfl, Cond.after_iff.mpr (eq_i res_at (Term.int_eval (1)) rfl), trivial⟩ ⟨hq.1, hq.2.1, (hq.2.2.sift fun y hy => Or.inr (N y hy)).mono (by decide) (by decide)⟩⟩
theorem main_1_1 : Claimed_1_1 := comes_1 fun _ _ _ _ _ _ h hF => ⟨h.1, hF⟩
theorem main_1_2 : Claimed_1_2 := comes_1 fun _ _ _ _ _ _ h hF => ⟨h.2.1, hF⟩
end Jvm.Pilot.@@N@@
namespace Jvm.Pilot.@@N@@
open Jvm Jvm.ClassFile Sem Op Lib Jvm.Free Jvm.Stand Jvm.Pilot.@@N@@.Jvm.D
/-! MADE BY PROGRAM (witnessworld.py) out of the Statement's table words and the real class files: 9 classes; the members and pool entries that the words name. The judged class is class 1, her method 1. -/
namespace start1
open Jvm.ClassFile
def u (s : String) : CpInfo := .utf8 (stringToUtf16 s)
/-- a pool by its gaps: so many unusable entries, then the entry; so many at the end -/
def gap : Nat → List CpInfo → List CpInfo
  | 0, r => r
  | n + 1, r => .unusable :: gap n r
def poolList (es : List (Nat × CpInfo)) (last : Nat) : List CpInfo := es.foldr (fun e r => gap e.1 (e.2 :: r)) (gap last [])
def pool (es : List (Nat × CpInfo)) (last : Nat) : Array CpInfo := ⟨poolList es last⟩
def fileOf (pool : Array CpInfo) (this : Nat) (attrs : Array Attribute := #[]) (ms : Array MethodInfo := #[]) (fl : Nat := 33) (sup : Nat := 0) (ifs : Array Nat := #[]) (fds : Array FieldInfo := #[]) : ClassFile where
  minorVersion := 0
  majorVersion := 65
  constantPool := pool
  accessFlags := fl
  thisClass := this
  superClass := sup
  interfaces := ifs
  fields := fds
  methods := ms
  attributes := attrs
def plain (name : String) (sup : Option ClassId) : Class where
  name := name
  kind := .ordinary
  loader := none
  accessFlags := 33
  super := sup
  interfaces := #[]
  cf := none
  fields := #[]
  methods := #[]
  instanceTypes := #[]
  staticTypes := #[]
  resolved := #[]
  callSites := []
  init := .initialized
  statics := none
  mirror := none

def pool0 : Array CpInfo := pool [(5, u "<init>"), (0, u "()V"), (1, .class_ 10), (1, u "java/lang/Object")] 113

def k0c0 : Code := { maxStack := 0, maxLocals := 1, code := object_method_1_code, exceptionTable := #[], attributes := #[] }
def k0m0 : Method := { name := "<init>", desc := "()V", sig := { parameters := [], returnType := none }, accessFlags := 1, code := some k0c0 }
/-- java/lang/Object -/
def k0 : Class := { plain "java/lang/Object" none with
  accessFlags := 33
  interfaces := #[]
  cf := some (fileOf pool0 8 #[] #[{ accessFlags := 1, nameIndex := 5, descriptorIndex := 6, attributes := #[] }] 33 0 #[] #[])
  fields := #[]
  methods := #[k0m0]
  instanceTypes := #[]
  staticTypes := #[]
  resolved := Array.replicate 124 none
  statics := none }

def pool1 : Array CpInfo := pool [(2, .class_ 4), (0, .nameAndType 5 6), (0, u "java/lang/Object"), (0, u "<init>"), (0, u "()V"), (0, .integer 1048576), (0, .class_ 9), (0, u "com/example/tidegate/tidegate/stats/RunningMoments"), (0, .methodref 8 3), (0, .methodref 8 12), (0, .nameAndType 13 14), (0, u "add"), (0, u "(D)V"), (0, .long 6), (1, .double 4611686018427387904), (1, .methodref 8 20), (0, .nameAndType 21 22), (0, u "variance"), (0, u "()D"), (0, .long 12), (1, .double 4616189618054758400), (1, .class_ 28), (0, u "com/example/tidegate/tidegate/stats/RunningMomentsVariancePinLaw"), (2, u "law"), (0, u "(IIII)Z")] 3

def k1m0 : Method := { name := "<init>", desc := "()V", sig := { parameters := [], returnType := none }, accessFlags := 1, code := none }
def k1c1 : Code := { maxStack := 8, maxLocals := 16, code := code, exceptionTable := #[], attributes := #[] }
def k1m1 : Method := { name := "law", desc := "(IIII)Z", sig := { parameters := [.int, .int, .int, .int], returnType := some .boolean }, accessFlags := 9, code := some k1c1 }
/-- com/example/tidegate/tidegate/stats/RunningMomentsVariancePinLaw -/
def k1 : Class := { plain "com/example/tidegate/tidegate/stats/RunningMomentsVariancePinLaw" (some 0) with
  accessFlags := 49
  interfaces := #[]
  cf := some (fileOf pool1 27 #[] #[{ accessFlags := 1, nameIndex := 5, descriptorIndex := 6, attributes := #[] }, { accessFlags := 9, nameIndex := 31, descriptorIndex := 32, attributes := #[] }] 49 2 #[] #[])
  fields := #[]
  methods := #[k1m0, k1m1]
  instanceTypes := #[]
  staticTypes := #[]
  resolved := Array.replicate 36 none
  statics := none }

def pool2 : Array CpInfo := pool [(1, .methodref 2 3), (0, .class_ 4), (0, .nameAndType 5 6), (0, u "java/lang/Object"), (0, u "<init>"), (0, u "()V"), (0, .fieldref 8 9), (0, .class_ 10), (0, .nameAndType 11 12), (0, u "com/example/tidegate/tidegate/stats/RunningMoments"), (0, u "count"), (0, u "J"), (0, .fieldref 8 14), (0, .nameAndType 15 16), (0, u "mean"), (0, u "D"), (0, .fieldref 8 18), (0, .nameAndType 19 16), (0, u "squaredDeviations"), (2, .double 9221120237041090560), (1, .long 2), (3, u "variance"), (0, u "()D"), (2, u "add"), (0, u "(D)V")] 4

def k2c0 : Code := { maxStack := 1, maxLocals := 1, code := prog_87_method_1_code, exceptionTable := #[], attributes := #[] }
def k2m0 : Method := { name := "<init>", desc := "()V", sig := { parameters := [], returnType := none }, accessFlags := 1, code := some k2c0 }
def k2c1 : Code := { maxStack := 9, maxLocals := 5, code := prog_87_method_2_code, exceptionTable := #[], attributes := #[] }
def k2m1 : Method := { name := "add", desc := "(D)V", sig := { parameters := [.double], returnType := none }, accessFlags := 1, code := some k2c1 }
def k2c2 : Code := { maxStack := 6, maxLocals := 1, code := prog_87_method_4_code, exceptionTable := #[], attributes := #[] }
def k2m2 : Method := { name := "variance", desc := "()D", sig := { parameters := [], returnType := some .double }, accessFlags := 1, code := some k2c2 }
/-- com/example/tidegate/tidegate/stats/RunningMoments -/
def k2 : Class := { plain "com/example/tidegate/tidegate/stats/RunningMoments" (some 0) with
  accessFlags := 49
  interfaces := #[]
  cf := some (fileOf pool2 8 #[] #[{ accessFlags := 1, nameIndex := 5, descriptorIndex := 6, attributes := #[] }, { accessFlags := 1, nameIndex := 32, descriptorIndex := 33, attributes := #[] }, { accessFlags := 1, nameIndex := 28, descriptorIndex := 29, attributes := #[] }] 49 2 #[] #[{ accessFlags := 2, nameIndex := 11, descriptorIndex := 12, attributes := #[] }, { accessFlags := 2, nameIndex := 15, descriptorIndex := 16, attributes := #[] }, { accessFlags := 2, nameIndex := 19, descriptorIndex := 16, attributes := #[] }])
  fields := #[{ name := "count", type := .long, accessFlags := 2, slot := 0, constantValue := 0 }, { name := "mean", type := .double, accessFlags := 2, slot := 1, constantValue := 0 }, { name := "squaredDeviations", type := .double, accessFlags := 2, slot := 2, constantValue := 0 }]
  methods := #[k2m0, k2m1, k2m2]
  instanceTypes := #[.long, .double, .double]
  staticTypes := #[]
  resolved := Array.replicate 38 none
  statics := none }

def pool3 : Array CpInfo := pool [(1, u "java/lang/Cloneable"), (0, .class_ 1), (0, u "java/lang/Object"), (0, .class_ 3)] 3

/-- java/lang/Cloneable -/
def k3 : Class := { plain "java/lang/Cloneable" (some 0) with
  accessFlags := 1537
  interfaces := #[]
  cf := some (fileOf pool3 2 #[] #[] 1537 4 #[] #[])
  fields := #[]
  methods := #[]
  instanceTypes := #[]
  staticTypes := #[]
  resolved := Array.replicate 8 none
  statics := none }

def pool4 : Array CpInfo := pool [(1, u "java/io/Serializable"), (0, .class_ 1), (0, u "java/lang/Object"), (0, .class_ 3)] 3

/-- java/io/Serializable -/
def k4 : Class := { plain "java/io/Serializable" (some 0) with
  accessFlags := 1537
  interfaces := #[]
  cf := some (fileOf pool4 2 #[] #[] 1537 4 #[] #[])
  fields := #[]
  methods := #[]
  instanceTypes := #[]
  staticTypes := #[]
  resolved := Array.replicate 8 none
  statics := none }

/-- the primitive byte -/
def k5 : Class := { plain "byte" none with kind := .primitive 'B', accessFlags := 0x411 }
/-- [B -/
def k6 : Class := { plain "[B" (some 0) with kind := .array 5 .byte, interfaces := #[3, 4], accessFlags := 1041 }

/-- the primitive int -/
def k7 : Class := { plain "int" none with kind := .primitive 'I', accessFlags := 0x411 }
/-- [I -/
def k8 : Class := { plain "[I" (some 0) with kind := .array 7 .int, interfaces := #[3, 4], accessFlags := 1041 }

def heap : Heap := #[]
def classes : Array Class := #[k0, k1, k2, k3, k4, k5, k6, k7, k8]
def interned : List (Array UInt16 × Addr) := []
def slotsUsed : Nat := 0
def theMethod : MethodId := ⟨1, 1⟩
def args0 : Array Value := #[.int 3, .int 5, .int 7, .int 11]
def aboutOver (below : List Frame) : State where
  vm := { classes := classes, interned := interned.toArray }
  heap := heap
  slotsUsed := slotsUsed
  threads := #[{ frames := .invoking theMethod args0 :: below }]
def below0 : List Frame := [.native { method := ⟨0, 0⟩, args := #[] }]
def about1 : State := aboutOver below0
def p0 : Program := .bare "" "" ""
def e0 : Env := launch0.env 0 0 0
theorem w_frames : about1.frames = Frame.invoking theMethod args0 :: below0 := rfl
set_option maxRecDepth 65536 in
theorem w_args : argsFit about1.vm theMethod args0 = true := by decide +kernel
set_option maxRecDepth 65536 in
theorem w_heap : heapFits about1 = true := by decide +kernel
set_option maxRecDepth 65536 in
theorem w_runnable : about1.curStatus? = some .runnable := by decide +kernel
set_option maxRecDepth 65536 in
theorem w_alone : about1.alone = true := by decide +kernel
set_option maxRecDepth 65536 in
theorem w_named : about1.methodNamed? x = some theMethod := by decide +kernel
set_option maxRecDepth 65536 in
theorem w_hears : about1.hears theMethod below0 = true := by decide +kernel
set_option maxRecDepth 65536 in
theorem w_ripe : about1.ripe theMethod args0 below0 = true := by decide +kernel
theorem w_running : about1.status = .running := rfl
set_option maxRecDepth 65536 in
theorem w_room : about1.hasRoom e0.platform room_1 = true :=
  launch0.hasRoom_least _ room_1 (by decide +kernel) (by decide +kernel) (by decide +kernel) (by decide +kernel) (by decide +kernel) (by decide +kernel)
theorem allAtoms_all (ts : List Jvm.Cond) (a : Array Jvm.Value) (st : Jvm.State) : (allAtoms ts).before a st = ts.all (fun c => c.before a st) := by
  induction ts with
  | nil => rfl
  | cons c t ih =>
    show (Jvm.Cond.and c (allAtoms t)).before a st = _
    rw [Jvm.Cond.before_and, ih, List.all_cons]
def words1 : List Jvm.Cond := Jvm.Cond.code x code maxLocals ret :: tables_1
/-- a 'code' word, met by the world's own term for the bytes: nothing is compared byte by byte -/
theorem code_word {y : MethodName} {bytes : ByteArray} {mx : Nat} {rt : Option FieldType} {a : Array Value} {s : State} {m : MethodId} {meth : Method} {c : Code} (h1 : s.methodNamed? y = some m) (h2 : s.vm.method? m = some meth) (h3 : meth.code = some c) (h4 : c.code = bytes)
    (h5 : (c.maxLocals == mx && c.exceptionTable.isEmpty && decide (c.maxStack ≤ mostOperands) && decide (meth.sig.returnType = rt) && !meth.locks && decide (parseMethodDescriptor y.desc = some meth.sig)) = true) : (Jvm.Cond.code y bytes mx rt).before a s = true := by
  simp only [Bool.and_eq_true, beq_iff_eq, Bool.not_eq_true', decide_eq_true_eq] at h5
  obtain ⟨⟨⟨⟨⟨g1, g2⟩, g3⟩, g4⟩, g5⟩, g6⟩ := h5
  simp [Cond.before, Cond.holds, Cond.value, h1, h2, h3, h4, g1, g2, g3, g4, g5, g6]
def isCode : Jvm.Cond → Bool
  | .code _ _ _ _ => true
  | _ => false
theorem all_split {L : List Jvm.Cond} {P : Jvm.Cond → Bool} (h1 : L.all (fun c => isCode c || P c) = true) (h2 : ∀ c ∈ L.filter isCode, P c = true) : L.all P = true := by
  refine List.all_eq_true.mpr fun c hc => ?_
  have h := List.all_eq_true.mp h1 c hc
  rcases Bool.eq_false_or_eq_true (isCode c) with hi | hi
  · exact h2 c (List.mem_filter.mpr ⟨hc, hi⟩)
  · simpa [hi] using h
set_option maxRecDepth 65536 in
theorem w_c0 : (Jvm.Cond.code x code maxLocals ret).before args0 about1 = true := code_word (m := ⟨1, 1⟩) (meth := k1m1) (c := k1c1) (by decide +kernel) rfl rfl rfl (by decide +kernel)
set_option maxRecDepth 65536 in
theorem w_c1 : (Jvm.Cond.code ({ cls := "com/example/tidegate/tidegate/stats/RunningMoments", name := "<init>", desc := "()V" } : Jvm.MethodName) prog_87_method_1_code (1 : Nat) (Option.none : Option Jvm.ClassFile.FieldType)).before args0 about1 = true := code_word (m := ⟨2, 0⟩) (meth := k2m0) (c := k2c0) (by decide +kernel) rfl rfl rfl (by decide +kernel)
set_option maxRecDepth 65536 in
theorem w_c2 : (Jvm.Cond.code ({ cls := "java/lang/Object", name := "<init>", desc := "()V" } : Jvm.MethodName) object_method_1_code (1 : Nat) (Option.none : Option Jvm.ClassFile.FieldType)).before args0 about1 = true := code_word (m := ⟨0, 0⟩) (meth := k0m0) (c := k0c0) (by decide +kernel) rfl rfl rfl (by decide +kernel)
set_option maxRecDepth 65536 in
theorem w_c3 : (Jvm.Cond.code ({ cls := "com/example/tidegate/tidegate/stats/RunningMoments", name := "variance", desc := "()D" } : Jvm.MethodName) prog_87_method_4_code (1 : Nat) (Option.some Jvm.ClassFile.FieldType.double)).before args0 about1 = true := code_word (m := ⟨2, 2⟩) (meth := k2m2) (c := k2c2) (by decide +kernel) rfl rfl rfl (by decide +kernel)
set_option maxRecDepth 65536 in
theorem w_c4 : (Jvm.Cond.code ({ cls := "com/example/tidegate/tidegate/stats/RunningMoments", name := "add", desc := "(D)V" } : Jvm.MethodName) prog_87_method_2_code (5 : Nat) (Option.none : Option Jvm.ClassFile.FieldType)).before args0 about1 = true := code_word (m := ⟨2, 1⟩) (meth := k2m1) (c := k2c1) (by decide +kernel) rfl rfl rfl (by decide +kernel)
def codes1 : List Jvm.Cond := [Jvm.Cond.code x code maxLocals ret, Jvm.Cond.code ({ cls := "com/example/tidegate/tidegate/stats/RunningMoments", name := "<init>", desc := "()V" } : Jvm.MethodName) prog_87_method_1_code (1 : Nat) (Option.none : Option Jvm.ClassFile.FieldType), Jvm.Cond.code ({ cls := "java/lang/Object", name := "<init>", desc := "()V" } : Jvm.MethodName) object_method_1_code (1 : Nat) (Option.none : Option Jvm.ClassFile.FieldType), Jvm.Cond.code ({ cls := "com/example/tidegate/tidegate/stats/RunningMoments", name := "variance", desc := "()D" } : Jvm.MethodName) prog_87_method_4_code (1 : Nat) (Option.some Jvm.ClassFile.FieldType.double), Jvm.Cond.code ({ cls := "com/example/tidegate/tidegate/stats/RunningMoments", name := "add", desc := "(D)V" } : Jvm.MethodName) prog_87_method_2_code (5 : Nat) (Option.none : Option Jvm.ClassFile.FieldType)]
set_option maxRecDepth 65536 in
theorem codes_eq : words1.filter isCode = codes1 := rfl
theorem w_codes : ∀ c ∈ words1.filter isCode, c.before args0 about1 = true := by
  rw [codes_eq]
  intro c hc
  simp only [codes1, List.mem_cons, List.not_mem_nil, or_false] at hc
  rcases hc with rfl | rfl | rfl | rfl | rfl
  · exact w_c0
  · exact w_c1
  · exact w_c2
  · exact w_c3
  · exact w_c4
set_option maxRecDepth 65536 in
theorem w_t1 : (words1.take 24).all (fun c => isCode c || c.before args0 about1) = true := by decide +kernel
set_option maxRecDepth 65536 in
theorem w_t2 : (words1.drop 24).all (fun c => isCode c || c.before args0 about1) = true := by decide +kernel
theorem w_tables : (allAtoms (Jvm.Cond.code x code maxLocals ret :: tables_1)).before args0 about1 = true := by
  rw [allAtoms_all]
  show words1.all (fun c => c.before args0 about1) = true
  refine all_split ?_ w_codes
  rw [← List.take_append_drop 24 words1, List.all_append, w_t1, w_t2]
  rfl
set_option maxRecDepth 65536 in
theorem w_case : (Jvm.Cond.and given_1 narrow_1).before args0 about1 = true := by decide +kernel
theorem w_applies : (headSpec (Jvm.Cond.code x code maxLocals ret :: tables_1) room_1).applies x e0.platform about1 = true :=
  (Spec.applies_iff w_frames).mpr ⟨w_running, w_runnable, w_alone, w_named, w_hears, w_ripe, w_room, w_tables⟩
theorem atStart : AtStart classFile x code maxLocals ret World_1 tables_1 room_1 Calls_1 rest_1 Pre_1 launch0 p0 e0 about1 theMethod args0 below0 :=
  ⟨lists_1, trivial, launch0.admits_env _ _ _, launch0.least_env, fairChoices_fair.cas, fairChoices_fair.clock, w_frames, w_args, w_heap, w_applies, trivial, trivial, w_case⟩
end start1
theorem witness_1 : WitnessClaimed_1 := ⟨start1.p0, start1.e0, start1.about1, start1.theMethod, start1.args0, start1.below0, start1.atStart⟩
end Jvm.Pilot.@@N@@
