import JvmDerived
import JvmDerived.Pilot.@@N@@Statement
import JvmDerived.Pilot.@@N@@Code
set_option linter.unusedVariables false
set_option linter.unusedSimpArgs false
@@BLOCK:NumsL.lean.txt@@
namespace Jvm.Pilot.@@N@@
open Jvm Jvm.ClassFile Sem Op Lib Jvm.Free Jvm.Stand Jvm.LawKit Jvm.RoadKit Bundle Jvm.Pilot.@@N@@.Jvm.D
def own_Fl (Z : State) (h : Heap) (a : Addr) (z0 : Int32) (z1 : Int64) (z2 : Int64) (z3 : Int32) (z4 : Int64) (z5 : Int64) (z6 : Int32) : Prop := Exa Z h a "com/example/tracewell/tracewell/capture/Flow" ∧ Fld Z h a "com/example/tracewell/tracewell/capture/Flow" "ipv6" "Z" (.int z0) ∧ Fld Z h a "com/example/tracewell/tracewell/capture/Flow" "sourceHigh" "J" (.long z1) ∧ Fld Z h a "com/example/tracewell/tracewell/capture/Flow" "sourceLow" "J" (.long z2) ∧ Fld Z h a "com/example/tracewell/tracewell/capture/Flow" "sourcePort" "I" (.int z3) ∧ Fld Z h a "com/example/tracewell/tracewell/capture/Flow" "destinationHigh" "J" (.long z4) ∧ Fld Z h a "com/example/tracewell/tracewell/capture/Flow" "destinationLow" "J" (.long z5) ∧ Fld Z h a "com/example/tracewell/tracewell/capture/Flow" "destinationPort" "I" (.int z6)
theorem own_Fl.lt {Z : State} {h h' : Heap} {a : Addr} {z0 : Int32} {z1 : Int64} {z2 : Int64} {z3 : Int32} {z4 : Int64} {z5 : Int64} {z6 : Int32} (B : own_Fl Z h a z0 z1 z2 z3 z4 z5 z6) : a < h.size := B.1.lt
theorem own_Fl.ext {Z : State} {h h' : Heap} {a : Addr} {z0 : Int32} {z1 : Int64} {z2 : Int64} {z3 : Int32} {z4 : Int64} {z5 : Int64} {z6 : Int32} (B : own_Fl Z h a z0 z1 z2 z3 z4 z5 z6) (E : Ext h h') : own_Fl Z h' a z0 z1 z2 z3 z4 z5 z6 := by
  obtain ⟨e, f0, f1, f2, f3, f4, f5, f6⟩ := B
  exact ⟨e.ext E, f0.ext E, f1.ext E, f2.ext E, f3.ext E, f4.ext E, f5.ext E, f6.ext E⟩
theorem own_Fl.keep {Z : State} {h h' : Heap} {a : Addr} {z0 : Int32} {z1 : Int64} {z2 : Int64} {z3 : Int32} {z4 : Int64} {z5 : Int64} {z6 : Int32} {ws : List Addr} (B : own_Fl Z h a z0 z1 z2 z3 z4 z5 z6) (K : Keep h h' ws) (q : a ∉ ws) : own_Fl Z h' a z0 z1 z2 z3 z4 z5 z6 := by
  obtain ⟨e, f0, f1, f2, f3, f4, f5, f6⟩ := B
  exact ⟨e.keep K, f0.keep K q, f1.keep K q, f2.keep K q, f3.keep K q, f4.keep K q, f5.keep K q, f6.keep K q⟩
theorem d6_0 : decode prog_11_method_6_code 0 = .ok (.aload_n 1, 1) := by decide +kernel
theorem d6_1 : decode prog_11_method_6_code 1 = .ok (.instanceof 8, 3) := by decide +kernel
theorem d6_4 : decode prog_11_method_6_code 4 = .ok (.ifCond .eq 93, 3) := by decide +kernel
theorem d6_7 : decode prog_11_method_6_code 7 = .ok (.aload_n 1, 1) := by decide +kernel
theorem d6_8 : decode prog_11_method_6_code 8 = .ok (.checkcast 8, 3) := by decide +kernel
theorem d6_11 : decode prog_11_method_6_code 11 = .ok (.astore_n 2, 1) := by decide +kernel
theorem d6_12 : decode prog_11_method_6_code 12 = .ok (.aload_n 0, 1) := by decide +kernel
theorem d6_13 : decode prog_11_method_6_code 13 = .ok (.getfield 13, 3) := by decide +kernel
theorem d6_16 : decode prog_11_method_6_code 16 = .ok (.aload_n 2, 1) := by decide +kernel
theorem d6_17 : decode prog_11_method_6_code 17 = .ok (.getfield 13, 3) := by decide +kernel
theorem d6_20 : decode prog_11_method_6_code 20 = .ok (.if_icmp .ne 77, 3) := by decide +kernel
theorem d6_23 : decode prog_11_method_6_code 23 = .ok (.aload_n 0, 1) := by decide +kernel
theorem d6_24 : decode prog_11_method_6_code 24 = .ok (.getfield 17, 3) := by decide +kernel
theorem d6_27 : decode prog_11_method_6_code 27 = .ok (.aload_n 2, 1) := by decide +kernel
theorem d6_28 : decode prog_11_method_6_code 28 = .ok (.getfield 17, 3) := by decide +kernel
theorem d6_31 : decode prog_11_method_6_code 31 = .ok (.lcmp, 1) := by decide +kernel
theorem d6_32 : decode prog_11_method_6_code 32 = .ok (.ifCond .ne 65, 3) := by decide +kernel
theorem d6_35 : decode prog_11_method_6_code 35 = .ok (.aload_n 0, 1) := by decide +kernel
theorem d6_36 : decode prog_11_method_6_code 36 = .ok (.getfield 21, 3) := by decide +kernel
theorem d6_39 : decode prog_11_method_6_code 39 = .ok (.aload_n 2, 1) := by decide +kernel
theorem d6_40 : decode prog_11_method_6_code 40 = .ok (.getfield 21, 3) := by decide +kernel
theorem d6_43 : decode prog_11_method_6_code 43 = .ok (.lcmp, 1) := by decide +kernel
theorem d6_44 : decode prog_11_method_6_code 44 = .ok (.ifCond .ne 53, 3) := by decide +kernel
theorem d6_47 : decode prog_11_method_6_code 47 = .ok (.aload_n 0, 1) := by decide +kernel
theorem d6_48 : decode prog_11_method_6_code 48 = .ok (.getfield 24, 3) := by decide +kernel
theorem d6_51 : decode prog_11_method_6_code 51 = .ok (.aload_n 2, 1) := by decide +kernel
theorem d6_52 : decode prog_11_method_6_code 52 = .ok (.getfield 24, 3) := by decide +kernel
theorem d6_55 : decode prog_11_method_6_code 55 = .ok (.if_icmp .ne 42, 3) := by decide +kernel
theorem d6_58 : decode prog_11_method_6_code 58 = .ok (.aload_n 0, 1) := by decide +kernel
theorem d6_59 : decode prog_11_method_6_code 59 = .ok (.getfield 28, 3) := by decide +kernel
theorem d6_62 : decode prog_11_method_6_code 62 = .ok (.aload_n 2, 1) := by decide +kernel
theorem d6_63 : decode prog_11_method_6_code 63 = .ok (.getfield 28, 3) := by decide +kernel
theorem d6_66 : decode prog_11_method_6_code 66 = .ok (.lcmp, 1) := by decide +kernel
theorem d6_67 : decode prog_11_method_6_code 67 = .ok (.ifCond .ne 30, 3) := by decide +kernel
theorem d6_70 : decode prog_11_method_6_code 70 = .ok (.aload_n 0, 1) := by decide +kernel
theorem d6_71 : decode prog_11_method_6_code 71 = .ok (.getfield 31, 3) := by decide +kernel
theorem d6_74 : decode prog_11_method_6_code 74 = .ok (.aload_n 2, 1) := by decide +kernel
theorem d6_75 : decode prog_11_method_6_code 75 = .ok (.getfield 31, 3) := by decide +kernel
theorem d6_78 : decode prog_11_method_6_code 78 = .ok (.lcmp, 1) := by decide +kernel
theorem d6_79 : decode prog_11_method_6_code 79 = .ok (.ifCond .ne 18, 3) := by decide +kernel
theorem d6_82 : decode prog_11_method_6_code 82 = .ok (.aload_n 0, 1) := by decide +kernel
theorem d6_83 : decode prog_11_method_6_code 83 = .ok (.getfield 34, 3) := by decide +kernel
theorem d6_86 : decode prog_11_method_6_code 86 = .ok (.aload_n 2, 1) := by decide +kernel
theorem d6_87 : decode prog_11_method_6_code 87 = .ok (.getfield 34, 3) := by decide +kernel
theorem d6_90 : decode prog_11_method_6_code 90 = .ok (.if_icmp .ne 7, 3) := by decide +kernel
theorem d6_93 : decode prog_11_method_6_code 93 = .ok (.iconst 1, 1) := by decide +kernel
theorem d6_94 : decode prog_11_method_6_code 94 = .ok (.goto 4, 3) := by decide +kernel
theorem d6_98 : decode prog_11_method_6_code 98 = .ok (.ireturn, 1) := by decide +kernel
theorem d6_97 : decode prog_11_method_6_code 97 = .ok (.iconst 0, 1) := by decide +kernel
theorem d1_0 : decode prog_11_method_1_code 0 = .ok (.aload_n 0, 1) := by decide +kernel
theorem d1_1 : decode prog_11_method_1_code 1 = .ok (.invokespecial 1, 3) := by decide +kernel
theorem d1_4 : decode prog_11_method_1_code 4 = .ok (.return_, 1) := by decide +kernel
theorem pn_0 : plainName "com/example/tracewell/tracewell/capture/Flow" = true := by first | (simp [plainName, overriddenIn]; done) | decide +kernel
def QI0 (Z : State) (a0_ : Addr)  (h0 : Heap) (n0 : Nat) (v : Option Value) (h : Heap) (L : List Loc) : Prop := v = none ∧ Fr n0 L ∧ h = h0
theorem ef_rmI0 (m : MethodId) (a0_ : Addr) : entryFrame m #[(.ref a0_)] 1 = mkF m 0 #[rv a0_] [] := by first | (simp [entryFrame, mkF, argsToLocals, Value.category]; done) | rfl
set_option maxRecDepth 65536 in
set_option maxHeartbeats 40000000 in
theorem rmI0 (l : Launch) (Z : State) (a0 : Array Value) (hw : ∀ d ∈ tables_1, d.before a0 Z = true) (ws : List Jvm.Cond) (a0_ : Addr)  (h0 : Heap) (n0 : Nat) (Z0 : n0 ≤ h0.size) :
    MetFree l (⟨"com/example/tracewell/tracewell/capture/Flow", "<init>", "()V"⟩ : MethodName) (head1 (Jvm.Cond.code (⟨"com/example/tracewell/tracewell/capture/Flow", "<init>", "()V"⟩ : MethodName) prog_11_method_1_code 1 none :: ws) ({ frames := 1, cells := 0, slots := 0, locals := 12 } : Room)) (fun a U => a = #[(.ref a0_)] ∧ Z.Warmed39 U.vm ∧ U.heap = h0) (fun _ _ _ _ _ => True) (fun _ U o U' => ∃ v L, o = .returned v ∧ QI0 Z a0_ h0 n0 v U'.heap L ∧ FrameEnd U o U' L ({ frames := 1, cells := 0, slots := 0, locals := 12 } : Room).cells ({ frames := 1, cells := 0, slots := 0, locals := 12 } : Room).slots) := by
  refine MetFree.of_bodySF (plainFor_of_name pn_0) hisR ?_
  intro p e s m args below meth c s₁ Bd hml0 hP hK
  obtain ⟨rfl, hZ, hh⟩ := hP
  have hx := Bd.exec
  have hby := Bd.bytes
  have hml : c.maxLocals = 1 := hml0
  have hown : s.vm.findClass "com/example/tracewell/tracewell/capture/Flow" = some m.cls := findClass_of_methodNamed Bd.named
  have hnm := (name_of_methodNamed Bd.named Bd.method).1
  have X0 : Stand p l e ({ frames := 1, cells := 0, slots := 0, locals := 12 } : Room) s m #[(.ref a0_)] below meth c s₁ [] 0 0 := Stand.of_body Bd
  have e0 : s₁.heap = h0 := by rw [← hh, Bd.state]; rfl
  have N0 := Fr.nil n0
  have S0 : ∀ t, Steps p.tables e below (s₁.setTop (mkF m 0 #[rv a0_] [])) t → Steps p.tables e below (s₁.setTop (entryFrame m #[(.ref a0_)] 1)) t := fun t k => castTop (ef_rmI0 m a0_) k
  obtain ⟨T1, X1, e1, st1⟩ := initO X0 hx hZ hown (hw _ (List.mem_of_getElem? (i := 7) rfl)) (hw _ (List.mem_of_getElem? (i := 8) rfl)) (hw _ (List.mem_of_getElem? (i := 9) rfl)) e0 (g := (mkF m 1 #[rv a0_] [(.ref a0_)])) rfl (by rw [hml]; rfl) rfl (hb hby d1_1) (by decide) (W := 0) (by show 2 * 0 + _ ≤ _; exact Nat.le_of_eq rfl) (by decide)
  obtain ⟨fs, hr, hrun, hended, hW, hsame⟩ := X1.leave (v := none) (fun _ => rfl)
  refine ⟨_, _, S0 _ ?_, hrun, hended, _, _, rfl, ?_, ⟨_, rfl⟩, hW, hsame.mono (by decide) (by decide)⟩
  · skip
    show Steps p.tables e below (s₁.setTop (mkF m 0 #[rv a0_] [])) _
    refine XS.aloadN X0.here hx rfl (hb hby d1_0) rfl rfl ?_
    show Steps p.tables e below (s₁.setTop (mkF m 1 #[rv a0_] [(.ref a0_)])) _
    refine st1 _ ?_
    show Steps p.tables e below (T1.setTop (mkF m 4 #[rv a0_] [])) _
    exact X1.returnOut hx Bd.returns (hb hby d1_4) hr
  · show QI0 Z a0_ h0 n0 _ T1.heap _
    rw [e1]
    exact ⟨rfl, N0, rfl⟩
theorem d3_0 : decode prog_11_method_3_code 0 = .ok (.aload_n 0, 1) := by decide +kernel
theorem d3_1 : decode prog_11_method_3_code 1 = .ok (.iload_n 1, 1) := by decide +kernel
theorem d3_2 : decode prog_11_method_3_code 2 = .ok (.putfield 13, 3) := by decide +kernel
theorem d3_5 : decode prog_11_method_3_code 5 = .ok (.aload_n 0, 1) := by decide +kernel
theorem d3_6 : decode prog_11_method_3_code 6 = .ok (.lload_n 2, 1) := by decide +kernel
theorem d3_7 : decode prog_11_method_3_code 7 = .ok (.putfield 17, 3) := by decide +kernel
theorem d3_10 : decode prog_11_method_3_code 10 = .ok (.aload_n 0, 1) := by decide +kernel
theorem d3_11 : decode prog_11_method_3_code 11 = .ok (.lload 4, 2) := by decide +kernel
theorem d3_13 : decode prog_11_method_3_code 13 = .ok (.putfield 21, 3) := by decide +kernel
theorem d3_16 : decode prog_11_method_3_code 16 = .ok (.aload_n 0, 1) := by decide +kernel
theorem d3_17 : decode prog_11_method_3_code 17 = .ok (.iload 6, 2) := by decide +kernel
theorem d3_19 : decode prog_11_method_3_code 19 = .ok (.putfield 24, 3) := by decide +kernel
theorem d3_22 : decode prog_11_method_3_code 22 = .ok (.aload_n 0, 1) := by decide +kernel
theorem d3_23 : decode prog_11_method_3_code 23 = .ok (.lload 7, 2) := by decide +kernel
theorem d3_25 : decode prog_11_method_3_code 25 = .ok (.putfield 28, 3) := by decide +kernel
theorem d3_28 : decode prog_11_method_3_code 28 = .ok (.aload_n 0, 1) := by decide +kernel
theorem d3_29 : decode prog_11_method_3_code 29 = .ok (.lload 9, 2) := by decide +kernel
theorem d3_31 : decode prog_11_method_3_code 31 = .ok (.putfield 31, 3) := by decide +kernel
theorem d3_34 : decode prog_11_method_3_code 34 = .ok (.aload_n 0, 1) := by decide +kernel
theorem d3_35 : decode prog_11_method_3_code 35 = .ok (.iload 11, 2) := by decide +kernel
theorem d3_37 : decode prog_11_method_3_code 37 = .ok (.putfield 34, 3) := by decide +kernel
theorem d3_40 : decode prog_11_method_3_code 40 = .ok (.return_, 1) := by decide +kernel
def QSet (Z : State) (a0_ : Addr) (u0 : Int32) (u1 : Int64) (u2 : Int64) (u3 : Int32) (u4 : Int64) (u5 : Int64) (u6 : Int32) (o0 : Int32) (o1 : Int64) (o2 : Int64) (o3 : Int32) (o4 : Int64) (o5 : Int64) (o6 : Int32) (h0 : Heap) (n0 : Nat) (v : Option Value) (h : Heap) (L : List Loc) : Prop := v = none ∧ Fr n0 L ∧ Keep h0 h [a0_] ∧ own_Fl Z h a0_ (nar .boolean u0) u1 u2 u3 u4 u5 u6
theorem ef_rmSet (m : MethodId) (a0_ : Addr) (u0 : Int32) (u1 : Int64) (u2 : Int64) (u3 : Int32) (u4 : Int64) (u5 : Int64) (u6 : Int32) : entryFrame m #[(.ref a0_), (.int u0), (.long u1), (.long u2), (.int u3), (.long u4), (.long u5), (.int u6)] 12 = mkF m 0 #[rv a0_, iv u0, .val (.long u1), .second, .val (.long u2), .second, iv u3, .val (.long u4), .second, .val (.long u5), .second, iv u6] [] := by first | (simp [entryFrame, mkF, argsToLocals, Value.category]; done) | rfl
set_option maxRecDepth 65536 in
set_option maxHeartbeats 40000000 in
theorem rmSet (l : Launch) (Z : State) (a0 : Array Value) (hw : ∀ d ∈ tables_1, d.before a0 Z = true) (ws : List Jvm.Cond) (a0_ : Addr) (u0 : Int32) (u1 : Int64) (u2 : Int64) (u3 : Int32) (u4 : Int64) (u5 : Int64) (u6 : Int32) (o0 : Int32) (o1 : Int64) (o2 : Int64) (o3 : Int32) (o4 : Int64) (o5 : Int64) (o6 : Int32) (h0 : Heap) (n0 : Nat) (Z0 : n0 ≤ h0.size) (B0 : own_Fl Z h0 a0_ o0 o1 o2 o3 o4 o5 o6) (g0 : n0 ≤ a0_) :
    MetFree l (⟨"com/example/tracewell/tracewell/capture/Flow", "set", "(ZJJIJJI)V"⟩ : MethodName) (head1 (Jvm.Cond.code (⟨"com/example/tracewell/tracewell/capture/Flow", "set", "(ZJJIJJI)V"⟩ : MethodName) prog_11_method_3_code 12 none :: ws) ({ frames := 0, cells := 0, slots := 0, locals := 0 } : Room)) (fun a U => a = #[(.ref a0_), (.int u0), (.long u1), (.long u2), (.int u3), (.long u4), (.long u5), (.int u6)] ∧ Z.Warmed39 U.vm ∧ U.heap = h0) (fun _ _ _ _ _ => True) (fun _ U o U' => ∃ v L, o = .returned v ∧ QSet Z a0_ u0 u1 u2 u3 u4 u5 u6 o0 o1 o2 o3 o4 o5 o6 h0 n0 v U'.heap L ∧ FrameEnd U o U' L ({ frames := 0, cells := 0, slots := 0, locals := 0 } : Room).cells ({ frames := 0, cells := 0, slots := 0, locals := 0 } : Room).slots) := by
  refine MetFree.of_bodySF (plainFor_of_name pn_0) hisR ?_
  intro p e s m args below meth c s₁ Bd hml0 hP hK
  obtain ⟨rfl, hZ, hh⟩ := hP
  have hx := Bd.exec
  have hby := Bd.bytes
  have hml : c.maxLocals = 12 := hml0
  have hown : s.vm.findClass "com/example/tracewell/tracewell/capture/Flow" = some m.cls := findClass_of_methodNamed Bd.named
  have hnm := (name_of_methodNamed Bd.named Bd.method).1
  have X0 : Stand p l e ({ frames := 0, cells := 0, slots := 0, locals := 0 } : Room) s m #[(.ref a0_), (.int u0), (.long u1), (.long u2), (.int u3), (.long u4), (.long u5), (.int u6)] below meth c s₁ [] 0 0 := Stand.of_body Bd
  have e0 : s₁.heap = h0 := by rw [← hh, Bd.state]; rfl
  have N0 := Fr.nil n0
  have S0 : ∀ t, Steps p.tables e below (s₁.setTop (mkF m 0 #[rv a0_, iv u0, .val (.long u1), .second, .val (.long u2), .second, iv u3, .val (.long u4), .second, .val (.long u5), .second, iv u6] [])) t → Steps p.tables e below (s₁.setTop (entryFrame m #[(.ref a0_), (.int u0), (.long u1), (.long u2), (.int u3), (.long u4), (.long u5), (.int u6)] 12)) t := fun t k => castTop (ef_rmSet m a0_ u0 u1 u2 u3 u4 u5 u6) k
  obtain ⟨oe1, of1_0, of1_1, of1_2, of1_3, of1_4, of1_5, of1_6⟩ := id B0
  have K0 : Keep h0 h0 [a0_] := Keep.refl _ _
  obtain ⟨T2, h2, X2, e2, W2, st2⟩ := putFN X0 hx hZ hown (hw _ (List.mem_of_getElem? (i := 16) rfl)) Via.refl e0 of1_0 oe1 (Or.inl (hw _ (List.mem_of_getElem? (i := 17) rfl))) (hw _ (List.mem_of_getElem? (i := 2) rfl)) (ty := .boolean) (v' := (.int (nar .boolean u0))) (by decide) rfl (fits_nar_bool _) (g := (mkF m 2 #[rv a0_, iv u0, .val (.long u1), .second, .val (.long u2), .second, iv u3, .val (.long u4), .second, .val (.long u5), .second, iv u6] [(.int u0), (.ref a0_)])) rfl rfl (hb hby d3_2)
  have Fw2 := of1_0.same W2
  have f3 := of1_1.other W2 (Or.inr (slot_ne (Or.inl (hw _ (List.mem_of_getElem? (i := 19) rfl))) (Or.inl (hw _ (List.mem_of_getElem? (i := 17) rfl))) (by decide) (t := .long) (t' := .boolean) (by decide) (by decide)))
  have f4 := of1_2.other W2 (Or.inr (slot_ne (Or.inl (hw _ (List.mem_of_getElem? (i := 21) rfl))) (Or.inl (hw _ (List.mem_of_getElem? (i := 17) rfl))) (by decide) (t := .long) (t' := .boolean) (by decide) (by decide)))
  have f5 := of1_3.other W2 (Or.inr (slot_ne (Or.inl (hw _ (List.mem_of_getElem? (i := 23) rfl))) (Or.inl (hw _ (List.mem_of_getElem? (i := 17) rfl))) (by decide) (t := .int) (t' := .boolean) (by decide) (by decide)))
  have f6 := of1_4.other W2 (Or.inr (slot_ne (Or.inl (hw _ (List.mem_of_getElem? (i := 25) rfl))) (Or.inl (hw _ (List.mem_of_getElem? (i := 17) rfl))) (by decide) (t := .long) (t' := .boolean) (by decide) (by decide)))
  have f7 := of1_5.other W2 (Or.inr (slot_ne (Or.inl (hw _ (List.mem_of_getElem? (i := 27) rfl))) (Or.inl (hw _ (List.mem_of_getElem? (i := 17) rfl))) (by decide) (t := .long) (t' := .boolean) (by decide) (by decide)))
  have f8 := of1_6.other W2 (Or.inr (slot_ne (Or.inl (hw _ (List.mem_of_getElem? (i := 29) rfl))) (Or.inl (hw _ (List.mem_of_getElem? (i := 17) rfl))) (by decide) (t := .int) (t' := .boolean) (by decide) (by decide)))
  have f9 := oe1.wr W2
  have N2 := Fr.snoc X2 N0 g0
  have Z2 : n0 ≤ h2.size := Nat.le_trans Z0 (Keep.of_wr W2).1
  have K2 : Keep h0 h2 [a0_] := K0.wr W2 (Or.inl (List.mem_of_getElem? (i := 0) rfl))
  obtain ⟨T18, h18, X18, e18, W18, st18⟩ := putF X2 hx hZ hown (host := "") (Or.inl (hw _ (List.mem_of_getElem? (i := 18) rfl))) Via.refl e2 f3 f9 (Or.inl (hw _ (List.mem_of_getElem? (i := 19) rfl))) (hw _ (List.mem_of_getElem? (i := 2) rfl)) (ty := .long) (by decide) rfl rfl (g := (mkF m 7 #[rv a0_, iv u0, .val (.long u1), .second, .val (.long u2), .second, iv u3, .val (.long u4), .second, .val (.long u5), .second, iv u6] [(.long u1), (.ref a0_)])) rfl rfl (hb hby d3_7)
  have Fw18 := f3.same W18
  have f19 := Fw2.other W18 (Or.inr (slot_ne (Or.inl (hw _ (List.mem_of_getElem? (i := 17) rfl))) (Or.inl (hw _ (List.mem_of_getElem? (i := 19) rfl))) (by decide) (t := .boolean) (t' := .long) (by decide) (by decide)))
  have f20 := f4.other W18 (Or.inr (slot_ne (Or.inl (hw _ (List.mem_of_getElem? (i := 21) rfl))) (Or.inl (hw _ (List.mem_of_getElem? (i := 19) rfl))) (by decide) (t := .long) (t' := .long) (by decide) (by decide)))
  have f21 := f5.other W18 (Or.inr (slot_ne (Or.inl (hw _ (List.mem_of_getElem? (i := 23) rfl))) (Or.inl (hw _ (List.mem_of_getElem? (i := 19) rfl))) (by decide) (t := .int) (t' := .long) (by decide) (by decide)))
  have f22 := f6.other W18 (Or.inr (slot_ne (Or.inl (hw _ (List.mem_of_getElem? (i := 25) rfl))) (Or.inl (hw _ (List.mem_of_getElem? (i := 19) rfl))) (by decide) (t := .long) (t' := .long) (by decide) (by decide)))
  have f23 := f7.other W18 (Or.inr (slot_ne (Or.inl (hw _ (List.mem_of_getElem? (i := 27) rfl))) (Or.inl (hw _ (List.mem_of_getElem? (i := 19) rfl))) (by decide) (t := .long) (t' := .long) (by decide) (by decide)))
  have f24 := f8.other W18 (Or.inr (slot_ne (Or.inl (hw _ (List.mem_of_getElem? (i := 29) rfl))) (Or.inl (hw _ (List.mem_of_getElem? (i := 19) rfl))) (by decide) (t := .int) (t' := .long) (by decide) (by decide)))
  have f25 := f9.wr W18
  have N18 := Fr.snoc X18 N2 g0
  have Z18 : n0 ≤ h18.size := Nat.le_trans Z2 (Keep.of_wr W18).1
  have K18 : Keep h0 h18 [a0_] := K2.wr W18 (Or.inl (List.mem_of_getElem? (i := 0) rfl))
  obtain ⟨T34, h34, X34, e34, W34, st34⟩ := putF X18 hx hZ hown (host := "") (Or.inl (hw _ (List.mem_of_getElem? (i := 20) rfl))) Via.refl e18 f20 f25 (Or.inl (hw _ (List.mem_of_getElem? (i := 21) rfl))) (hw _ (List.mem_of_getElem? (i := 2) rfl)) (ty := .long) (by decide) rfl rfl (g := (mkF m 13 #[rv a0_, iv u0, .val (.long u1), .second, .val (.long u2), .second, iv u3, .val (.long u4), .second, .val (.long u5), .second, iv u6] [(.long u2), (.ref a0_)])) rfl rfl (hb hby d3_13)
  have Fw34 := f20.same W34
  have f35 := f19.other W34 (Or.inr (slot_ne (Or.inl (hw _ (List.mem_of_getElem? (i := 17) rfl))) (Or.inl (hw _ (List.mem_of_getElem? (i := 21) rfl))) (by decide) (t := .boolean) (t' := .long) (by decide) (by decide)))
  have f36 := Fw18.other W34 (Or.inr (slot_ne (Or.inl (hw _ (List.mem_of_getElem? (i := 19) rfl))) (Or.inl (hw _ (List.mem_of_getElem? (i := 21) rfl))) (by decide) (t := .long) (t' := .long) (by decide) (by decide)))
  have f37 := f21.other W34 (Or.inr (slot_ne (Or.inl (hw _ (List.mem_of_getElem? (i := 23) rfl))) (Or.inl (hw _ (List.mem_of_getElem? (i := 21) rfl))) (by decide) (t := .int) (t' := .long) (by decide) (by decide)))
  have f38 := f22.other W34 (Or.inr (slot_ne (Or.inl (hw _ (List.mem_of_getElem? (i := 25) rfl))) (Or.inl (hw _ (List.mem_of_getElem? (i := 21) rfl))) (by decide) (t := .long) (t' := .long) (by decide) (by decide)))
  have f39 := f23.other W34 (Or.inr (slot_ne (Or.inl (hw _ (List.mem_of_getElem? (i := 27) rfl))) (Or.inl (hw _ (List.mem_of_getElem? (i := 21) rfl))) (by decide) (t := .long) (t' := .long) (by decide) (by decide)))
  have f40 := f24.other W34 (Or.inr (slot_ne (Or.inl (hw _ (List.mem_of_getElem? (i := 29) rfl))) (Or.inl (hw _ (List.mem_of_getElem? (i := 21) rfl))) (by decide) (t := .int) (t' := .long) (by decide) (by decide)))
  have f41 := f25.wr W34
  have N34 := Fr.snoc X34 N18 g0
  have Z34 : n0 ≤ h34.size := Nat.le_trans Z18 (Keep.of_wr W34).1
  have K34 : Keep h0 h34 [a0_] := K18.wr W34 (Or.inl (List.mem_of_getElem? (i := 0) rfl))
  obtain ⟨T50, h50, X50, e50, W50, st50⟩ := putF X34 hx hZ hown (host := "") (Or.inl (hw _ (List.mem_of_getElem? (i := 22) rfl))) Via.refl e34 f37 f41 (Or.inl (hw _ (List.mem_of_getElem? (i := 23) rfl))) (hw _ (List.mem_of_getElem? (i := 2) rfl)) (ty := .int) (by decide) rfl rfl (g := (mkF m 19 #[rv a0_, iv u0, .val (.long u1), .second, .val (.long u2), .second, iv u3, .val (.long u4), .second, .val (.long u5), .second, iv u6] [(.int u3), (.ref a0_)])) rfl rfl (hb hby d3_19)
  have Fw50 := f37.same W50
  have f51 := f35.other W50 (Or.inr (slot_ne (Or.inl (hw _ (List.mem_of_getElem? (i := 17) rfl))) (Or.inl (hw _ (List.mem_of_getElem? (i := 23) rfl))) (by decide) (t := .boolean) (t' := .int) (by decide) (by decide)))
  have f52 := f36.other W50 (Or.inr (slot_ne (Or.inl (hw _ (List.mem_of_getElem? (i := 19) rfl))) (Or.inl (hw _ (List.mem_of_getElem? (i := 23) rfl))) (by decide) (t := .long) (t' := .int) (by decide) (by decide)))
  have f53 := Fw34.other W50 (Or.inr (slot_ne (Or.inl (hw _ (List.mem_of_getElem? (i := 21) rfl))) (Or.inl (hw _ (List.mem_of_getElem? (i := 23) rfl))) (by decide) (t := .long) (t' := .int) (by decide) (by decide)))
  have f54 := f38.other W50 (Or.inr (slot_ne (Or.inl (hw _ (List.mem_of_getElem? (i := 25) rfl))) (Or.inl (hw _ (List.mem_of_getElem? (i := 23) rfl))) (by decide) (t := .long) (t' := .int) (by decide) (by decide)))
  have f55 := f39.other W50 (Or.inr (slot_ne (Or.inl (hw _ (List.mem_of_getElem? (i := 27) rfl))) (Or.inl (hw _ (List.mem_of_getElem? (i := 23) rfl))) (by decide) (t := .long) (t' := .int) (by decide) (by decide)))
  have f56 := f40.other W50 (Or.inr (slot_ne (Or.inl (hw _ (List.mem_of_getElem? (i := 29) rfl))) (Or.inl (hw _ (List.mem_of_getElem? (i := 23) rfl))) (by decide) (t := .int) (t' := .int) (by decide) (by decide)))
  have f57 := f41.wr W50
  have N50 := Fr.snoc X50 N34 g0
  have Z50 : n0 ≤ h50.size := Nat.le_trans Z34 (Keep.of_wr W50).1
  have K50 : Keep h0 h50 [a0_] := K34.wr W50 (Or.inl (List.mem_of_getElem? (i := 0) rfl))
  obtain ⟨T66, h66, X66, e66, W66, st66⟩ := putF X50 hx hZ hown (host := "") (Or.inl (hw _ (List.mem_of_getElem? (i := 24) rfl))) Via.refl e50 f54 f57 (Or.inl (hw _ (List.mem_of_getElem? (i := 25) rfl))) (hw _ (List.mem_of_getElem? (i := 2) rfl)) (ty := .long) (by decide) rfl rfl (g := (mkF m 25 #[rv a0_, iv u0, .val (.long u1), .second, .val (.long u2), .second, iv u3, .val (.long u4), .second, .val (.long u5), .second, iv u6] [(.long u4), (.ref a0_)])) rfl rfl (hb hby d3_25)
  have Fw66 := f54.same W66
  have f67 := f51.other W66 (Or.inr (slot_ne (Or.inl (hw _ (List.mem_of_getElem? (i := 17) rfl))) (Or.inl (hw _ (List.mem_of_getElem? (i := 25) rfl))) (by decide) (t := .boolean) (t' := .long) (by decide) (by decide)))
  have f68 := f52.other W66 (Or.inr (slot_ne (Or.inl (hw _ (List.mem_of_getElem? (i := 19) rfl))) (Or.inl (hw _ (List.mem_of_getElem? (i := 25) rfl))) (by decide) (t := .long) (t' := .long) (by decide) (by decide)))
  have f69 := f53.other W66 (Or.inr (slot_ne (Or.inl (hw _ (List.mem_of_getElem? (i := 21) rfl))) (Or.inl (hw _ (List.mem_of_getElem? (i := 25) rfl))) (by decide) (t := .long) (t' := .long) (by decide) (by decide)))
  have f70 := Fw50.other W66 (Or.inr (slot_ne (Or.inl (hw _ (List.mem_of_getElem? (i := 23) rfl))) (Or.inl (hw _ (List.mem_of_getElem? (i := 25) rfl))) (by decide) (t := .int) (t' := .long) (by decide) (by decide)))
  have f71 := f55.other W66 (Or.inr (slot_ne (Or.inl (hw _ (List.mem_of_getElem? (i := 27) rfl))) (Or.inl (hw _ (List.mem_of_getElem? (i := 25) rfl))) (by decide) (t := .long) (t' := .long) (by decide) (by decide)))
  have f72 := f56.other W66 (Or.inr (slot_ne (Or.inl (hw _ (List.mem_of_getElem? (i := 29) rfl))) (Or.inl (hw _ (List.mem_of_getElem? (i := 25) rfl))) (by decide) (t := .int) (t' := .long) (by decide) (by decide)))
  have f73 := f57.wr W66
  have N66 := Fr.snoc X66 N50 g0
  have Z66 : n0 ≤ h66.size := Nat.le_trans Z50 (Keep.of_wr W66).1
  have K66 : Keep h0 h66 [a0_] := K50.wr W66 (Or.inl (List.mem_of_getElem? (i := 0) rfl))
  obtain ⟨T82, h82, X82, e82, W82, st82⟩ := putF X66 hx hZ hown (host := "") (Or.inl (hw _ (List.mem_of_getElem? (i := 26) rfl))) Via.refl e66 f71 f73 (Or.inl (hw _ (List.mem_of_getElem? (i := 27) rfl))) (hw _ (List.mem_of_getElem? (i := 2) rfl)) (ty := .long) (by decide) rfl rfl (g := (mkF m 31 #[rv a0_, iv u0, .val (.long u1), .second, .val (.long u2), .second, iv u3, .val (.long u4), .second, .val (.long u5), .second, iv u6] [(.long u5), (.ref a0_)])) rfl rfl (hb hby d3_31)
  have Fw82 := f71.same W82
  have f83 := f67.other W82 (Or.inr (slot_ne (Or.inl (hw _ (List.mem_of_getElem? (i := 17) rfl))) (Or.inl (hw _ (List.mem_of_getElem? (i := 27) rfl))) (by decide) (t := .boolean) (t' := .long) (by decide) (by decide)))
  have f84 := f68.other W82 (Or.inr (slot_ne (Or.inl (hw _ (List.mem_of_getElem? (i := 19) rfl))) (Or.inl (hw _ (List.mem_of_getElem? (i := 27) rfl))) (by decide) (t := .long) (t' := .long) (by decide) (by decide)))
  have f85 := f69.other W82 (Or.inr (slot_ne (Or.inl (hw _ (List.mem_of_getElem? (i := 21) rfl))) (Or.inl (hw _ (List.mem_of_getElem? (i := 27) rfl))) (by decide) (t := .long) (t' := .long) (by decide) (by decide)))
  have f86 := f70.other W82 (Or.inr (slot_ne (Or.inl (hw _ (List.mem_of_getElem? (i := 23) rfl))) (Or.inl (hw _ (List.mem_of_getElem? (i := 27) rfl))) (by decide) (t := .int) (t' := .long) (by decide) (by decide)))
  have f87 := Fw66.other W82 (Or.inr (slot_ne (Or.inl (hw _ (List.mem_of_getElem? (i := 25) rfl))) (Or.inl (hw _ (List.mem_of_getElem? (i := 27) rfl))) (by decide) (t := .long) (t' := .long) (by decide) (by decide)))
  have f88 := f72.other W82 (Or.inr (slot_ne (Or.inl (hw _ (List.mem_of_getElem? (i := 29) rfl))) (Or.inl (hw _ (List.mem_of_getElem? (i := 27) rfl))) (by decide) (t := .int) (t' := .long) (by decide) (by decide)))
  have f89 := f73.wr W82
  have N82 := Fr.snoc X82 N66 g0
  have Z82 : n0 ≤ h82.size := Nat.le_trans Z66 (Keep.of_wr W82).1
  have K82 : Keep h0 h82 [a0_] := K66.wr W82 (Or.inl (List.mem_of_getElem? (i := 0) rfl))
  obtain ⟨T98, h98, X98, e98, W98, st98⟩ := putF X82 hx hZ hown (host := "") (Or.inl (hw _ (List.mem_of_getElem? (i := 28) rfl))) Via.refl e82 f88 f89 (Or.inl (hw _ (List.mem_of_getElem? (i := 29) rfl))) (hw _ (List.mem_of_getElem? (i := 2) rfl)) (ty := .int) (by decide) rfl rfl (g := (mkF m 37 #[rv a0_, iv u0, .val (.long u1), .second, .val (.long u2), .second, iv u3, .val (.long u4), .second, .val (.long u5), .second, iv u6] [(.int u6), (.ref a0_)])) rfl rfl (hb hby d3_37)
  have Fw98 := f88.same W98
  have f99 := f83.other W98 (Or.inr (slot_ne (Or.inl (hw _ (List.mem_of_getElem? (i := 17) rfl))) (Or.inl (hw _ (List.mem_of_getElem? (i := 29) rfl))) (by decide) (t := .boolean) (t' := .int) (by decide) (by decide)))
  have f100 := f84.other W98 (Or.inr (slot_ne (Or.inl (hw _ (List.mem_of_getElem? (i := 19) rfl))) (Or.inl (hw _ (List.mem_of_getElem? (i := 29) rfl))) (by decide) (t := .long) (t' := .int) (by decide) (by decide)))
  have f101 := f85.other W98 (Or.inr (slot_ne (Or.inl (hw _ (List.mem_of_getElem? (i := 21) rfl))) (Or.inl (hw _ (List.mem_of_getElem? (i := 29) rfl))) (by decide) (t := .long) (t' := .int) (by decide) (by decide)))
  have f102 := f86.other W98 (Or.inr (slot_ne (Or.inl (hw _ (List.mem_of_getElem? (i := 23) rfl))) (Or.inl (hw _ (List.mem_of_getElem? (i := 29) rfl))) (by decide) (t := .int) (t' := .int) (by decide) (by decide)))
  have f103 := f87.other W98 (Or.inr (slot_ne (Or.inl (hw _ (List.mem_of_getElem? (i := 25) rfl))) (Or.inl (hw _ (List.mem_of_getElem? (i := 29) rfl))) (by decide) (t := .long) (t' := .int) (by decide) (by decide)))
  have f104 := Fw82.other W98 (Or.inr (slot_ne (Or.inl (hw _ (List.mem_of_getElem? (i := 27) rfl))) (Or.inl (hw _ (List.mem_of_getElem? (i := 29) rfl))) (by decide) (t := .long) (t' := .int) (by decide) (by decide)))
  have f105 := f89.wr W98
  have N98 := Fr.snoc X98 N82 g0
  have Z98 : n0 ≤ h98.size := Nat.le_trans Z82 (Keep.of_wr W98).1
  have K98 : Keep h0 h98 [a0_] := K82.wr W98 (Or.inl (List.mem_of_getElem? (i := 0) rfl))
  obtain ⟨fs, hr, hrun, hended, hW, hsame⟩ := X98.leave (v := none) (fun _ => rfl)
  refine ⟨_, _, S0 _ ?_, hrun, hended, _, _, rfl, ?_, ⟨_, rfl⟩, hW, hsame.mono (by decide) (by decide)⟩
  · skip
    show Steps p.tables e below (s₁.setTop (mkF m 0 #[rv a0_, iv u0, .val (.long u1), .second, .val (.long u2), .second, iv u3, .val (.long u4), .second, .val (.long u5), .second, iv u6] [])) _
    refine XS.aloadN X0.here hx rfl (hb hby d3_0) rfl rfl ?_
    show Steps p.tables e below (s₁.setTop (mkF m 1 #[rv a0_, iv u0, .val (.long u1), .second, .val (.long u2), .second, iv u3, .val (.long u4), .second, .val (.long u5), .second, iv u6] [(.ref a0_)])) _
    refine XS.iloadN X0.here hx rfl (hb hby d3_1) rfl ?_
    show Steps p.tables e below (s₁.setTop (mkF m 2 #[rv a0_, iv u0, .val (.long u1), .second, .val (.long u2), .second, iv u3, .val (.long u4), .second, .val (.long u5), .second, iv u6] [(.int u0), (.ref a0_)])) _
    refine st2 _ ?_
    show Steps p.tables e below (T2.setTop (mkF m 5 #[rv a0_, iv u0, .val (.long u1), .second, .val (.long u2), .second, iv u3, .val (.long u4), .second, .val (.long u5), .second, iv u6] [])) _
    refine XS.aloadN X2.here hx rfl (hb hby d3_5) rfl rfl ?_
    show Steps p.tables e below (T2.setTop (mkF m 6 #[rv a0_, iv u0, .val (.long u1), .second, .val (.long u2), .second, iv u3, .val (.long u4), .second, .val (.long u5), .second, iv u6] [(.ref a0_)])) _
    refine XS.lloadN X2.here hx rfl (hb hby d3_6) rfl ?_
    show Steps p.tables e below (T2.setTop (mkF m 7 #[rv a0_, iv u0, .val (.long u1), .second, .val (.long u2), .second, iv u3, .val (.long u4), .second, .val (.long u5), .second, iv u6] [(.long u1), (.ref a0_)])) _
    refine st18 _ ?_
    show Steps p.tables e below (T18.setTop (mkF m 10 #[rv a0_, iv u0, .val (.long u1), .second, .val (.long u2), .second, iv u3, .val (.long u4), .second, .val (.long u5), .second, iv u6] [])) _
    refine XS.aloadN X18.here hx rfl (hb hby d3_10) rfl rfl ?_
    show Steps p.tables e below (T18.setTop (mkF m 11 #[rv a0_, iv u0, .val (.long u1), .second, .val (.long u2), .second, iv u3, .val (.long u4), .second, .val (.long u5), .second, iv u6] [(.ref a0_)])) _
    refine XS.lload X18.here hx rfl (hb hby d3_11) rfl ?_
    show Steps p.tables e below (T18.setTop (mkF m 13 #[rv a0_, iv u0, .val (.long u1), .second, .val (.long u2), .second, iv u3, .val (.long u4), .second, .val (.long u5), .second, iv u6] [(.long u2), (.ref a0_)])) _
    refine st34 _ ?_
    show Steps p.tables e below (T34.setTop (mkF m 16 #[rv a0_, iv u0, .val (.long u1), .second, .val (.long u2), .second, iv u3, .val (.long u4), .second, .val (.long u5), .second, iv u6] [])) _
    refine XS.aloadN X34.here hx rfl (hb hby d3_16) rfl rfl ?_
    show Steps p.tables e below (T34.setTop (mkF m 17 #[rv a0_, iv u0, .val (.long u1), .second, .val (.long u2), .second, iv u3, .val (.long u4), .second, .val (.long u5), .second, iv u6] [(.ref a0_)])) _
    refine XS.iload X34.here hx rfl (hb hby d3_17) rfl ?_
    show Steps p.tables e below (T34.setTop (mkF m 19 #[rv a0_, iv u0, .val (.long u1), .second, .val (.long u2), .second, iv u3, .val (.long u4), .second, .val (.long u5), .second, iv u6] [(.int u3), (.ref a0_)])) _
    refine st50 _ ?_
    show Steps p.tables e below (T50.setTop (mkF m 22 #[rv a0_, iv u0, .val (.long u1), .second, .val (.long u2), .second, iv u3, .val (.long u4), .second, .val (.long u5), .second, iv u6] [])) _
    refine XS.aloadN X50.here hx rfl (hb hby d3_22) rfl rfl ?_
    show Steps p.tables e below (T50.setTop (mkF m 23 #[rv a0_, iv u0, .val (.long u1), .second, .val (.long u2), .second, iv u3, .val (.long u4), .second, .val (.long u5), .second, iv u6] [(.ref a0_)])) _
    refine XS.lload X50.here hx rfl (hb hby d3_23) rfl ?_
    show Steps p.tables e below (T50.setTop (mkF m 25 #[rv a0_, iv u0, .val (.long u1), .second, .val (.long u2), .second, iv u3, .val (.long u4), .second, .val (.long u5), .second, iv u6] [(.long u4), (.ref a0_)])) _
    refine st66 _ ?_
    show Steps p.tables e below (T66.setTop (mkF m 28 #[rv a0_, iv u0, .val (.long u1), .second, .val (.long u2), .second, iv u3, .val (.long u4), .second, .val (.long u5), .second, iv u6] [])) _
    refine XS.aloadN X66.here hx rfl (hb hby d3_28) rfl rfl ?_
    show Steps p.tables e below (T66.setTop (mkF m 29 #[rv a0_, iv u0, .val (.long u1), .second, .val (.long u2), .second, iv u3, .val (.long u4), .second, .val (.long u5), .second, iv u6] [(.ref a0_)])) _
    refine XS.lload X66.here hx rfl (hb hby d3_29) rfl ?_
    show Steps p.tables e below (T66.setTop (mkF m 31 #[rv a0_, iv u0, .val (.long u1), .second, .val (.long u2), .second, iv u3, .val (.long u4), .second, .val (.long u5), .second, iv u6] [(.long u5), (.ref a0_)])) _
    refine st82 _ ?_
    show Steps p.tables e below (T82.setTop (mkF m 34 #[rv a0_, iv u0, .val (.long u1), .second, .val (.long u2), .second, iv u3, .val (.long u4), .second, .val (.long u5), .second, iv u6] [])) _
    refine XS.aloadN X82.here hx rfl (hb hby d3_34) rfl rfl ?_
    show Steps p.tables e below (T82.setTop (mkF m 35 #[rv a0_, iv u0, .val (.long u1), .second, .val (.long u2), .second, iv u3, .val (.long u4), .second, .val (.long u5), .second, iv u6] [(.ref a0_)])) _
    refine XS.iload X82.here hx rfl (hb hby d3_35) rfl ?_
    show Steps p.tables e below (T82.setTop (mkF m 37 #[rv a0_, iv u0, .val (.long u1), .second, .val (.long u2), .second, iv u3, .val (.long u4), .second, .val (.long u5), .second, iv u6] [(.int u6), (.ref a0_)])) _
    refine st98 _ ?_
    show Steps p.tables e below (T98.setTop (mkF m 40 #[rv a0_, iv u0, .val (.long u1), .second, .val (.long u2), .second, iv u3, .val (.long u4), .second, .val (.long u5), .second, iv u6] [])) _
    exact X98.returnOut hx Bd.returns (hb hby d3_40) hr
  · show QSet Z a0_ u0 u1 u2 u3 u4 u5 u6 o0 o1 o2 o3 o4 o5 o6 h0 n0 _ T98.heap _
    rw [e98]
    exact ⟨rfl, N98, K98, ⟨f105, f99, f100, f101, f102, f103, f104, Fw98⟩⟩
theorem d5_0 : decode prog_11_method_2_code 0 = .ok (.aload_n 0, 1) := by decide +kernel
theorem d5_1 : decode prog_11_method_2_code 1 = .ok (.invokespecial 1, 3) := by decide +kernel
theorem d5_4 : decode prog_11_method_2_code 4 = .ok (.aload_n 0, 1) := by decide +kernel
theorem d5_5 : decode prog_11_method_2_code 5 = .ok (.iload_n 1, 1) := by decide +kernel
theorem d5_6 : decode prog_11_method_2_code 6 = .ok (.lload_n 2, 1) := by decide +kernel
theorem d5_7 : decode prog_11_method_2_code 7 = .ok (.lload 4, 2) := by decide +kernel
theorem d5_9 : decode prog_11_method_2_code 9 = .ok (.iload 6, 2) := by decide +kernel
theorem d5_11 : decode prog_11_method_2_code 11 = .ok (.lload 7, 2) := by decide +kernel
theorem d5_13 : decode prog_11_method_2_code 13 = .ok (.lload 9, 2) := by decide +kernel
theorem d5_15 : decode prog_11_method_2_code 15 = .ok (.iload 11, 2) := by decide +kernel
theorem d5_17 : decode prog_11_method_2_code 17 = .ok (.invokevirtual 7, 3) := by decide +kernel
theorem pd_0 : parseMethodDescriptor "(ZJJIJJI)V" = some ⟨[.boolean, .long, .long, .int, .long, .long, .int], none⟩ := by decide +kernel
theorem d5_20 : decode prog_11_method_2_code 20 = .ok (.return_, 1) := by decide +kernel
def QI7 (Z : State) (a0_ : Addr) (u0 : Int32) (u1 : Int64) (u2 : Int64) (u3 : Int32) (u4 : Int64) (u5 : Int64) (u6 : Int32) (o0 : Int32) (o1 : Int64) (o2 : Int64) (o3 : Int32) (o4 : Int64) (o5 : Int64) (o6 : Int32) (h0 : Heap) (n0 : Nat) (v : Option Value) (h : Heap) (L : List Loc) : Prop := v = none ∧ Fr n0 L ∧ Keep h0 h [a0_] ∧ own_Fl Z h a0_ (nar .boolean u0) u1 u2 u3 u4 u5 u6
theorem ef_rmI7 (m : MethodId) (a0_ : Addr) (u0 : Int32) (u1 : Int64) (u2 : Int64) (u3 : Int32) (u4 : Int64) (u5 : Int64) (u6 : Int32) : entryFrame m #[(.ref a0_), (.int u0), (.long u1), (.long u2), (.int u3), (.long u4), (.long u5), (.int u6)] 12 = mkF m 0 #[rv a0_, iv u0, .val (.long u1), .second, .val (.long u2), .second, iv u3, .val (.long u4), .second, .val (.long u5), .second, iv u6] [] := by first | (simp [entryFrame, mkF, argsToLocals, Value.category]; done) | rfl
set_option maxRecDepth 65536 in
set_option maxHeartbeats 40000000 in
theorem rmI7 (l : Launch) (Z : State) (a0 : Array Value) (hw : ∀ d ∈ tables_1, d.before a0 Z = true) (ws : List Jvm.Cond) (a0_ : Addr) (u0 : Int32) (u1 : Int64) (u2 : Int64) (u3 : Int32) (u4 : Int64) (u5 : Int64) (u6 : Int32) (o0 : Int32) (o1 : Int64) (o2 : Int64) (o3 : Int32) (o4 : Int64) (o5 : Int64) (o6 : Int32) (h0 : Heap) (n0 : Nat) (Z0 : n0 ≤ h0.size) (B0 : own_Fl Z h0 a0_ o0 o1 o2 o3 o4 o5 o6) (g0 : n0 ≤ a0_) :
    MetFree l (⟨"com/example/tracewell/tracewell/capture/Flow", "<init>", "(ZJJIJJI)V"⟩ : MethodName) (head1 (Jvm.Cond.code (⟨"com/example/tracewell/tracewell/capture/Flow", "<init>", "(ZJJIJJI)V"⟩ : MethodName) prog_11_method_2_code 12 none :: ws) ({ frames := 1, cells := 0, slots := 0, locals := 23 } : Room)) (fun a U => a = #[(.ref a0_), (.int u0), (.long u1), (.long u2), (.int u3), (.long u4), (.long u5), (.int u6)] ∧ Z.Warmed39 U.vm ∧ U.heap = h0) (fun _ _ _ _ _ => True) (fun _ U o U' => ∃ v L, o = .returned v ∧ QI7 Z a0_ u0 u1 u2 u3 u4 u5 u6 o0 o1 o2 o3 o4 o5 o6 h0 n0 v U'.heap L ∧ FrameEnd U o U' L ({ frames := 1, cells := 0, slots := 0, locals := 23 } : Room).cells ({ frames := 1, cells := 0, slots := 0, locals := 23 } : Room).slots) := by
  refine MetFree.of_bodySF (plainFor_of_name pn_0) hisR ?_
  intro p e s m args below meth c s₁ Bd hml0 hP hK
  obtain ⟨rfl, hZ, hh⟩ := hP
  have hx := Bd.exec
  have hby := Bd.bytes
  have hml : c.maxLocals = 12 := hml0
  have hown : s.vm.findClass "com/example/tracewell/tracewell/capture/Flow" = some m.cls := findClass_of_methodNamed Bd.named
  have hnm := (name_of_methodNamed Bd.named Bd.method).1
  have X0 : Stand p l e ({ frames := 1, cells := 0, slots := 0, locals := 23 } : Room) s m #[(.ref a0_), (.int u0), (.long u1), (.long u2), (.int u3), (.long u4), (.long u5), (.int u6)] below meth c s₁ [] 0 0 := Stand.of_body Bd
  have e0 : s₁.heap = h0 := by rw [← hh, Bd.state]; rfl
  have N0 := Fr.nil n0
  have S0 : ∀ t, Steps p.tables e below (s₁.setTop (mkF m 0 #[rv a0_, iv u0, .val (.long u1), .second, .val (.long u2), .second, iv u3, .val (.long u4), .second, .val (.long u5), .second, iv u6] [])) t → Steps p.tables e below (s₁.setTop (entryFrame m #[(.ref a0_), (.int u0), (.long u1), (.long u2), (.int u3), (.long u4), (.long u5), (.int u6)] 12)) t := fun t k => castTop (ef_rmI7 m a0_ u0 u1 u2 u3 u4 u5 u6) k
  have K0 : Keep h0 h0 [a0_] := Keep.refl _ _
  have E0 := B0.1
  obtain ⟨T1, X1, e1, st1⟩ := initO X0 hx hZ hown (hw _ (List.mem_of_getElem? (i := 7) rfl)) (hw _ (List.mem_of_getElem? (i := 8) rfl)) (hw _ (List.mem_of_getElem? (i := 9) rfl)) e0 (g := (mkF m 1 #[rv a0_, iv u0, .val (.long u1), .second, .val (.long u2), .second, iv u3, .val (.long u4), .second, .val (.long u5), .second, iv u6] [(.ref a0_)])) rfl (by rw [hml]; rfl) rfl (hb hby d5_1) (by decide) (W := 0) (by show 2 * 0 + _ ≤ _; exact Nat.le_of_eq rfl) (by decide)
  obtain ⟨cq2, kq2, q2a, q2b, q2c⟩ := isOf hZ e1 E0
  obtain ⟨_, _, ⟨T2, L2, k2, n2⟩, -, X2, ⟨Lc2, hQ2, l2, y2, z2⟩, st2⟩ := X1.virtualBack hx (y := (⟨"com/example/tracewell/tracewell/capture/Flow", "set", "(ZJJIJJI)V"⟩ : MethodName)) (z := (⟨"com/example/tracewell/tracewell/capture/Flow", "set", "(ZJJIJJI)V"⟩ : MethodName)) hown (mvT hZ (hw _ (List.mem_of_getElem? (i := 39) rfl))) (mvT hZ (hw _ (List.mem_of_getElem? (i := 12) rfl))) (notFace_of_selects (args := #[]) (mvT hZ (hw _ (List.mem_of_getElem? (i := 14) rfl)))) (mvT hZ (hw _ (List.mem_of_getElem? (i := 14) rfl))) (mvT hZ (hw _ (List.mem_of_getElem? (i := 13) rfl))) (by decide) (backOf (W := 0) (rmSet l Z a0 hw [] a0_ u0 u1 u2 u3 u4 u5 u6 o0 o1 o2 o3 o4 o5 o6 h0 n0 Z0 B0 g0) hZ (hw _ (List.mem_of_getElem? (i := 15) rfl)) (hw _ (List.mem_of_getElem? (i := 3) rfl)) (by decide) (by decide)) q2a q2c (g := (mkF m 17 #[rv a0_, iv u0, .val (.long u1), .second, .val (.long u2), .second, iv u3, .val (.long u4), .second, .val (.long u5), .second, iv u6] [(.int u6), (.long u5), (.long u4), (.int u3), (.long u2), (.long u1), (.int u0), (.ref a0_)])) rfl (by rw [hml]; rfl) (Steps.refl _) (argsL := [(.int u0), (.long u1), (.long u2), (.int u3), (.long u4), (.long u5), (.int u6)]) (rest := []) (lenOf pd_0 rfl) rfl (by show 2 * 0 + _ ≤ _; exact Nat.le_of_eq rfl) (hb hby d5_17) (fun _ _ => ⟨rfl, e1, (by decide : 0 + 0 ≤ _), (by decide : 0 + 0 ≤ _)⟩)
  dsimp only [Pt.U, Pt.locs, Pt.cells, Pt.slots] at X2 l2 y2 z2 st2 hQ2
  subst l2 y2 z2
  obtain ⟨rfl, Nq2, Kq2, Bq2⟩ := hQ2
  have N2 := Fr.app N0 Nq2
  have Z2 : n0 ≤ T2.heap.size := Nat.le_trans Z0 Kq2.1
  have K2 : Keep h0 T2.heap [a0_] := K0.trans Kq2 (allS (Or.inl (List.mem_of_getElem? (i := 0) rfl)) all0)
  have f4 := E0.keep Kq2
  obtain ⟨fs, hr, hrun, hended, hW, hsame⟩ := X2.leave (v := none) (fun _ => rfl)
  refine ⟨_, _, S0 _ ?_, hrun, hended, _, _, rfl, ?_, ⟨_, rfl⟩, hW, hsame.mono (by decide) (by decide)⟩
  · skip
    show Steps p.tables e below (s₁.setTop (mkF m 0 #[rv a0_, iv u0, .val (.long u1), .second, .val (.long u2), .second, iv u3, .val (.long u4), .second, .val (.long u5), .second, iv u6] [])) _
    refine XS.aloadN X0.here hx rfl (hb hby d5_0) rfl rfl ?_
    show Steps p.tables e below (s₁.setTop (mkF m 1 #[rv a0_, iv u0, .val (.long u1), .second, .val (.long u2), .second, iv u3, .val (.long u4), .second, .val (.long u5), .second, iv u6] [(.ref a0_)])) _
    refine st1 _ ?_
    show Steps p.tables e below (T1.setTop (mkF m 4 #[rv a0_, iv u0, .val (.long u1), .second, .val (.long u2), .second, iv u3, .val (.long u4), .second, .val (.long u5), .second, iv u6] [])) _
    refine XS.aloadN X1.here hx rfl (hb hby d5_4) rfl rfl ?_
    show Steps p.tables e below (T1.setTop (mkF m 5 #[rv a0_, iv u0, .val (.long u1), .second, .val (.long u2), .second, iv u3, .val (.long u4), .second, .val (.long u5), .second, iv u6] [(.ref a0_)])) _
    refine XS.iloadN X1.here hx rfl (hb hby d5_5) rfl ?_
    show Steps p.tables e below (T1.setTop (mkF m 6 #[rv a0_, iv u0, .val (.long u1), .second, .val (.long u2), .second, iv u3, .val (.long u4), .second, .val (.long u5), .second, iv u6] [(.int u0), (.ref a0_)])) _
    refine XS.lloadN X1.here hx rfl (hb hby d5_6) rfl ?_
    show Steps p.tables e below (T1.setTop (mkF m 7 #[rv a0_, iv u0, .val (.long u1), .second, .val (.long u2), .second, iv u3, .val (.long u4), .second, .val (.long u5), .second, iv u6] [(.long u1), (.int u0), (.ref a0_)])) _
    refine XS.lload X1.here hx rfl (hb hby d5_7) rfl ?_
    show Steps p.tables e below (T1.setTop (mkF m 9 #[rv a0_, iv u0, .val (.long u1), .second, .val (.long u2), .second, iv u3, .val (.long u4), .second, .val (.long u5), .second, iv u6] [(.long u2), (.long u1), (.int u0), (.ref a0_)])) _
    refine XS.iload X1.here hx rfl (hb hby d5_9) rfl ?_
    show Steps p.tables e below (T1.setTop (mkF m 11 #[rv a0_, iv u0, .val (.long u1), .second, .val (.long u2), .second, iv u3, .val (.long u4), .second, .val (.long u5), .second, iv u6] [(.int u3), (.long u2), (.long u1), (.int u0), (.ref a0_)])) _
    refine XS.lload X1.here hx rfl (hb hby d5_11) rfl ?_
    show Steps p.tables e below (T1.setTop (mkF m 13 #[rv a0_, iv u0, .val (.long u1), .second, .val (.long u2), .second, iv u3, .val (.long u4), .second, .val (.long u5), .second, iv u6] [(.long u4), (.int u3), (.long u2), (.long u1), (.int u0), (.ref a0_)])) _
    refine XS.lload X1.here hx rfl (hb hby d5_13) rfl ?_
    show Steps p.tables e below (T1.setTop (mkF m 15 #[rv a0_, iv u0, .val (.long u1), .second, .val (.long u2), .second, iv u3, .val (.long u4), .second, .val (.long u5), .second, iv u6] [(.long u5), (.long u4), (.int u3), (.long u2), (.long u1), (.int u0), (.ref a0_)])) _
    refine XS.iload X1.here hx rfl (hb hby d5_15) rfl ?_
    show Steps p.tables e below (T1.setTop (mkF m 17 #[rv a0_, iv u0, .val (.long u1), .second, .val (.long u2), .second, iv u3, .val (.long u4), .second, .val (.long u5), .second, iv u6] [(.int u6), (.long u5), (.long u4), (.int u3), (.long u2), (.long u1), (.int u0), (.ref a0_)])) _
    refine st2.trans ?_
    show Steps p.tables e below (T2.setTop (mkF m 20 #[rv a0_, iv u0, .val (.long u1), .second, .val (.long u2), .second, iv u3, .val (.long u4), .second, .val (.long u5), .second, iv u6] [])) _
    exact X2.returnOut hx Bd.returns (hb hby d5_20) hr
  · show QI7 Z a0_ u0 u1 u2 u3 u4 u5 u6 o0 o1 o2 o3 o4 o5 o6 h0 n0 _ T2.heap _
    exact ⟨rfl, N2, K2, Bq2⟩
theorem d4_0 : decode prog_11_method_5_code 0 = .ok (.new 8, 3) := by decide +kernel
theorem d4_3 : decode prog_11_method_5_code 3 = .ok (.dup, 1) := by decide +kernel
theorem d4_4 : decode prog_11_method_5_code 4 = .ok (.aload_n 0, 1) := by decide +kernel
theorem d4_5 : decode prog_11_method_5_code 5 = .ok (.getfield 13, 3) := by decide +kernel
theorem d4_8 : decode prog_11_method_5_code 8 = .ok (.aload_n 0, 1) := by decide +kernel
theorem d4_9 : decode prog_11_method_5_code 9 = .ok (.getfield 28, 3) := by decide +kernel
theorem d4_12 : decode prog_11_method_5_code 12 = .ok (.aload_n 0, 1) := by decide +kernel
theorem d4_13 : decode prog_11_method_5_code 13 = .ok (.getfield 31, 3) := by decide +kernel
theorem d4_16 : decode prog_11_method_5_code 16 = .ok (.aload_n 0, 1) := by decide +kernel
theorem d4_17 : decode prog_11_method_5_code 17 = .ok (.getfield 34, 3) := by decide +kernel
theorem d4_20 : decode prog_11_method_5_code 20 = .ok (.aload_n 0, 1) := by decide +kernel
theorem d4_21 : decode prog_11_method_5_code 21 = .ok (.getfield 17, 3) := by decide +kernel
theorem d4_24 : decode prog_11_method_5_code 24 = .ok (.aload_n 0, 1) := by decide +kernel
theorem d4_25 : decode prog_11_method_5_code 25 = .ok (.getfield 21, 3) := by decide +kernel
theorem d4_28 : decode prog_11_method_5_code 28 = .ok (.aload_n 0, 1) := by decide +kernel
theorem d4_29 : decode prog_11_method_5_code 29 = .ok (.getfield 24, 3) := by decide +kernel
theorem d4_32 : decode prog_11_method_5_code 32 = .ok (.invokespecial 37, 3) := by decide +kernel
theorem d4_35 : decode prog_11_method_5_code 35 = .ok (.areturn, 1) := by decide +kernel
def QRev (Z : State) (a0_ : Addr) (o0 : Int32) (o1 : Int64) (o2 : Int64) (o3 : Int32) (o4 : Int64) (o5 : Int64) (o6 : Int32) (h0 : Heap) (n0 : Nat) (v : Option Value) (h : Heap) (L : List Loc) : Prop := ∃ b : Addr, v = some (.ref b) ∧ Fr n0 L ∧ Keep h0 h [] ∧ n0 ≤ b ∧ h0.size ≤ b ∧ own_Fl Z h b (nar .boolean o0) o4 o5 o6 o1 o2 o3
theorem ef_rmRev (m : MethodId) (a0_ : Addr) : entryFrame m #[(.ref a0_)] 1 = mkF m 0 #[rv a0_] [] := by first | (simp [entryFrame, mkF, argsToLocals, Value.category]; done) | rfl
set_option maxRecDepth 65536 in
set_option maxHeartbeats 40000000 in
theorem rmRev (l : Launch) (Z : State) (a0 : Array Value) (hw : ∀ d ∈ tables_1, d.before a0 Z = true) (ws : List Jvm.Cond) (a0_ : Addr) (o0 : Int32) (o1 : Int64) (o2 : Int64) (o3 : Int32) (o4 : Int64) (o5 : Int64) (o6 : Int32) (h0 : Heap) (n0 : Nat) (Z0 : n0 ≤ h0.size) (B0 : own_Fl Z h0 a0_ o0 o1 o2 o3 o4 o5 o6) :
    MetFree l (⟨"com/example/tracewell/tracewell/capture/Flow", "reversed", "()Lcom/example/tracewell/tracewell/capture/Flow;"⟩ : MethodName) (head1 (Jvm.Cond.code (⟨"com/example/tracewell/tracewell/capture/Flow", "reversed", "()Lcom/example/tracewell/tracewell/capture/Flow;"⟩ : MethodName) prog_11_method_5_code 1 (some (.object "com/example/tracewell/tracewell/capture/Flow")) :: ws) ({ frames := 2, cells := 1, slots := 7, locals := 47 } : Room)) (fun a U => a = #[(.ref a0_)] ∧ Z.Warmed39 U.vm ∧ U.heap = h0) (fun _ _ _ _ _ => True) (fun _ U o U' => ∃ v L, o = .returned v ∧ QRev Z a0_ o0 o1 o2 o3 o4 o5 o6 h0 n0 v U'.heap L ∧ FrameEnd U o U' L ({ frames := 2, cells := 1, slots := 7, locals := 47 } : Room).cells ({ frames := 2, cells := 1, slots := 7, locals := 47 } : Room).slots) := by
  refine MetFree.of_bodySF (plainFor_of_name pn_0) hisR ?_
  intro p e s m args below meth c s₁ Bd hml0 hP hK
  obtain ⟨rfl, hZ, hh⟩ := hP
  have hx := Bd.exec
  have hby := Bd.bytes
  have hml : c.maxLocals = 1 := hml0
  have hown : s.vm.findClass "com/example/tracewell/tracewell/capture/Flow" = some m.cls := findClass_of_methodNamed Bd.named
  have hnm := (name_of_methodNamed Bd.named Bd.method).1
  have X0 : Stand p l e ({ frames := 2, cells := 1, slots := 7, locals := 47 } : Room) s m #[(.ref a0_)] below meth c s₁ [] 0 0 := Stand.of_body Bd
  have e0 : s₁.heap = h0 := by rw [← hh, Bd.state]; rfl
  have N0 := Fr.nil n0
  have S0 : ∀ t, Steps p.tables e below (s₁.setTop (mkF m 0 #[rv a0_] [])) t → Steps p.tables e below (s₁.setTop (entryFrame m #[(.ref a0_)] 1)) t := fun t k => castTop (ef_rmRev m a0_) k
  obtain ⟨oe1, of1_0, of1_1, of1_2, of1_3, of1_4, of1_5, of1_6⟩ := id B0
  have K0 : Keep h0 h0 [] := Keep.refl _ _
  obtain ⟨T2, h2, X2, e2, E2, A2, D2, -, st2⟩ := newO X0 hx hZ hown (hw _ (List.mem_of_getElem? (i := 35) rfl)) (hw _ (List.mem_of_getElem? (i := 2) rfl)) (hw _ (List.mem_of_getElem? (i := 3) rfl)) e0 (g := (mkF m 0 #[rv a0_] [])) rfl (hb hby d4_0) (by decide) (by decide)
  obtain ⟨b2, g2⟩ : ∃ z, z = h0.size := ⟨_, rfl⟩
  rw [← g2] at A2 D2 st2
  have ge_b2 : n0 ≤ b2 := Nat.le_trans Z0 (Nat.le_of_eq g2.symm)
  have ne_a0__b2 : a0_ ≠ b2 := Nat.ne_of_lt (Nat.lt_of_lt_of_le (oe1).lt (Nat.le_of_eq g2.symm))
  have f3 := oe1.ext E2
  have f4 := of1_0.ext E2
  have f5 := of1_1.ext E2
  have f6 := of1_2.ext E2
  have f7 := of1_3.ext E2
  have f8 := of1_4.ext E2
  have f9 := of1_5.ext E2
  have f10 := of1_6.ext E2
  have F2_ipv6 : Fld Z h2 b2 "com/example/tracewell/tracewell/capture/Flow" "ipv6" "Z" (.int (0 : Int32)) := D2 (Or.inl (hw _ (List.mem_of_getElem? (i := 17) rfl))) (ty := .boolean) (by decide)
  have F2_sourceHigh : Fld Z h2 b2 "com/example/tracewell/tracewell/capture/Flow" "sourceHigh" "J" (.long (0 : Int64)) := D2 (Or.inl (hw _ (List.mem_of_getElem? (i := 19) rfl))) (ty := .long) (by decide)
  have F2_sourceLow : Fld Z h2 b2 "com/example/tracewell/tracewell/capture/Flow" "sourceLow" "J" (.long (0 : Int64)) := D2 (Or.inl (hw _ (List.mem_of_getElem? (i := 21) rfl))) (ty := .long) (by decide)
  have F2_sourcePort : Fld Z h2 b2 "com/example/tracewell/tracewell/capture/Flow" "sourcePort" "I" (.int (0 : Int32)) := D2 (Or.inl (hw _ (List.mem_of_getElem? (i := 23) rfl))) (ty := .int) (by decide)
  have F2_destinationHigh : Fld Z h2 b2 "com/example/tracewell/tracewell/capture/Flow" "destinationHigh" "J" (.long (0 : Int64)) := D2 (Or.inl (hw _ (List.mem_of_getElem? (i := 25) rfl))) (ty := .long) (by decide)
  have F2_destinationLow : Fld Z h2 b2 "com/example/tracewell/tracewell/capture/Flow" "destinationLow" "J" (.long (0 : Int64)) := D2 (Or.inl (hw _ (List.mem_of_getElem? (i := 27) rfl))) (ty := .long) (by decide)
  have F2_destinationPort : Fld Z h2 b2 "com/example/tracewell/tracewell/capture/Flow" "destinationPort" "I" (.int (0 : Int32)) := D2 (Or.inl (hw _ (List.mem_of_getElem? (i := 29) rfl))) (ty := .int) (by decide)
  have Z2 : n0 ≤ h2.size := Nat.le_trans Z0 E2.1
  have K2 : Keep h0 h2 [] := K0.ext E2
  have sz_b2 : h0.size ≤ b2 := Nat.le_trans K0.1 (Nat.le_of_eq g2.symm)
  obtain ⟨T11, X11, e11, st11⟩ := getF X2 hx hZ hown (host := "") (Or.inl (hw _ (List.mem_of_getElem? (i := 16) rfl))) Via.refl e2 f4 (g := (mkF m 5 #[rv a0_] [(.ref a0_), (.ref b2), (.ref b2)])) rfl rfl (hb hby d4_5)
  obtain ⟨T12, X12, e12, st12⟩ := getF X11 hx hZ hown (host := "") (Or.inl (hw _ (List.mem_of_getElem? (i := 24) rfl))) Via.refl e11 f8 (g := (mkF m 9 #[rv a0_] [(.ref a0_), (.int o0), (.ref b2), (.ref b2)])) rfl rfl (hb hby d4_9)
  obtain ⟨T13, X13, e13, st13⟩ := getF X12 hx hZ hown (host := "") (Or.inl (hw _ (List.mem_of_getElem? (i := 26) rfl))) Via.refl e12 f9 (g := (mkF m 13 #[rv a0_] [(.ref a0_), (.long o4), (.int o0), (.ref b2), (.ref b2)])) rfl rfl (hb hby d4_13)
  obtain ⟨T14, X14, e14, st14⟩ := getF X13 hx hZ hown (host := "") (Or.inl (hw _ (List.mem_of_getElem? (i := 28) rfl))) Via.refl e13 f10 (g := (mkF m 17 #[rv a0_] [(.ref a0_), (.long o5), (.long o4), (.int o0), (.ref b2), (.ref b2)])) rfl rfl (hb hby d4_17)
  obtain ⟨T15, X15, e15, st15⟩ := getF X14 hx hZ hown (host := "") (Or.inl (hw _ (List.mem_of_getElem? (i := 18) rfl))) Via.refl e14 f5 (g := (mkF m 21 #[rv a0_] [(.ref a0_), (.int o6), (.long o5), (.long o4), (.int o0), (.ref b2), (.ref b2)])) rfl rfl (hb hby d4_21)
  obtain ⟨T16, X16, e16, st16⟩ := getF X15 hx hZ hown (host := "") (Or.inl (hw _ (List.mem_of_getElem? (i := 20) rfl))) Via.refl e15 f6 (g := (mkF m 25 #[rv a0_] [(.ref a0_), (.long o1), (.int o6), (.long o5), (.long o4), (.int o0), (.ref b2), (.ref b2)])) rfl rfl (hb hby d4_25)
  obtain ⟨T17, X17, e17, st17⟩ := getF X16 hx hZ hown (host := "") (Or.inl (hw _ (List.mem_of_getElem? (i := 22) rfl))) Via.refl e16 f7 (g := (mkF m 29 #[rv a0_] [(.ref a0_), (.long o2), (.long o1), (.int o6), (.long o5), (.long o4), (.int o0), (.ref b2), (.ref b2)])) rfl rfl (hb hby d4_29)
  have B18 : own_Fl Z h2 b2 (0 : Int32) (0 : Int64) (0 : Int64) (0 : Int32) (0 : Int64) (0 : Int64) (0 : Int32) := ⟨A2, F2_ipv6, F2_sourceHigh, F2_sourceLow, F2_sourcePort, F2_destinationHigh, F2_destinationLow, F2_destinationPort⟩
  obtain ⟨_, _, ⟨T19, L19, k19, n19⟩, -, X19, ⟨Lc19, hQ19, l19, y19, z19⟩, st19⟩ := X17.specialBack hx (y := (⟨"com/example/tracewell/tracewell/capture/Flow", "<init>", "(ZJJIJJI)V"⟩ : MethodName)) rfl hown (mvT hZ (hw _ (List.mem_of_getElem? (i := 36) rfl))) (mvT hZ (hw _ (List.mem_of_getElem? (i := 37) rfl))) (mvT hZ (hw _ (List.mem_of_getElem? (i := 38) rfl))) (by decide) (backOf (W := 1) (rmI7 l Z a0 hw [] b2 o0 o4 o5 o6 o1 o2 o3 (0 : Int32) (0 : Int64) (0 : Int64) (0 : Int32) (0 : Int64) (0 : Int64) (0 : Int32) h2 n0 Z2 B18 ge_b2) hZ (hw _ (List.mem_of_getElem? (i := 38) rfl)) (hw _ (List.mem_of_getElem? (i := 3) rfl)) (by decide) (by decide)) (g := (mkF m 32 #[rv a0_] [(.int o3), (.long o2), (.long o1), (.int o6), (.long o5), (.long o4), (.int o0), (.ref b2), (.ref b2)])) rfl (by rw [hml]; rfl) (Steps.refl _) (a := b2) (argsL := [(.int o0), (.long o4), (.long o5), (.int o6), (.long o1), (.long o2), (.int o3)]) (rest := [(.ref b2)]) (lenOf pd_0 rfl) rfl (by show 2 * 0 + _ ≤ _; exact Nat.le_of_eq rfl) (hb hby d4_32) (fun _ _ => ⟨rfl, e17, (by decide : 1 + 0 ≤ _), (by decide : 7 + 0 ≤ _)⟩)
  dsimp only [Pt.U, Pt.locs, Pt.cells, Pt.slots] at X19 l19 y19 z19 st19 hQ19
  subst l19 y19 z19
  obtain ⟨rfl, Nq19, Kq19, Bq19⟩ := hQ19
  have N19 := Fr.app N0 Nq19
  have Z19 : n0 ≤ T19.heap.size := Nat.le_trans Z2 Kq19.1
  have K19 : Keep h0 T19.heap [] := K2.trans Kq19 (allS (Or.inr sz_b2) all0)
  have f20 := f3.keep Kq19
  have f21 := f4.keep Kq19 (ninS ne_a0__b2 nin0)
  have f22 := f5.keep Kq19 (ninS ne_a0__b2 nin0)
  have f23 := f6.keep Kq19 (ninS ne_a0__b2 nin0)
  have f24 := f7.keep Kq19 (ninS ne_a0__b2 nin0)
  have f25 := f8.keep Kq19 (ninS ne_a0__b2 nin0)
  have f26 := f9.keep Kq19 (ninS ne_a0__b2 nin0)
  have f27 := f10.keep Kq19 (ninS ne_a0__b2 nin0)
  have f28 := A2.keep Kq19
  obtain ⟨fs, hr, hrun, hended, hW, hsame⟩ := X19.leave (v := some (.ref b2)) (fun h => by rw [Bd.returns] at h; cases h)
  refine ⟨_, _, S0 _ ?_, hrun, hended, _, _, rfl, ?_, ⟨_, rfl⟩, hW, hsame.mono (by decide) (by decide)⟩
  · skip
    show Steps p.tables e below (s₁.setTop (mkF m 0 #[rv a0_] [])) _
    refine st2 _ ?_
    show Steps p.tables e below (T2.setTop (mkF m 3 #[rv a0_] [(.ref b2)])) _
    refine XS.dup X2.here hx rfl (hb hby d4_3) rfl rfl ?_
    show Steps p.tables e below (T2.setTop (mkF m 4 #[rv a0_] [(.ref b2), (.ref b2)])) _
    refine XS.aloadN X2.here hx rfl (hb hby d4_4) rfl rfl ?_
    show Steps p.tables e below (T2.setTop (mkF m 5 #[rv a0_] [(.ref a0_), (.ref b2), (.ref b2)])) _
    refine st11 _ ?_
    show Steps p.tables e below (T11.setTop (mkF m 8 #[rv a0_] [(.int o0), (.ref b2), (.ref b2)])) _
    refine XS.aloadN X11.here hx rfl (hb hby d4_8) rfl rfl ?_
    show Steps p.tables e below (T11.setTop (mkF m 9 #[rv a0_] [(.ref a0_), (.int o0), (.ref b2), (.ref b2)])) _
    refine st12 _ ?_
    show Steps p.tables e below (T12.setTop (mkF m 12 #[rv a0_] [(.long o4), (.int o0), (.ref b2), (.ref b2)])) _
    refine XS.aloadN X12.here hx rfl (hb hby d4_12) rfl rfl ?_
    show Steps p.tables e below (T12.setTop (mkF m 13 #[rv a0_] [(.ref a0_), (.long o4), (.int o0), (.ref b2), (.ref b2)])) _
    refine st13 _ ?_
    show Steps p.tables e below (T13.setTop (mkF m 16 #[rv a0_] [(.long o5), (.long o4), (.int o0), (.ref b2), (.ref b2)])) _
    refine XS.aloadN X13.here hx rfl (hb hby d4_16) rfl rfl ?_
    show Steps p.tables e below (T13.setTop (mkF m 17 #[rv a0_] [(.ref a0_), (.long o5), (.long o4), (.int o0), (.ref b2), (.ref b2)])) _
    refine st14 _ ?_
    show Steps p.tables e below (T14.setTop (mkF m 20 #[rv a0_] [(.int o6), (.long o5), (.long o4), (.int o0), (.ref b2), (.ref b2)])) _
    refine XS.aloadN X14.here hx rfl (hb hby d4_20) rfl rfl ?_
    show Steps p.tables e below (T14.setTop (mkF m 21 #[rv a0_] [(.ref a0_), (.int o6), (.long o5), (.long o4), (.int o0), (.ref b2), (.ref b2)])) _
    refine st15 _ ?_
    show Steps p.tables e below (T15.setTop (mkF m 24 #[rv a0_] [(.long o1), (.int o6), (.long o5), (.long o4), (.int o0), (.ref b2), (.ref b2)])) _
    refine XS.aloadN X15.here hx rfl (hb hby d4_24) rfl rfl ?_
    show Steps p.tables e below (T15.setTop (mkF m 25 #[rv a0_] [(.ref a0_), (.long o1), (.int o6), (.long o5), (.long o4), (.int o0), (.ref b2), (.ref b2)])) _
    refine st16 _ ?_
    show Steps p.tables e below (T16.setTop (mkF m 28 #[rv a0_] [(.long o2), (.long o1), (.int o6), (.long o5), (.long o4), (.int o0), (.ref b2), (.ref b2)])) _
    refine XS.aloadN X16.here hx rfl (hb hby d4_28) rfl rfl ?_
    show Steps p.tables e below (T16.setTop (mkF m 29 #[rv a0_] [(.ref a0_), (.long o2), (.long o1), (.int o6), (.long o5), (.long o4), (.int o0), (.ref b2), (.ref b2)])) _
    refine st17 _ ?_
    show Steps p.tables e below (T17.setTop (mkF m 32 #[rv a0_] [(.int o3), (.long o2), (.long o1), (.int o6), (.long o5), (.long o4), (.int o0), (.ref b2), (.ref b2)])) _
    refine st19.trans ?_
    show Steps p.tables e below (T19.setTop (mkF m 35 #[rv a0_] [(.ref b2)])) _
    jvm_step X19.here [X19.here.top, hx, (hb hby d4_35), X19.method', Bd.returns, Value.isRef, FieldType.isReference]
    first | (intro acts; rw [hr _ acts rfl rfl rfl]) | rw [hr _ _ rfl rfl rfl]
    exact Steps.refl _
  · show QRev Z a0_ o0 o1 o2 o3 o4 o5 o6 h0 n0 _ T19.heap _
    exact ⟨_, rfl, N19, K19, ge_b2, sz_b2, Bq19⟩
def own_eqf (o0 : Int32) (o1 : Int64) (o2 : Int64) (o3 : Int32) (o4 : Int64) (o5 : Int64) (o6 : Int32) (r0 : Int32) (r1 : Int64) (r2 : Int64) (r3 : Int32) (r4 : Int64) (r5 : Int64) (r6 : Int32) : Int32 := if o0 = r0 then (if o1 = r1 then (if o2 = r2 then (if o3 = r3 then (if o4 = r4 then (if o5 = r5 then (if o6 = r6 then (1 : Int32) else (0 : Int32)) else (0 : Int32)) else (0 : Int32)) else (0 : Int32)) else (0 : Int32)) else (0 : Int32)) else (0 : Int32)
def QEq (Z : State) (a0_ : Addr) (a1_ : Addr) (o0 : Int32) (o1 : Int64) (o2 : Int64) (o3 : Int32) (o4 : Int64) (o5 : Int64) (o6 : Int32) (r0 : Int32) (r1 : Int64) (r2 : Int64) (r3 : Int32) (r4 : Int64) (r5 : Int64) (r6 : Int32) (h0 : Heap) (n0 : Nat) (v : Option Value) (h : Heap) (L : List Loc) : Prop := v = some (.int (own_eqf o0 o1 o2 o3 o4 o5 o6 r0 r1 r2 r3 r4 r5 r6)) ∧ Fr n0 L ∧ h = h0
theorem ef_rmEq (m : MethodId) (a0_ : Addr) (a1_ : Addr) : entryFrame m #[(.ref a0_), (.ref a1_)] 3 = mkF m 0 #[rv a0_, rv a1_, .unset] [] := by first | (simp [entryFrame, mkF, argsToLocals, Value.category]; done) | rfl
set_option maxRecDepth 65536 in
set_option maxHeartbeats 40000000 in
theorem rmEq (l : Launch) (Z : State) (a0 : Array Value) (hw : ∀ d ∈ tables_1, d.before a0 Z = true) (ws : List Jvm.Cond) (a0_ : Addr) (a1_ : Addr) (o0 : Int32) (o1 : Int64) (o2 : Int64) (o3 : Int32) (o4 : Int64) (o5 : Int64) (o6 : Int32) (r0 : Int32) (r1 : Int64) (r2 : Int64) (r3 : Int32) (r4 : Int64) (r5 : Int64) (r6 : Int32) (h0 : Heap) (n0 : Nat) (Z0 : n0 ≤ h0.size) (B0 : own_Fl Z h0 a0_ o0 o1 o2 o3 o4 o5 o6) (B1 : own_Fl Z h0 a1_ r0 r1 r2 r3 r4 r5 r6) :
    MetFree l (⟨"com/example/tracewell/tracewell/capture/Flow", "equals", "(Ljava/lang/Object;)Z"⟩ : MethodName) (head1 (Jvm.Cond.code (⟨"com/example/tracewell/tracewell/capture/Flow", "equals", "(Ljava/lang/Object;)Z"⟩ : MethodName) prog_11_method_6_code 3 (some .boolean) :: ws) ({ frames := 0, cells := 0, slots := 0, locals := 0 } : Room)) (fun a U => a = #[(.ref a0_), (.ref a1_)] ∧ Z.Warmed39 U.vm ∧ U.heap = h0) (fun _ _ _ _ _ => True) (fun _ U o U' => ∃ v L, o = .returned v ∧ QEq Z a0_ a1_ o0 o1 o2 o3 o4 o5 o6 r0 r1 r2 r3 r4 r5 r6 h0 n0 v U'.heap L ∧ FrameEnd U o U' L ({ frames := 0, cells := 0, slots := 0, locals := 0 } : Room).cells ({ frames := 0, cells := 0, slots := 0, locals := 0 } : Room).slots) := by
  refine MetFree.of_bodySF (plainFor_of_name pn_0) hisR ?_
  intro p e s m args below meth c s₁ Bd hml0 hP hK
  obtain ⟨rfl, hZ, hh⟩ := hP
  have hx := Bd.exec
  have hby := Bd.bytes
  have hml : c.maxLocals = 3 := hml0
  have hown : s.vm.findClass "com/example/tracewell/tracewell/capture/Flow" = some m.cls := findClass_of_methodNamed Bd.named
  have hnm := (name_of_methodNamed Bd.named Bd.method).1
  have X0 : Stand p l e ({ frames := 0, cells := 0, slots := 0, locals := 0 } : Room) s m #[(.ref a0_), (.ref a1_)] below meth c s₁ [] 0 0 := Stand.of_body Bd
  have e0 : s₁.heap = h0 := by rw [← hh, Bd.state]; rfl
  have N0 := Fr.nil n0
  have S0 : ∀ t, Steps p.tables e below (s₁.setTop (mkF m 0 #[rv a0_, rv a1_, .unset] [])) t → Steps p.tables e below (s₁.setTop (entryFrame m #[(.ref a0_), (.ref a1_)] 3)) t := fun t k => castTop (ef_rmEq m a0_ a1_) k
  obtain ⟨oe1, of1_0, of1_1, of1_2, of1_3, of1_4, of1_5, of1_6⟩ := id B0
  obtain ⟨oe2, of2_0, of2_1, of2_2, of2_3, of2_4, of2_5, of2_6⟩ := id B1
  obtain ⟨T3, X3, e3, st3⟩ := instY X0 hx hZ hown (hw _ (List.mem_of_getElem? (i := 35) rfl)) e0 (Ins.self oe2) (g := (mkF m 1 #[rv a0_, rv a1_, .unset] [(.ref a1_)])) rfl rfl (hb hby d6_1)
  obtain ⟨T4, X4, e4, st4⟩ := castY X3 hx hZ hown (hw _ (List.mem_of_getElem? (i := 35) rfl)) e3 (Ins.self oe2) (g := (mkF m 8 #[rv a0_, rv a1_, .unset] [(.ref a1_)])) rfl rfl (hb hby d6_8)
  obtain ⟨T5, X5, e5, st5⟩ := getF X4 hx hZ hown (host := "") (Or.inl (hw _ (List.mem_of_getElem? (i := 16) rfl))) Via.refl e4 of1_0 (g := (mkF m 13 #[rv a0_, rv a1_, rv a1_] [(.ref a0_)])) rfl rfl (hb hby d6_13)
  obtain ⟨T6, X6, e6, st6⟩ := getF X5 hx hZ hown (host := "") (Or.inl (hw _ (List.mem_of_getElem? (i := 16) rfl))) Via.refl e5 of2_0 (g := (mkF m 17 #[rv a0_, rv a1_, rv a1_] [(.ref a1_), (.int o0)])) rfl rfl (hb hby d6_17)
  have S7 : ∀ t, Steps p.tables e below (T6.setTop (mkF m 20 #[rv a0_, rv a1_, rv a1_] [(.int r0), (.int o0)])) t → Steps p.tables e below (s₁.setTop (entryFrame m #[(.ref a0_), (.ref a1_)] 3)) t := by
    intro t k
    refine S0 t ?_
    show Steps p.tables e below (s₁.setTop (mkF m 0 #[rv a0_, rv a1_, .unset] [])) _
    refine XS.aloadN X0.here hx rfl (hb hby d6_0) rfl rfl ?_
    show Steps p.tables e below (s₁.setTop (mkF m 1 #[rv a0_, rv a1_, .unset] [(.ref a1_)])) _
    refine st3 _ ?_
    show Steps p.tables e below (T3.setTop (mkF m 4 #[rv a0_, rv a1_, .unset] [(.int (1 : Int32))])) _
    refine XS.ifNo X3.here hx rfl (hb hby d6_4) rfl ((if0 _ _).trans (feq (by decide : ¬ ((1 : Int32) = (0 : Int32)))).1) ?_
    show Steps p.tables e below (T3.setTop (mkF m 7 #[rv a0_, rv a1_, .unset] [])) _
    refine XS.aloadN X3.here hx rfl (hb hby d6_7) rfl rfl ?_
    show Steps p.tables e below (T3.setTop (mkF m 8 #[rv a0_, rv a1_, .unset] [(.ref a1_)])) _
    refine st4 _ ?_
    show Steps p.tables e below (T4.setTop (mkF m 11 #[rv a0_, rv a1_, .unset] [(.ref a1_)])) _
    refine XS.astoreN X4.here hx rfl (hb hby d6_11) rfl rfl (l' := #[rv a0_, rv a1_, rv a1_]) rfl ?_
    show Steps p.tables e below (T4.setTop (mkF m 12 #[rv a0_, rv a1_, rv a1_] [])) _
    refine XS.aloadN X4.here hx rfl (hb hby d6_12) rfl rfl ?_
    show Steps p.tables e below (T4.setTop (mkF m 13 #[rv a0_, rv a1_, rv a1_] [(.ref a0_)])) _
    refine st5 _ ?_
    show Steps p.tables e below (T5.setTop (mkF m 16 #[rv a0_, rv a1_, rv a1_] [(.int o0)])) _
    refine XS.aloadN X5.here hx rfl (hb hby d6_16) rfl rfl ?_
    show Steps p.tables e below (T5.setTop (mkF m 17 #[rv a0_, rv a1_, rv a1_] [(.ref a1_), (.int o0)])) _
    refine st6 _ ?_
    exact k
  by_cases hc8 : o0 = r0
  · skip
    obtain ⟨T9, X9, e9, st9⟩ := getF X6 hx hZ hown (host := "") (Or.inl (hw _ (List.mem_of_getElem? (i := 18) rfl))) Via.refl e6 of1_1 (g := (mkF m 24 #[rv a0_, rv a1_, rv a1_] [(.ref a0_)])) rfl rfl (hb hby d6_24)
    obtain ⟨T10, X10, e10, st10⟩ := getF X9 hx hZ hown (host := "") (Or.inl (hw _ (List.mem_of_getElem? (i := 18) rfl))) Via.refl e9 of2_1 (g := (mkF m 28 #[rv a0_, rv a1_, rv a1_] [(.ref a1_), (.long o1)])) rfl rfl (hb hby d6_28)
    have S11 : ∀ t, Steps p.tables e below (T10.setTop (mkF m 32 #[rv a0_, rv a1_, rv a1_] [(.int (lcmpW o1 r1))])) t → Steps p.tables e below (s₁.setTop (entryFrame m #[(.ref a0_), (.ref a1_)] 3)) t := by
      intro t k
      refine S7 t ?_
      show Steps p.tables e below (T6.setTop (mkF m 20 #[rv a0_, rv a1_, rv a1_] [(.int r0), (.int o0)])) _
      refine XS.icmpNo X6.here hx rfl (hb hby d6_20) rfl (teq hc8).2 ?_
      show Steps p.tables e below (T6.setTop (mkF m 23 #[rv a0_, rv a1_, rv a1_] [])) _
      refine XS.aloadN X6.here hx rfl (hb hby d6_23) rfl rfl ?_
      show Steps p.tables e below (T6.setTop (mkF m 24 #[rv a0_, rv a1_, rv a1_] [(.ref a0_)])) _
      refine st9 _ ?_
      show Steps p.tables e below (T9.setTop (mkF m 27 #[rv a0_, rv a1_, rv a1_] [(.long o1)])) _
      refine XS.aloadN X9.here hx rfl (hb hby d6_27) rfl rfl ?_
      show Steps p.tables e below (T9.setTop (mkF m 28 #[rv a0_, rv a1_, rv a1_] [(.ref a1_), (.long o1)])) _
      refine st10 _ ?_
      show Steps p.tables e below (T10.setTop (mkF m 31 #[rv a0_, rv a1_, rv a1_] [(.long r1), (.long o1)])) _
      refine XS.lcmp X10.here hx rfl (hb hby d6_31) rfl ?_
      exact k
    by_cases hc12 : o1 = r1
    · skip
      obtain ⟨T13, X13, e13, st13⟩ := getF X10 hx hZ hown (host := "") (Or.inl (hw _ (List.mem_of_getElem? (i := 20) rfl))) Via.refl e10 of1_2 (g := (mkF m 36 #[rv a0_, rv a1_, rv a1_] [(.ref a0_)])) rfl rfl (hb hby d6_36)
      obtain ⟨T14, X14, e14, st14⟩ := getF X13 hx hZ hown (host := "") (Or.inl (hw _ (List.mem_of_getElem? (i := 20) rfl))) Via.refl e13 of2_2 (g := (mkF m 40 #[rv a0_, rv a1_, rv a1_] [(.ref a1_), (.long o2)])) rfl rfl (hb hby d6_40)
      have S15 : ∀ t, Steps p.tables e below (T14.setTop (mkF m 44 #[rv a0_, rv a1_, rv a1_] [(.int (lcmpW o2 r2))])) t → Steps p.tables e below (s₁.setTop (entryFrame m #[(.ref a0_), (.ref a1_)] 3)) t := by
        intro t k
        refine S11 t ?_
        show Steps p.tables e below (T10.setTop (mkF m 32 #[rv a0_, rv a1_, rv a1_] [(.int (lcmpW o1 r1))])) _
        refine XS.ifNo X10.here hx rfl (hb hby d6_32) rfl ((if0 _ _).trans (teq ((lw_eq _ _).mpr hc12)).2) ?_
        show Steps p.tables e below (T10.setTop (mkF m 35 #[rv a0_, rv a1_, rv a1_] [])) _
        refine XS.aloadN X10.here hx rfl (hb hby d6_35) rfl rfl ?_
        show Steps p.tables e below (T10.setTop (mkF m 36 #[rv a0_, rv a1_, rv a1_] [(.ref a0_)])) _
        refine st13 _ ?_
        show Steps p.tables e below (T13.setTop (mkF m 39 #[rv a0_, rv a1_, rv a1_] [(.long o2)])) _
        refine XS.aloadN X13.here hx rfl (hb hby d6_39) rfl rfl ?_
        show Steps p.tables e below (T13.setTop (mkF m 40 #[rv a0_, rv a1_, rv a1_] [(.ref a1_), (.long o2)])) _
        refine st14 _ ?_
        show Steps p.tables e below (T14.setTop (mkF m 43 #[rv a0_, rv a1_, rv a1_] [(.long r2), (.long o2)])) _
        refine XS.lcmp X14.here hx rfl (hb hby d6_43) rfl ?_
        exact k
      by_cases hc16 : o2 = r2
      · skip
        obtain ⟨T17, X17, e17, st17⟩ := getF X14 hx hZ hown (host := "") (Or.inl (hw _ (List.mem_of_getElem? (i := 22) rfl))) Via.refl e14 of1_3 (g := (mkF m 48 #[rv a0_, rv a1_, rv a1_] [(.ref a0_)])) rfl rfl (hb hby d6_48)
        obtain ⟨T18, X18, e18, st18⟩ := getF X17 hx hZ hown (host := "") (Or.inl (hw _ (List.mem_of_getElem? (i := 22) rfl))) Via.refl e17 of2_3 (g := (mkF m 52 #[rv a0_, rv a1_, rv a1_] [(.ref a1_), (.int o3)])) rfl rfl (hb hby d6_52)
        have S19 : ∀ t, Steps p.tables e below (T18.setTop (mkF m 55 #[rv a0_, rv a1_, rv a1_] [(.int r3), (.int o3)])) t → Steps p.tables e below (s₁.setTop (entryFrame m #[(.ref a0_), (.ref a1_)] 3)) t := by
          intro t k
          refine S15 t ?_
          show Steps p.tables e below (T14.setTop (mkF m 44 #[rv a0_, rv a1_, rv a1_] [(.int (lcmpW o2 r2))])) _
          refine XS.ifNo X14.here hx rfl (hb hby d6_44) rfl ((if0 _ _).trans (teq ((lw_eq _ _).mpr hc16)).2) ?_
          show Steps p.tables e below (T14.setTop (mkF m 47 #[rv a0_, rv a1_, rv a1_] [])) _
          refine XS.aloadN X14.here hx rfl (hb hby d6_47) rfl rfl ?_
          show Steps p.tables e below (T14.setTop (mkF m 48 #[rv a0_, rv a1_, rv a1_] [(.ref a0_)])) _
          refine st17 _ ?_
          show Steps p.tables e below (T17.setTop (mkF m 51 #[rv a0_, rv a1_, rv a1_] [(.int o3)])) _
          refine XS.aloadN X17.here hx rfl (hb hby d6_51) rfl rfl ?_
          show Steps p.tables e below (T17.setTop (mkF m 52 #[rv a0_, rv a1_, rv a1_] [(.ref a1_), (.int o3)])) _
          refine st18 _ ?_
          exact k
        by_cases hc20 : o3 = r3
        · skip
          obtain ⟨T21, X21, e21, st21⟩ := getF X18 hx hZ hown (host := "") (Or.inl (hw _ (List.mem_of_getElem? (i := 24) rfl))) Via.refl e18 of1_4 (g := (mkF m 59 #[rv a0_, rv a1_, rv a1_] [(.ref a0_)])) rfl rfl (hb hby d6_59)
          obtain ⟨T22, X22, e22, st22⟩ := getF X21 hx hZ hown (host := "") (Or.inl (hw _ (List.mem_of_getElem? (i := 24) rfl))) Via.refl e21 of2_4 (g := (mkF m 63 #[rv a0_, rv a1_, rv a1_] [(.ref a1_), (.long o4)])) rfl rfl (hb hby d6_63)
          have S23 : ∀ t, Steps p.tables e below (T22.setTop (mkF m 67 #[rv a0_, rv a1_, rv a1_] [(.int (lcmpW o4 r4))])) t → Steps p.tables e below (s₁.setTop (entryFrame m #[(.ref a0_), (.ref a1_)] 3)) t := by
            intro t k
            refine S19 t ?_
            show Steps p.tables e below (T18.setTop (mkF m 55 #[rv a0_, rv a1_, rv a1_] [(.int r3), (.int o3)])) _
            refine XS.icmpNo X18.here hx rfl (hb hby d6_55) rfl (teq hc20).2 ?_
            show Steps p.tables e below (T18.setTop (mkF m 58 #[rv a0_, rv a1_, rv a1_] [])) _
            refine XS.aloadN X18.here hx rfl (hb hby d6_58) rfl rfl ?_
            show Steps p.tables e below (T18.setTop (mkF m 59 #[rv a0_, rv a1_, rv a1_] [(.ref a0_)])) _
            refine st21 _ ?_
            show Steps p.tables e below (T21.setTop (mkF m 62 #[rv a0_, rv a1_, rv a1_] [(.long o4)])) _
            refine XS.aloadN X21.here hx rfl (hb hby d6_62) rfl rfl ?_
            show Steps p.tables e below (T21.setTop (mkF m 63 #[rv a0_, rv a1_, rv a1_] [(.ref a1_), (.long o4)])) _
            refine st22 _ ?_
            show Steps p.tables e below (T22.setTop (mkF m 66 #[rv a0_, rv a1_, rv a1_] [(.long r4), (.long o4)])) _
            refine XS.lcmp X22.here hx rfl (hb hby d6_66) rfl ?_
            exact k
          by_cases hc24 : o4 = r4
          · skip
            obtain ⟨T25, X25, e25, st25⟩ := getF X22 hx hZ hown (host := "") (Or.inl (hw _ (List.mem_of_getElem? (i := 26) rfl))) Via.refl e22 of1_5 (g := (mkF m 71 #[rv a0_, rv a1_, rv a1_] [(.ref a0_)])) rfl rfl (hb hby d6_71)
            obtain ⟨T26, X26, e26, st26⟩ := getF X25 hx hZ hown (host := "") (Or.inl (hw _ (List.mem_of_getElem? (i := 26) rfl))) Via.refl e25 of2_5 (g := (mkF m 75 #[rv a0_, rv a1_, rv a1_] [(.ref a1_), (.long o5)])) rfl rfl (hb hby d6_75)
            have S27 : ∀ t, Steps p.tables e below (T26.setTop (mkF m 79 #[rv a0_, rv a1_, rv a1_] [(.int (lcmpW o5 r5))])) t → Steps p.tables e below (s₁.setTop (entryFrame m #[(.ref a0_), (.ref a1_)] 3)) t := by
              intro t k
              refine S23 t ?_
              show Steps p.tables e below (T22.setTop (mkF m 67 #[rv a0_, rv a1_, rv a1_] [(.int (lcmpW o4 r4))])) _
              refine XS.ifNo X22.here hx rfl (hb hby d6_67) rfl ((if0 _ _).trans (teq ((lw_eq _ _).mpr hc24)).2) ?_
              show Steps p.tables e below (T22.setTop (mkF m 70 #[rv a0_, rv a1_, rv a1_] [])) _
              refine XS.aloadN X22.here hx rfl (hb hby d6_70) rfl rfl ?_
              show Steps p.tables e below (T22.setTop (mkF m 71 #[rv a0_, rv a1_, rv a1_] [(.ref a0_)])) _
              refine st25 _ ?_
              show Steps p.tables e below (T25.setTop (mkF m 74 #[rv a0_, rv a1_, rv a1_] [(.long o5)])) _
              refine XS.aloadN X25.here hx rfl (hb hby d6_74) rfl rfl ?_
              show Steps p.tables e below (T25.setTop (mkF m 75 #[rv a0_, rv a1_, rv a1_] [(.ref a1_), (.long o5)])) _
              refine st26 _ ?_
              show Steps p.tables e below (T26.setTop (mkF m 78 #[rv a0_, rv a1_, rv a1_] [(.long r5), (.long o5)])) _
              refine XS.lcmp X26.here hx rfl (hb hby d6_78) rfl ?_
              exact k
            by_cases hc28 : o5 = r5
            · skip
              obtain ⟨T29, X29, e29, st29⟩ := getF X26 hx hZ hown (host := "") (Or.inl (hw _ (List.mem_of_getElem? (i := 28) rfl))) Via.refl e26 of1_6 (g := (mkF m 83 #[rv a0_, rv a1_, rv a1_] [(.ref a0_)])) rfl rfl (hb hby d6_83)
              obtain ⟨T30, X30, e30, st30⟩ := getF X29 hx hZ hown (host := "") (Or.inl (hw _ (List.mem_of_getElem? (i := 28) rfl))) Via.refl e29 of2_6 (g := (mkF m 87 #[rv a0_, rv a1_, rv a1_] [(.ref a1_), (.int o6)])) rfl rfl (hb hby d6_87)
              have S31 : ∀ t, Steps p.tables e below (T30.setTop (mkF m 90 #[rv a0_, rv a1_, rv a1_] [(.int r6), (.int o6)])) t → Steps p.tables e below (s₁.setTop (entryFrame m #[(.ref a0_), (.ref a1_)] 3)) t := by
                intro t k
                refine S27 t ?_
                show Steps p.tables e below (T26.setTop (mkF m 79 #[rv a0_, rv a1_, rv a1_] [(.int (lcmpW o5 r5))])) _
                refine XS.ifNo X26.here hx rfl (hb hby d6_79) rfl ((if0 _ _).trans (teq ((lw_eq _ _).mpr hc28)).2) ?_
                show Steps p.tables e below (T26.setTop (mkF m 82 #[rv a0_, rv a1_, rv a1_] [])) _
                refine XS.aloadN X26.here hx rfl (hb hby d6_82) rfl rfl ?_
                show Steps p.tables e below (T26.setTop (mkF m 83 #[rv a0_, rv a1_, rv a1_] [(.ref a0_)])) _
                refine st29 _ ?_
                show Steps p.tables e below (T29.setTop (mkF m 86 #[rv a0_, rv a1_, rv a1_] [(.int o6)])) _
                refine XS.aloadN X29.here hx rfl (hb hby d6_86) rfl rfl ?_
                show Steps p.tables e below (T29.setTop (mkF m 87 #[rv a0_, rv a1_, rv a1_] [(.ref a1_), (.int o6)])) _
                refine st30 _ ?_
                exact k
              by_cases hc32 : o6 = r6
              · skip
                obtain ⟨fs, hr, hrun, hended, hW, hsame⟩ := X30.leave (v := some (.int (1 : Int32))) (fun h => by rw [Bd.returns] at h; cases h)
                refine ⟨_, _, S31 _ ?_, hrun, hended, _, _, rfl, ?_, ⟨_, rfl⟩, hW, hsame.mono (by decide) (by decide)⟩
                · skip
                  show Steps p.tables e below (T30.setTop (mkF m 90 #[rv a0_, rv a1_, rv a1_] [(.int r6), (.int o6)])) _
                  refine XS.icmpNo X30.here hx rfl (hb hby d6_90) rfl (teq hc32).2 ?_
                  show Steps p.tables e below (T30.setTop (mkF m 93 #[rv a0_, rv a1_, rv a1_] [])) _
                  refine XS.iconst X30.here hx rfl (hb hby d6_93) ?_
                  show Steps p.tables e below (T30.setTop (mkF m 94 #[rv a0_, rv a1_, rv a1_] [(.int (1 : Int32))])) _
                  refine XS.goto X30.here hx rfl (pc0 := 94) (pc' := 98) rfl (hb hby d6_94) (by decide) (by decide) ?_
                  show Steps p.tables e below (T30.setTop (mkF m 98 #[rv a0_, rv a1_, rv a1_] [(.int (1 : Int32))])) _
                  exact retN X30 hx (t := .boolean) Bd.returns (by simp) (hb hby d6_98) hr
                · show QEq Z a0_ a1_ o0 o1 o2 o3 o4 o5 o6 r0 r1 r2 r3 r4 r5 r6 h0 n0 _ T30.heap _
                  rw [e30]
                  exact ⟨(by unfold own_eqf; rw [if_pos hc8, if_pos hc12, if_pos hc16, if_pos hc20, if_pos hc24, if_pos hc28, if_pos hc32]), N0, rfl⟩
              · skip
                obtain ⟨fs, hr, hrun, hended, hW, hsame⟩ := X30.leave (v := some (.int (0 : Int32))) (fun h => by rw [Bd.returns] at h; cases h)
                refine ⟨_, _, S31 _ ?_, hrun, hended, _, _, rfl, ?_, ⟨_, rfl⟩, hW, hsame.mono (by decide) (by decide)⟩
                · skip
                  show Steps p.tables e below (T30.setTop (mkF m 90 #[rv a0_, rv a1_, rv a1_] [(.int r6), (.int o6)])) _
                  refine XS.icmpYes X30.here hx rfl (pc0 := 90) (pc' := 97) rfl (hb hby d6_90) rfl (feq hc32).2 (by decide) (by decide) ?_
                  show Steps p.tables e below (T30.setTop (mkF m 97 #[rv a0_, rv a1_, rv a1_] [])) _
                  refine XS.iconst X30.here hx rfl (hb hby d6_97) ?_
                  show Steps p.tables e below (T30.setTop (mkF m 98 #[rv a0_, rv a1_, rv a1_] [(.int (0 : Int32))])) _
                  exact retN X30 hx (t := .boolean) Bd.returns (by simp) (hb hby d6_98) hr
                · show QEq Z a0_ a1_ o0 o1 o2 o3 o4 o5 o6 r0 r1 r2 r3 r4 r5 r6 h0 n0 _ T30.heap _
                  rw [e30]
                  exact ⟨(by unfold own_eqf; rw [if_pos hc8, if_pos hc12, if_pos hc16, if_pos hc20, if_pos hc24, if_pos hc28, if_neg hc32]), N0, rfl⟩
            · skip
              obtain ⟨fs, hr, hrun, hended, hW, hsame⟩ := X26.leave (v := some (.int (0 : Int32))) (fun h => by rw [Bd.returns] at h; cases h)
              refine ⟨_, _, S27 _ ?_, hrun, hended, _, _, rfl, ?_, ⟨_, rfl⟩, hW, hsame.mono (by decide) (by decide)⟩
              · skip
                show Steps p.tables e below (T26.setTop (mkF m 79 #[rv a0_, rv a1_, rv a1_] [(.int (lcmpW o5 r5))])) _
                refine XS.ifYes X26.here hx rfl (pc0 := 79) (pc' := 97) rfl (hb hby d6_79) rfl ((if0 _ _).trans (feq (fun z => hc28 ((lw_eq _ _).mp z))).2) (by decide) (by decide) ?_
                show Steps p.tables e below (T26.setTop (mkF m 97 #[rv a0_, rv a1_, rv a1_] [])) _
                refine XS.iconst X26.here hx rfl (hb hby d6_97) ?_
                show Steps p.tables e below (T26.setTop (mkF m 98 #[rv a0_, rv a1_, rv a1_] [(.int (0 : Int32))])) _
                exact retN X26 hx (t := .boolean) Bd.returns (by simp) (hb hby d6_98) hr
              · show QEq Z a0_ a1_ o0 o1 o2 o3 o4 o5 o6 r0 r1 r2 r3 r4 r5 r6 h0 n0 _ T26.heap _
                rw [e26]
                exact ⟨(by unfold own_eqf; rw [if_pos hc8, if_pos hc12, if_pos hc16, if_pos hc20, if_pos hc24, if_neg hc28]), N0, rfl⟩
          · skip
            obtain ⟨fs, hr, hrun, hended, hW, hsame⟩ := X22.leave (v := some (.int (0 : Int32))) (fun h => by rw [Bd.returns] at h; cases h)
            refine ⟨_, _, S23 _ ?_, hrun, hended, _, _, rfl, ?_, ⟨_, rfl⟩, hW, hsame.mono (by decide) (by decide)⟩
            · skip
              show Steps p.tables e below (T22.setTop (mkF m 67 #[rv a0_, rv a1_, rv a1_] [(.int (lcmpW o4 r4))])) _
              refine XS.ifYes X22.here hx rfl (pc0 := 67) (pc' := 97) rfl (hb hby d6_67) rfl ((if0 _ _).trans (feq (fun z => hc24 ((lw_eq _ _).mp z))).2) (by decide) (by decide) ?_
              show Steps p.tables e below (T22.setTop (mkF m 97 #[rv a0_, rv a1_, rv a1_] [])) _
              refine XS.iconst X22.here hx rfl (hb hby d6_97) ?_
              show Steps p.tables e below (T22.setTop (mkF m 98 #[rv a0_, rv a1_, rv a1_] [(.int (0 : Int32))])) _
              exact retN X22 hx (t := .boolean) Bd.returns (by simp) (hb hby d6_98) hr
            · show QEq Z a0_ a1_ o0 o1 o2 o3 o4 o5 o6 r0 r1 r2 r3 r4 r5 r6 h0 n0 _ T22.heap _
              rw [e22]
              exact ⟨(by unfold own_eqf; rw [if_pos hc8, if_pos hc12, if_pos hc16, if_pos hc20, if_neg hc24]), N0, rfl⟩
        · skip
          obtain ⟨fs, hr, hrun, hended, hW, hsame⟩ := X18.leave (v := some (.int (0 : Int32))) (fun h => by rw [Bd.returns] at h; cases h)
          refine ⟨_, _, S19 _ ?_, hrun, hended, _, _, rfl, ?_, ⟨_, rfl⟩, hW, hsame.mono (by decide) (by decide)⟩
          · skip
            show Steps p.tables e below (T18.setTop (mkF m 55 #[rv a0_, rv a1_, rv a1_] [(.int r3), (.int o3)])) _
            refine XS.icmpYes X18.here hx rfl (pc0 := 55) (pc' := 97) rfl (hb hby d6_55) rfl (feq hc20).2 (by decide) (by decide) ?_
            show Steps p.tables e below (T18.setTop (mkF m 97 #[rv a0_, rv a1_, rv a1_] [])) _
            refine XS.iconst X18.here hx rfl (hb hby d6_97) ?_
            show Steps p.tables e below (T18.setTop (mkF m 98 #[rv a0_, rv a1_, rv a1_] [(.int (0 : Int32))])) _
            exact retN X18 hx (t := .boolean) Bd.returns (by simp) (hb hby d6_98) hr
          · show QEq Z a0_ a1_ o0 o1 o2 o3 o4 o5 o6 r0 r1 r2 r3 r4 r5 r6 h0 n0 _ T18.heap _
            rw [e18]
            exact ⟨(by unfold own_eqf; rw [if_pos hc8, if_pos hc12, if_pos hc16, if_neg hc20]), N0, rfl⟩
      · skip
        obtain ⟨fs, hr, hrun, hended, hW, hsame⟩ := X14.leave (v := some (.int (0 : Int32))) (fun h => by rw [Bd.returns] at h; cases h)
        refine ⟨_, _, S15 _ ?_, hrun, hended, _, _, rfl, ?_, ⟨_, rfl⟩, hW, hsame.mono (by decide) (by decide)⟩
        · skip
          show Steps p.tables e below (T14.setTop (mkF m 44 #[rv a0_, rv a1_, rv a1_] [(.int (lcmpW o2 r2))])) _
          refine XS.ifYes X14.here hx rfl (pc0 := 44) (pc' := 97) rfl (hb hby d6_44) rfl ((if0 _ _).trans (feq (fun z => hc16 ((lw_eq _ _).mp z))).2) (by decide) (by decide) ?_
          show Steps p.tables e below (T14.setTop (mkF m 97 #[rv a0_, rv a1_, rv a1_] [])) _
          refine XS.iconst X14.here hx rfl (hb hby d6_97) ?_
          show Steps p.tables e below (T14.setTop (mkF m 98 #[rv a0_, rv a1_, rv a1_] [(.int (0 : Int32))])) _
          exact retN X14 hx (t := .boolean) Bd.returns (by simp) (hb hby d6_98) hr
        · show QEq Z a0_ a1_ o0 o1 o2 o3 o4 o5 o6 r0 r1 r2 r3 r4 r5 r6 h0 n0 _ T14.heap _
          rw [e14]
          exact ⟨(by unfold own_eqf; rw [if_pos hc8, if_pos hc12, if_neg hc16]), N0, rfl⟩
    · skip
      obtain ⟨fs, hr, hrun, hended, hW, hsame⟩ := X10.leave (v := some (.int (0 : Int32))) (fun h => by rw [Bd.returns] at h; cases h)
      refine ⟨_, _, S11 _ ?_, hrun, hended, _, _, rfl, ?_, ⟨_, rfl⟩, hW, hsame.mono (by decide) (by decide)⟩
      · skip
        show Steps p.tables e below (T10.setTop (mkF m 32 #[rv a0_, rv a1_, rv a1_] [(.int (lcmpW o1 r1))])) _
        refine XS.ifYes X10.here hx rfl (pc0 := 32) (pc' := 97) rfl (hb hby d6_32) rfl ((if0 _ _).trans (feq (fun z => hc12 ((lw_eq _ _).mp z))).2) (by decide) (by decide) ?_
        show Steps p.tables e below (T10.setTop (mkF m 97 #[rv a0_, rv a1_, rv a1_] [])) _
        refine XS.iconst X10.here hx rfl (hb hby d6_97) ?_
        show Steps p.tables e below (T10.setTop (mkF m 98 #[rv a0_, rv a1_, rv a1_] [(.int (0 : Int32))])) _
        exact retN X10 hx (t := .boolean) Bd.returns (by simp) (hb hby d6_98) hr
      · show QEq Z a0_ a1_ o0 o1 o2 o3 o4 o5 o6 r0 r1 r2 r3 r4 r5 r6 h0 n0 _ T10.heap _
        rw [e10]
        exact ⟨(by unfold own_eqf; rw [if_pos hc8, if_neg hc12]), N0, rfl⟩
  · skip
    obtain ⟨fs, hr, hrun, hended, hW, hsame⟩ := X6.leave (v := some (.int (0 : Int32))) (fun h => by rw [Bd.returns] at h; cases h)
    refine ⟨_, _, S7 _ ?_, hrun, hended, _, _, rfl, ?_, ⟨_, rfl⟩, hW, hsame.mono (by decide) (by decide)⟩
    · skip
      show Steps p.tables e below (T6.setTop (mkF m 20 #[rv a0_, rv a1_, rv a1_] [(.int r0), (.int o0)])) _
      refine XS.icmpYes X6.here hx rfl (pc0 := 20) (pc' := 97) rfl (hb hby d6_20) rfl (feq hc8).2 (by decide) (by decide) ?_
      show Steps p.tables e below (T6.setTop (mkF m 97 #[rv a0_, rv a1_, rv a1_] [])) _
      refine XS.iconst X6.here hx rfl (hb hby d6_97) ?_
      show Steps p.tables e below (T6.setTop (mkF m 98 #[rv a0_, rv a1_, rv a1_] [(.int (0 : Int32))])) _
      exact retN X6 hx (t := .boolean) Bd.returns (by simp) (hb hby d6_98) hr
    · show QEq Z a0_ a1_ o0 o1 o2 o3 o4 o5 o6 r0 r1 r2 r3 r4 r5 r6 h0 n0 _ T6.heap _
      rw [e6]
      exact ⟨(by unfold own_eqf; rw [if_neg hc8]), N0, rfl⟩
theorem own_eqf_one {o0 : Int32} {o1 : Int64} {o2 : Int64} {o3 : Int32} {o4 : Int64} {o5 : Int64} {o6 : Int32} {r0 : Int32} {r1 : Int64} {r2 : Int64} {r3 : Int32} {r4 : Int64} {r5 : Int64} {r6 : Int32} (h0 : o0 = r0) (h1 : o1 = r1) (h2 : o2 = r2) (h3 : o3 = r3) (h4 : o4 = r4) (h5 : o5 = r5) (h6 : o6 = r6) : own_eqf o0 o1 o2 o3 o4 o5 o6 r0 r1 r2 r3 r4 r5 r6 = 1 := by
  unfold own_eqf
  rw [if_pos h0, if_pos h1, if_pos h2, if_pos h3, if_pos h4, if_pos h5, if_pos h6]
theorem own_z0 {o0 : Int32} {o1 : Int64} {o2 : Int64} {o3 : Int32} {o4 : Int64} {o5 : Int64} {o6 : Int32} {r0 : Int32} {r1 : Int64} {r2 : Int64} {r3 : Int32} {r4 : Int64} {r5 : Int64} {r6 : Int32} (h : ¬ o0 = r0) : own_eqf o0 o1 o2 o3 o4 o5 o6 r0 r1 r2 r3 r4 r5 r6 = 0 := by
  unfold own_eqf
  rw [if_neg h]
theorem own_z1 {o0 : Int32} {o1 : Int64} {o2 : Int64} {o3 : Int32} {o4 : Int64} {o5 : Int64} {o6 : Int32} {r0 : Int32} {r1 : Int64} {r2 : Int64} {r3 : Int32} {r4 : Int64} {r5 : Int64} {r6 : Int32} (h : ¬ o1 = r1) : own_eqf o0 o1 o2 o3 o4 o5 o6 r0 r1 r2 r3 r4 r5 r6 = 0 := by
  unfold own_eqf
  by_cases h0 : o0 = r0
  case neg => rw [if_neg h0]
  rw [if_pos h0, if_neg h]
theorem own_z2 {o0 : Int32} {o1 : Int64} {o2 : Int64} {o3 : Int32} {o4 : Int64} {o5 : Int64} {o6 : Int32} {r0 : Int32} {r1 : Int64} {r2 : Int64} {r3 : Int32} {r4 : Int64} {r5 : Int64} {r6 : Int32} (h : ¬ o2 = r2) : own_eqf o0 o1 o2 o3 o4 o5 o6 r0 r1 r2 r3 r4 r5 r6 = 0 := by
  unfold own_eqf
  by_cases h0 : o0 = r0
  case neg => rw [if_neg h0]
  by_cases h1 : o1 = r1
  case neg => rw [if_pos h0, if_neg h1]
  rw [if_pos h0, if_pos h1, if_neg h]
theorem own_z3 {o0 : Int32} {o1 : Int64} {o2 : Int64} {o3 : Int32} {o4 : Int64} {o5 : Int64} {o6 : Int32} {r0 : Int32} {r1 : Int64} {r2 : Int64} {r3 : Int32} {r4 : Int64} {r5 : Int64} {r6 : Int32} (h : ¬ o3 = r3) : own_eqf o0 o1 o2 o3 o4 o5 o6 r0 r1 r2 r3 r4 r5 r6 = 0 := by
  unfold own_eqf
  by_cases h0 : o0 = r0
  case neg => rw [if_neg h0]
  by_cases h1 : o1 = r1
  case neg => rw [if_pos h0, if_neg h1]
  by_cases h2 : o2 = r2
  case neg => rw [if_pos h0, if_pos h1, if_neg h2]
  rw [if_pos h0, if_pos h1, if_pos h2, if_neg h]
theorem own_z4 {o0 : Int32} {o1 : Int64} {o2 : Int64} {o3 : Int32} {o4 : Int64} {o5 : Int64} {o6 : Int32} {r0 : Int32} {r1 : Int64} {r2 : Int64} {r3 : Int32} {r4 : Int64} {r5 : Int64} {r6 : Int32} (h : ¬ o4 = r4) : own_eqf o0 o1 o2 o3 o4 o5 o6 r0 r1 r2 r3 r4 r5 r6 = 0 := by
  unfold own_eqf
  by_cases h0 : o0 = r0
  case neg => rw [if_neg h0]
  by_cases h1 : o1 = r1
  case neg => rw [if_pos h0, if_neg h1]
  by_cases h2 : o2 = r2
  case neg => rw [if_pos h0, if_pos h1, if_neg h2]
  by_cases h3 : o3 = r3
  case neg => rw [if_pos h0, if_pos h1, if_pos h2, if_neg h3]
  rw [if_pos h0, if_pos h1, if_pos h2, if_pos h3, if_neg h]
theorem own_z5 {o0 : Int32} {o1 : Int64} {o2 : Int64} {o3 : Int32} {o4 : Int64} {o5 : Int64} {o6 : Int32} {r0 : Int32} {r1 : Int64} {r2 : Int64} {r3 : Int32} {r4 : Int64} {r5 : Int64} {r6 : Int32} (h : ¬ o5 = r5) : own_eqf o0 o1 o2 o3 o4 o5 o6 r0 r1 r2 r3 r4 r5 r6 = 0 := by
  unfold own_eqf
  by_cases h0 : o0 = r0
  case neg => rw [if_neg h0]
  by_cases h1 : o1 = r1
  case neg => rw [if_pos h0, if_neg h1]
  by_cases h2 : o2 = r2
  case neg => rw [if_pos h0, if_pos h1, if_neg h2]
  by_cases h3 : o3 = r3
  case neg => rw [if_pos h0, if_pos h1, if_pos h2, if_neg h3]
  by_cases h4 : o4 = r4
  case neg => rw [if_pos h0, if_pos h1, if_pos h2, if_pos h3, if_neg h4]
  rw [if_pos h0, if_pos h1, if_pos h2, if_pos h3, if_pos h4, if_neg h]
theorem own_z6 {o0 : Int32} {o1 : Int64} {o2 : Int64} {o3 : Int32} {o4 : Int64} {o5 : Int64} {o6 : Int32} {r0 : Int32} {r1 : Int64} {r2 : Int64} {r3 : Int32} {r4 : Int64} {r5 : Int64} {r6 : Int32} (h : ¬ o6 = r6) : own_eqf o0 o1 o2 o3 o4 o5 o6 r0 r1 r2 r3 r4 r5 r6 = 0 := by
  unfold own_eqf
  by_cases h0 : o0 = r0
  case neg => rw [if_neg h0]
  by_cases h1 : o1 = r1
  case neg => rw [if_pos h0, if_neg h1]
  by_cases h2 : o2 = r2
  case neg => rw [if_pos h0, if_pos h1, if_neg h2]
  by_cases h3 : o3 = r3
  case neg => rw [if_pos h0, if_pos h1, if_pos h2, if_neg h3]
  by_cases h4 : o4 = r4
  case neg => rw [if_pos h0, if_pos h1, if_pos h2, if_pos h3, if_neg h4]
  by_cases h5 : o5 = r5
  case neg => rw [if_pos h0, if_pos h1, if_pos h2, if_pos h3, if_pos h4, if_neg h5]
  rw [if_pos h0, if_pos h1, if_pos h2, if_pos h3, if_pos h4, if_pos h5, if_neg h]
theorem own_nn (b : Int32) : nar .boolean (nar .boolean b) = nar .boolean b := by
  show (b &&& 1) &&& 1 = b &&& 1
  rw [Int32.and_assoc]; rfl
theorem own_x32 (x : Int32) : ¬ (x ^^^ (-1 : Int32)) = x := fun h => by
  have q : x ^^^ (x ^^^ (-1 : Int32)) = x ^^^ x := by rw [h]
  rw [← Int32.xor_assoc, Int32.xor_self, Int32.zero_xor] at q
  exact absurd q (by decide)
theorem own_x64 (x : Int64) : ¬ (x ^^^ (-1 : Int64)) = x := fun h => by
  have q : x ^^^ (x ^^^ (-1 : Int64)) = x ^^^ x := by rw [h]
  rw [← Int64.xor_assoc, Int64.xor_self, Int64.zero_xor] at q
  exact absurd q (by decide)
theorem own_01 {b c : Int32} (h : b = (if c = (0 : Int32) then (0 : Int32) else (1 : Int32))) : b = 0 ∨ b = 1 := by
  split at h
  · exact Or.inl h
  · exact Or.inr h
theorem own_nbne {b nb : Int32} (hb : b = 0 ∨ b = 1) (h : nb = (if b = (0 : Int32) then (1 : Int32) else (0 : Int32))) : ¬ nar .boolean nb = nar .boolean b := by
  rcases hb with rfl | rfl
  · subst h; decide
  · subst h; decide
theorem own_sel (y : Int32) : 0 ≤ ((y &&& (2147483647 : Int32)) % (7 : Int32)).toInt ∧ ((y &&& (2147483647 : Int32)) % (7 : Int32)).toInt ≤ 6 := by
  have h := Jvm.Kit.i32_mask y 2147483647 (k := 31) (by decide) (by decide)
  have q := Jvm.Kit.i32_rem_nonneg (x := y &&& (2147483647 : Int32)) (y := 7) (by rw [h]; omega)
  have e : (7 : Int32).toInt = 7 := by decide
  rw [e] at q
  omega
theorem own_six (s : Int32) (h : 0 ≤ s.toInt ∧ s.toInt ≤ 6) (h0 : ¬ s = (0 : Int32)) (h1 : ¬ s = (1 : Int32)) (h2 : ¬ s = (2 : Int32)) (h3 : ¬ s = (3 : Int32)) (h4 : ¬ s = (4 : Int32)) (h5 : ¬ s = (5 : Int32)) : s = (6 : Int32) := by
  simp only [← Int32.toInt_inj, Int32.reduceToInt] at *
  omega
theorem own_kd {sl b p q : Int32} {a c d e : Int64} {k0 : Int32} {k1 : Int64} {k2 : Int64} {k3 : Int32} {k4 : Int64} {k5 : Int64} {k6 : Int32} (hs : 0 ≤ sl.toInt ∧ sl.toInt ≤ 6) (hb : b = 0 ∨ b = 1) (e0 : k0 = (if sl = (0 : Int32) then (if b = (0 : Int32) then (1 : Int32) else (0 : Int32)) else b)) (e1 : k1 = (if sl = (1 : Int32) then (a ^^^ (-1 : Int64)) else a)) (e2 : k2 = (if sl = (2 : Int32) then (c ^^^ (-1 : Int64)) else c)) (e3 : k3 = (if sl = (3 : Int32) then (p ^^^ (-1 : Int32)) else p)) (e4 : k4 = (if sl = (4 : Int32) then (d ^^^ (-1 : Int64)) else d)) (e5 : k5 = (if sl = (5 : Int32) then (e ^^^ (-1 : Int64)) else e)) (e6 : k6 = (if sl = (6 : Int32) then (q ^^^ (-1 : Int32)) else q)) : own_eqf (nar .boolean k0) k1 k2 k3 k4 k5 k6 (nar .boolean b) a c p d e q = 0 := by
  have hc : sl = 0 ∨ sl = 1 ∨ sl = 2 ∨ sl = 3 ∨ sl = 4 ∨ sl = 5 ∨ sl = 6 := by
    simp only [← Int32.toInt_inj, Int32.reduceToInt]; omega
  rcases hc with rfl | rfl | rfl | rfl | rfl | rfl | rfl
  · rw [if_pos rfl] at e0; exact own_z0 (own_nbne hb e0)
  · rw [if_pos rfl] at e1; subst e1; exact own_z1 (own_x64 _)
  · rw [if_pos rfl] at e2; subst e2; exact own_z2 (own_x64 _)
  · rw [if_pos rfl] at e3; subst e3; exact own_z3 (own_x32 _)
  · rw [if_pos rfl] at e4; subst e4; exact own_z4 (own_x64 _)
  · rw [if_pos rfl] at e5; subst e5; exact own_z5 (own_x64 _)
  · rw [if_pos rfl] at e6; subst e6; exact own_z6 (own_x32 _)

theorem pd_1 : parseMethodDescriptor "()V" = some ⟨[], none⟩ := by decide +kernel
theorem pd_2 : parseMethodDescriptor "()Lcom/example/tracewell/tracewell/capture/Flow;" = some ⟨[], some (.object "com/example/tracewell/tracewell/capture/Flow")⟩ := by decide +kernel
theorem pd_3 : parseMethodDescriptor "(Ljava/lang/Object;)Z" = some ⟨[(.object "java/lang/Object")], some .boolean⟩ := by decide +kernel
theorem pn_1 : plainName "com/example/tracewell/tracewell/capture/FlowSetPinLaw" = true := by first | (simp [plainName, overriddenIn]; done) | decide +kernel
def Q0 (Z : State) (u0 : Int64) (u1 : Int64) (u2 : Int64) (u3 : Int64) (u4 : Int64) (u5 : Int32)  (h0 : Heap) (n0 : Nat) (v : Option Value) (h : Heap) (L : List Loc) : Prop := v = some (.int 1) ∧ Fr n0 L
theorem ef_rm0 (m : MethodId) (u0 : Int64) (u1 : Int64) (u2 : Int64) (u3 : Int64) (u4 : Int64) (u5 : Int32) : entryFrame m #[(.long u0), (.long u1), (.long u2), (.long u3), (.long u4), (.int u5)] maxLocals = mkF m 0 #[.val (.long u0), .second, .val (.long u1), .second, .val (.long u2), .second, .val (.long u3), .second, .val (.long u4), .second, iv u5, .unset, .unset, .unset, .unset, .unset, .unset, .unset, .unset, .unset] [] := by first | (simp [entryFrame, mkF, argsToLocals, Value.category, maxLocals]; done) | rfl
set_option maxRecDepth 65536 in
set_option maxHeartbeats 40000000 in
theorem rm0 (l : Launch) (Z : State) (a0 : Array Value) (hw : ∀ d ∈ tables_1, d.before a0 Z = true) (ws : List Jvm.Cond) (u0 : Int64) (u1 : Int64) (u2 : Int64) (u3 : Int64) (u4 : Int64) (u5 : Int32)  (h0 : Heap) (n0 : Nat) (Z0 : n0 ≤ h0.size) :
    MetFree l x (head1 (Jvm.Cond.code x code maxLocals ret :: ws) room_1) (fun a U => a = #[(.long u0), (.long u1), (.long u2), (.long u3), (.long u4), (.int u5)] ∧ Z.Warmed39 U.vm ∧ U.heap = h0) (fun _ _ _ _ _ => True) (fun _ U o U' => ∃ v L, o = .returned v ∧ Q0 Z u0 u1 u2 u3 u4 u5 h0 n0 v U'.heap L ∧ FrameEnd U o U' L room_1.cells room_1.slots) := by
  refine MetFree.of_bodySF (plainFor_of_name pn_1) hisR ?_
  intro p e s m args below meth c s₁ Bd hml0 hP hK
  obtain ⟨rfl, hZ, hh⟩ := hP
  have hx := Bd.exec
  have hby := Bd.bytes
  have hml : c.maxLocals = 20 := hml0
  have hown : s.vm.findClass "com/example/tracewell/tracewell/capture/FlowSetPinLaw" = some m.cls := findClass_of_methodNamed Bd.named
  have hnm := (name_of_methodNamed Bd.named Bd.method).1
  have X0 : Stand p l e room_1 s m #[(.long u0), (.long u1), (.long u2), (.long u3), (.long u4), (.int u5)] below meth c s₁ [] 0 0 := Stand.of_body Bd
  have e0 : s₁.heap = h0 := by rw [← hh, Bd.state]; rfl
  have N0 := Fr.nil n0
  have S0 : ∀ t, Steps p.tables e below (s₁.setTop (mkF m 0 #[.val (.long u0), .second, .val (.long u1), .second, .val (.long u2), .second, .val (.long u3), .second, .val (.long u4), .second, iv u5, .unset, .unset, .unset, .unset, .unset, .unset, .unset, .unset, .unset] [])) t → Steps p.tables e below (s₁.setTop (entryFrame m #[(.long u0), (.long u1), (.long u2), (.long u3), (.long u4), (.int u5)] maxLocals)) t := fun t k => castTop (ef_rm0 m u0 u1 u2 u3 u4 u5) k
  have S1 : ∀ t, Steps p.tables e below (s₁.setTop (mkF m 4 #[.val (.long u0), .second, .val (.long u1), .second, .val (.long u2), .second, .val (.long u3), .second, .val (.long u4), .second, iv u5, .unset, .unset, .unset, .unset, .unset, .unset, .unset, .unset, .unset] [(.int (u5 &&& (1 : Int32)))])) t → Steps p.tables e below (s₁.setTop (entryFrame m #[(.long u0), (.long u1), (.long u2), (.long u3), (.long u4), (.int u5)] maxLocals)) t := by
    intro t k
    refine S0 t ?_
    show Steps p.tables e below (s₁.setTop (mkF m 0 #[.val (.long u0), .second, .val (.long u1), .second, .val (.long u2), .second, .val (.long u3), .second, .val (.long u4), .second, iv u5, .unset, .unset, .unset, .unset, .unset, .unset, .unset, .unset, .unset] [])) _
    refine XS.iload X0.here hx rfl (hb hby at_0) rfl ?_
    show Steps p.tables e below (s₁.setTop (mkF m 2 #[.val (.long u0), .second, .val (.long u1), .second, .val (.long u2), .second, .val (.long u3), .second, .val (.long u4), .second, iv u5, .unset, .unset, .unset, .unset, .unset, .unset, .unset, .unset, .unset] [(.int u5)])) _
    refine XS.iconst X0.here hx rfl (hb hby at_2) ?_
    show Steps p.tables e below (s₁.setTop (mkF m 3 #[.val (.long u0), .second, .val (.long u1), .second, .val (.long u2), .second, .val (.long u3), .second, .val (.long u4), .second, iv u5, .unset, .unset, .unset, .unset, .unset, .unset, .unset, .unset, .unset] [(.int (1 : Int32)), (.int u5)])) _
    refine XS.iand X0.here hx rfl (hb hby at_3) rfl ?_
    exact k
  obtain ⟨bv, e_bv⟩ : ∃ z : Int32, z = (if (u5 &&& (1 : Int32)) = (0 : Int32) then (0 : Int32) else (1 : Int32)) := ⟨_, rfl⟩
  have S3 : ∀ t, Steps p.tables e below (s₁.setTop (mkF m 12 #[.val (.long u0), .second, .val (.long u1), .second, .val (.long u2), .second, .val (.long u3), .second, .val (.long u4), .second, iv u5, .unset, .unset, .unset, .unset, .unset, .unset, .unset, .unset, .unset] [(.int bv)])) t → Steps p.tables e below (s₁.setTop (entryFrame m #[(.long u0), (.long u1), (.long u2), (.long u3), (.long u4), (.int u5)] maxLocals)) t := by
    intro t k
    refine S1 t ?_
    by_cases hd2 : (u5 &&& (1 : Int32)) = (0 : Int32)
    · skip
      rw [show bv = (0 : Int32) from by rw [e_bv, if_pos hd2]] at k
      show Steps p.tables e below (s₁.setTop (mkF m 4 #[.val (.long u0), .second, .val (.long u1), .second, .val (.long u2), .second, .val (.long u3), .second, .val (.long u4), .second, iv u5, .unset, .unset, .unset, .unset, .unset, .unset, .unset, .unset, .unset] [(.int (u5 &&& (1 : Int32)))])) _
      refine XS.ifYes X0.here hx rfl (pc0 := 4) (pc' := 11) rfl (hb hby at_4) rfl ((if0 _ _).trans (teq hd2).1) (by decide) (by decide) ?_
      show Steps p.tables e below (s₁.setTop (mkF m 11 #[.val (.long u0), .second, .val (.long u1), .second, .val (.long u2), .second, .val (.long u3), .second, .val (.long u4), .second, iv u5, .unset, .unset, .unset, .unset, .unset, .unset, .unset, .unset, .unset] [])) _
      refine XS.iconst X0.here hx rfl (hb hby at_11) ?_
      exact k
    · skip
      rw [show bv = (1 : Int32) from by rw [e_bv, if_neg hd2]] at k
      show Steps p.tables e below (s₁.setTop (mkF m 4 #[.val (.long u0), .second, .val (.long u1), .second, .val (.long u2), .second, .val (.long u3), .second, .val (.long u4), .second, iv u5, .unset, .unset, .unset, .unset, .unset, .unset, .unset, .unset, .unset] [(.int (u5 &&& (1 : Int32)))])) _
      refine XS.ifNo X0.here hx rfl (hb hby at_4) rfl ((if0 _ _).trans (feq hd2).1) ?_
      show Steps p.tables e below (s₁.setTop (mkF m 7 #[.val (.long u0), .second, .val (.long u1), .second, .val (.long u2), .second, .val (.long u3), .second, .val (.long u4), .second, iv u5, .unset, .unset, .unset, .unset, .unset, .unset, .unset, .unset, .unset] [])) _
      refine XS.iconst X0.here hx rfl (hb hby at_7) ?_
      show Steps p.tables e below (s₁.setTop (mkF m 8 #[.val (.long u0), .second, .val (.long u1), .second, .val (.long u2), .second, .val (.long u3), .second, .val (.long u4), .second, iv u5, .unset, .unset, .unset, .unset, .unset, .unset, .unset, .unset, .unset] [(.int (1 : Int32))])) _
      refine XS.goto X0.here hx rfl (pc0 := 8) (pc' := 12) rfl (hb hby at_8) (by decide) (by decide) ?_
      exact k
  have S4 : ∀ t, Steps p.tables e below (s₁.setTop (mkF m 26 #[.val (.long u0), .second, .val (.long u1), .second, .val (.long u2), .second, .val (.long u3), .second, .val (.long u4), .second, iv u5, iv bv, iv ((((u5.toUInt32 >>> ((1 : Int32) &&& 31).toUInt32).toInt32) &&& (2147483647 : Int32)) % (7 : Int32)), .unset, .unset, .unset, .unset, .unset, .unset, .unset] [])) t → Steps p.tables e below (s₁.setTop (entryFrame m #[(.long u0), (.long u1), (.long u2), (.long u3), (.long u4), (.int u5)] maxLocals)) t := by
    intro t k
    refine S3 t ?_
    show Steps p.tables e below (s₁.setTop (mkF m 12 #[.val (.long u0), .second, .val (.long u1), .second, .val (.long u2), .second, .val (.long u3), .second, .val (.long u4), .second, iv u5, .unset, .unset, .unset, .unset, .unset, .unset, .unset, .unset, .unset] [(.int bv)])) _
    refine XS.istore X0.here hx rfl (hb hby at_12) rfl (l' := #[.val (.long u0), .second, .val (.long u1), .second, .val (.long u2), .second, .val (.long u3), .second, .val (.long u4), .second, iv u5, iv bv, .unset, .unset, .unset, .unset, .unset, .unset, .unset, .unset]) rfl ?_
    show Steps p.tables e below (s₁.setTop (mkF m 14 #[.val (.long u0), .second, .val (.long u1), .second, .val (.long u2), .second, .val (.long u3), .second, .val (.long u4), .second, iv u5, iv bv, .unset, .unset, .unset, .unset, .unset, .unset, .unset, .unset] [])) _
    refine XS.iload X0.here hx rfl (hb hby at_14) rfl ?_
    show Steps p.tables e below (s₁.setTop (mkF m 16 #[.val (.long u0), .second, .val (.long u1), .second, .val (.long u2), .second, .val (.long u3), .second, .val (.long u4), .second, iv u5, iv bv, .unset, .unset, .unset, .unset, .unset, .unset, .unset, .unset] [(.int u5)])) _
    refine XS.iconst X0.here hx rfl (hb hby at_16) ?_
    show Steps p.tables e below (s₁.setTop (mkF m 17 #[.val (.long u0), .second, .val (.long u1), .second, .val (.long u2), .second, .val (.long u3), .second, .val (.long u4), .second, iv u5, iv bv, .unset, .unset, .unset, .unset, .unset, .unset, .unset, .unset] [(.int (1 : Int32)), (.int u5)])) _
    refine XS.iushr X0.here hx rfl (hb hby at_17) rfl ?_
    show Steps p.tables e below (s₁.setTop (mkF m 18 #[.val (.long u0), .second, .val (.long u1), .second, .val (.long u2), .second, .val (.long u3), .second, .val (.long u4), .second, iv u5, iv bv, .unset, .unset, .unset, .unset, .unset, .unset, .unset, .unset] [(.int ((u5.toUInt32 >>> ((1 : Int32) &&& 31).toUInt32).toInt32))])) _
    refine X0.ldcInt hx hown (mvT hZ (hw _ (List.mem_of_getElem? (i := 0) rfl))) (g := (mkF m 18 #[.val (.long u0), .second, .val (.long u1), .second, .val (.long u2), .second, .val (.long u3), .second, .val (.long u4), .second, iv u5, iv bv, .unset, .unset, .unset, .unset, .unset, .unset, .unset, .unset] [(.int ((u5.toUInt32 >>> ((1 : Int32) &&& 31).toUInt32).toInt32))])) rfl (hb hby at_18) _ ?_
    show Steps p.tables e below (s₁.setTop (mkF m 20 #[.val (.long u0), .second, .val (.long u1), .second, .val (.long u2), .second, .val (.long u3), .second, .val (.long u4), .second, iv u5, iv bv, .unset, .unset, .unset, .unset, .unset, .unset, .unset, .unset] [(.int (2147483647 : Int32)), (.int ((u5.toUInt32 >>> ((1 : Int32) &&& 31).toUInt32).toInt32))])) _
    refine XS.iand X0.here hx rfl (hb hby at_20) rfl ?_
    show Steps p.tables e below (s₁.setTop (mkF m 21 #[.val (.long u0), .second, .val (.long u1), .second, .val (.long u2), .second, .val (.long u3), .second, .val (.long u4), .second, iv u5, iv bv, .unset, .unset, .unset, .unset, .unset, .unset, .unset, .unset] [(.int (((u5.toUInt32 >>> ((1 : Int32) &&& 31).toUInt32).toInt32) &&& (2147483647 : Int32)))])) _
    refine XS.bipush X0.here hx rfl (hb hby at_21) ?_
    show Steps p.tables e below (s₁.setTop (mkF m 23 #[.val (.long u0), .second, .val (.long u1), .second, .val (.long u2), .second, .val (.long u3), .second, .val (.long u4), .second, iv u5, iv bv, .unset, .unset, .unset, .unset, .unset, .unset, .unset, .unset] [(.int (7 : Int32)), (.int (((u5.toUInt32 >>> ((1 : Int32) &&& 31).toUInt32).toInt32) &&& (2147483647 : Int32)))])) _
    refine iremM X0 hx rfl (hb hby at_23) rfl (by decide) ?_
    show Steps p.tables e below (s₁.setTop (mkF m 24 #[.val (.long u0), .second, .val (.long u1), .second, .val (.long u2), .second, .val (.long u3), .second, .val (.long u4), .second, iv u5, iv bv, .unset, .unset, .unset, .unset, .unset, .unset, .unset, .unset] [(.int ((((u5.toUInt32 >>> ((1 : Int32) &&& 31).toUInt32).toInt32) &&& (2147483647 : Int32)) % (7 : Int32)))])) _
    refine XS.istore X0.here hx rfl (hb hby at_24) rfl (l' := #[.val (.long u0), .second, .val (.long u1), .second, .val (.long u2), .second, .val (.long u3), .second, .val (.long u4), .second, iv u5, iv bv, iv ((((u5.toUInt32 >>> ((1 : Int32) &&& 31).toUInt32).toInt32) &&& (2147483647 : Int32)) % (7 : Int32)), .unset, .unset, .unset, .unset, .unset, .unset, .unset]) rfl ?_
    exact k
  obtain ⟨sl, e_sl⟩ : ∃ z : Int32, z = ((((u5.toUInt32 >>> ((1 : Int32) &&& 31).toUInt32).toInt32) &&& (2147483647 : Int32)) % (7 : Int32)) := ⟨_, rfl⟩
  rw [← e_sl] at S4
  have hsl : 0 ≤ sl.toInt ∧ sl.toInt ≤ 6 := by rw [e_sl]; exact own_sel _
  obtain ⟨T5, h5, X5, e5, E5, A5, D5, -, st5⟩ := newO X0 hx hZ hown (hw _ (List.mem_of_getElem? (i := 1) rfl)) (hw _ (List.mem_of_getElem? (i := 2) rfl)) (hw _ (List.mem_of_getElem? (i := 3) rfl)) e0 (g := (mkF m 39 #[.val (.long u0), .second, .val (.long u1), .second, .val (.long u2), .second, .val (.long u3), .second, .val (.long u4), .second, iv u5, iv bv, iv sl, iv (((u4.toUInt64 >>> ((32 : Int32) &&& 0x3f).toInt64.toUInt64).toInt64).toInt32), iv (u4.toInt32), .unset, .unset, .unset, .unset, .unset] [])) rfl (hb hby at_39) (by decide) (by decide)
  obtain ⟨b5, g5⟩ : ∃ z, z = h0.size := ⟨_, rfl⟩
  rw [← g5] at A5 D5 st5
  have ge_b5 : n0 ≤ b5 := Nat.le_trans Z0 (Nat.le_of_eq g5.symm)
  have F5_ipv6 : Fld Z h5 b5 "com/example/tracewell/tracewell/capture/Flow" "ipv6" "Z" (.int (0 : Int32)) := D5 (Or.inl (hw _ (List.mem_of_getElem? (i := 17) rfl))) (ty := .boolean) (by decide)
  have F5_sourceHigh : Fld Z h5 b5 "com/example/tracewell/tracewell/capture/Flow" "sourceHigh" "J" (.long (0 : Int64)) := D5 (Or.inl (hw _ (List.mem_of_getElem? (i := 19) rfl))) (ty := .long) (by decide)
  have F5_sourceLow : Fld Z h5 b5 "com/example/tracewell/tracewell/capture/Flow" "sourceLow" "J" (.long (0 : Int64)) := D5 (Or.inl (hw _ (List.mem_of_getElem? (i := 21) rfl))) (ty := .long) (by decide)
  have F5_sourcePort : Fld Z h5 b5 "com/example/tracewell/tracewell/capture/Flow" "sourcePort" "I" (.int (0 : Int32)) := D5 (Or.inl (hw _ (List.mem_of_getElem? (i := 23) rfl))) (ty := .int) (by decide)
  have F5_destinationHigh : Fld Z h5 b5 "com/example/tracewell/tracewell/capture/Flow" "destinationHigh" "J" (.long (0 : Int64)) := D5 (Or.inl (hw _ (List.mem_of_getElem? (i := 25) rfl))) (ty := .long) (by decide)
  have F5_destinationLow : Fld Z h5 b5 "com/example/tracewell/tracewell/capture/Flow" "destinationLow" "J" (.long (0 : Int64)) := D5 (Or.inl (hw _ (List.mem_of_getElem? (i := 27) rfl))) (ty := .long) (by decide)
  have F5_destinationPort : Fld Z h5 b5 "com/example/tracewell/tracewell/capture/Flow" "destinationPort" "I" (.int (0 : Int32)) := D5 (Or.inl (hw _ (List.mem_of_getElem? (i := 29) rfl))) (ty := .int) (by decide)
  have Z5 : n0 ≤ h5.size := Nat.le_trans Z0 E5.1
  obtain ⟨_, _, ⟨T6, L6, k6, n6⟩, -, X6, ⟨Lc6, hQ6, l6, y6, z6⟩, st6⟩ := X5.specialBack hx (y := (⟨"com/example/tracewell/tracewell/capture/Flow", "<init>", "()V"⟩ : MethodName)) rfl hown (mvT hZ (hw _ (List.mem_of_getElem? (i := 4) rfl))) (mvT hZ (hw _ (List.mem_of_getElem? (i := 5) rfl))) (mvT hZ (hw _ (List.mem_of_getElem? (i := 6) rfl))) (by decide) (backOf (W := 1) (rmI0 l Z a0 hw [] b5 h5 n0 Z5) hZ (hw _ (List.mem_of_getElem? (i := 6) rfl)) (hw _ (List.mem_of_getElem? (i := 3) rfl)) (by decide) (by decide)) (g := (mkF m 43 #[.val (.long u0), .second, .val (.long u1), .second, .val (.long u2), .second, .val (.long u3), .second, .val (.long u4), .second, iv u5, iv bv, iv sl, iv (((u4.toUInt64 >>> ((32 : Int32) &&& 0x3f).toInt64.toUInt64).toInt64).toInt32), iv (u4.toInt32), .unset, .unset, .unset, .unset, .unset] [(.ref b5), (.ref b5)])) rfl (by rw [hml]; rfl) (Steps.refl _) (a := b5) (argsL := []) (rest := [(.ref b5)]) (lenOf pd_1 rfl) rfl (by show 2 * 0 + _ ≤ _; exact Nat.le_of_eq rfl) (hb hby at_43) (fun _ _ => ⟨rfl, e5, (by decide : 1 + 0 ≤ _), (by decide : 7 + 0 ≤ _)⟩)
  dsimp only [Pt.U, Pt.locs, Pt.cells, Pt.slots] at X6 l6 y6 z6 st6 hQ6
  subst l6 y6 z6
  obtain ⟨rfl, Nq6, eq6⟩ := hQ6
  have N6 := Fr.app N0 Nq6
  have B7 : own_Fl Z h5 b5 (0 : Int32) (0 : Int64) (0 : Int64) (0 : Int32) (0 : Int64) (0 : Int64) (0 : Int32) := ⟨A5, F5_ipv6, F5_sourceHigh, F5_sourceLow, F5_sourcePort, F5_destinationHigh, F5_destinationLow, F5_destinationPort⟩
  obtain ⟨T8, h8, X8, e8, E8, A8, D8, -, st8⟩ := newO X6 hx hZ hown (hw _ (List.mem_of_getElem? (i := 1) rfl)) (hw _ (List.mem_of_getElem? (i := 2) rfl)) (hw _ (List.mem_of_getElem? (i := 3) rfl)) eq6 (g := (mkF m 48 #[.val (.long u0), .second, .val (.long u1), .second, .val (.long u2), .second, .val (.long u3), .second, .val (.long u4), .second, iv u5, iv bv, iv sl, iv (((u4.toUInt64 >>> ((32 : Int32) &&& 0x3f).toInt64.toUInt64).toInt64).toInt32), iv (u4.toInt32), rv b5, .unset, .unset, .unset, .unset] [])) rfl (hb hby at_48) (by decide) (by decide)
  obtain ⟨b8, g8⟩ : ∃ z, z = h5.size := ⟨_, rfl⟩
  rw [← g8] at A8 D8 st8
  have ge_b8 : n0 ≤ b8 := Nat.le_trans Z5 (Nat.le_of_eq g8.symm)
  have ne_b5_b8 : b5 ≠ b8 := Nat.ne_of_lt (Nat.lt_of_lt_of_le (A5).lt (Nat.le_of_eq g8.symm))
  have f9 := A5.ext E8
  have f10 := B7.ext E8
  have F8_ipv6 : Fld Z h8 b8 "com/example/tracewell/tracewell/capture/Flow" "ipv6" "Z" (.int (0 : Int32)) := D8 (Or.inl (hw _ (List.mem_of_getElem? (i := 17) rfl))) (ty := .boolean) (by decide)
  have F8_sourceHigh : Fld Z h8 b8 "com/example/tracewell/tracewell/capture/Flow" "sourceHigh" "J" (.long (0 : Int64)) := D8 (Or.inl (hw _ (List.mem_of_getElem? (i := 19) rfl))) (ty := .long) (by decide)
  have F8_sourceLow : Fld Z h8 b8 "com/example/tracewell/tracewell/capture/Flow" "sourceLow" "J" (.long (0 : Int64)) := D8 (Or.inl (hw _ (List.mem_of_getElem? (i := 21) rfl))) (ty := .long) (by decide)
  have F8_sourcePort : Fld Z h8 b8 "com/example/tracewell/tracewell/capture/Flow" "sourcePort" "I" (.int (0 : Int32)) := D8 (Or.inl (hw _ (List.mem_of_getElem? (i := 23) rfl))) (ty := .int) (by decide)
  have F8_destinationHigh : Fld Z h8 b8 "com/example/tracewell/tracewell/capture/Flow" "destinationHigh" "J" (.long (0 : Int64)) := D8 (Or.inl (hw _ (List.mem_of_getElem? (i := 25) rfl))) (ty := .long) (by decide)
  have F8_destinationLow : Fld Z h8 b8 "com/example/tracewell/tracewell/capture/Flow" "destinationLow" "J" (.long (0 : Int64)) := D8 (Or.inl (hw _ (List.mem_of_getElem? (i := 27) rfl))) (ty := .long) (by decide)
  have F8_destinationPort : Fld Z h8 b8 "com/example/tracewell/tracewell/capture/Flow" "destinationPort" "I" (.int (0 : Int32)) := D8 (Or.inl (hw _ (List.mem_of_getElem? (i := 29) rfl))) (ty := .int) (by decide)
  have Z8 : n0 ≤ h8.size := Nat.le_trans Z5 E8.1
  obtain ⟨_, _, ⟨T11, L11, k11, n11⟩, -, X11, ⟨Lc11, hQ11, l11, y11, z11⟩, st11⟩ := X8.specialBack hx (y := (⟨"com/example/tracewell/tracewell/capture/Flow", "<init>", "()V"⟩ : MethodName)) rfl hown (mvT hZ (hw _ (List.mem_of_getElem? (i := 4) rfl))) (mvT hZ (hw _ (List.mem_of_getElem? (i := 5) rfl))) (mvT hZ (hw _ (List.mem_of_getElem? (i := 6) rfl))) (by decide) (backOf (W := 1) (rmI0 l Z a0 hw [] b8 h8 n0 Z8) hZ (hw _ (List.mem_of_getElem? (i := 6) rfl)) (hw _ (List.mem_of_getElem? (i := 3) rfl)) (by decide) (by decide)) (g := (mkF m 52 #[.val (.long u0), .second, .val (.long u1), .second, .val (.long u2), .second, .val (.long u3), .second, .val (.long u4), .second, iv u5, iv bv, iv sl, iv (((u4.toUInt64 >>> ((32 : Int32) &&& 0x3f).toInt64.toUInt64).toInt64).toInt32), iv (u4.toInt32), rv b5, .unset, .unset, .unset, .unset] [(.ref b8), (.ref b8)])) rfl (by rw [hml]; rfl) (Steps.refl _) (a := b8) (argsL := []) (rest := [(.ref b8)]) (lenOf pd_1 rfl) rfl (by show 2 * 0 + _ ≤ _; exact Nat.le_of_eq rfl) (hb hby at_52) (fun _ _ => ⟨rfl, e8, (by decide : 2 + 0 ≤ _), (by decide : 14 + 0 ≤ _)⟩)
  dsimp only [Pt.U, Pt.locs, Pt.cells, Pt.slots] at X11 l11 y11 z11 st11 hQ11
  subst l11 y11 z11
  obtain ⟨rfl, Nq11, eq11⟩ := hQ11
  have N11 := Fr.app N6 Nq11
  have B12 : own_Fl Z h8 b8 (0 : Int32) (0 : Int64) (0 : Int64) (0 : Int32) (0 : Int64) (0 : Int64) (0 : Int32) := ⟨A8, F8_ipv6, F8_sourceHigh, F8_sourceLow, F8_sourcePort, F8_destinationHigh, F8_destinationLow, F8_destinationPort⟩
  obtain ⟨T13, h13, X13, e13, E13, A13, D13, -, st13⟩ := newO X11 hx hZ hown (hw _ (List.mem_of_getElem? (i := 1) rfl)) (hw _ (List.mem_of_getElem? (i := 2) rfl)) (hw _ (List.mem_of_getElem? (i := 3) rfl)) eq11 (g := (mkF m 57 #[.val (.long u0), .second, .val (.long u1), .second, .val (.long u2), .second, .val (.long u3), .second, .val (.long u4), .second, iv u5, iv bv, iv sl, iv (((u4.toUInt64 >>> ((32 : Int32) &&& 0x3f).toInt64.toUInt64).toInt64).toInt32), iv (u4.toInt32), rv b5, rv b8, .unset, .unset, .unset] [])) rfl (hb hby at_57) (by decide) (by decide)
  obtain ⟨b13, g13⟩ : ∃ z, z = h8.size := ⟨_, rfl⟩
  rw [← g13] at A13 D13 st13
  have ge_b13 : n0 ≤ b13 := Nat.le_trans Z8 (Nat.le_of_eq g13.symm)
  have ne_b5_b13 : b5 ≠ b13 := Nat.ne_of_lt (Nat.lt_of_lt_of_le (f9).lt (Nat.le_of_eq g13.symm))
  have ne_b8_b13 : b8 ≠ b13 := Nat.ne_of_lt (Nat.lt_of_lt_of_le (A8).lt (Nat.le_of_eq g13.symm))
  have f14 := f9.ext E13
  have f15 := f10.ext E13
  have f16 := A8.ext E13
  have f17 := B12.ext E13
  have F13_ipv6 : Fld Z h13 b13 "com/example/tracewell/tracewell/capture/Flow" "ipv6" "Z" (.int (0 : Int32)) := D13 (Or.inl (hw _ (List.mem_of_getElem? (i := 17) rfl))) (ty := .boolean) (by decide)
  have F13_sourceHigh : Fld Z h13 b13 "com/example/tracewell/tracewell/capture/Flow" "sourceHigh" "J" (.long (0 : Int64)) := D13 (Or.inl (hw _ (List.mem_of_getElem? (i := 19) rfl))) (ty := .long) (by decide)
  have F13_sourceLow : Fld Z h13 b13 "com/example/tracewell/tracewell/capture/Flow" "sourceLow" "J" (.long (0 : Int64)) := D13 (Or.inl (hw _ (List.mem_of_getElem? (i := 21) rfl))) (ty := .long) (by decide)
  have F13_sourcePort : Fld Z h13 b13 "com/example/tracewell/tracewell/capture/Flow" "sourcePort" "I" (.int (0 : Int32)) := D13 (Or.inl (hw _ (List.mem_of_getElem? (i := 23) rfl))) (ty := .int) (by decide)
  have F13_destinationHigh : Fld Z h13 b13 "com/example/tracewell/tracewell/capture/Flow" "destinationHigh" "J" (.long (0 : Int64)) := D13 (Or.inl (hw _ (List.mem_of_getElem? (i := 25) rfl))) (ty := .long) (by decide)
  have F13_destinationLow : Fld Z h13 b13 "com/example/tracewell/tracewell/capture/Flow" "destinationLow" "J" (.long (0 : Int64)) := D13 (Or.inl (hw _ (List.mem_of_getElem? (i := 27) rfl))) (ty := .long) (by decide)
  have F13_destinationPort : Fld Z h13 b13 "com/example/tracewell/tracewell/capture/Flow" "destinationPort" "I" (.int (0 : Int32)) := D13 (Or.inl (hw _ (List.mem_of_getElem? (i := 29) rfl))) (ty := .int) (by decide)
  have Z13 : n0 ≤ h13.size := Nat.le_trans Z8 E13.1
  obtain ⟨_, _, ⟨T18, L18, k18, n18⟩, -, X18, ⟨Lc18, hQ18, l18, y18, z18⟩, st18⟩ := X13.specialBack hx (y := (⟨"com/example/tracewell/tracewell/capture/Flow", "<init>", "()V"⟩ : MethodName)) rfl hown (mvT hZ (hw _ (List.mem_of_getElem? (i := 4) rfl))) (mvT hZ (hw _ (List.mem_of_getElem? (i := 5) rfl))) (mvT hZ (hw _ (List.mem_of_getElem? (i := 6) rfl))) (by decide) (backOf (W := 1) (rmI0 l Z a0 hw [] b13 h13 n0 Z13) hZ (hw _ (List.mem_of_getElem? (i := 6) rfl)) (hw _ (List.mem_of_getElem? (i := 3) rfl)) (by decide) (by decide)) (g := (mkF m 61 #[.val (.long u0), .second, .val (.long u1), .second, .val (.long u2), .second, .val (.long u3), .second, .val (.long u4), .second, iv u5, iv bv, iv sl, iv (((u4.toUInt64 >>> ((32 : Int32) &&& 0x3f).toInt64.toUInt64).toInt64).toInt32), iv (u4.toInt32), rv b5, rv b8, .unset, .unset, .unset] [(.ref b13), (.ref b13)])) rfl (by rw [hml]; rfl) (Steps.refl _) (a := b13) (argsL := []) (rest := [(.ref b13)]) (lenOf pd_1 rfl) rfl (by show 2 * 0 + _ ≤ _; exact Nat.le_of_eq rfl) (hb hby at_61) (fun _ _ => ⟨rfl, e13, (by decide : 3 + 0 ≤ _), (by decide : 21 + 0 ≤ _)⟩)
  dsimp only [Pt.U, Pt.locs, Pt.cells, Pt.slots] at X18 l18 y18 z18 st18 hQ18
  subst l18 y18 z18
  obtain ⟨rfl, Nq18, eq18⟩ := hQ18
  have N18 := Fr.app N11 Nq18
  have B19 : own_Fl Z h13 b13 (0 : Int32) (0 : Int64) (0 : Int64) (0 : Int32) (0 : Int64) (0 : Int64) (0 : Int32) := ⟨A13, F13_ipv6, F13_sourceHigh, F13_sourceLow, F13_sourcePort, F13_destinationHigh, F13_destinationLow, F13_destinationPort⟩
  have S20 : ∀ t, Steps p.tables e below (T18.setTop (mkF m 70 #[.val (.long u0), .second, .val (.long u1), .second, .val (.long u2), .second, .val (.long u3), .second, .val (.long u4), .second, iv u5, iv bv, iv sl, iv (((u4.toUInt64 >>> ((32 : Int32) &&& 0x3f).toInt64.toUInt64).toInt64).toInt32), iv (u4.toInt32), rv b5, rv b8, rv b13, .unset, .unset] [(.int bv), (.ref b5)])) t → Steps p.tables e below (s₁.setTop (entryFrame m #[(.long u0), (.long u1), (.long u2), (.long u3), (.long u4), (.int u5)] maxLocals)) t := by
    intro t k
    refine S4 t ?_
    show Steps p.tables e below (s₁.setTop (mkF m 26 #[.val (.long u0), .second, .val (.long u1), .second, .val (.long u2), .second, .val (.long u3), .second, .val (.long u4), .second, iv u5, iv bv, iv sl, .unset, .unset, .unset, .unset, .unset, .unset, .unset] [])) _
    refine XS.lload X0.here hx rfl (hb hby at_26) rfl ?_
    show Steps p.tables e below (s₁.setTop (mkF m 28 #[.val (.long u0), .second, .val (.long u1), .second, .val (.long u2), .second, .val (.long u3), .second, .val (.long u4), .second, iv u5, iv bv, iv sl, .unset, .unset, .unset, .unset, .unset, .unset, .unset] [(.long u4)])) _
    refine XS.bipush X0.here hx rfl (hb hby at_28) ?_
    show Steps p.tables e below (s₁.setTop (mkF m 30 #[.val (.long u0), .second, .val (.long u1), .second, .val (.long u2), .second, .val (.long u3), .second, .val (.long u4), .second, iv u5, iv bv, iv sl, .unset, .unset, .unset, .unset, .unset, .unset, .unset] [(.int (32 : Int32)), (.long u4)])) _
    refine XS.lushr X0.here hx rfl (hb hby at_30) rfl ?_
    show Steps p.tables e below (s₁.setTop (mkF m 31 #[.val (.long u0), .second, .val (.long u1), .second, .val (.long u2), .second, .val (.long u3), .second, .val (.long u4), .second, iv u5, iv bv, iv sl, .unset, .unset, .unset, .unset, .unset, .unset, .unset] [(.long ((u4.toUInt64 >>> ((32 : Int32) &&& 0x3f).toInt64.toUInt64).toInt64))])) _
    refine XS.l2i X0.here hx rfl (hb hby at_31) rfl ?_
    show Steps p.tables e below (s₁.setTop (mkF m 32 #[.val (.long u0), .second, .val (.long u1), .second, .val (.long u2), .second, .val (.long u3), .second, .val (.long u4), .second, iv u5, iv bv, iv sl, .unset, .unset, .unset, .unset, .unset, .unset, .unset] [(.int (((u4.toUInt64 >>> ((32 : Int32) &&& 0x3f).toInt64.toUInt64).toInt64).toInt32))])) _
    refine XS.istore X0.here hx rfl (hb hby at_32) rfl (l' := #[.val (.long u0), .second, .val (.long u1), .second, .val (.long u2), .second, .val (.long u3), .second, .val (.long u4), .second, iv u5, iv bv, iv sl, iv (((u4.toUInt64 >>> ((32 : Int32) &&& 0x3f).toInt64.toUInt64).toInt64).toInt32), .unset, .unset, .unset, .unset, .unset, .unset]) rfl ?_
    show Steps p.tables e below (s₁.setTop (mkF m 34 #[.val (.long u0), .second, .val (.long u1), .second, .val (.long u2), .second, .val (.long u3), .second, .val (.long u4), .second, iv u5, iv bv, iv sl, iv (((u4.toUInt64 >>> ((32 : Int32) &&& 0x3f).toInt64.toUInt64).toInt64).toInt32), .unset, .unset, .unset, .unset, .unset, .unset] [])) _
    refine XS.lload X0.here hx rfl (hb hby at_34) rfl ?_
    show Steps p.tables e below (s₁.setTop (mkF m 36 #[.val (.long u0), .second, .val (.long u1), .second, .val (.long u2), .second, .val (.long u3), .second, .val (.long u4), .second, iv u5, iv bv, iv sl, iv (((u4.toUInt64 >>> ((32 : Int32) &&& 0x3f).toInt64.toUInt64).toInt64).toInt32), .unset, .unset, .unset, .unset, .unset, .unset] [(.long u4)])) _
    refine XS.l2i X0.here hx rfl (hb hby at_36) rfl ?_
    show Steps p.tables e below (s₁.setTop (mkF m 37 #[.val (.long u0), .second, .val (.long u1), .second, .val (.long u2), .second, .val (.long u3), .second, .val (.long u4), .second, iv u5, iv bv, iv sl, iv (((u4.toUInt64 >>> ((32 : Int32) &&& 0x3f).toInt64.toUInt64).toInt64).toInt32), .unset, .unset, .unset, .unset, .unset, .unset] [(.int (u4.toInt32))])) _
    refine XS.istore X0.here hx rfl (hb hby at_37) rfl (l' := #[.val (.long u0), .second, .val (.long u1), .second, .val (.long u2), .second, .val (.long u3), .second, .val (.long u4), .second, iv u5, iv bv, iv sl, iv (((u4.toUInt64 >>> ((32 : Int32) &&& 0x3f).toInt64.toUInt64).toInt64).toInt32), iv (u4.toInt32), .unset, .unset, .unset, .unset, .unset]) rfl ?_
    show Steps p.tables e below (s₁.setTop (mkF m 39 #[.val (.long u0), .second, .val (.long u1), .second, .val (.long u2), .second, .val (.long u3), .second, .val (.long u4), .second, iv u5, iv bv, iv sl, iv (((u4.toUInt64 >>> ((32 : Int32) &&& 0x3f).toInt64.toUInt64).toInt64).toInt32), iv (u4.toInt32), .unset, .unset, .unset, .unset, .unset] [])) _
    refine st5 _ ?_
    show Steps p.tables e below (T5.setTop (mkF m 42 #[.val (.long u0), .second, .val (.long u1), .second, .val (.long u2), .second, .val (.long u3), .second, .val (.long u4), .second, iv u5, iv bv, iv sl, iv (((u4.toUInt64 >>> ((32 : Int32) &&& 0x3f).toInt64.toUInt64).toInt64).toInt32), iv (u4.toInt32), .unset, .unset, .unset, .unset, .unset] [(.ref b5)])) _
    refine XS.dup X5.here hx rfl (hb hby at_42) rfl rfl ?_
    show Steps p.tables e below (T5.setTop (mkF m 43 #[.val (.long u0), .second, .val (.long u1), .second, .val (.long u2), .second, .val (.long u3), .second, .val (.long u4), .second, iv u5, iv bv, iv sl, iv (((u4.toUInt64 >>> ((32 : Int32) &&& 0x3f).toInt64.toUInt64).toInt64).toInt32), iv (u4.toInt32), .unset, .unset, .unset, .unset, .unset] [(.ref b5), (.ref b5)])) _
    refine st6.trans ?_
    show Steps p.tables e below (T6.setTop (mkF m 46 #[.val (.long u0), .second, .val (.long u1), .second, .val (.long u2), .second, .val (.long u3), .second, .val (.long u4), .second, iv u5, iv bv, iv sl, iv (((u4.toUInt64 >>> ((32 : Int32) &&& 0x3f).toInt64.toUInt64).toInt64).toInt32), iv (u4.toInt32), .unset, .unset, .unset, .unset, .unset] [(.ref b5)])) _
    refine XS.astore X6.here hx rfl (hb hby at_46) rfl rfl (l' := #[.val (.long u0), .second, .val (.long u1), .second, .val (.long u2), .second, .val (.long u3), .second, .val (.long u4), .second, iv u5, iv bv, iv sl, iv (((u4.toUInt64 >>> ((32 : Int32) &&& 0x3f).toInt64.toUInt64).toInt64).toInt32), iv (u4.toInt32), rv b5, .unset, .unset, .unset, .unset]) rfl ?_
    show Steps p.tables e below (T6.setTop (mkF m 48 #[.val (.long u0), .second, .val (.long u1), .second, .val (.long u2), .second, .val (.long u3), .second, .val (.long u4), .second, iv u5, iv bv, iv sl, iv (((u4.toUInt64 >>> ((32 : Int32) &&& 0x3f).toInt64.toUInt64).toInt64).toInt32), iv (u4.toInt32), rv b5, .unset, .unset, .unset, .unset] [])) _
    refine st8 _ ?_
    show Steps p.tables e below (T8.setTop (mkF m 51 #[.val (.long u0), .second, .val (.long u1), .second, .val (.long u2), .second, .val (.long u3), .second, .val (.long u4), .second, iv u5, iv bv, iv sl, iv (((u4.toUInt64 >>> ((32 : Int32) &&& 0x3f).toInt64.toUInt64).toInt64).toInt32), iv (u4.toInt32), rv b5, .unset, .unset, .unset, .unset] [(.ref b8)])) _
    refine XS.dup X8.here hx rfl (hb hby at_51) rfl rfl ?_
    show Steps p.tables e below (T8.setTop (mkF m 52 #[.val (.long u0), .second, .val (.long u1), .second, .val (.long u2), .second, .val (.long u3), .second, .val (.long u4), .second, iv u5, iv bv, iv sl, iv (((u4.toUInt64 >>> ((32 : Int32) &&& 0x3f).toInt64.toUInt64).toInt64).toInt32), iv (u4.toInt32), rv b5, .unset, .unset, .unset, .unset] [(.ref b8), (.ref b8)])) _
    refine st11.trans ?_
    show Steps p.tables e below (T11.setTop (mkF m 55 #[.val (.long u0), .second, .val (.long u1), .second, .val (.long u2), .second, .val (.long u3), .second, .val (.long u4), .second, iv u5, iv bv, iv sl, iv (((u4.toUInt64 >>> ((32 : Int32) &&& 0x3f).toInt64.toUInt64).toInt64).toInt32), iv (u4.toInt32), rv b5, .unset, .unset, .unset, .unset] [(.ref b8)])) _
    refine XS.astore X11.here hx rfl (hb hby at_55) rfl rfl (l' := #[.val (.long u0), .second, .val (.long u1), .second, .val (.long u2), .second, .val (.long u3), .second, .val (.long u4), .second, iv u5, iv bv, iv sl, iv (((u4.toUInt64 >>> ((32 : Int32) &&& 0x3f).toInt64.toUInt64).toInt64).toInt32), iv (u4.toInt32), rv b5, rv b8, .unset, .unset, .unset]) rfl ?_
    show Steps p.tables e below (T11.setTop (mkF m 57 #[.val (.long u0), .second, .val (.long u1), .second, .val (.long u2), .second, .val (.long u3), .second, .val (.long u4), .second, iv u5, iv bv, iv sl, iv (((u4.toUInt64 >>> ((32 : Int32) &&& 0x3f).toInt64.toUInt64).toInt64).toInt32), iv (u4.toInt32), rv b5, rv b8, .unset, .unset, .unset] [])) _
    refine st13 _ ?_
    show Steps p.tables e below (T13.setTop (mkF m 60 #[.val (.long u0), .second, .val (.long u1), .second, .val (.long u2), .second, .val (.long u3), .second, .val (.long u4), .second, iv u5, iv bv, iv sl, iv (((u4.toUInt64 >>> ((32 : Int32) &&& 0x3f).toInt64.toUInt64).toInt64).toInt32), iv (u4.toInt32), rv b5, rv b8, .unset, .unset, .unset] [(.ref b13)])) _
    refine XS.dup X13.here hx rfl (hb hby at_60) rfl rfl ?_
    show Steps p.tables e below (T13.setTop (mkF m 61 #[.val (.long u0), .second, .val (.long u1), .second, .val (.long u2), .second, .val (.long u3), .second, .val (.long u4), .second, iv u5, iv bv, iv sl, iv (((u4.toUInt64 >>> ((32 : Int32) &&& 0x3f).toInt64.toUInt64).toInt64).toInt32), iv (u4.toInt32), rv b5, rv b8, .unset, .unset, .unset] [(.ref b13), (.ref b13)])) _
    refine st18.trans ?_
    show Steps p.tables e below (T18.setTop (mkF m 64 #[.val (.long u0), .second, .val (.long u1), .second, .val (.long u2), .second, .val (.long u3), .second, .val (.long u4), .second, iv u5, iv bv, iv sl, iv (((u4.toUInt64 >>> ((32 : Int32) &&& 0x3f).toInt64.toUInt64).toInt64).toInt32), iv (u4.toInt32), rv b5, rv b8, .unset, .unset, .unset] [(.ref b13)])) _
    refine XS.astore X18.here hx rfl (hb hby at_64) rfl rfl (l' := #[.val (.long u0), .second, .val (.long u1), .second, .val (.long u2), .second, .val (.long u3), .second, .val (.long u4), .second, iv u5, iv bv, iv sl, iv (((u4.toUInt64 >>> ((32 : Int32) &&& 0x3f).toInt64.toUInt64).toInt64).toInt32), iv (u4.toInt32), rv b5, rv b8, rv b13, .unset, .unset]) rfl ?_
    show Steps p.tables e below (T18.setTop (mkF m 66 #[.val (.long u0), .second, .val (.long u1), .second, .val (.long u2), .second, .val (.long u3), .second, .val (.long u4), .second, iv u5, iv bv, iv sl, iv (((u4.toUInt64 >>> ((32 : Int32) &&& 0x3f).toInt64.toUInt64).toInt64).toInt32), iv (u4.toInt32), rv b5, rv b8, rv b13, .unset, .unset] [])) _
    refine XS.aload X18.here hx rfl (hb hby at_66) rfl rfl ?_
    show Steps p.tables e below (T18.setTop (mkF m 68 #[.val (.long u0), .second, .val (.long u1), .second, .val (.long u2), .second, .val (.long u3), .second, .val (.long u4), .second, iv u5, iv bv, iv sl, iv (((u4.toUInt64 >>> ((32 : Int32) &&& 0x3f).toInt64.toUInt64).toInt64).toInt32), iv (u4.toInt32), rv b5, rv b8, rv b13, .unset, .unset] [(.ref b5)])) _
    refine XS.iload X18.here hx rfl (hb hby at_68) rfl ?_
    exact k
  obtain ⟨nb, e_nb⟩ : ∃ z : Int32, z = (if bv = (0 : Int32) then (1 : Int32) else (0 : Int32)) := ⟨_, rfl⟩
  have S22 : ∀ t, Steps p.tables e below (T18.setTop (mkF m 78 #[.val (.long u0), .second, .val (.long u1), .second, .val (.long u2), .second, .val (.long u3), .second, .val (.long u4), .second, iv u5, iv bv, iv sl, iv (((u4.toUInt64 >>> ((32 : Int32) &&& 0x3f).toInt64.toUInt64).toInt64).toInt32), iv (u4.toInt32), rv b5, rv b8, rv b13, .unset, .unset] [(.int nb), (.ref b5)])) t → Steps p.tables e below (s₁.setTop (entryFrame m #[(.long u0), (.long u1), (.long u2), (.long u3), (.long u4), (.int u5)] maxLocals)) t := by
    intro t k
    refine S20 t ?_
    by_cases hd21 : bv = (0 : Int32)
    · skip
      rw [show nb = (1 : Int32) from by rw [e_nb, if_pos hd21]] at k
      show Steps p.tables e below (T18.setTop (mkF m 70 #[.val (.long u0), .second, .val (.long u1), .second, .val (.long u2), .second, .val (.long u3), .second, .val (.long u4), .second, iv u5, iv bv, iv sl, iv (((u4.toUInt64 >>> ((32 : Int32) &&& 0x3f).toInt64.toUInt64).toInt64).toInt32), iv (u4.toInt32), rv b5, rv b8, rv b13, .unset, .unset] [(.int bv), (.ref b5)])) _
      refine XS.ifNo X18.here hx rfl (hb hby at_70) rfl ((if0 _ _).trans (teq hd21).2) ?_
      show Steps p.tables e below (T18.setTop (mkF m 73 #[.val (.long u0), .second, .val (.long u1), .second, .val (.long u2), .second, .val (.long u3), .second, .val (.long u4), .second, iv u5, iv bv, iv sl, iv (((u4.toUInt64 >>> ((32 : Int32) &&& 0x3f).toInt64.toUInt64).toInt64).toInt32), iv (u4.toInt32), rv b5, rv b8, rv b13, .unset, .unset] [(.ref b5)])) _
      refine XS.iconst X18.here hx rfl (hb hby at_73) ?_
      show Steps p.tables e below (T18.setTop (mkF m 74 #[.val (.long u0), .second, .val (.long u1), .second, .val (.long u2), .second, .val (.long u3), .second, .val (.long u4), .second, iv u5, iv bv, iv sl, iv (((u4.toUInt64 >>> ((32 : Int32) &&& 0x3f).toInt64.toUInt64).toInt64).toInt32), iv (u4.toInt32), rv b5, rv b8, rv b13, .unset, .unset] [(.int (1 : Int32)), (.ref b5)])) _
      refine XS.goto X18.here hx rfl (pc0 := 74) (pc' := 78) rfl (hb hby at_74) (by decide) (by decide) ?_
      exact k
    · skip
      rw [show nb = (0 : Int32) from by rw [e_nb, if_neg hd21]] at k
      show Steps p.tables e below (T18.setTop (mkF m 70 #[.val (.long u0), .second, .val (.long u1), .second, .val (.long u2), .second, .val (.long u3), .second, .val (.long u4), .second, iv u5, iv bv, iv sl, iv (((u4.toUInt64 >>> ((32 : Int32) &&& 0x3f).toInt64.toUInt64).toInt64).toInt32), iv (u4.toInt32), rv b5, rv b8, rv b13, .unset, .unset] [(.int bv), (.ref b5)])) _
      refine XS.ifYes X18.here hx rfl (pc0 := 70) (pc' := 77) rfl (hb hby at_70) rfl ((if0 _ _).trans (feq hd21).2) (by decide) (by decide) ?_
      show Steps p.tables e below (T18.setTop (mkF m 77 #[.val (.long u0), .second, .val (.long u1), .second, .val (.long u2), .second, .val (.long u3), .second, .val (.long u4), .second, iv u5, iv bv, iv sl, iv (((u4.toUInt64 >>> ((32 : Int32) &&& 0x3f).toInt64.toUInt64).toInt64).toInt32), iv (u4.toInt32), rv b5, rv b8, rv b13, .unset, .unset] [(.ref b5)])) _
      refine XS.iconst X18.here hx rfl (hb hby at_77) ?_
      exact k
  obtain ⟨cq23, kq23, q23a, q23b, q23c⟩ := isOf hZ eq18 f14
  obtain ⟨_, _, ⟨T23, L23, k23, n23⟩, -, X23, ⟨Lc23, hQ23, l23, y23, z23⟩, st23⟩ := X18.virtualBack hx (y := (⟨"com/example/tracewell/tracewell/capture/Flow", "set", "(ZJJIJJI)V"⟩ : MethodName)) (z := (⟨"com/example/tracewell/tracewell/capture/Flow", "set", "(ZJJIJJI)V"⟩ : MethodName)) hown (mvT hZ (hw _ (List.mem_of_getElem? (i := 11) rfl))) (mvT hZ (hw _ (List.mem_of_getElem? (i := 12) rfl))) (notFace_of_selects (args := #[]) (mvT hZ (hw _ (List.mem_of_getElem? (i := 14) rfl)))) (mvT hZ (hw _ (List.mem_of_getElem? (i := 14) rfl))) (mvT hZ (hw _ (List.mem_of_getElem? (i := 13) rfl))) (by decide) (backOf (W := 0) (rmSet l Z a0 hw [] b5 nb (u0 ^^^ (-1 : Int64)) (u1 ^^^ (-1 : Int64)) ((((u4.toUInt64 >>> ((32 : Int32) &&& 0x3f).toInt64.toUInt64).toInt64).toInt32) ^^^ (-1 : Int32)) (u2 ^^^ (-1 : Int64)) (u3 ^^^ (-1 : Int64)) ((u4.toInt32) ^^^ (-1 : Int32)) (0 : Int32) (0 : Int64) (0 : Int64) (0 : Int32) (0 : Int64) (0 : Int64) (0 : Int32) h13 n0 Z13 f15 ge_b5) hZ (hw _ (List.mem_of_getElem? (i := 15) rfl)) (hw _ (List.mem_of_getElem? (i := 3) rfl)) (by decide) (by decide)) q23a q23c (g := (mkF m 108 #[.val (.long u0), .second, .val (.long u1), .second, .val (.long u2), .second, .val (.long u3), .second, .val (.long u4), .second, iv u5, iv bv, iv sl, iv (((u4.toUInt64 >>> ((32 : Int32) &&& 0x3f).toInt64.toUInt64).toInt64).toInt32), iv (u4.toInt32), rv b5, rv b8, rv b13, .unset, .unset] [(.int ((u4.toInt32) ^^^ (-1 : Int32))), (.long (u3 ^^^ (-1 : Int64))), (.long (u2 ^^^ (-1 : Int64))), (.int ((((u4.toUInt64 >>> ((32 : Int32) &&& 0x3f).toInt64.toUInt64).toInt64).toInt32) ^^^ (-1 : Int32))), (.long (u1 ^^^ (-1 : Int64))), (.long (u0 ^^^ (-1 : Int64))), (.int nb), (.ref b5)])) rfl (by rw [hml]; rfl) (Steps.refl _) (argsL := [(.int nb), (.long (u0 ^^^ (-1 : Int64))), (.long (u1 ^^^ (-1 : Int64))), (.int ((((u4.toUInt64 >>> ((32 : Int32) &&& 0x3f).toInt64.toUInt64).toInt64).toInt32) ^^^ (-1 : Int32))), (.long (u2 ^^^ (-1 : Int64))), (.long (u3 ^^^ (-1 : Int64))), (.int ((u4.toInt32) ^^^ (-1 : Int32)))]) (rest := []) (lenOf pd_0 rfl) rfl (by show 2 * 0 + _ ≤ _; exact Nat.le_of_eq rfl) (hb hby at_108) (fun _ _ => ⟨rfl, eq18, (by decide : 3 + 0 ≤ _), (by decide : 21 + 0 ≤ _)⟩)
  dsimp only [Pt.U, Pt.locs, Pt.cells, Pt.slots] at X23 l23 y23 z23 st23 hQ23
  subst l23 y23 z23
  obtain ⟨rfl, Nq23, Kq23, Bq23⟩ := hQ23
  have N23 := Fr.app N18 Nq23
  have Z23 : n0 ≤ T23.heap.size := Nat.le_trans Z13 Kq23.1
  have f24 := f14.keep Kq23
  have f26 := f16.keep Kq23
  have f27 := f17.keep Kq23 (ninS (Ne.symm ne_b5_b8) nin0)
  have f28 := A13.keep Kq23
  have f29 := B19.keep Kq23 (ninS (Ne.symm ne_b5_b13) nin0)
  obtain ⟨cq30, kq30, q30a, q30b, q30c⟩ := isOf hZ rfl f24
  obtain ⟨_, _, ⟨T30, L30, k30, n30⟩, -, X30, ⟨Lc30, hQ30, l30, y30, z30⟩, st30⟩ := X23.virtualBack hx (y := (⟨"com/example/tracewell/tracewell/capture/Flow", "set", "(ZJJIJJI)V"⟩ : MethodName)) (z := (⟨"com/example/tracewell/tracewell/capture/Flow", "set", "(ZJJIJJI)V"⟩ : MethodName)) hown (mvT hZ (hw _ (List.mem_of_getElem? (i := 11) rfl))) (mvT hZ (hw _ (List.mem_of_getElem? (i := 12) rfl))) (notFace_of_selects (args := #[]) (mvT hZ (hw _ (List.mem_of_getElem? (i := 14) rfl)))) (mvT hZ (hw _ (List.mem_of_getElem? (i := 14) rfl))) (mvT hZ (hw _ (List.mem_of_getElem? (i := 13) rfl))) (by decide) (backOf (W := 0) (rmSet l Z a0 hw [] b5 bv u0 u1 (((u4.toUInt64 >>> ((32 : Int32) &&& 0x3f).toInt64.toUInt64).toInt64).toInt32) u2 u3 (u4.toInt32) (nar .boolean nb) (u0 ^^^ (-1 : Int64)) (u1 ^^^ (-1 : Int64)) ((((u4.toUInt64 >>> ((32 : Int32) &&& 0x3f).toInt64.toUInt64).toInt64).toInt32) ^^^ (-1 : Int32)) (u2 ^^^ (-1 : Int64)) (u3 ^^^ (-1 : Int64)) ((u4.toInt32) ^^^ (-1 : Int32)) T23.heap n0 Z23 Bq23 ge_b5) hZ (hw _ (List.mem_of_getElem? (i := 15) rfl)) (hw _ (List.mem_of_getElem? (i := 3) rfl)) (by decide) (by decide)) q30a q30c (g := (mkF m 125 #[.val (.long u0), .second, .val (.long u1), .second, .val (.long u2), .second, .val (.long u3), .second, .val (.long u4), .second, iv u5, iv bv, iv sl, iv (((u4.toUInt64 >>> ((32 : Int32) &&& 0x3f).toInt64.toUInt64).toInt64).toInt32), iv (u4.toInt32), rv b5, rv b8, rv b13, .unset, .unset] [(.int (u4.toInt32)), (.long u3), (.long u2), (.int (((u4.toUInt64 >>> ((32 : Int32) &&& 0x3f).toInt64.toUInt64).toInt64).toInt32)), (.long u1), (.long u0), (.int bv), (.ref b5)])) rfl (by rw [hml]; rfl) (Steps.refl _) (argsL := [(.int bv), (.long u0), (.long u1), (.int (((u4.toUInt64 >>> ((32 : Int32) &&& 0x3f).toInt64.toUInt64).toInt64).toInt32)), (.long u2), (.long u3), (.int (u4.toInt32))]) (rest := []) (lenOf pd_0 rfl) rfl (by show 2 * 0 + _ ≤ _; exact Nat.le_of_eq rfl) (hb hby at_125) (fun _ _ => ⟨rfl, rfl, (by decide : 3 + 0 ≤ _), (by decide : 21 + 0 ≤ _)⟩)
  dsimp only [Pt.U, Pt.locs, Pt.cells, Pt.slots] at X30 l30 y30 z30 st30 hQ30
  subst l30 y30 z30
  obtain ⟨rfl, Nq30, Kq30, Bq30⟩ := hQ30
  have N30 := Fr.app N23 Nq30
  have Z30 : n0 ≤ T30.heap.size := Nat.le_trans Z23 Kq30.1
  have f31 := f24.keep Kq30
  have f32 := f26.keep Kq30
  have f33 := f27.keep Kq30 (ninS (Ne.symm ne_b5_b8) nin0)
  have f34 := f28.keep Kq30
  have f35 := f29.keep Kq30 (ninS (Ne.symm ne_b5_b13) nin0)
  obtain ⟨cq37, kq37, q37a, q37b, q37c⟩ := isOf hZ rfl f32
  obtain ⟨_, _, ⟨T37, L37, k37, n37⟩, -, X37, ⟨Lc37, hQ37, l37, y37, z37⟩, st37⟩ := X30.virtualBack hx (y := (⟨"com/example/tracewell/tracewell/capture/Flow", "set", "(ZJJIJJI)V"⟩ : MethodName)) (z := (⟨"com/example/tracewell/tracewell/capture/Flow", "set", "(ZJJIJJI)V"⟩ : MethodName)) hown (mvT hZ (hw _ (List.mem_of_getElem? (i := 11) rfl))) (mvT hZ (hw _ (List.mem_of_getElem? (i := 12) rfl))) (notFace_of_selects (args := #[]) (mvT hZ (hw _ (List.mem_of_getElem? (i := 14) rfl)))) (mvT hZ (hw _ (List.mem_of_getElem? (i := 14) rfl))) (mvT hZ (hw _ (List.mem_of_getElem? (i := 13) rfl))) (by decide) (backOf (W := 0) (rmSet l Z a0 hw [] b8 bv u2 u3 (u4.toInt32) u0 u1 (((u4.toUInt64 >>> ((32 : Int32) &&& 0x3f).toInt64.toUInt64).toInt64).toInt32) (0 : Int32) (0 : Int64) (0 : Int64) (0 : Int32) (0 : Int64) (0 : Int64) (0 : Int32) T30.heap n0 Z30 f33 ge_b8) hZ (hw _ (List.mem_of_getElem? (i := 15) rfl)) (hw _ (List.mem_of_getElem? (i := 3) rfl)) (by decide) (by decide)) q37a q37c (g := (mkF m 142 #[.val (.long u0), .second, .val (.long u1), .second, .val (.long u2), .second, .val (.long u3), .second, .val (.long u4), .second, iv u5, iv bv, iv sl, iv (((u4.toUInt64 >>> ((32 : Int32) &&& 0x3f).toInt64.toUInt64).toInt64).toInt32), iv (u4.toInt32), rv b5, rv b8, rv b13, .unset, .unset] [(.int (((u4.toUInt64 >>> ((32 : Int32) &&& 0x3f).toInt64.toUInt64).toInt64).toInt32)), (.long u1), (.long u0), (.int (u4.toInt32)), (.long u3), (.long u2), (.int bv), (.ref b8)])) rfl (by rw [hml]; rfl) (Steps.refl _) (argsL := [(.int bv), (.long u2), (.long u3), (.int (u4.toInt32)), (.long u0), (.long u1), (.int (((u4.toUInt64 >>> ((32 : Int32) &&& 0x3f).toInt64.toUInt64).toInt64).toInt32))]) (rest := []) (lenOf pd_0 rfl) rfl (by show 2 * 0 + _ ≤ _; exact Nat.le_of_eq rfl) (hb hby at_142) (fun _ _ => ⟨rfl, rfl, (by decide : 3 + 0 ≤ _), (by decide : 21 + 0 ≤ _)⟩)
  dsimp only [Pt.U, Pt.locs, Pt.cells, Pt.slots] at X37 l37 y37 z37 st37 hQ37
  subst l37 y37 z37
  obtain ⟨rfl, Nq37, Kq37, Bq37⟩ := hQ37
  have N37 := Fr.app N30 Nq37
  have Z37 : n0 ≤ T37.heap.size := Nat.le_trans Z30 Kq37.1
  have f38 := f31.keep Kq37
  have f39 := f32.keep Kq37
  have f41 := f34.keep Kq37
  have f42 := f35.keep Kq37 (ninS (Ne.symm ne_b8_b13) nin0)
  have f43 := Bq30.keep Kq37 (ninS ne_b5_b8 nin0)
  have S44 : ∀ t, Steps p.tables e below (T37.setTop (mkF m 149 #[.val (.long u0), .second, .val (.long u1), .second, .val (.long u2), .second, .val (.long u3), .second, .val (.long u4), .second, iv u5, iv bv, iv sl, iv (((u4.toUInt64 >>> ((32 : Int32) &&& 0x3f).toInt64.toUInt64).toInt64).toInt32), iv (u4.toInt32), rv b5, rv b8, rv b13, .unset, .unset] [(.int sl), (.ref b13)])) t → Steps p.tables e below (s₁.setTop (entryFrame m #[(.long u0), (.long u1), (.long u2), (.long u3), (.long u4), (.int u5)] maxLocals)) t := by
    intro t k
    refine S22 t ?_
    show Steps p.tables e below (T18.setTop (mkF m 78 #[.val (.long u0), .second, .val (.long u1), .second, .val (.long u2), .second, .val (.long u3), .second, .val (.long u4), .second, iv u5, iv bv, iv sl, iv (((u4.toUInt64 >>> ((32 : Int32) &&& 0x3f).toInt64.toUInt64).toInt64).toInt32), iv (u4.toInt32), rv b5, rv b8, rv b13, .unset, .unset] [(.int nb), (.ref b5)])) _
    refine XS.lloadN X18.here hx rfl (hb hby at_78) rfl ?_
    show Steps p.tables e below (T18.setTop (mkF m 79 #[.val (.long u0), .second, .val (.long u1), .second, .val (.long u2), .second, .val (.long u3), .second, .val (.long u4), .second, iv u5, iv bv, iv sl, iv (((u4.toUInt64 >>> ((32 : Int32) &&& 0x3f).toInt64.toUInt64).toInt64).toInt32), iv (u4.toInt32), rv b5, rv b8, rv b13, .unset, .unset] [(.long u0), (.int nb), (.ref b5)])) _
    refine X18.ldc2Long hx hown (mvT hZ (hw _ (List.mem_of_getElem? (i := 10) rfl))) (g := (mkF m 79 #[.val (.long u0), .second, .val (.long u1), .second, .val (.long u2), .second, .val (.long u3), .second, .val (.long u4), .second, iv u5, iv bv, iv sl, iv (((u4.toUInt64 >>> ((32 : Int32) &&& 0x3f).toInt64.toUInt64).toInt64).toInt32), iv (u4.toInt32), rv b5, rv b8, rv b13, .unset, .unset] [(.long u0), (.int nb), (.ref b5)])) rfl (hb hby at_79) _ ?_
    show Steps p.tables e below (T18.setTop (mkF m 82 #[.val (.long u0), .second, .val (.long u1), .second, .val (.long u2), .second, .val (.long u3), .second, .val (.long u4), .second, iv u5, iv bv, iv sl, iv (((u4.toUInt64 >>> ((32 : Int32) &&& 0x3f).toInt64.toUInt64).toInt64).toInt32), iv (u4.toInt32), rv b5, rv b8, rv b13, .unset, .unset] [(.long (-1 : Int64)), (.long u0), (.int nb), (.ref b5)])) _
    refine XS.lxor X18.here hx rfl (hb hby at_82) rfl ?_
    show Steps p.tables e below (T18.setTop (mkF m 83 #[.val (.long u0), .second, .val (.long u1), .second, .val (.long u2), .second, .val (.long u3), .second, .val (.long u4), .second, iv u5, iv bv, iv sl, iv (((u4.toUInt64 >>> ((32 : Int32) &&& 0x3f).toInt64.toUInt64).toInt64).toInt32), iv (u4.toInt32), rv b5, rv b8, rv b13, .unset, .unset] [(.long (u0 ^^^ (-1 : Int64))), (.int nb), (.ref b5)])) _
    refine XS.lloadN X18.here hx rfl (hb hby at_83) rfl ?_
    show Steps p.tables e below (T18.setTop (mkF m 84 #[.val (.long u0), .second, .val (.long u1), .second, .val (.long u2), .second, .val (.long u3), .second, .val (.long u4), .second, iv u5, iv bv, iv sl, iv (((u4.toUInt64 >>> ((32 : Int32) &&& 0x3f).toInt64.toUInt64).toInt64).toInt32), iv (u4.toInt32), rv b5, rv b8, rv b13, .unset, .unset] [(.long u1), (.long (u0 ^^^ (-1 : Int64))), (.int nb), (.ref b5)])) _
    refine X18.ldc2Long hx hown (mvT hZ (hw _ (List.mem_of_getElem? (i := 10) rfl))) (g := (mkF m 84 #[.val (.long u0), .second, .val (.long u1), .second, .val (.long u2), .second, .val (.long u3), .second, .val (.long u4), .second, iv u5, iv bv, iv sl, iv (((u4.toUInt64 >>> ((32 : Int32) &&& 0x3f).toInt64.toUInt64).toInt64).toInt32), iv (u4.toInt32), rv b5, rv b8, rv b13, .unset, .unset] [(.long u1), (.long (u0 ^^^ (-1 : Int64))), (.int nb), (.ref b5)])) rfl (hb hby at_84) _ ?_
    show Steps p.tables e below (T18.setTop (mkF m 87 #[.val (.long u0), .second, .val (.long u1), .second, .val (.long u2), .second, .val (.long u3), .second, .val (.long u4), .second, iv u5, iv bv, iv sl, iv (((u4.toUInt64 >>> ((32 : Int32) &&& 0x3f).toInt64.toUInt64).toInt64).toInt32), iv (u4.toInt32), rv b5, rv b8, rv b13, .unset, .unset] [(.long (-1 : Int64)), (.long u1), (.long (u0 ^^^ (-1 : Int64))), (.int nb), (.ref b5)])) _
    refine XS.lxor X18.here hx rfl (hb hby at_87) rfl ?_
    show Steps p.tables e below (T18.setTop (mkF m 88 #[.val (.long u0), .second, .val (.long u1), .second, .val (.long u2), .second, .val (.long u3), .second, .val (.long u4), .second, iv u5, iv bv, iv sl, iv (((u4.toUInt64 >>> ((32 : Int32) &&& 0x3f).toInt64.toUInt64).toInt64).toInt32), iv (u4.toInt32), rv b5, rv b8, rv b13, .unset, .unset] [(.long (u1 ^^^ (-1 : Int64))), (.long (u0 ^^^ (-1 : Int64))), (.int nb), (.ref b5)])) _
    refine XS.iload X18.here hx rfl (hb hby at_88) rfl ?_
    show Steps p.tables e below (T18.setTop (mkF m 90 #[.val (.long u0), .second, .val (.long u1), .second, .val (.long u2), .second, .val (.long u3), .second, .val (.long u4), .second, iv u5, iv bv, iv sl, iv (((u4.toUInt64 >>> ((32 : Int32) &&& 0x3f).toInt64.toUInt64).toInt64).toInt32), iv (u4.toInt32), rv b5, rv b8, rv b13, .unset, .unset] [(.int (((u4.toUInt64 >>> ((32 : Int32) &&& 0x3f).toInt64.toUInt64).toInt64).toInt32)), (.long (u1 ^^^ (-1 : Int64))), (.long (u0 ^^^ (-1 : Int64))), (.int nb), (.ref b5)])) _
    refine XS.iconst X18.here hx rfl (hb hby at_90) ?_
    show Steps p.tables e below (T18.setTop (mkF m 91 #[.val (.long u0), .second, .val (.long u1), .second, .val (.long u2), .second, .val (.long u3), .second, .val (.long u4), .second, iv u5, iv bv, iv sl, iv (((u4.toUInt64 >>> ((32 : Int32) &&& 0x3f).toInt64.toUInt64).toInt64).toInt32), iv (u4.toInt32), rv b5, rv b8, rv b13, .unset, .unset] [(.int (-1 : Int32)), (.int (((u4.toUInt64 >>> ((32 : Int32) &&& 0x3f).toInt64.toUInt64).toInt64).toInt32)), (.long (u1 ^^^ (-1 : Int64))), (.long (u0 ^^^ (-1 : Int64))), (.int nb), (.ref b5)])) _
    refine XS.ixor X18.here hx rfl (hb hby at_91) rfl ?_
    show Steps p.tables e below (T18.setTop (mkF m 92 #[.val (.long u0), .second, .val (.long u1), .second, .val (.long u2), .second, .val (.long u3), .second, .val (.long u4), .second, iv u5, iv bv, iv sl, iv (((u4.toUInt64 >>> ((32 : Int32) &&& 0x3f).toInt64.toUInt64).toInt64).toInt32), iv (u4.toInt32), rv b5, rv b8, rv b13, .unset, .unset] [(.int ((((u4.toUInt64 >>> ((32 : Int32) &&& 0x3f).toInt64.toUInt64).toInt64).toInt32) ^^^ (-1 : Int32))), (.long (u1 ^^^ (-1 : Int64))), (.long (u0 ^^^ (-1 : Int64))), (.int nb), (.ref b5)])) _
    refine XS.lload X18.here hx rfl (hb hby at_92) rfl ?_
    show Steps p.tables e below (T18.setTop (mkF m 94 #[.val (.long u0), .second, .val (.long u1), .second, .val (.long u2), .second, .val (.long u3), .second, .val (.long u4), .second, iv u5, iv bv, iv sl, iv (((u4.toUInt64 >>> ((32 : Int32) &&& 0x3f).toInt64.toUInt64).toInt64).toInt32), iv (u4.toInt32), rv b5, rv b8, rv b13, .unset, .unset] [(.long u2), (.int ((((u4.toUInt64 >>> ((32 : Int32) &&& 0x3f).toInt64.toUInt64).toInt64).toInt32) ^^^ (-1 : Int32))), (.long (u1 ^^^ (-1 : Int64))), (.long (u0 ^^^ (-1 : Int64))), (.int nb), (.ref b5)])) _
    refine X18.ldc2Long hx hown (mvT hZ (hw _ (List.mem_of_getElem? (i := 10) rfl))) (g := (mkF m 94 #[.val (.long u0), .second, .val (.long u1), .second, .val (.long u2), .second, .val (.long u3), .second, .val (.long u4), .second, iv u5, iv bv, iv sl, iv (((u4.toUInt64 >>> ((32 : Int32) &&& 0x3f).toInt64.toUInt64).toInt64).toInt32), iv (u4.toInt32), rv b5, rv b8, rv b13, .unset, .unset] [(.long u2), (.int ((((u4.toUInt64 >>> ((32 : Int32) &&& 0x3f).toInt64.toUInt64).toInt64).toInt32) ^^^ (-1 : Int32))), (.long (u1 ^^^ (-1 : Int64))), (.long (u0 ^^^ (-1 : Int64))), (.int nb), (.ref b5)])) rfl (hb hby at_94) _ ?_
    show Steps p.tables e below (T18.setTop (mkF m 97 #[.val (.long u0), .second, .val (.long u1), .second, .val (.long u2), .second, .val (.long u3), .second, .val (.long u4), .second, iv u5, iv bv, iv sl, iv (((u4.toUInt64 >>> ((32 : Int32) &&& 0x3f).toInt64.toUInt64).toInt64).toInt32), iv (u4.toInt32), rv b5, rv b8, rv b13, .unset, .unset] [(.long (-1 : Int64)), (.long u2), (.int ((((u4.toUInt64 >>> ((32 : Int32) &&& 0x3f).toInt64.toUInt64).toInt64).toInt32) ^^^ (-1 : Int32))), (.long (u1 ^^^ (-1 : Int64))), (.long (u0 ^^^ (-1 : Int64))), (.int nb), (.ref b5)])) _
    refine XS.lxor X18.here hx rfl (hb hby at_97) rfl ?_
    show Steps p.tables e below (T18.setTop (mkF m 98 #[.val (.long u0), .second, .val (.long u1), .second, .val (.long u2), .second, .val (.long u3), .second, .val (.long u4), .second, iv u5, iv bv, iv sl, iv (((u4.toUInt64 >>> ((32 : Int32) &&& 0x3f).toInt64.toUInt64).toInt64).toInt32), iv (u4.toInt32), rv b5, rv b8, rv b13, .unset, .unset] [(.long (u2 ^^^ (-1 : Int64))), (.int ((((u4.toUInt64 >>> ((32 : Int32) &&& 0x3f).toInt64.toUInt64).toInt64).toInt32) ^^^ (-1 : Int32))), (.long (u1 ^^^ (-1 : Int64))), (.long (u0 ^^^ (-1 : Int64))), (.int nb), (.ref b5)])) _
    refine XS.lload X18.here hx rfl (hb hby at_98) rfl ?_
    show Steps p.tables e below (T18.setTop (mkF m 100 #[.val (.long u0), .second, .val (.long u1), .second, .val (.long u2), .second, .val (.long u3), .second, .val (.long u4), .second, iv u5, iv bv, iv sl, iv (((u4.toUInt64 >>> ((32 : Int32) &&& 0x3f).toInt64.toUInt64).toInt64).toInt32), iv (u4.toInt32), rv b5, rv b8, rv b13, .unset, .unset] [(.long u3), (.long (u2 ^^^ (-1 : Int64))), (.int ((((u4.toUInt64 >>> ((32 : Int32) &&& 0x3f).toInt64.toUInt64).toInt64).toInt32) ^^^ (-1 : Int32))), (.long (u1 ^^^ (-1 : Int64))), (.long (u0 ^^^ (-1 : Int64))), (.int nb), (.ref b5)])) _
    refine X18.ldc2Long hx hown (mvT hZ (hw _ (List.mem_of_getElem? (i := 10) rfl))) (g := (mkF m 100 #[.val (.long u0), .second, .val (.long u1), .second, .val (.long u2), .second, .val (.long u3), .second, .val (.long u4), .second, iv u5, iv bv, iv sl, iv (((u4.toUInt64 >>> ((32 : Int32) &&& 0x3f).toInt64.toUInt64).toInt64).toInt32), iv (u4.toInt32), rv b5, rv b8, rv b13, .unset, .unset] [(.long u3), (.long (u2 ^^^ (-1 : Int64))), (.int ((((u4.toUInt64 >>> ((32 : Int32) &&& 0x3f).toInt64.toUInt64).toInt64).toInt32) ^^^ (-1 : Int32))), (.long (u1 ^^^ (-1 : Int64))), (.long (u0 ^^^ (-1 : Int64))), (.int nb), (.ref b5)])) rfl (hb hby at_100) _ ?_
    show Steps p.tables e below (T18.setTop (mkF m 103 #[.val (.long u0), .second, .val (.long u1), .second, .val (.long u2), .second, .val (.long u3), .second, .val (.long u4), .second, iv u5, iv bv, iv sl, iv (((u4.toUInt64 >>> ((32 : Int32) &&& 0x3f).toInt64.toUInt64).toInt64).toInt32), iv (u4.toInt32), rv b5, rv b8, rv b13, .unset, .unset] [(.long (-1 : Int64)), (.long u3), (.long (u2 ^^^ (-1 : Int64))), (.int ((((u4.toUInt64 >>> ((32 : Int32) &&& 0x3f).toInt64.toUInt64).toInt64).toInt32) ^^^ (-1 : Int32))), (.long (u1 ^^^ (-1 : Int64))), (.long (u0 ^^^ (-1 : Int64))), (.int nb), (.ref b5)])) _
    refine XS.lxor X18.here hx rfl (hb hby at_103) rfl ?_
    show Steps p.tables e below (T18.setTop (mkF m 104 #[.val (.long u0), .second, .val (.long u1), .second, .val (.long u2), .second, .val (.long u3), .second, .val (.long u4), .second, iv u5, iv bv, iv sl, iv (((u4.toUInt64 >>> ((32 : Int32) &&& 0x3f).toInt64.toUInt64).toInt64).toInt32), iv (u4.toInt32), rv b5, rv b8, rv b13, .unset, .unset] [(.long (u3 ^^^ (-1 : Int64))), (.long (u2 ^^^ (-1 : Int64))), (.int ((((u4.toUInt64 >>> ((32 : Int32) &&& 0x3f).toInt64.toUInt64).toInt64).toInt32) ^^^ (-1 : Int32))), (.long (u1 ^^^ (-1 : Int64))), (.long (u0 ^^^ (-1 : Int64))), (.int nb), (.ref b5)])) _
    refine XS.iload X18.here hx rfl (hb hby at_104) rfl ?_
    show Steps p.tables e below (T18.setTop (mkF m 106 #[.val (.long u0), .second, .val (.long u1), .second, .val (.long u2), .second, .val (.long u3), .second, .val (.long u4), .second, iv u5, iv bv, iv sl, iv (((u4.toUInt64 >>> ((32 : Int32) &&& 0x3f).toInt64.toUInt64).toInt64).toInt32), iv (u4.toInt32), rv b5, rv b8, rv b13, .unset, .unset] [(.int (u4.toInt32)), (.long (u3 ^^^ (-1 : Int64))), (.long (u2 ^^^ (-1 : Int64))), (.int ((((u4.toUInt64 >>> ((32 : Int32) &&& 0x3f).toInt64.toUInt64).toInt64).toInt32) ^^^ (-1 : Int32))), (.long (u1 ^^^ (-1 : Int64))), (.long (u0 ^^^ (-1 : Int64))), (.int nb), (.ref b5)])) _
    refine XS.iconst X18.here hx rfl (hb hby at_106) ?_
    show Steps p.tables e below (T18.setTop (mkF m 107 #[.val (.long u0), .second, .val (.long u1), .second, .val (.long u2), .second, .val (.long u3), .second, .val (.long u4), .second, iv u5, iv bv, iv sl, iv (((u4.toUInt64 >>> ((32 : Int32) &&& 0x3f).toInt64.toUInt64).toInt64).toInt32), iv (u4.toInt32), rv b5, rv b8, rv b13, .unset, .unset] [(.int (-1 : Int32)), (.int (u4.toInt32)), (.long (u3 ^^^ (-1 : Int64))), (.long (u2 ^^^ (-1 : Int64))), (.int ((((u4.toUInt64 >>> ((32 : Int32) &&& 0x3f).toInt64.toUInt64).toInt64).toInt32) ^^^ (-1 : Int32))), (.long (u1 ^^^ (-1 : Int64))), (.long (u0 ^^^ (-1 : Int64))), (.int nb), (.ref b5)])) _
    refine XS.ixor X18.here hx rfl (hb hby at_107) rfl ?_
    show Steps p.tables e below (T18.setTop (mkF m 108 #[.val (.long u0), .second, .val (.long u1), .second, .val (.long u2), .second, .val (.long u3), .second, .val (.long u4), .second, iv u5, iv bv, iv sl, iv (((u4.toUInt64 >>> ((32 : Int32) &&& 0x3f).toInt64.toUInt64).toInt64).toInt32), iv (u4.toInt32), rv b5, rv b8, rv b13, .unset, .unset] [(.int ((u4.toInt32) ^^^ (-1 : Int32))), (.long (u3 ^^^ (-1 : Int64))), (.long (u2 ^^^ (-1 : Int64))), (.int ((((u4.toUInt64 >>> ((32 : Int32) &&& 0x3f).toInt64.toUInt64).toInt64).toInt32) ^^^ (-1 : Int32))), (.long (u1 ^^^ (-1 : Int64))), (.long (u0 ^^^ (-1 : Int64))), (.int nb), (.ref b5)])) _
    refine st23.trans ?_
    show Steps p.tables e below (T23.setTop (mkF m 111 #[.val (.long u0), .second, .val (.long u1), .second, .val (.long u2), .second, .val (.long u3), .second, .val (.long u4), .second, iv u5, iv bv, iv sl, iv (((u4.toUInt64 >>> ((32 : Int32) &&& 0x3f).toInt64.toUInt64).toInt64).toInt32), iv (u4.toInt32), rv b5, rv b8, rv b13, .unset, .unset] [])) _
    refine XS.aload X23.here hx rfl (hb hby at_111) rfl rfl ?_
    show Steps p.tables e below (T23.setTop (mkF m 113 #[.val (.long u0), .second, .val (.long u1), .second, .val (.long u2), .second, .val (.long u3), .second, .val (.long u4), .second, iv u5, iv bv, iv sl, iv (((u4.toUInt64 >>> ((32 : Int32) &&& 0x3f).toInt64.toUInt64).toInt64).toInt32), iv (u4.toInt32), rv b5, rv b8, rv b13, .unset, .unset] [(.ref b5)])) _
    refine XS.iload X23.here hx rfl (hb hby at_113) rfl ?_
    show Steps p.tables e below (T23.setTop (mkF m 115 #[.val (.long u0), .second, .val (.long u1), .second, .val (.long u2), .second, .val (.long u3), .second, .val (.long u4), .second, iv u5, iv bv, iv sl, iv (((u4.toUInt64 >>> ((32 : Int32) &&& 0x3f).toInt64.toUInt64).toInt64).toInt32), iv (u4.toInt32), rv b5, rv b8, rv b13, .unset, .unset] [(.int bv), (.ref b5)])) _
    refine XS.lloadN X23.here hx rfl (hb hby at_115) rfl ?_
    show Steps p.tables e below (T23.setTop (mkF m 116 #[.val (.long u0), .second, .val (.long u1), .second, .val (.long u2), .second, .val (.long u3), .second, .val (.long u4), .second, iv u5, iv bv, iv sl, iv (((u4.toUInt64 >>> ((32 : Int32) &&& 0x3f).toInt64.toUInt64).toInt64).toInt32), iv (u4.toInt32), rv b5, rv b8, rv b13, .unset, .unset] [(.long u0), (.int bv), (.ref b5)])) _
    refine XS.lloadN X23.here hx rfl (hb hby at_116) rfl ?_
    show Steps p.tables e below (T23.setTop (mkF m 117 #[.val (.long u0), .second, .val (.long u1), .second, .val (.long u2), .second, .val (.long u3), .second, .val (.long u4), .second, iv u5, iv bv, iv sl, iv (((u4.toUInt64 >>> ((32 : Int32) &&& 0x3f).toInt64.toUInt64).toInt64).toInt32), iv (u4.toInt32), rv b5, rv b8, rv b13, .unset, .unset] [(.long u1), (.long u0), (.int bv), (.ref b5)])) _
    refine XS.iload X23.here hx rfl (hb hby at_117) rfl ?_
    show Steps p.tables e below (T23.setTop (mkF m 119 #[.val (.long u0), .second, .val (.long u1), .second, .val (.long u2), .second, .val (.long u3), .second, .val (.long u4), .second, iv u5, iv bv, iv sl, iv (((u4.toUInt64 >>> ((32 : Int32) &&& 0x3f).toInt64.toUInt64).toInt64).toInt32), iv (u4.toInt32), rv b5, rv b8, rv b13, .unset, .unset] [(.int (((u4.toUInt64 >>> ((32 : Int32) &&& 0x3f).toInt64.toUInt64).toInt64).toInt32)), (.long u1), (.long u0), (.int bv), (.ref b5)])) _
    refine XS.lload X23.here hx rfl (hb hby at_119) rfl ?_
    show Steps p.tables e below (T23.setTop (mkF m 121 #[.val (.long u0), .second, .val (.long u1), .second, .val (.long u2), .second, .val (.long u3), .second, .val (.long u4), .second, iv u5, iv bv, iv sl, iv (((u4.toUInt64 >>> ((32 : Int32) &&& 0x3f).toInt64.toUInt64).toInt64).toInt32), iv (u4.toInt32), rv b5, rv b8, rv b13, .unset, .unset] [(.long u2), (.int (((u4.toUInt64 >>> ((32 : Int32) &&& 0x3f).toInt64.toUInt64).toInt64).toInt32)), (.long u1), (.long u0), (.int bv), (.ref b5)])) _
    refine XS.lload X23.here hx rfl (hb hby at_121) rfl ?_
    show Steps p.tables e below (T23.setTop (mkF m 123 #[.val (.long u0), .second, .val (.long u1), .second, .val (.long u2), .second, .val (.long u3), .second, .val (.long u4), .second, iv u5, iv bv, iv sl, iv (((u4.toUInt64 >>> ((32 : Int32) &&& 0x3f).toInt64.toUInt64).toInt64).toInt32), iv (u4.toInt32), rv b5, rv b8, rv b13, .unset, .unset] [(.long u3), (.long u2), (.int (((u4.toUInt64 >>> ((32 : Int32) &&& 0x3f).toInt64.toUInt64).toInt64).toInt32)), (.long u1), (.long u0), (.int bv), (.ref b5)])) _
    refine XS.iload X23.here hx rfl (hb hby at_123) rfl ?_
    show Steps p.tables e below (T23.setTop (mkF m 125 #[.val (.long u0), .second, .val (.long u1), .second, .val (.long u2), .second, .val (.long u3), .second, .val (.long u4), .second, iv u5, iv bv, iv sl, iv (((u4.toUInt64 >>> ((32 : Int32) &&& 0x3f).toInt64.toUInt64).toInt64).toInt32), iv (u4.toInt32), rv b5, rv b8, rv b13, .unset, .unset] [(.int (u4.toInt32)), (.long u3), (.long u2), (.int (((u4.toUInt64 >>> ((32 : Int32) &&& 0x3f).toInt64.toUInt64).toInt64).toInt32)), (.long u1), (.long u0), (.int bv), (.ref b5)])) _
    refine st30.trans ?_
    show Steps p.tables e below (T30.setTop (mkF m 128 #[.val (.long u0), .second, .val (.long u1), .second, .val (.long u2), .second, .val (.long u3), .second, .val (.long u4), .second, iv u5, iv bv, iv sl, iv (((u4.toUInt64 >>> ((32 : Int32) &&& 0x3f).toInt64.toUInt64).toInt64).toInt32), iv (u4.toInt32), rv b5, rv b8, rv b13, .unset, .unset] [])) _
    refine XS.aload X30.here hx rfl (hb hby at_128) rfl rfl ?_
    show Steps p.tables e below (T30.setTop (mkF m 130 #[.val (.long u0), .second, .val (.long u1), .second, .val (.long u2), .second, .val (.long u3), .second, .val (.long u4), .second, iv u5, iv bv, iv sl, iv (((u4.toUInt64 >>> ((32 : Int32) &&& 0x3f).toInt64.toUInt64).toInt64).toInt32), iv (u4.toInt32), rv b5, rv b8, rv b13, .unset, .unset] [(.ref b8)])) _
    refine XS.iload X30.here hx rfl (hb hby at_130) rfl ?_
    show Steps p.tables e below (T30.setTop (mkF m 132 #[.val (.long u0), .second, .val (.long u1), .second, .val (.long u2), .second, .val (.long u3), .second, .val (.long u4), .second, iv u5, iv bv, iv sl, iv (((u4.toUInt64 >>> ((32 : Int32) &&& 0x3f).toInt64.toUInt64).toInt64).toInt32), iv (u4.toInt32), rv b5, rv b8, rv b13, .unset, .unset] [(.int bv), (.ref b8)])) _
    refine XS.lload X30.here hx rfl (hb hby at_132) rfl ?_
    show Steps p.tables e below (T30.setTop (mkF m 134 #[.val (.long u0), .second, .val (.long u1), .second, .val (.long u2), .second, .val (.long u3), .second, .val (.long u4), .second, iv u5, iv bv, iv sl, iv (((u4.toUInt64 >>> ((32 : Int32) &&& 0x3f).toInt64.toUInt64).toInt64).toInt32), iv (u4.toInt32), rv b5, rv b8, rv b13, .unset, .unset] [(.long u2), (.int bv), (.ref b8)])) _
    refine XS.lload X30.here hx rfl (hb hby at_134) rfl ?_
    show Steps p.tables e below (T30.setTop (mkF m 136 #[.val (.long u0), .second, .val (.long u1), .second, .val (.long u2), .second, .val (.long u3), .second, .val (.long u4), .second, iv u5, iv bv, iv sl, iv (((u4.toUInt64 >>> ((32 : Int32) &&& 0x3f).toInt64.toUInt64).toInt64).toInt32), iv (u4.toInt32), rv b5, rv b8, rv b13, .unset, .unset] [(.long u3), (.long u2), (.int bv), (.ref b8)])) _
    refine XS.iload X30.here hx rfl (hb hby at_136) rfl ?_
    show Steps p.tables e below (T30.setTop (mkF m 138 #[.val (.long u0), .second, .val (.long u1), .second, .val (.long u2), .second, .val (.long u3), .second, .val (.long u4), .second, iv u5, iv bv, iv sl, iv (((u4.toUInt64 >>> ((32 : Int32) &&& 0x3f).toInt64.toUInt64).toInt64).toInt32), iv (u4.toInt32), rv b5, rv b8, rv b13, .unset, .unset] [(.int (u4.toInt32)), (.long u3), (.long u2), (.int bv), (.ref b8)])) _
    refine XS.lloadN X30.here hx rfl (hb hby at_138) rfl ?_
    show Steps p.tables e below (T30.setTop (mkF m 139 #[.val (.long u0), .second, .val (.long u1), .second, .val (.long u2), .second, .val (.long u3), .second, .val (.long u4), .second, iv u5, iv bv, iv sl, iv (((u4.toUInt64 >>> ((32 : Int32) &&& 0x3f).toInt64.toUInt64).toInt64).toInt32), iv (u4.toInt32), rv b5, rv b8, rv b13, .unset, .unset] [(.long u0), (.int (u4.toInt32)), (.long u3), (.long u2), (.int bv), (.ref b8)])) _
    refine XS.lloadN X30.here hx rfl (hb hby at_139) rfl ?_
    show Steps p.tables e below (T30.setTop (mkF m 140 #[.val (.long u0), .second, .val (.long u1), .second, .val (.long u2), .second, .val (.long u3), .second, .val (.long u4), .second, iv u5, iv bv, iv sl, iv (((u4.toUInt64 >>> ((32 : Int32) &&& 0x3f).toInt64.toUInt64).toInt64).toInt32), iv (u4.toInt32), rv b5, rv b8, rv b13, .unset, .unset] [(.long u1), (.long u0), (.int (u4.toInt32)), (.long u3), (.long u2), (.int bv), (.ref b8)])) _
    refine XS.iload X30.here hx rfl (hb hby at_140) rfl ?_
    show Steps p.tables e below (T30.setTop (mkF m 142 #[.val (.long u0), .second, .val (.long u1), .second, .val (.long u2), .second, .val (.long u3), .second, .val (.long u4), .second, iv u5, iv bv, iv sl, iv (((u4.toUInt64 >>> ((32 : Int32) &&& 0x3f).toInt64.toUInt64).toInt64).toInt32), iv (u4.toInt32), rv b5, rv b8, rv b13, .unset, .unset] [(.int (((u4.toUInt64 >>> ((32 : Int32) &&& 0x3f).toInt64.toUInt64).toInt64).toInt32)), (.long u1), (.long u0), (.int (u4.toInt32)), (.long u3), (.long u2), (.int bv), (.ref b8)])) _
    refine st37.trans ?_
    show Steps p.tables e below (T37.setTop (mkF m 145 #[.val (.long u0), .second, .val (.long u1), .second, .val (.long u2), .second, .val (.long u3), .second, .val (.long u4), .second, iv u5, iv bv, iv sl, iv (((u4.toUInt64 >>> ((32 : Int32) &&& 0x3f).toInt64.toUInt64).toInt64).toInt32), iv (u4.toInt32), rv b5, rv b8, rv b13, .unset, .unset] [])) _
    refine XS.aload X37.here hx rfl (hb hby at_145) rfl rfl ?_
    show Steps p.tables e below (T37.setTop (mkF m 147 #[.val (.long u0), .second, .val (.long u1), .second, .val (.long u2), .second, .val (.long u3), .second, .val (.long u4), .second, iv u5, iv bv, iv sl, iv (((u4.toUInt64 >>> ((32 : Int32) &&& 0x3f).toInt64.toUInt64).toInt64).toInt32), iv (u4.toInt32), rv b5, rv b8, rv b13, .unset, .unset] [(.ref b13)])) _
    refine XS.iload X37.here hx rfl (hb hby at_147) rfl ?_
    exact k
  obtain ⟨k0, e_k0⟩ : ∃ z : Int32, z = (if sl = (0 : Int32) then (if bv = (0 : Int32) then (1 : Int32) else (0 : Int32)) else bv) := ⟨_, rfl⟩
  have S47 : ∀ t, Steps p.tables e below (T37.setTop (mkF m 167 #[.val (.long u0), .second, .val (.long u1), .second, .val (.long u2), .second, .val (.long u3), .second, .val (.long u4), .second, iv u5, iv bv, iv sl, iv (((u4.toUInt64 >>> ((32 : Int32) &&& 0x3f).toInt64.toUInt64).toInt64).toInt32), iv (u4.toInt32), rv b5, rv b8, rv b13, .unset, .unset] [(.int k0), (.ref b13)])) t → Steps p.tables e below (s₁.setTop (entryFrame m #[(.long u0), (.long u1), (.long u2), (.long u3), (.long u4), (.int u5)] maxLocals)) t := by
    intro t k
    refine S44 t ?_
    by_cases hd45 : sl = (0 : Int32)
    · skip
      by_cases hd46 : bv = (0 : Int32)
      · skip
        rw [show k0 = (1 : Int32) from by rw [e_k0, if_pos hd45, if_pos hd46]] at k
        show Steps p.tables e below (T37.setTop (mkF m 149 #[.val (.long u0), .second, .val (.long u1), .second, .val (.long u2), .second, .val (.long u3), .second, .val (.long u4), .second, iv u5, iv bv, iv sl, iv (((u4.toUInt64 >>> ((32 : Int32) &&& 0x3f).toInt64.toUInt64).toInt64).toInt32), iv (u4.toInt32), rv b5, rv b8, rv b13, .unset, .unset] [(.int sl), (.ref b13)])) _
        refine XS.ifNo X37.here hx rfl (hb hby at_149) rfl ((if0 _ _).trans (teq hd45).2) ?_
        show Steps p.tables e below (T37.setTop (mkF m 152 #[.val (.long u0), .second, .val (.long u1), .second, .val (.long u2), .second, .val (.long u3), .second, .val (.long u4), .second, iv u5, iv bv, iv sl, iv (((u4.toUInt64 >>> ((32 : Int32) &&& 0x3f).toInt64.toUInt64).toInt64).toInt32), iv (u4.toInt32), rv b5, rv b8, rv b13, .unset, .unset] [(.ref b13)])) _
        refine XS.iload X37.here hx rfl (hb hby at_152) rfl ?_
        show Steps p.tables e below (T37.setTop (mkF m 154 #[.val (.long u0), .second, .val (.long u1), .second, .val (.long u2), .second, .val (.long u3), .second, .val (.long u4), .second, iv u5, iv bv, iv sl, iv (((u4.toUInt64 >>> ((32 : Int32) &&& 0x3f).toInt64.toUInt64).toInt64).toInt32), iv (u4.toInt32), rv b5, rv b8, rv b13, .unset, .unset] [(.int bv), (.ref b13)])) _
        refine XS.ifNo X37.here hx rfl (hb hby at_154) rfl ((if0 _ _).trans (teq hd46).2) ?_
        show Steps p.tables e below (T37.setTop (mkF m 157 #[.val (.long u0), .second, .val (.long u1), .second, .val (.long u2), .second, .val (.long u3), .second, .val (.long u4), .second, iv u5, iv bv, iv sl, iv (((u4.toUInt64 >>> ((32 : Int32) &&& 0x3f).toInt64.toUInt64).toInt64).toInt32), iv (u4.toInt32), rv b5, rv b8, rv b13, .unset, .unset] [(.ref b13)])) _
        refine XS.iconst X37.here hx rfl (hb hby at_157) ?_
        show Steps p.tables e below (T37.setTop (mkF m 158 #[.val (.long u0), .second, .val (.long u1), .second, .val (.long u2), .second, .val (.long u3), .second, .val (.long u4), .second, iv u5, iv bv, iv sl, iv (((u4.toUInt64 >>> ((32 : Int32) &&& 0x3f).toInt64.toUInt64).toInt64).toInt32), iv (u4.toInt32), rv b5, rv b8, rv b13, .unset, .unset] [(.int (1 : Int32)), (.ref b13)])) _
        refine XS.goto X37.here hx rfl (pc0 := 158) (pc' := 167) rfl (hb hby at_158) (by decide) (by decide) ?_
        exact k
      · skip
        rw [show k0 = (0 : Int32) from by rw [e_k0, if_pos hd45, if_neg hd46]] at k
        show Steps p.tables e below (T37.setTop (mkF m 149 #[.val (.long u0), .second, .val (.long u1), .second, .val (.long u2), .second, .val (.long u3), .second, .val (.long u4), .second, iv u5, iv bv, iv sl, iv (((u4.toUInt64 >>> ((32 : Int32) &&& 0x3f).toInt64.toUInt64).toInt64).toInt32), iv (u4.toInt32), rv b5, rv b8, rv b13, .unset, .unset] [(.int sl), (.ref b13)])) _
        refine XS.ifNo X37.here hx rfl (hb hby at_149) rfl ((if0 _ _).trans (teq hd45).2) ?_
        show Steps p.tables e below (T37.setTop (mkF m 152 #[.val (.long u0), .second, .val (.long u1), .second, .val (.long u2), .second, .val (.long u3), .second, .val (.long u4), .second, iv u5, iv bv, iv sl, iv (((u4.toUInt64 >>> ((32 : Int32) &&& 0x3f).toInt64.toUInt64).toInt64).toInt32), iv (u4.toInt32), rv b5, rv b8, rv b13, .unset, .unset] [(.ref b13)])) _
        refine XS.iload X37.here hx rfl (hb hby at_152) rfl ?_
        show Steps p.tables e below (T37.setTop (mkF m 154 #[.val (.long u0), .second, .val (.long u1), .second, .val (.long u2), .second, .val (.long u3), .second, .val (.long u4), .second, iv u5, iv bv, iv sl, iv (((u4.toUInt64 >>> ((32 : Int32) &&& 0x3f).toInt64.toUInt64).toInt64).toInt32), iv (u4.toInt32), rv b5, rv b8, rv b13, .unset, .unset] [(.int bv), (.ref b13)])) _
        refine XS.ifYes X37.here hx rfl (pc0 := 154) (pc' := 161) rfl (hb hby at_154) rfl ((if0 _ _).trans (feq hd46).2) (by decide) (by decide) ?_
        show Steps p.tables e below (T37.setTop (mkF m 161 #[.val (.long u0), .second, .val (.long u1), .second, .val (.long u2), .second, .val (.long u3), .second, .val (.long u4), .second, iv u5, iv bv, iv sl, iv (((u4.toUInt64 >>> ((32 : Int32) &&& 0x3f).toInt64.toUInt64).toInt64).toInt32), iv (u4.toInt32), rv b5, rv b8, rv b13, .unset, .unset] [(.ref b13)])) _
        refine XS.iconst X37.here hx rfl (hb hby at_161) ?_
        show Steps p.tables e below (T37.setTop (mkF m 162 #[.val (.long u0), .second, .val (.long u1), .second, .val (.long u2), .second, .val (.long u3), .second, .val (.long u4), .second, iv u5, iv bv, iv sl, iv (((u4.toUInt64 >>> ((32 : Int32) &&& 0x3f).toInt64.toUInt64).toInt64).toInt32), iv (u4.toInt32), rv b5, rv b8, rv b13, .unset, .unset] [(.int (0 : Int32)), (.ref b13)])) _
        refine XS.goto X37.here hx rfl (pc0 := 162) (pc' := 167) rfl (hb hby at_162) (by decide) (by decide) ?_
        exact k
    · skip
      rw [show k0 = bv from by rw [e_k0, if_neg hd45]] at k
      show Steps p.tables e below (T37.setTop (mkF m 149 #[.val (.long u0), .second, .val (.long u1), .second, .val (.long u2), .second, .val (.long u3), .second, .val (.long u4), .second, iv u5, iv bv, iv sl, iv (((u4.toUInt64 >>> ((32 : Int32) &&& 0x3f).toInt64.toUInt64).toInt64).toInt32), iv (u4.toInt32), rv b5, rv b8, rv b13, .unset, .unset] [(.int sl), (.ref b13)])) _
      refine XS.ifYes X37.here hx rfl (pc0 := 149) (pc' := 165) rfl (hb hby at_149) rfl ((if0 _ _).trans (feq hd45).2) (by decide) (by decide) ?_
      show Steps p.tables e below (T37.setTop (mkF m 165 #[.val (.long u0), .second, .val (.long u1), .second, .val (.long u2), .second, .val (.long u3), .second, .val (.long u4), .second, iv u5, iv bv, iv sl, iv (((u4.toUInt64 >>> ((32 : Int32) &&& 0x3f).toInt64.toUInt64).toInt64).toInt32), iv (u4.toInt32), rv b5, rv b8, rv b13, .unset, .unset] [(.ref b13)])) _
      refine XS.iload X37.here hx rfl (hb hby at_165) rfl ?_
      exact k
  have S48 : ∀ t, Steps p.tables e below (T37.setTop (mkF m 170 #[.val (.long u0), .second, .val (.long u1), .second, .val (.long u2), .second, .val (.long u3), .second, .val (.long u4), .second, iv u5, iv bv, iv sl, iv (((u4.toUInt64 >>> ((32 : Int32) &&& 0x3f).toInt64.toUInt64).toInt64).toInt32), iv (u4.toInt32), rv b5, rv b8, rv b13, .unset, .unset] [(.int (1 : Int32)), (.int sl), (.int k0), (.ref b13)])) t → Steps p.tables e below (s₁.setTop (entryFrame m #[(.long u0), (.long u1), (.long u2), (.long u3), (.long u4), (.int u5)] maxLocals)) t := by
    intro t k
    refine S47 t ?_
    show Steps p.tables e below (T37.setTop (mkF m 167 #[.val (.long u0), .second, .val (.long u1), .second, .val (.long u2), .second, .val (.long u3), .second, .val (.long u4), .second, iv u5, iv bv, iv sl, iv (((u4.toUInt64 >>> ((32 : Int32) &&& 0x3f).toInt64.toUInt64).toInt64).toInt32), iv (u4.toInt32), rv b5, rv b8, rv b13, .unset, .unset] [(.int k0), (.ref b13)])) _
    refine XS.iload X37.here hx rfl (hb hby at_167) rfl ?_
    show Steps p.tables e below (T37.setTop (mkF m 169 #[.val (.long u0), .second, .val (.long u1), .second, .val (.long u2), .second, .val (.long u3), .second, .val (.long u4), .second, iv u5, iv bv, iv sl, iv (((u4.toUInt64 >>> ((32 : Int32) &&& 0x3f).toInt64.toUInt64).toInt64).toInt32), iv (u4.toInt32), rv b5, rv b8, rv b13, .unset, .unset] [(.int sl), (.int k0), (.ref b13)])) _
    refine XS.iconst X37.here hx rfl (hb hby at_169) ?_
    exact k
  obtain ⟨k1, e_k1⟩ : ∃ z : Int64, z = (if sl = (1 : Int32) then (u0 ^^^ (-1 : Int64)) else u0) := ⟨_, rfl⟩
  have S50 : ∀ t, Steps p.tables e below (T37.setTop (mkF m 182 #[.val (.long u0), .second, .val (.long u1), .second, .val (.long u2), .second, .val (.long u3), .second, .val (.long u4), .second, iv u5, iv bv, iv sl, iv (((u4.toUInt64 >>> ((32 : Int32) &&& 0x3f).toInt64.toUInt64).toInt64).toInt32), iv (u4.toInt32), rv b5, rv b8, rv b13, .unset, .unset] [(.long k1), (.int k0), (.ref b13)])) t → Steps p.tables e below (s₁.setTop (entryFrame m #[(.long u0), (.long u1), (.long u2), (.long u3), (.long u4), (.int u5)] maxLocals)) t := by
    intro t k
    refine S48 t ?_
    by_cases hd49 : sl = (1 : Int32)
    · skip
      rw [show k1 = (u0 ^^^ (-1 : Int64)) from by rw [e_k1, if_pos hd49]] at k
      show Steps p.tables e below (T37.setTop (mkF m 170 #[.val (.long u0), .second, .val (.long u1), .second, .val (.long u2), .second, .val (.long u3), .second, .val (.long u4), .second, iv u5, iv bv, iv sl, iv (((u4.toUInt64 >>> ((32 : Int32) &&& 0x3f).toInt64.toUInt64).toInt64).toInt32), iv (u4.toInt32), rv b5, rv b8, rv b13, .unset, .unset] [(.int (1 : Int32)), (.int sl), (.int k0), (.ref b13)])) _
      refine XS.icmpNo X37.here hx rfl (hb hby at_170) rfl (teq hd49).2 ?_
      show Steps p.tables e below (T37.setTop (mkF m 173 #[.val (.long u0), .second, .val (.long u1), .second, .val (.long u2), .second, .val (.long u3), .second, .val (.long u4), .second, iv u5, iv bv, iv sl, iv (((u4.toUInt64 >>> ((32 : Int32) &&& 0x3f).toInt64.toUInt64).toInt64).toInt32), iv (u4.toInt32), rv b5, rv b8, rv b13, .unset, .unset] [(.int k0), (.ref b13)])) _
      refine XS.lloadN X37.here hx rfl (hb hby at_173) rfl ?_
      show Steps p.tables e below (T37.setTop (mkF m 174 #[.val (.long u0), .second, .val (.long u1), .second, .val (.long u2), .second, .val (.long u3), .second, .val (.long u4), .second, iv u5, iv bv, iv sl, iv (((u4.toUInt64 >>> ((32 : Int32) &&& 0x3f).toInt64.toUInt64).toInt64).toInt32), iv (u4.toInt32), rv b5, rv b8, rv b13, .unset, .unset] [(.long u0), (.int k0), (.ref b13)])) _
      refine X37.ldc2Long hx hown (mvT hZ (hw _ (List.mem_of_getElem? (i := 10) rfl))) (g := (mkF m 174 #[.val (.long u0), .second, .val (.long u1), .second, .val (.long u2), .second, .val (.long u3), .second, .val (.long u4), .second, iv u5, iv bv, iv sl, iv (((u4.toUInt64 >>> ((32 : Int32) &&& 0x3f).toInt64.toUInt64).toInt64).toInt32), iv (u4.toInt32), rv b5, rv b8, rv b13, .unset, .unset] [(.long u0), (.int k0), (.ref b13)])) rfl (hb hby at_174) _ ?_
      show Steps p.tables e below (T37.setTop (mkF m 177 #[.val (.long u0), .second, .val (.long u1), .second, .val (.long u2), .second, .val (.long u3), .second, .val (.long u4), .second, iv u5, iv bv, iv sl, iv (((u4.toUInt64 >>> ((32 : Int32) &&& 0x3f).toInt64.toUInt64).toInt64).toInt32), iv (u4.toInt32), rv b5, rv b8, rv b13, .unset, .unset] [(.long (-1 : Int64)), (.long u0), (.int k0), (.ref b13)])) _
      refine XS.lxor X37.here hx rfl (hb hby at_177) rfl ?_
      show Steps p.tables e below (T37.setTop (mkF m 178 #[.val (.long u0), .second, .val (.long u1), .second, .val (.long u2), .second, .val (.long u3), .second, .val (.long u4), .second, iv u5, iv bv, iv sl, iv (((u4.toUInt64 >>> ((32 : Int32) &&& 0x3f).toInt64.toUInt64).toInt64).toInt32), iv (u4.toInt32), rv b5, rv b8, rv b13, .unset, .unset] [(.long (u0 ^^^ (-1 : Int64))), (.int k0), (.ref b13)])) _
      refine XS.goto X37.here hx rfl (pc0 := 178) (pc' := 182) rfl (hb hby at_178) (by decide) (by decide) ?_
      exact k
    · skip
      rw [show k1 = u0 from by rw [e_k1, if_neg hd49]] at k
      show Steps p.tables e below (T37.setTop (mkF m 170 #[.val (.long u0), .second, .val (.long u1), .second, .val (.long u2), .second, .val (.long u3), .second, .val (.long u4), .second, iv u5, iv bv, iv sl, iv (((u4.toUInt64 >>> ((32 : Int32) &&& 0x3f).toInt64.toUInt64).toInt64).toInt32), iv (u4.toInt32), rv b5, rv b8, rv b13, .unset, .unset] [(.int (1 : Int32)), (.int sl), (.int k0), (.ref b13)])) _
      refine XS.icmpYes X37.here hx rfl (pc0 := 170) (pc' := 181) rfl (hb hby at_170) rfl (feq hd49).2 (by decide) (by decide) ?_
      show Steps p.tables e below (T37.setTop (mkF m 181 #[.val (.long u0), .second, .val (.long u1), .second, .val (.long u2), .second, .val (.long u3), .second, .val (.long u4), .second, iv u5, iv bv, iv sl, iv (((u4.toUInt64 >>> ((32 : Int32) &&& 0x3f).toInt64.toUInt64).toInt64).toInt32), iv (u4.toInt32), rv b5, rv b8, rv b13, .unset, .unset] [(.int k0), (.ref b13)])) _
      refine XS.lloadN X37.here hx rfl (hb hby at_181) rfl ?_
      exact k
  have S51 : ∀ t, Steps p.tables e below (T37.setTop (mkF m 185 #[.val (.long u0), .second, .val (.long u1), .second, .val (.long u2), .second, .val (.long u3), .second, .val (.long u4), .second, iv u5, iv bv, iv sl, iv (((u4.toUInt64 >>> ((32 : Int32) &&& 0x3f).toInt64.toUInt64).toInt64).toInt32), iv (u4.toInt32), rv b5, rv b8, rv b13, .unset, .unset] [(.int (2 : Int32)), (.int sl), (.long k1), (.int k0), (.ref b13)])) t → Steps p.tables e below (s₁.setTop (entryFrame m #[(.long u0), (.long u1), (.long u2), (.long u3), (.long u4), (.int u5)] maxLocals)) t := by
    intro t k
    refine S50 t ?_
    show Steps p.tables e below (T37.setTop (mkF m 182 #[.val (.long u0), .second, .val (.long u1), .second, .val (.long u2), .second, .val (.long u3), .second, .val (.long u4), .second, iv u5, iv bv, iv sl, iv (((u4.toUInt64 >>> ((32 : Int32) &&& 0x3f).toInt64.toUInt64).toInt64).toInt32), iv (u4.toInt32), rv b5, rv b8, rv b13, .unset, .unset] [(.long k1), (.int k0), (.ref b13)])) _
    refine XS.iload X37.here hx rfl (hb hby at_182) rfl ?_
    show Steps p.tables e below (T37.setTop (mkF m 184 #[.val (.long u0), .second, .val (.long u1), .second, .val (.long u2), .second, .val (.long u3), .second, .val (.long u4), .second, iv u5, iv bv, iv sl, iv (((u4.toUInt64 >>> ((32 : Int32) &&& 0x3f).toInt64.toUInt64).toInt64).toInt32), iv (u4.toInt32), rv b5, rv b8, rv b13, .unset, .unset] [(.int sl), (.long k1), (.int k0), (.ref b13)])) _
    refine XS.iconst X37.here hx rfl (hb hby at_184) ?_
    exact k
  obtain ⟨k2, e_k2⟩ : ∃ z : Int64, z = (if sl = (2 : Int32) then (u1 ^^^ (-1 : Int64)) else u1) := ⟨_, rfl⟩
  have S53 : ∀ t, Steps p.tables e below (T37.setTop (mkF m 197 #[.val (.long u0), .second, .val (.long u1), .second, .val (.long u2), .second, .val (.long u3), .second, .val (.long u4), .second, iv u5, iv bv, iv sl, iv (((u4.toUInt64 >>> ((32 : Int32) &&& 0x3f).toInt64.toUInt64).toInt64).toInt32), iv (u4.toInt32), rv b5, rv b8, rv b13, .unset, .unset] [(.long k2), (.long k1), (.int k0), (.ref b13)])) t → Steps p.tables e below (s₁.setTop (entryFrame m #[(.long u0), (.long u1), (.long u2), (.long u3), (.long u4), (.int u5)] maxLocals)) t := by
    intro t k
    refine S51 t ?_
    by_cases hd52 : sl = (2 : Int32)
    · skip
      rw [show k2 = (u1 ^^^ (-1 : Int64)) from by rw [e_k2, if_pos hd52]] at k
      show Steps p.tables e below (T37.setTop (mkF m 185 #[.val (.long u0), .second, .val (.long u1), .second, .val (.long u2), .second, .val (.long u3), .second, .val (.long u4), .second, iv u5, iv bv, iv sl, iv (((u4.toUInt64 >>> ((32 : Int32) &&& 0x3f).toInt64.toUInt64).toInt64).toInt32), iv (u4.toInt32), rv b5, rv b8, rv b13, .unset, .unset] [(.int (2 : Int32)), (.int sl), (.long k1), (.int k0), (.ref b13)])) _
      refine XS.icmpNo X37.here hx rfl (hb hby at_185) rfl (teq hd52).2 ?_
      show Steps p.tables e below (T37.setTop (mkF m 188 #[.val (.long u0), .second, .val (.long u1), .second, .val (.long u2), .second, .val (.long u3), .second, .val (.long u4), .second, iv u5, iv bv, iv sl, iv (((u4.toUInt64 >>> ((32 : Int32) &&& 0x3f).toInt64.toUInt64).toInt64).toInt32), iv (u4.toInt32), rv b5, rv b8, rv b13, .unset, .unset] [(.long k1), (.int k0), (.ref b13)])) _
      refine XS.lloadN X37.here hx rfl (hb hby at_188) rfl ?_
      show Steps p.tables e below (T37.setTop (mkF m 189 #[.val (.long u0), .second, .val (.long u1), .second, .val (.long u2), .second, .val (.long u3), .second, .val (.long u4), .second, iv u5, iv bv, iv sl, iv (((u4.toUInt64 >>> ((32 : Int32) &&& 0x3f).toInt64.toUInt64).toInt64).toInt32), iv (u4.toInt32), rv b5, rv b8, rv b13, .unset, .unset] [(.long u1), (.long k1), (.int k0), (.ref b13)])) _
      refine X37.ldc2Long hx hown (mvT hZ (hw _ (List.mem_of_getElem? (i := 10) rfl))) (g := (mkF m 189 #[.val (.long u0), .second, .val (.long u1), .second, .val (.long u2), .second, .val (.long u3), .second, .val (.long u4), .second, iv u5, iv bv, iv sl, iv (((u4.toUInt64 >>> ((32 : Int32) &&& 0x3f).toInt64.toUInt64).toInt64).toInt32), iv (u4.toInt32), rv b5, rv b8, rv b13, .unset, .unset] [(.long u1), (.long k1), (.int k0), (.ref b13)])) rfl (hb hby at_189) _ ?_
      show Steps p.tables e below (T37.setTop (mkF m 192 #[.val (.long u0), .second, .val (.long u1), .second, .val (.long u2), .second, .val (.long u3), .second, .val (.long u4), .second, iv u5, iv bv, iv sl, iv (((u4.toUInt64 >>> ((32 : Int32) &&& 0x3f).toInt64.toUInt64).toInt64).toInt32), iv (u4.toInt32), rv b5, rv b8, rv b13, .unset, .unset] [(.long (-1 : Int64)), (.long u1), (.long k1), (.int k0), (.ref b13)])) _
      refine XS.lxor X37.here hx rfl (hb hby at_192) rfl ?_
      show Steps p.tables e below (T37.setTop (mkF m 193 #[.val (.long u0), .second, .val (.long u1), .second, .val (.long u2), .second, .val (.long u3), .second, .val (.long u4), .second, iv u5, iv bv, iv sl, iv (((u4.toUInt64 >>> ((32 : Int32) &&& 0x3f).toInt64.toUInt64).toInt64).toInt32), iv (u4.toInt32), rv b5, rv b8, rv b13, .unset, .unset] [(.long (u1 ^^^ (-1 : Int64))), (.long k1), (.int k0), (.ref b13)])) _
      refine XS.goto X37.here hx rfl (pc0 := 193) (pc' := 197) rfl (hb hby at_193) (by decide) (by decide) ?_
      exact k
    · skip
      rw [show k2 = u1 from by rw [e_k2, if_neg hd52]] at k
      show Steps p.tables e below (T37.setTop (mkF m 185 #[.val (.long u0), .second, .val (.long u1), .second, .val (.long u2), .second, .val (.long u3), .second, .val (.long u4), .second, iv u5, iv bv, iv sl, iv (((u4.toUInt64 >>> ((32 : Int32) &&& 0x3f).toInt64.toUInt64).toInt64).toInt32), iv (u4.toInt32), rv b5, rv b8, rv b13, .unset, .unset] [(.int (2 : Int32)), (.int sl), (.long k1), (.int k0), (.ref b13)])) _
      refine XS.icmpYes X37.here hx rfl (pc0 := 185) (pc' := 196) rfl (hb hby at_185) rfl (feq hd52).2 (by decide) (by decide) ?_
      show Steps p.tables e below (T37.setTop (mkF m 196 #[.val (.long u0), .second, .val (.long u1), .second, .val (.long u2), .second, .val (.long u3), .second, .val (.long u4), .second, iv u5, iv bv, iv sl, iv (((u4.toUInt64 >>> ((32 : Int32) &&& 0x3f).toInt64.toUInt64).toInt64).toInt32), iv (u4.toInt32), rv b5, rv b8, rv b13, .unset, .unset] [(.long k1), (.int k0), (.ref b13)])) _
      refine XS.lloadN X37.here hx rfl (hb hby at_196) rfl ?_
      exact k
  have S54 : ∀ t, Steps p.tables e below (T37.setTop (mkF m 200 #[.val (.long u0), .second, .val (.long u1), .second, .val (.long u2), .second, .val (.long u3), .second, .val (.long u4), .second, iv u5, iv bv, iv sl, iv (((u4.toUInt64 >>> ((32 : Int32) &&& 0x3f).toInt64.toUInt64).toInt64).toInt32), iv (u4.toInt32), rv b5, rv b8, rv b13, .unset, .unset] [(.int (3 : Int32)), (.int sl), (.long k2), (.long k1), (.int k0), (.ref b13)])) t → Steps p.tables e below (s₁.setTop (entryFrame m #[(.long u0), (.long u1), (.long u2), (.long u3), (.long u4), (.int u5)] maxLocals)) t := by
    intro t k
    refine S53 t ?_
    show Steps p.tables e below (T37.setTop (mkF m 197 #[.val (.long u0), .second, .val (.long u1), .second, .val (.long u2), .second, .val (.long u3), .second, .val (.long u4), .second, iv u5, iv bv, iv sl, iv (((u4.toUInt64 >>> ((32 : Int32) &&& 0x3f).toInt64.toUInt64).toInt64).toInt32), iv (u4.toInt32), rv b5, rv b8, rv b13, .unset, .unset] [(.long k2), (.long k1), (.int k0), (.ref b13)])) _
    refine XS.iload X37.here hx rfl (hb hby at_197) rfl ?_
    show Steps p.tables e below (T37.setTop (mkF m 199 #[.val (.long u0), .second, .val (.long u1), .second, .val (.long u2), .second, .val (.long u3), .second, .val (.long u4), .second, iv u5, iv bv, iv sl, iv (((u4.toUInt64 >>> ((32 : Int32) &&& 0x3f).toInt64.toUInt64).toInt64).toInt32), iv (u4.toInt32), rv b5, rv b8, rv b13, .unset, .unset] [(.int sl), (.long k2), (.long k1), (.int k0), (.ref b13)])) _
    refine XS.iconst X37.here hx rfl (hb hby at_199) ?_
    exact k
  obtain ⟨k3, e_k3⟩ : ∃ z : Int32, z = (if sl = (3 : Int32) then ((((u4.toUInt64 >>> ((32 : Int32) &&& 0x3f).toInt64.toUInt64).toInt64).toInt32) ^^^ (-1 : Int32)) else (((u4.toUInt64 >>> ((32 : Int32) &&& 0x3f).toInt64.toUInt64).toInt64).toInt32)) := ⟨_, rfl⟩
  have S56 : ∀ t, Steps p.tables e below (T37.setTop (mkF m 212 #[.val (.long u0), .second, .val (.long u1), .second, .val (.long u2), .second, .val (.long u3), .second, .val (.long u4), .second, iv u5, iv bv, iv sl, iv (((u4.toUInt64 >>> ((32 : Int32) &&& 0x3f).toInt64.toUInt64).toInt64).toInt32), iv (u4.toInt32), rv b5, rv b8, rv b13, .unset, .unset] [(.int k3), (.long k2), (.long k1), (.int k0), (.ref b13)])) t → Steps p.tables e below (s₁.setTop (entryFrame m #[(.long u0), (.long u1), (.long u2), (.long u3), (.long u4), (.int u5)] maxLocals)) t := by
    intro t k
    refine S54 t ?_
    by_cases hd55 : sl = (3 : Int32)
    · skip
      rw [show k3 = ((((u4.toUInt64 >>> ((32 : Int32) &&& 0x3f).toInt64.toUInt64).toInt64).toInt32) ^^^ (-1 : Int32)) from by rw [e_k3, if_pos hd55]] at k
      show Steps p.tables e below (T37.setTop (mkF m 200 #[.val (.long u0), .second, .val (.long u1), .second, .val (.long u2), .second, .val (.long u3), .second, .val (.long u4), .second, iv u5, iv bv, iv sl, iv (((u4.toUInt64 >>> ((32 : Int32) &&& 0x3f).toInt64.toUInt64).toInt64).toInt32), iv (u4.toInt32), rv b5, rv b8, rv b13, .unset, .unset] [(.int (3 : Int32)), (.int sl), (.long k2), (.long k1), (.int k0), (.ref b13)])) _
      refine XS.icmpNo X37.here hx rfl (hb hby at_200) rfl (teq hd55).2 ?_
      show Steps p.tables e below (T37.setTop (mkF m 203 #[.val (.long u0), .second, .val (.long u1), .second, .val (.long u2), .second, .val (.long u3), .second, .val (.long u4), .second, iv u5, iv bv, iv sl, iv (((u4.toUInt64 >>> ((32 : Int32) &&& 0x3f).toInt64.toUInt64).toInt64).toInt32), iv (u4.toInt32), rv b5, rv b8, rv b13, .unset, .unset] [(.long k2), (.long k1), (.int k0), (.ref b13)])) _
      refine XS.iload X37.here hx rfl (hb hby at_203) rfl ?_
      show Steps p.tables e below (T37.setTop (mkF m 205 #[.val (.long u0), .second, .val (.long u1), .second, .val (.long u2), .second, .val (.long u3), .second, .val (.long u4), .second, iv u5, iv bv, iv sl, iv (((u4.toUInt64 >>> ((32 : Int32) &&& 0x3f).toInt64.toUInt64).toInt64).toInt32), iv (u4.toInt32), rv b5, rv b8, rv b13, .unset, .unset] [(.int (((u4.toUInt64 >>> ((32 : Int32) &&& 0x3f).toInt64.toUInt64).toInt64).toInt32)), (.long k2), (.long k1), (.int k0), (.ref b13)])) _
      refine XS.iconst X37.here hx rfl (hb hby at_205) ?_
      show Steps p.tables e below (T37.setTop (mkF m 206 #[.val (.long u0), .second, .val (.long u1), .second, .val (.long u2), .second, .val (.long u3), .second, .val (.long u4), .second, iv u5, iv bv, iv sl, iv (((u4.toUInt64 >>> ((32 : Int32) &&& 0x3f).toInt64.toUInt64).toInt64).toInt32), iv (u4.toInt32), rv b5, rv b8, rv b13, .unset, .unset] [(.int (-1 : Int32)), (.int (((u4.toUInt64 >>> ((32 : Int32) &&& 0x3f).toInt64.toUInt64).toInt64).toInt32)), (.long k2), (.long k1), (.int k0), (.ref b13)])) _
      refine XS.ixor X37.here hx rfl (hb hby at_206) rfl ?_
      show Steps p.tables e below (T37.setTop (mkF m 207 #[.val (.long u0), .second, .val (.long u1), .second, .val (.long u2), .second, .val (.long u3), .second, .val (.long u4), .second, iv u5, iv bv, iv sl, iv (((u4.toUInt64 >>> ((32 : Int32) &&& 0x3f).toInt64.toUInt64).toInt64).toInt32), iv (u4.toInt32), rv b5, rv b8, rv b13, .unset, .unset] [(.int ((((u4.toUInt64 >>> ((32 : Int32) &&& 0x3f).toInt64.toUInt64).toInt64).toInt32) ^^^ (-1 : Int32))), (.long k2), (.long k1), (.int k0), (.ref b13)])) _
      refine XS.goto X37.here hx rfl (pc0 := 207) (pc' := 212) rfl (hb hby at_207) (by decide) (by decide) ?_
      exact k
    · skip
      rw [show k3 = (((u4.toUInt64 >>> ((32 : Int32) &&& 0x3f).toInt64.toUInt64).toInt64).toInt32) from by rw [e_k3, if_neg hd55]] at k
      show Steps p.tables e below (T37.setTop (mkF m 200 #[.val (.long u0), .second, .val (.long u1), .second, .val (.long u2), .second, .val (.long u3), .second, .val (.long u4), .second, iv u5, iv bv, iv sl, iv (((u4.toUInt64 >>> ((32 : Int32) &&& 0x3f).toInt64.toUInt64).toInt64).toInt32), iv (u4.toInt32), rv b5, rv b8, rv b13, .unset, .unset] [(.int (3 : Int32)), (.int sl), (.long k2), (.long k1), (.int k0), (.ref b13)])) _
      refine XS.icmpYes X37.here hx rfl (pc0 := 200) (pc' := 210) rfl (hb hby at_200) rfl (feq hd55).2 (by decide) (by decide) ?_
      show Steps p.tables e below (T37.setTop (mkF m 210 #[.val (.long u0), .second, .val (.long u1), .second, .val (.long u2), .second, .val (.long u3), .second, .val (.long u4), .second, iv u5, iv bv, iv sl, iv (((u4.toUInt64 >>> ((32 : Int32) &&& 0x3f).toInt64.toUInt64).toInt64).toInt32), iv (u4.toInt32), rv b5, rv b8, rv b13, .unset, .unset] [(.long k2), (.long k1), (.int k0), (.ref b13)])) _
      refine XS.iload X37.here hx rfl (hb hby at_210) rfl ?_
      exact k
  have S57 : ∀ t, Steps p.tables e below (T37.setTop (mkF m 215 #[.val (.long u0), .second, .val (.long u1), .second, .val (.long u2), .second, .val (.long u3), .second, .val (.long u4), .second, iv u5, iv bv, iv sl, iv (((u4.toUInt64 >>> ((32 : Int32) &&& 0x3f).toInt64.toUInt64).toInt64).toInt32), iv (u4.toInt32), rv b5, rv b8, rv b13, .unset, .unset] [(.int (4 : Int32)), (.int sl), (.int k3), (.long k2), (.long k1), (.int k0), (.ref b13)])) t → Steps p.tables e below (s₁.setTop (entryFrame m #[(.long u0), (.long u1), (.long u2), (.long u3), (.long u4), (.int u5)] maxLocals)) t := by
    intro t k
    refine S56 t ?_
    show Steps p.tables e below (T37.setTop (mkF m 212 #[.val (.long u0), .second, .val (.long u1), .second, .val (.long u2), .second, .val (.long u3), .second, .val (.long u4), .second, iv u5, iv bv, iv sl, iv (((u4.toUInt64 >>> ((32 : Int32) &&& 0x3f).toInt64.toUInt64).toInt64).toInt32), iv (u4.toInt32), rv b5, rv b8, rv b13, .unset, .unset] [(.int k3), (.long k2), (.long k1), (.int k0), (.ref b13)])) _
    refine XS.iload X37.here hx rfl (hb hby at_212) rfl ?_
    show Steps p.tables e below (T37.setTop (mkF m 214 #[.val (.long u0), .second, .val (.long u1), .second, .val (.long u2), .second, .val (.long u3), .second, .val (.long u4), .second, iv u5, iv bv, iv sl, iv (((u4.toUInt64 >>> ((32 : Int32) &&& 0x3f).toInt64.toUInt64).toInt64).toInt32), iv (u4.toInt32), rv b5, rv b8, rv b13, .unset, .unset] [(.int sl), (.int k3), (.long k2), (.long k1), (.int k0), (.ref b13)])) _
    refine XS.iconst X37.here hx rfl (hb hby at_214) ?_
    exact k
  obtain ⟨k4, e_k4⟩ : ∃ z : Int64, z = (if sl = (4 : Int32) then (u2 ^^^ (-1 : Int64)) else u2) := ⟨_, rfl⟩
  have S59 : ∀ t, Steps p.tables e below (T37.setTop (mkF m 229 #[.val (.long u0), .second, .val (.long u1), .second, .val (.long u2), .second, .val (.long u3), .second, .val (.long u4), .second, iv u5, iv bv, iv sl, iv (((u4.toUInt64 >>> ((32 : Int32) &&& 0x3f).toInt64.toUInt64).toInt64).toInt32), iv (u4.toInt32), rv b5, rv b8, rv b13, .unset, .unset] [(.long k4), (.int k3), (.long k2), (.long k1), (.int k0), (.ref b13)])) t → Steps p.tables e below (s₁.setTop (entryFrame m #[(.long u0), (.long u1), (.long u2), (.long u3), (.long u4), (.int u5)] maxLocals)) t := by
    intro t k
    refine S57 t ?_
    by_cases hd58 : sl = (4 : Int32)
    · skip
      rw [show k4 = (u2 ^^^ (-1 : Int64)) from by rw [e_k4, if_pos hd58]] at k
      show Steps p.tables e below (T37.setTop (mkF m 215 #[.val (.long u0), .second, .val (.long u1), .second, .val (.long u2), .second, .val (.long u3), .second, .val (.long u4), .second, iv u5, iv bv, iv sl, iv (((u4.toUInt64 >>> ((32 : Int32) &&& 0x3f).toInt64.toUInt64).toInt64).toInt32), iv (u4.toInt32), rv b5, rv b8, rv b13, .unset, .unset] [(.int (4 : Int32)), (.int sl), (.int k3), (.long k2), (.long k1), (.int k0), (.ref b13)])) _
      refine XS.icmpNo X37.here hx rfl (hb hby at_215) rfl (teq hd58).2 ?_
      show Steps p.tables e below (T37.setTop (mkF m 218 #[.val (.long u0), .second, .val (.long u1), .second, .val (.long u2), .second, .val (.long u3), .second, .val (.long u4), .second, iv u5, iv bv, iv sl, iv (((u4.toUInt64 >>> ((32 : Int32) &&& 0x3f).toInt64.toUInt64).toInt64).toInt32), iv (u4.toInt32), rv b5, rv b8, rv b13, .unset, .unset] [(.int k3), (.long k2), (.long k1), (.int k0), (.ref b13)])) _
      refine XS.lload X37.here hx rfl (hb hby at_218) rfl ?_
      show Steps p.tables e below (T37.setTop (mkF m 220 #[.val (.long u0), .second, .val (.long u1), .second, .val (.long u2), .second, .val (.long u3), .second, .val (.long u4), .second, iv u5, iv bv, iv sl, iv (((u4.toUInt64 >>> ((32 : Int32) &&& 0x3f).toInt64.toUInt64).toInt64).toInt32), iv (u4.toInt32), rv b5, rv b8, rv b13, .unset, .unset] [(.long u2), (.int k3), (.long k2), (.long k1), (.int k0), (.ref b13)])) _
      refine X37.ldc2Long hx hown (mvT hZ (hw _ (List.mem_of_getElem? (i := 10) rfl))) (g := (mkF m 220 #[.val (.long u0), .second, .val (.long u1), .second, .val (.long u2), .second, .val (.long u3), .second, .val (.long u4), .second, iv u5, iv bv, iv sl, iv (((u4.toUInt64 >>> ((32 : Int32) &&& 0x3f).toInt64.toUInt64).toInt64).toInt32), iv (u4.toInt32), rv b5, rv b8, rv b13, .unset, .unset] [(.long u2), (.int k3), (.long k2), (.long k1), (.int k0), (.ref b13)])) rfl (hb hby at_220) _ ?_
      show Steps p.tables e below (T37.setTop (mkF m 223 #[.val (.long u0), .second, .val (.long u1), .second, .val (.long u2), .second, .val (.long u3), .second, .val (.long u4), .second, iv u5, iv bv, iv sl, iv (((u4.toUInt64 >>> ((32 : Int32) &&& 0x3f).toInt64.toUInt64).toInt64).toInt32), iv (u4.toInt32), rv b5, rv b8, rv b13, .unset, .unset] [(.long (-1 : Int64)), (.long u2), (.int k3), (.long k2), (.long k1), (.int k0), (.ref b13)])) _
      refine XS.lxor X37.here hx rfl (hb hby at_223) rfl ?_
      show Steps p.tables e below (T37.setTop (mkF m 224 #[.val (.long u0), .second, .val (.long u1), .second, .val (.long u2), .second, .val (.long u3), .second, .val (.long u4), .second, iv u5, iv bv, iv sl, iv (((u4.toUInt64 >>> ((32 : Int32) &&& 0x3f).toInt64.toUInt64).toInt64).toInt32), iv (u4.toInt32), rv b5, rv b8, rv b13, .unset, .unset] [(.long (u2 ^^^ (-1 : Int64))), (.int k3), (.long k2), (.long k1), (.int k0), (.ref b13)])) _
      refine XS.goto X37.here hx rfl (pc0 := 224) (pc' := 229) rfl (hb hby at_224) (by decide) (by decide) ?_
      exact k
    · skip
      rw [show k4 = u2 from by rw [e_k4, if_neg hd58]] at k
      show Steps p.tables e below (T37.setTop (mkF m 215 #[.val (.long u0), .second, .val (.long u1), .second, .val (.long u2), .second, .val (.long u3), .second, .val (.long u4), .second, iv u5, iv bv, iv sl, iv (((u4.toUInt64 >>> ((32 : Int32) &&& 0x3f).toInt64.toUInt64).toInt64).toInt32), iv (u4.toInt32), rv b5, rv b8, rv b13, .unset, .unset] [(.int (4 : Int32)), (.int sl), (.int k3), (.long k2), (.long k1), (.int k0), (.ref b13)])) _
      refine XS.icmpYes X37.here hx rfl (pc0 := 215) (pc' := 227) rfl (hb hby at_215) rfl (feq hd58).2 (by decide) (by decide) ?_
      show Steps p.tables e below (T37.setTop (mkF m 227 #[.val (.long u0), .second, .val (.long u1), .second, .val (.long u2), .second, .val (.long u3), .second, .val (.long u4), .second, iv u5, iv bv, iv sl, iv (((u4.toUInt64 >>> ((32 : Int32) &&& 0x3f).toInt64.toUInt64).toInt64).toInt32), iv (u4.toInt32), rv b5, rv b8, rv b13, .unset, .unset] [(.int k3), (.long k2), (.long k1), (.int k0), (.ref b13)])) _
      refine XS.lload X37.here hx rfl (hb hby at_227) rfl ?_
      exact k
  have S60 : ∀ t, Steps p.tables e below (T37.setTop (mkF m 232 #[.val (.long u0), .second, .val (.long u1), .second, .val (.long u2), .second, .val (.long u3), .second, .val (.long u4), .second, iv u5, iv bv, iv sl, iv (((u4.toUInt64 >>> ((32 : Int32) &&& 0x3f).toInt64.toUInt64).toInt64).toInt32), iv (u4.toInt32), rv b5, rv b8, rv b13, .unset, .unset] [(.int (5 : Int32)), (.int sl), (.long k4), (.int k3), (.long k2), (.long k1), (.int k0), (.ref b13)])) t → Steps p.tables e below (s₁.setTop (entryFrame m #[(.long u0), (.long u1), (.long u2), (.long u3), (.long u4), (.int u5)] maxLocals)) t := by
    intro t k
    refine S59 t ?_
    show Steps p.tables e below (T37.setTop (mkF m 229 #[.val (.long u0), .second, .val (.long u1), .second, .val (.long u2), .second, .val (.long u3), .second, .val (.long u4), .second, iv u5, iv bv, iv sl, iv (((u4.toUInt64 >>> ((32 : Int32) &&& 0x3f).toInt64.toUInt64).toInt64).toInt32), iv (u4.toInt32), rv b5, rv b8, rv b13, .unset, .unset] [(.long k4), (.int k3), (.long k2), (.long k1), (.int k0), (.ref b13)])) _
    refine XS.iload X37.here hx rfl (hb hby at_229) rfl ?_
    show Steps p.tables e below (T37.setTop (mkF m 231 #[.val (.long u0), .second, .val (.long u1), .second, .val (.long u2), .second, .val (.long u3), .second, .val (.long u4), .second, iv u5, iv bv, iv sl, iv (((u4.toUInt64 >>> ((32 : Int32) &&& 0x3f).toInt64.toUInt64).toInt64).toInt32), iv (u4.toInt32), rv b5, rv b8, rv b13, .unset, .unset] [(.int sl), (.long k4), (.int k3), (.long k2), (.long k1), (.int k0), (.ref b13)])) _
    refine XS.iconst X37.here hx rfl (hb hby at_231) ?_
    exact k
  obtain ⟨k5, e_k5⟩ : ∃ z : Int64, z = (if sl = (5 : Int32) then (u3 ^^^ (-1 : Int64)) else u3) := ⟨_, rfl⟩
  have S62 : ∀ t, Steps p.tables e below (T37.setTop (mkF m 246 #[.val (.long u0), .second, .val (.long u1), .second, .val (.long u2), .second, .val (.long u3), .second, .val (.long u4), .second, iv u5, iv bv, iv sl, iv (((u4.toUInt64 >>> ((32 : Int32) &&& 0x3f).toInt64.toUInt64).toInt64).toInt32), iv (u4.toInt32), rv b5, rv b8, rv b13, .unset, .unset] [(.long k5), (.long k4), (.int k3), (.long k2), (.long k1), (.int k0), (.ref b13)])) t → Steps p.tables e below (s₁.setTop (entryFrame m #[(.long u0), (.long u1), (.long u2), (.long u3), (.long u4), (.int u5)] maxLocals)) t := by
    intro t k
    refine S60 t ?_
    by_cases hd61 : sl = (5 : Int32)
    · skip
      rw [show k5 = (u3 ^^^ (-1 : Int64)) from by rw [e_k5, if_pos hd61]] at k
      show Steps p.tables e below (T37.setTop (mkF m 232 #[.val (.long u0), .second, .val (.long u1), .second, .val (.long u2), .second, .val (.long u3), .second, .val (.long u4), .second, iv u5, iv bv, iv sl, iv (((u4.toUInt64 >>> ((32 : Int32) &&& 0x3f).toInt64.toUInt64).toInt64).toInt32), iv (u4.toInt32), rv b5, rv b8, rv b13, .unset, .unset] [(.int (5 : Int32)), (.int sl), (.long k4), (.int k3), (.long k2), (.long k1), (.int k0), (.ref b13)])) _
      refine XS.icmpNo X37.here hx rfl (hb hby at_232) rfl (teq hd61).2 ?_
      show Steps p.tables e below (T37.setTop (mkF m 235 #[.val (.long u0), .second, .val (.long u1), .second, .val (.long u2), .second, .val (.long u3), .second, .val (.long u4), .second, iv u5, iv bv, iv sl, iv (((u4.toUInt64 >>> ((32 : Int32) &&& 0x3f).toInt64.toUInt64).toInt64).toInt32), iv (u4.toInt32), rv b5, rv b8, rv b13, .unset, .unset] [(.long k4), (.int k3), (.long k2), (.long k1), (.int k0), (.ref b13)])) _
      refine XS.lload X37.here hx rfl (hb hby at_235) rfl ?_
      show Steps p.tables e below (T37.setTop (mkF m 237 #[.val (.long u0), .second, .val (.long u1), .second, .val (.long u2), .second, .val (.long u3), .second, .val (.long u4), .second, iv u5, iv bv, iv sl, iv (((u4.toUInt64 >>> ((32 : Int32) &&& 0x3f).toInt64.toUInt64).toInt64).toInt32), iv (u4.toInt32), rv b5, rv b8, rv b13, .unset, .unset] [(.long u3), (.long k4), (.int k3), (.long k2), (.long k1), (.int k0), (.ref b13)])) _
      refine X37.ldc2Long hx hown (mvT hZ (hw _ (List.mem_of_getElem? (i := 10) rfl))) (g := (mkF m 237 #[.val (.long u0), .second, .val (.long u1), .second, .val (.long u2), .second, .val (.long u3), .second, .val (.long u4), .second, iv u5, iv bv, iv sl, iv (((u4.toUInt64 >>> ((32 : Int32) &&& 0x3f).toInt64.toUInt64).toInt64).toInt32), iv (u4.toInt32), rv b5, rv b8, rv b13, .unset, .unset] [(.long u3), (.long k4), (.int k3), (.long k2), (.long k1), (.int k0), (.ref b13)])) rfl (hb hby at_237) _ ?_
      show Steps p.tables e below (T37.setTop (mkF m 240 #[.val (.long u0), .second, .val (.long u1), .second, .val (.long u2), .second, .val (.long u3), .second, .val (.long u4), .second, iv u5, iv bv, iv sl, iv (((u4.toUInt64 >>> ((32 : Int32) &&& 0x3f).toInt64.toUInt64).toInt64).toInt32), iv (u4.toInt32), rv b5, rv b8, rv b13, .unset, .unset] [(.long (-1 : Int64)), (.long u3), (.long k4), (.int k3), (.long k2), (.long k1), (.int k0), (.ref b13)])) _
      refine XS.lxor X37.here hx rfl (hb hby at_240) rfl ?_
      show Steps p.tables e below (T37.setTop (mkF m 241 #[.val (.long u0), .second, .val (.long u1), .second, .val (.long u2), .second, .val (.long u3), .second, .val (.long u4), .second, iv u5, iv bv, iv sl, iv (((u4.toUInt64 >>> ((32 : Int32) &&& 0x3f).toInt64.toUInt64).toInt64).toInt32), iv (u4.toInt32), rv b5, rv b8, rv b13, .unset, .unset] [(.long (u3 ^^^ (-1 : Int64))), (.long k4), (.int k3), (.long k2), (.long k1), (.int k0), (.ref b13)])) _
      refine XS.goto X37.here hx rfl (pc0 := 241) (pc' := 246) rfl (hb hby at_241) (by decide) (by decide) ?_
      exact k
    · skip
      rw [show k5 = u3 from by rw [e_k5, if_neg hd61]] at k
      show Steps p.tables e below (T37.setTop (mkF m 232 #[.val (.long u0), .second, .val (.long u1), .second, .val (.long u2), .second, .val (.long u3), .second, .val (.long u4), .second, iv u5, iv bv, iv sl, iv (((u4.toUInt64 >>> ((32 : Int32) &&& 0x3f).toInt64.toUInt64).toInt64).toInt32), iv (u4.toInt32), rv b5, rv b8, rv b13, .unset, .unset] [(.int (5 : Int32)), (.int sl), (.long k4), (.int k3), (.long k2), (.long k1), (.int k0), (.ref b13)])) _
      refine XS.icmpYes X37.here hx rfl (pc0 := 232) (pc' := 244) rfl (hb hby at_232) rfl (feq hd61).2 (by decide) (by decide) ?_
      show Steps p.tables e below (T37.setTop (mkF m 244 #[.val (.long u0), .second, .val (.long u1), .second, .val (.long u2), .second, .val (.long u3), .second, .val (.long u4), .second, iv u5, iv bv, iv sl, iv (((u4.toUInt64 >>> ((32 : Int32) &&& 0x3f).toInt64.toUInt64).toInt64).toInt32), iv (u4.toInt32), rv b5, rv b8, rv b13, .unset, .unset] [(.long k4), (.int k3), (.long k2), (.long k1), (.int k0), (.ref b13)])) _
      refine XS.lload X37.here hx rfl (hb hby at_244) rfl ?_
      exact k
  have S63 : ∀ t, Steps p.tables e below (T37.setTop (mkF m 250 #[.val (.long u0), .second, .val (.long u1), .second, .val (.long u2), .second, .val (.long u3), .second, .val (.long u4), .second, iv u5, iv bv, iv sl, iv (((u4.toUInt64 >>> ((32 : Int32) &&& 0x3f).toInt64.toUInt64).toInt64).toInt32), iv (u4.toInt32), rv b5, rv b8, rv b13, .unset, .unset] [(.int (6 : Int32)), (.int sl), (.long k5), (.long k4), (.int k3), (.long k2), (.long k1), (.int k0), (.ref b13)])) t → Steps p.tables e below (s₁.setTop (entryFrame m #[(.long u0), (.long u1), (.long u2), (.long u3), (.long u4), (.int u5)] maxLocals)) t := by
    intro t k
    refine S62 t ?_
    show Steps p.tables e below (T37.setTop (mkF m 246 #[.val (.long u0), .second, .val (.long u1), .second, .val (.long u2), .second, .val (.long u3), .second, .val (.long u4), .second, iv u5, iv bv, iv sl, iv (((u4.toUInt64 >>> ((32 : Int32) &&& 0x3f).toInt64.toUInt64).toInt64).toInt32), iv (u4.toInt32), rv b5, rv b8, rv b13, .unset, .unset] [(.long k5), (.long k4), (.int k3), (.long k2), (.long k1), (.int k0), (.ref b13)])) _
    refine XS.iload X37.here hx rfl (hb hby at_246) rfl ?_
    show Steps p.tables e below (T37.setTop (mkF m 248 #[.val (.long u0), .second, .val (.long u1), .second, .val (.long u2), .second, .val (.long u3), .second, .val (.long u4), .second, iv u5, iv bv, iv sl, iv (((u4.toUInt64 >>> ((32 : Int32) &&& 0x3f).toInt64.toUInt64).toInt64).toInt32), iv (u4.toInt32), rv b5, rv b8, rv b13, .unset, .unset] [(.int sl), (.long k5), (.long k4), (.int k3), (.long k2), (.long k1), (.int k0), (.ref b13)])) _
    refine XS.bipush X37.here hx rfl (hb hby at_248) ?_
    exact k
  obtain ⟨k6, e_k6⟩ : ∃ z : Int32, z = (if sl = (6 : Int32) then ((u4.toInt32) ^^^ (-1 : Int32)) else (u4.toInt32)) := ⟨_, rfl⟩
  have S65 : ∀ t, Steps p.tables e below (T37.setTop (mkF m 262 #[.val (.long u0), .second, .val (.long u1), .second, .val (.long u2), .second, .val (.long u3), .second, .val (.long u4), .second, iv u5, iv bv, iv sl, iv (((u4.toUInt64 >>> ((32 : Int32) &&& 0x3f).toInt64.toUInt64).toInt64).toInt32), iv (u4.toInt32), rv b5, rv b8, rv b13, .unset, .unset] [(.int k6), (.long k5), (.long k4), (.int k3), (.long k2), (.long k1), (.int k0), (.ref b13)])) t → Steps p.tables e below (s₁.setTop (entryFrame m #[(.long u0), (.long u1), (.long u2), (.long u3), (.long u4), (.int u5)] maxLocals)) t := by
    intro t k
    refine S63 t ?_
    by_cases hd64 : sl = (6 : Int32)
    · skip
      rw [show k6 = ((u4.toInt32) ^^^ (-1 : Int32)) from by rw [e_k6, if_pos hd64]] at k
      show Steps p.tables e below (T37.setTop (mkF m 250 #[.val (.long u0), .second, .val (.long u1), .second, .val (.long u2), .second, .val (.long u3), .second, .val (.long u4), .second, iv u5, iv bv, iv sl, iv (((u4.toUInt64 >>> ((32 : Int32) &&& 0x3f).toInt64.toUInt64).toInt64).toInt32), iv (u4.toInt32), rv b5, rv b8, rv b13, .unset, .unset] [(.int (6 : Int32)), (.int sl), (.long k5), (.long k4), (.int k3), (.long k2), (.long k1), (.int k0), (.ref b13)])) _
      refine XS.icmpNo X37.here hx rfl (hb hby at_250) rfl (teq hd64).2 ?_
      show Steps p.tables e below (T37.setTop (mkF m 253 #[.val (.long u0), .second, .val (.long u1), .second, .val (.long u2), .second, .val (.long u3), .second, .val (.long u4), .second, iv u5, iv bv, iv sl, iv (((u4.toUInt64 >>> ((32 : Int32) &&& 0x3f).toInt64.toUInt64).toInt64).toInt32), iv (u4.toInt32), rv b5, rv b8, rv b13, .unset, .unset] [(.long k5), (.long k4), (.int k3), (.long k2), (.long k1), (.int k0), (.ref b13)])) _
      refine XS.iload X37.here hx rfl (hb hby at_253) rfl ?_
      show Steps p.tables e below (T37.setTop (mkF m 255 #[.val (.long u0), .second, .val (.long u1), .second, .val (.long u2), .second, .val (.long u3), .second, .val (.long u4), .second, iv u5, iv bv, iv sl, iv (((u4.toUInt64 >>> ((32 : Int32) &&& 0x3f).toInt64.toUInt64).toInt64).toInt32), iv (u4.toInt32), rv b5, rv b8, rv b13, .unset, .unset] [(.int (u4.toInt32)), (.long k5), (.long k4), (.int k3), (.long k2), (.long k1), (.int k0), (.ref b13)])) _
      refine XS.iconst X37.here hx rfl (hb hby at_255) ?_
      show Steps p.tables e below (T37.setTop (mkF m 256 #[.val (.long u0), .second, .val (.long u1), .second, .val (.long u2), .second, .val (.long u3), .second, .val (.long u4), .second, iv u5, iv bv, iv sl, iv (((u4.toUInt64 >>> ((32 : Int32) &&& 0x3f).toInt64.toUInt64).toInt64).toInt32), iv (u4.toInt32), rv b5, rv b8, rv b13, .unset, .unset] [(.int (-1 : Int32)), (.int (u4.toInt32)), (.long k5), (.long k4), (.int k3), (.long k2), (.long k1), (.int k0), (.ref b13)])) _
      refine XS.ixor X37.here hx rfl (hb hby at_256) rfl ?_
      show Steps p.tables e below (T37.setTop (mkF m 257 #[.val (.long u0), .second, .val (.long u1), .second, .val (.long u2), .second, .val (.long u3), .second, .val (.long u4), .second, iv u5, iv bv, iv sl, iv (((u4.toUInt64 >>> ((32 : Int32) &&& 0x3f).toInt64.toUInt64).toInt64).toInt32), iv (u4.toInt32), rv b5, rv b8, rv b13, .unset, .unset] [(.int ((u4.toInt32) ^^^ (-1 : Int32))), (.long k5), (.long k4), (.int k3), (.long k2), (.long k1), (.int k0), (.ref b13)])) _
      refine XS.goto X37.here hx rfl (pc0 := 257) (pc' := 262) rfl (hb hby at_257) (by decide) (by decide) ?_
      exact k
    · skip
      rw [show k6 = (u4.toInt32) from by rw [e_k6, if_neg hd64]] at k
      show Steps p.tables e below (T37.setTop (mkF m 250 #[.val (.long u0), .second, .val (.long u1), .second, .val (.long u2), .second, .val (.long u3), .second, .val (.long u4), .second, iv u5, iv bv, iv sl, iv (((u4.toUInt64 >>> ((32 : Int32) &&& 0x3f).toInt64.toUInt64).toInt64).toInt32), iv (u4.toInt32), rv b5, rv b8, rv b13, .unset, .unset] [(.int (6 : Int32)), (.int sl), (.long k5), (.long k4), (.int k3), (.long k2), (.long k1), (.int k0), (.ref b13)])) _
      refine XS.icmpYes X37.here hx rfl (pc0 := 250) (pc' := 260) rfl (hb hby at_250) rfl (feq hd64).2 (by decide) (by decide) ?_
      show Steps p.tables e below (T37.setTop (mkF m 260 #[.val (.long u0), .second, .val (.long u1), .second, .val (.long u2), .second, .val (.long u3), .second, .val (.long u4), .second, iv u5, iv bv, iv sl, iv (((u4.toUInt64 >>> ((32 : Int32) &&& 0x3f).toInt64.toUInt64).toInt64).toInt32), iv (u4.toInt32), rv b5, rv b8, rv b13, .unset, .unset] [(.long k5), (.long k4), (.int k3), (.long k2), (.long k1), (.int k0), (.ref b13)])) _
      refine XS.iload X37.here hx rfl (hb hby at_260) rfl ?_
      exact k
  obtain ⟨cq66, kq66, q66a, q66b, q66c⟩ := isOf hZ rfl f41
  obtain ⟨_, _, ⟨T66, L66, k66, n66⟩, -, X66, ⟨Lc66, hQ66, l66, y66, z66⟩, st66⟩ := X37.virtualBack hx (y := (⟨"com/example/tracewell/tracewell/capture/Flow", "set", "(ZJJIJJI)V"⟩ : MethodName)) (z := (⟨"com/example/tracewell/tracewell/capture/Flow", "set", "(ZJJIJJI)V"⟩ : MethodName)) hown (mvT hZ (hw _ (List.mem_of_getElem? (i := 11) rfl))) (mvT hZ (hw _ (List.mem_of_getElem? (i := 12) rfl))) (notFace_of_selects (args := #[]) (mvT hZ (hw _ (List.mem_of_getElem? (i := 14) rfl)))) (mvT hZ (hw _ (List.mem_of_getElem? (i := 14) rfl))) (mvT hZ (hw _ (List.mem_of_getElem? (i := 13) rfl))) (by decide) (backOf (W := 0) (rmSet l Z a0 hw [] b13 k0 k1 k2 k3 k4 k5 k6 (0 : Int32) (0 : Int64) (0 : Int64) (0 : Int32) (0 : Int64) (0 : Int64) (0 : Int32) T37.heap n0 Z37 f42 ge_b13) hZ (hw _ (List.mem_of_getElem? (i := 15) rfl)) (hw _ (List.mem_of_getElem? (i := 3) rfl)) (by decide) (by decide)) q66a q66c (g := (mkF m 262 #[.val (.long u0), .second, .val (.long u1), .second, .val (.long u2), .second, .val (.long u3), .second, .val (.long u4), .second, iv u5, iv bv, iv sl, iv (((u4.toUInt64 >>> ((32 : Int32) &&& 0x3f).toInt64.toUInt64).toInt64).toInt32), iv (u4.toInt32), rv b5, rv b8, rv b13, .unset, .unset] [(.int k6), (.long k5), (.long k4), (.int k3), (.long k2), (.long k1), (.int k0), (.ref b13)])) rfl (by rw [hml]; rfl) (Steps.refl _) (argsL := [(.int k0), (.long k1), (.long k2), (.int k3), (.long k4), (.long k5), (.int k6)]) (rest := []) (lenOf pd_0 rfl) rfl (by show 2 * 0 + _ ≤ _; exact Nat.le_of_eq rfl) (hb hby at_262) (fun _ _ => ⟨rfl, rfl, (by decide : 3 + 0 ≤ _), (by decide : 21 + 0 ≤ _)⟩)
  dsimp only [Pt.U, Pt.locs, Pt.cells, Pt.slots] at X66 l66 y66 z66 st66 hQ66
  subst l66 y66 z66
  obtain ⟨rfl, Nq66, Kq66, Bq66⟩ := hQ66
  have N66 := Fr.app N37 Nq66
  have Z66 : n0 ≤ T66.heap.size := Nat.le_trans Z37 Kq66.1
  have f67 := f38.keep Kq66
  have f68 := f39.keep Kq66
  have f69 := f41.keep Kq66
  have f71 := f43.keep Kq66 (ninS ne_b5_b13 nin0)
  have f72 := Bq37.keep Kq66 (ninS ne_b8_b13 nin0)
  obtain ⟨cq73, kq73, q73a, q73b, q73c⟩ := isOf hZ rfl f67
  obtain ⟨_, _, ⟨T73, L73, k73, n73⟩, -, X73, ⟨Lc73, hQ73, l73, y73, z73⟩, st73⟩ := X66.virtualBack hx (y := (⟨"com/example/tracewell/tracewell/capture/Flow", "reversed", "()Lcom/example/tracewell/tracewell/capture/Flow;"⟩ : MethodName)) (z := (⟨"com/example/tracewell/tracewell/capture/Flow", "reversed", "()Lcom/example/tracewell/tracewell/capture/Flow;"⟩ : MethodName)) hown (mvT hZ (hw _ (List.mem_of_getElem? (i := 30) rfl))) (mvT hZ (hw _ (List.mem_of_getElem? (i := 31) rfl))) (notFace_of_selects (args := #[]) (mvT hZ (hw _ (List.mem_of_getElem? (i := 33) rfl)))) (mvT hZ (hw _ (List.mem_of_getElem? (i := 33) rfl))) (mvT hZ (hw _ (List.mem_of_getElem? (i := 32) rfl))) (by decide) (backOf (W := 0) (rmRev l Z a0 hw [] b5 (nar .boolean bv) u0 u1 (((u4.toUInt64 >>> ((32 : Int32) &&& 0x3f).toInt64.toUInt64).toInt64).toInt32) u2 u3 (u4.toInt32) T66.heap n0 Z66 f71) hZ (hw _ (List.mem_of_getElem? (i := 34) rfl)) (hw _ (List.mem_of_getElem? (i := 3) rfl)) (by decide) (by decide)) q73a q73c (g := (mkF m 267 #[.val (.long u0), .second, .val (.long u1), .second, .val (.long u2), .second, .val (.long u3), .second, .val (.long u4), .second, iv u5, iv bv, iv sl, iv (((u4.toUInt64 >>> ((32 : Int32) &&& 0x3f).toInt64.toUInt64).toInt64).toInt32), iv (u4.toInt32), rv b5, rv b8, rv b13, .unset, .unset] [(.ref b5)])) rfl (by rw [hml]; rfl) (Steps.refl _) (argsL := []) (rest := []) (lenOf pd_2 rfl) rfl (by show 2 * 0 + _ ≤ _; exact Nat.le_of_eq rfl) (hb hby at_267) (fun _ _ => ⟨rfl, rfl, (by decide : 3 + 1 ≤ _), (by decide : 21 + 7 ≤ _)⟩)
  dsimp only [Pt.U, Pt.locs, Pt.cells, Pt.slots] at X73 l73 y73 z73 st73 hQ73
  subst l73 y73 z73
  obtain ⟨rb73, rfl, Nq73, Kq73, geq73, szq73, Bq73⟩ := hQ73
  have N73 := Fr.app N66 Nq73
  have Z73 : n0 ≤ T73.heap.size := Nat.le_trans Z66 Kq73.1
  have ne_b13_rb73 : b13 ≠ rb73 := Nat.ne_of_lt (Nat.lt_of_lt_of_le (f69).lt szq73)
  have ne_b5_rb73 : b5 ≠ rb73 := Nat.ne_of_lt (Nat.lt_of_lt_of_le (f67).lt szq73)
  have ne_b8_rb73 : b8 ≠ rb73 := Nat.ne_of_lt (Nat.lt_of_lt_of_le (f68).lt szq73)
  have f74 := f67.keep Kq73
  have f75 := f68.keep Kq73
  have f76 := f69.keep Kq73
  have f77 := f71.keep Kq73 nin0
  have f78 := f72.keep Kq73 nin0
  have f79 := Bq66.keep Kq73 nin0
  have oe73 := Bq73.1
  obtain ⟨cq80, kq80, q80a, q80b, q80c⟩ := isOf hZ rfl oe73
  obtain ⟨_, _, ⟨T80, L80, k80, n80⟩, -, X80, ⟨Lc80, hQ80, l80, y80, z80⟩, st80⟩ := X73.virtualBack hx (y := (⟨"com/example/tracewell/tracewell/capture/Flow", "equals", "(Ljava/lang/Object;)Z"⟩ : MethodName)) (z := (⟨"com/example/tracewell/tracewell/capture/Flow", "equals", "(Ljava/lang/Object;)Z"⟩ : MethodName)) hown (mvT hZ (hw _ (List.mem_of_getElem? (i := 40) rfl))) (mvT hZ (hw _ (List.mem_of_getElem? (i := 41) rfl))) (notFace_of_selects (args := #[]) (mvT hZ (hw _ (List.mem_of_getElem? (i := 43) rfl)))) (mvT hZ (hw _ (List.mem_of_getElem? (i := 43) rfl))) (mvT hZ (hw _ (List.mem_of_getElem? (i := 42) rfl))) (by decide) (backOf (W := 0) (rmEq l Z a0 hw [] rb73 b8 (nar .boolean (nar .boolean bv)) u2 u3 (u4.toInt32) u0 u1 (((u4.toUInt64 >>> ((32 : Int32) &&& 0x3f).toInt64.toUInt64).toInt64).toInt32) (nar .boolean bv) u2 u3 (u4.toInt32) u0 u1 (((u4.toUInt64 >>> ((32 : Int32) &&& 0x3f).toInt64.toUInt64).toInt64).toInt32) T73.heap n0 Z73 Bq73 f78) hZ (hw _ (List.mem_of_getElem? (i := 44) rfl)) (hw _ (List.mem_of_getElem? (i := 3) rfl)) (by decide) (by decide)) q80a q80c (g := (mkF m 272 #[.val (.long u0), .second, .val (.long u1), .second, .val (.long u2), .second, .val (.long u3), .second, .val (.long u4), .second, iv u5, iv bv, iv sl, iv (((u4.toUInt64 >>> ((32 : Int32) &&& 0x3f).toInt64.toUInt64).toInt64).toInt32), iv (u4.toInt32), rv b5, rv b8, rv b13, .unset, .unset] [(.ref b8), (.ref rb73)])) rfl (by rw [hml]; rfl) (Steps.refl _) (argsL := [(.ref b8)]) (rest := []) (lenOf pd_3 rfl) rfl (by show 2 * 0 + _ ≤ _; exact Nat.le_of_eq rfl) (hb hby at_272) (fun _ _ => ⟨rfl, rfl, (by decide : 4 + 0 ≤ _), (by decide : 28 + 0 ≤ _)⟩)
  dsimp only [Pt.U, Pt.locs, Pt.cells, Pt.slots] at X80 l80 y80 z80 st80 hQ80
  subst l80 y80 z80
  obtain ⟨rfl, Nq80, eq80⟩ := hQ80
  have N80 := Fr.app N73 Nq80
  obtain ⟨cq81, kq81, q81a, q81b, q81c⟩ := isOf hZ eq80 f76
  obtain ⟨_, _, ⟨T81, L81, k81, n81⟩, -, X81, ⟨Lc81, hQ81, l81, y81, z81⟩, st81⟩ := X80.virtualBack hx (y := (⟨"com/example/tracewell/tracewell/capture/Flow", "equals", "(Ljava/lang/Object;)Z"⟩ : MethodName)) (z := (⟨"com/example/tracewell/tracewell/capture/Flow", "equals", "(Ljava/lang/Object;)Z"⟩ : MethodName)) hown (mvT hZ (hw _ (List.mem_of_getElem? (i := 40) rfl))) (mvT hZ (hw _ (List.mem_of_getElem? (i := 41) rfl))) (notFace_of_selects (args := #[]) (mvT hZ (hw _ (List.mem_of_getElem? (i := 43) rfl)))) (mvT hZ (hw _ (List.mem_of_getElem? (i := 43) rfl))) (mvT hZ (hw _ (List.mem_of_getElem? (i := 42) rfl))) (by decide) (backOf (W := 0) (rmEq l Z a0 hw [] b13 b5 (nar .boolean k0) k1 k2 k3 k4 k5 k6 (nar .boolean bv) u0 u1 (((u4.toUInt64 >>> ((32 : Int32) &&& 0x3f).toInt64.toUInt64).toInt64).toInt32) u2 u3 (u4.toInt32) T73.heap n0 Z73 f79 f77) hZ (hw _ (List.mem_of_getElem? (i := 44) rfl)) (hw _ (List.mem_of_getElem? (i := 3) rfl)) (by decide) (by decide)) q81a q81c (g := (mkF m 281 #[.val (.long u0), .second, .val (.long u1), .second, .val (.long u2), .second, .val (.long u3), .second, .val (.long u4), .second, iv u5, iv bv, iv sl, iv (((u4.toUInt64 >>> ((32 : Int32) &&& 0x3f).toInt64.toUInt64).toInt64).toInt32), iv (u4.toInt32), rv b5, rv b8, rv b13, iv (own_eqf (nar .boolean (nar .boolean bv)) u2 u3 (u4.toInt32) u0 u1 (((u4.toUInt64 >>> ((32 : Int32) &&& 0x3f).toInt64.toUInt64).toInt64).toInt32) (nar .boolean bv) u2 u3 (u4.toInt32) u0 u1 (((u4.toUInt64 >>> ((32 : Int32) &&& 0x3f).toInt64.toUInt64).toInt64).toInt32)), .unset] [(.ref b5), (.ref b13)])) rfl (by rw [hml]; rfl) (Steps.refl _) (argsL := [(.ref b5)]) (rest := []) (lenOf pd_3 rfl) rfl (by show 2 * 0 + _ ≤ _; exact Nat.le_of_eq rfl) (hb hby at_281) (fun _ _ => ⟨rfl, eq80, (by decide : 4 + 0 ≤ _), (by decide : 28 + 0 ≤ _)⟩)
  dsimp only [Pt.U, Pt.locs, Pt.cells, Pt.slots] at X81 l81 y81 z81 st81 hQ81
  subst l81 y81 z81
  obtain ⟨rfl, Nq81, eq81⟩ := hQ81
  have N81 := Fr.app N80 Nq81
  obtain ⟨fs, hr, hrun, hended, hW, hsame⟩ := X81.leave (v := some (.int (1 : Int32))) (fun h => by rw [Bd.returns] at h; cases h)
  refine ⟨_, _, S65 _ ?_, hrun, hended, _, _, rfl, ?_, ⟨_, rfl⟩, hW, hsame.mono (by decide) (by decide)⟩
  · skip
    show Steps p.tables e below (T37.setTop (mkF m 262 #[.val (.long u0), .second, .val (.long u1), .second, .val (.long u2), .second, .val (.long u3), .second, .val (.long u4), .second, iv u5, iv bv, iv sl, iv (((u4.toUInt64 >>> ((32 : Int32) &&& 0x3f).toInt64.toUInt64).toInt64).toInt32), iv (u4.toInt32), rv b5, rv b8, rv b13, .unset, .unset] [(.int k6), (.long k5), (.long k4), (.int k3), (.long k2), (.long k1), (.int k0), (.ref b13)])) _
    refine st66.trans ?_
    show Steps p.tables e below (T66.setTop (mkF m 265 #[.val (.long u0), .second, .val (.long u1), .second, .val (.long u2), .second, .val (.long u3), .second, .val (.long u4), .second, iv u5, iv bv, iv sl, iv (((u4.toUInt64 >>> ((32 : Int32) &&& 0x3f).toInt64.toUInt64).toInt64).toInt32), iv (u4.toInt32), rv b5, rv b8, rv b13, .unset, .unset] [])) _
    refine XS.aload X66.here hx rfl (hb hby at_265) rfl rfl ?_
    show Steps p.tables e below (T66.setTop (mkF m 267 #[.val (.long u0), .second, .val (.long u1), .second, .val (.long u2), .second, .val (.long u3), .second, .val (.long u4), .second, iv u5, iv bv, iv sl, iv (((u4.toUInt64 >>> ((32 : Int32) &&& 0x3f).toInt64.toUInt64).toInt64).toInt32), iv (u4.toInt32), rv b5, rv b8, rv b13, .unset, .unset] [(.ref b5)])) _
    refine st73.trans ?_
    show Steps p.tables e below (T73.setTop (mkF m 270 #[.val (.long u0), .second, .val (.long u1), .second, .val (.long u2), .second, .val (.long u3), .second, .val (.long u4), .second, iv u5, iv bv, iv sl, iv (((u4.toUInt64 >>> ((32 : Int32) &&& 0x3f).toInt64.toUInt64).toInt64).toInt32), iv (u4.toInt32), rv b5, rv b8, rv b13, .unset, .unset] [(.ref rb73)])) _
    refine XS.aload X73.here hx rfl (hb hby at_270) rfl rfl ?_
    show Steps p.tables e below (T73.setTop (mkF m 272 #[.val (.long u0), .second, .val (.long u1), .second, .val (.long u2), .second, .val (.long u3), .second, .val (.long u4), .second, iv u5, iv bv, iv sl, iv (((u4.toUInt64 >>> ((32 : Int32) &&& 0x3f).toInt64.toUInt64).toInt64).toInt32), iv (u4.toInt32), rv b5, rv b8, rv b13, .unset, .unset] [(.ref b8), (.ref rb73)])) _
    refine st80.trans ?_
    show Steps p.tables e below (T80.setTop (mkF m 275 #[.val (.long u0), .second, .val (.long u1), .second, .val (.long u2), .second, .val (.long u3), .second, .val (.long u4), .second, iv u5, iv bv, iv sl, iv (((u4.toUInt64 >>> ((32 : Int32) &&& 0x3f).toInt64.toUInt64).toInt64).toInt32), iv (u4.toInt32), rv b5, rv b8, rv b13, .unset, .unset] [(.int (own_eqf (nar .boolean (nar .boolean bv)) u2 u3 (u4.toInt32) u0 u1 (((u4.toUInt64 >>> ((32 : Int32) &&& 0x3f).toInt64.toUInt64).toInt64).toInt32) (nar .boolean bv) u2 u3 (u4.toInt32) u0 u1 (((u4.toUInt64 >>> ((32 : Int32) &&& 0x3f).toInt64.toUInt64).toInt64).toInt32)))])) _
    refine XS.istore X80.here hx rfl (hb hby at_275) rfl (l' := #[.val (.long u0), .second, .val (.long u1), .second, .val (.long u2), .second, .val (.long u3), .second, .val (.long u4), .second, iv u5, iv bv, iv sl, iv (((u4.toUInt64 >>> ((32 : Int32) &&& 0x3f).toInt64.toUInt64).toInt64).toInt32), iv (u4.toInt32), rv b5, rv b8, rv b13, iv (own_eqf (nar .boolean (nar .boolean bv)) u2 u3 (u4.toInt32) u0 u1 (((u4.toUInt64 >>> ((32 : Int32) &&& 0x3f).toInt64.toUInt64).toInt64).toInt32) (nar .boolean bv) u2 u3 (u4.toInt32) u0 u1 (((u4.toUInt64 >>> ((32 : Int32) &&& 0x3f).toInt64.toUInt64).toInt64).toInt32)), .unset]) rfl ?_
    show Steps p.tables e below (T80.setTop (mkF m 277 #[.val (.long u0), .second, .val (.long u1), .second, .val (.long u2), .second, .val (.long u3), .second, .val (.long u4), .second, iv u5, iv bv, iv sl, iv (((u4.toUInt64 >>> ((32 : Int32) &&& 0x3f).toInt64.toUInt64).toInt64).toInt32), iv (u4.toInt32), rv b5, rv b8, rv b13, iv (own_eqf (nar .boolean (nar .boolean bv)) u2 u3 (u4.toInt32) u0 u1 (((u4.toUInt64 >>> ((32 : Int32) &&& 0x3f).toInt64.toUInt64).toInt64).toInt32) (nar .boolean bv) u2 u3 (u4.toInt32) u0 u1 (((u4.toUInt64 >>> ((32 : Int32) &&& 0x3f).toInt64.toUInt64).toInt64).toInt32)), .unset] [])) _
    refine XS.aload X80.here hx rfl (hb hby at_277) rfl rfl ?_
    show Steps p.tables e below (T80.setTop (mkF m 279 #[.val (.long u0), .second, .val (.long u1), .second, .val (.long u2), .second, .val (.long u3), .second, .val (.long u4), .second, iv u5, iv bv, iv sl, iv (((u4.toUInt64 >>> ((32 : Int32) &&& 0x3f).toInt64.toUInt64).toInt64).toInt32), iv (u4.toInt32), rv b5, rv b8, rv b13, iv (own_eqf (nar .boolean (nar .boolean bv)) u2 u3 (u4.toInt32) u0 u1 (((u4.toUInt64 >>> ((32 : Int32) &&& 0x3f).toInt64.toUInt64).toInt64).toInt32) (nar .boolean bv) u2 u3 (u4.toInt32) u0 u1 (((u4.toUInt64 >>> ((32 : Int32) &&& 0x3f).toInt64.toUInt64).toInt64).toInt32)), .unset] [(.ref b13)])) _
    refine XS.aload X80.here hx rfl (hb hby at_279) rfl rfl ?_
    show Steps p.tables e below (T80.setTop (mkF m 281 #[.val (.long u0), .second, .val (.long u1), .second, .val (.long u2), .second, .val (.long u3), .second, .val (.long u4), .second, iv u5, iv bv, iv sl, iv (((u4.toUInt64 >>> ((32 : Int32) &&& 0x3f).toInt64.toUInt64).toInt64).toInt32), iv (u4.toInt32), rv b5, rv b8, rv b13, iv (own_eqf (nar .boolean (nar .boolean bv)) u2 u3 (u4.toInt32) u0 u1 (((u4.toUInt64 >>> ((32 : Int32) &&& 0x3f).toInt64.toUInt64).toInt64).toInt32) (nar .boolean bv) u2 u3 (u4.toInt32) u0 u1 (((u4.toUInt64 >>> ((32 : Int32) &&& 0x3f).toInt64.toUInt64).toInt64).toInt32)), .unset] [(.ref b5), (.ref b13)])) _
    refine st81.trans ?_
    show Steps p.tables e below (T81.setTop (mkF m 284 #[.val (.long u0), .second, .val (.long u1), .second, .val (.long u2), .second, .val (.long u3), .second, .val (.long u4), .second, iv u5, iv bv, iv sl, iv (((u4.toUInt64 >>> ((32 : Int32) &&& 0x3f).toInt64.toUInt64).toInt64).toInt32), iv (u4.toInt32), rv b5, rv b8, rv b13, iv (own_eqf (nar .boolean (nar .boolean bv)) u2 u3 (u4.toInt32) u0 u1 (((u4.toUInt64 >>> ((32 : Int32) &&& 0x3f).toInt64.toUInt64).toInt64).toInt32) (nar .boolean bv) u2 u3 (u4.toInt32) u0 u1 (((u4.toUInt64 >>> ((32 : Int32) &&& 0x3f).toInt64.toUInt64).toInt64).toInt32)), .unset] [(.int (own_eqf (nar .boolean k0) k1 k2 k3 k4 k5 k6 (nar .boolean bv) u0 u1 (((u4.toUInt64 >>> ((32 : Int32) &&& 0x3f).toInt64.toUInt64).toInt64).toInt32) u2 u3 (u4.toInt32)))])) _
    refine XS.ifNo X81.here hx rfl (hb hby at_284) rfl ((if0 _ _).trans (teq (own_kd hsl (own_01 e_bv) e_k0 e_k1 e_k2 e_k3 e_k4 e_k5 e_k6)).2) ?_
    show Steps p.tables e below (T81.setTop (mkF m 287 #[.val (.long u0), .second, .val (.long u1), .second, .val (.long u2), .second, .val (.long u3), .second, .val (.long u4), .second, iv u5, iv bv, iv sl, iv (((u4.toUInt64 >>> ((32 : Int32) &&& 0x3f).toInt64.toUInt64).toInt64).toInt32), iv (u4.toInt32), rv b5, rv b8, rv b13, iv (own_eqf (nar .boolean (nar .boolean bv)) u2 u3 (u4.toInt32) u0 u1 (((u4.toUInt64 >>> ((32 : Int32) &&& 0x3f).toInt64.toUInt64).toInt64).toInt32) (nar .boolean bv) u2 u3 (u4.toInt32) u0 u1 (((u4.toUInt64 >>> ((32 : Int32) &&& 0x3f).toInt64.toUInt64).toInt64).toInt32)), .unset] [])) _
    refine XS.iconst X81.here hx rfl (hb hby at_287) ?_
    show Steps p.tables e below (T81.setTop (mkF m 288 #[.val (.long u0), .second, .val (.long u1), .second, .val (.long u2), .second, .val (.long u3), .second, .val (.long u4), .second, iv u5, iv bv, iv sl, iv (((u4.toUInt64 >>> ((32 : Int32) &&& 0x3f).toInt64.toUInt64).toInt64).toInt32), iv (u4.toInt32), rv b5, rv b8, rv b13, iv (own_eqf (nar .boolean (nar .boolean bv)) u2 u3 (u4.toInt32) u0 u1 (((u4.toUInt64 >>> ((32 : Int32) &&& 0x3f).toInt64.toUInt64).toInt64).toInt32) (nar .boolean bv) u2 u3 (u4.toInt32) u0 u1 (((u4.toUInt64 >>> ((32 : Int32) &&& 0x3f).toInt64.toUInt64).toInt64).toInt32)), .unset] [(.int (1 : Int32))])) _
    refine XS.goto X81.here hx rfl (pc0 := 288) (pc' := 292) rfl (hb hby at_288) (by decide) (by decide) ?_
    show Steps p.tables e below (T81.setTop (mkF m 292 #[.val (.long u0), .second, .val (.long u1), .second, .val (.long u2), .second, .val (.long u3), .second, .val (.long u4), .second, iv u5, iv bv, iv sl, iv (((u4.toUInt64 >>> ((32 : Int32) &&& 0x3f).toInt64.toUInt64).toInt64).toInt32), iv (u4.toInt32), rv b5, rv b8, rv b13, iv (own_eqf (nar .boolean (nar .boolean bv)) u2 u3 (u4.toInt32) u0 u1 (((u4.toUInt64 >>> ((32 : Int32) &&& 0x3f).toInt64.toUInt64).toInt64).toInt32) (nar .boolean bv) u2 u3 (u4.toInt32) u0 u1 (((u4.toUInt64 >>> ((32 : Int32) &&& 0x3f).toInt64.toUInt64).toInt64).toInt32)), .unset] [(.int (1 : Int32))])) _
    refine XS.istore X81.here hx rfl (hb hby at_292) rfl (l' := #[.val (.long u0), .second, .val (.long u1), .second, .val (.long u2), .second, .val (.long u3), .second, .val (.long u4), .second, iv u5, iv bv, iv sl, iv (((u4.toUInt64 >>> ((32 : Int32) &&& 0x3f).toInt64.toUInt64).toInt64).toInt32), iv (u4.toInt32), rv b5, rv b8, rv b13, iv (own_eqf (nar .boolean (nar .boolean bv)) u2 u3 (u4.toInt32) u0 u1 (((u4.toUInt64 >>> ((32 : Int32) &&& 0x3f).toInt64.toUInt64).toInt64).toInt32) (nar .boolean bv) u2 u3 (u4.toInt32) u0 u1 (((u4.toUInt64 >>> ((32 : Int32) &&& 0x3f).toInt64.toUInt64).toInt64).toInt32)), iv (1 : Int32)]) rfl ?_
    show Steps p.tables e below (T81.setTop (mkF m 294 #[.val (.long u0), .second, .val (.long u1), .second, .val (.long u2), .second, .val (.long u3), .second, .val (.long u4), .second, iv u5, iv bv, iv sl, iv (((u4.toUInt64 >>> ((32 : Int32) &&& 0x3f).toInt64.toUInt64).toInt64).toInt32), iv (u4.toInt32), rv b5, rv b8, rv b13, iv (own_eqf (nar .boolean (nar .boolean bv)) u2 u3 (u4.toInt32) u0 u1 (((u4.toUInt64 >>> ((32 : Int32) &&& 0x3f).toInt64.toUInt64).toInt64).toInt32) (nar .boolean bv) u2 u3 (u4.toInt32) u0 u1 (((u4.toUInt64 >>> ((32 : Int32) &&& 0x3f).toInt64.toUInt64).toInt64).toInt32)), iv (1 : Int32)] [])) _
    refine XS.iload X81.here hx rfl (hb hby at_294) rfl ?_
    show Steps p.tables e below (T81.setTop (mkF m 296 #[.val (.long u0), .second, .val (.long u1), .second, .val (.long u2), .second, .val (.long u3), .second, .val (.long u4), .second, iv u5, iv bv, iv sl, iv (((u4.toUInt64 >>> ((32 : Int32) &&& 0x3f).toInt64.toUInt64).toInt64).toInt32), iv (u4.toInt32), rv b5, rv b8, rv b13, iv (own_eqf (nar .boolean (nar .boolean bv)) u2 u3 (u4.toInt32) u0 u1 (((u4.toUInt64 >>> ((32 : Int32) &&& 0x3f).toInt64.toUInt64).toInt64).toInt32) (nar .boolean bv) u2 u3 (u4.toInt32) u0 u1 (((u4.toUInt64 >>> ((32 : Int32) &&& 0x3f).toInt64.toUInt64).toInt64).toInt32)), iv (1 : Int32)] [(.int (own_eqf (nar .boolean (nar .boolean bv)) u2 u3 (u4.toInt32) u0 u1 (((u4.toUInt64 >>> ((32 : Int32) &&& 0x3f).toInt64.toUInt64).toInt64).toInt32) (nar .boolean bv) u2 u3 (u4.toInt32) u0 u1 (((u4.toUInt64 >>> ((32 : Int32) &&& 0x3f).toInt64.toUInt64).toInt64).toInt32)))])) _
    refine XS.ifNo X81.here hx rfl (hb hby at_296) rfl ((if0 _ _).trans (feq (by rw [own_eqf_one (own_nn _) rfl rfl rfl rfl rfl rfl]; decide)).1) ?_
    show Steps p.tables e below (T81.setTop (mkF m 299 #[.val (.long u0), .second, .val (.long u1), .second, .val (.long u2), .second, .val (.long u3), .second, .val (.long u4), .second, iv u5, iv bv, iv sl, iv (((u4.toUInt64 >>> ((32 : Int32) &&& 0x3f).toInt64.toUInt64).toInt64).toInt32), iv (u4.toInt32), rv b5, rv b8, rv b13, iv (own_eqf (nar .boolean (nar .boolean bv)) u2 u3 (u4.toInt32) u0 u1 (((u4.toUInt64 >>> ((32 : Int32) &&& 0x3f).toInt64.toUInt64).toInt64).toInt32) (nar .boolean bv) u2 u3 (u4.toInt32) u0 u1 (((u4.toUInt64 >>> ((32 : Int32) &&& 0x3f).toInt64.toUInt64).toInt64).toInt32)), iv (1 : Int32)] [])) _
    refine XS.iload X81.here hx rfl (hb hby at_299) rfl ?_
    show Steps p.tables e below (T81.setTop (mkF m 301 #[.val (.long u0), .second, .val (.long u1), .second, .val (.long u2), .second, .val (.long u3), .second, .val (.long u4), .second, iv u5, iv bv, iv sl, iv (((u4.toUInt64 >>> ((32 : Int32) &&& 0x3f).toInt64.toUInt64).toInt64).toInt32), iv (u4.toInt32), rv b5, rv b8, rv b13, iv (own_eqf (nar .boolean (nar .boolean bv)) u2 u3 (u4.toInt32) u0 u1 (((u4.toUInt64 >>> ((32 : Int32) &&& 0x3f).toInt64.toUInt64).toInt64).toInt32) (nar .boolean bv) u2 u3 (u4.toInt32) u0 u1 (((u4.toUInt64 >>> ((32 : Int32) &&& 0x3f).toInt64.toUInt64).toInt64).toInt32)), iv (1 : Int32)] [(.int (1 : Int32))])) _
    refine XS.ifNo X81.here hx rfl (hb hby at_301) rfl ((if0 _ _).trans (feq (by decide : ¬ ((1 : Int32) = (0 : Int32)))).1) ?_
    show Steps p.tables e below (T81.setTop (mkF m 304 #[.val (.long u0), .second, .val (.long u1), .second, .val (.long u2), .second, .val (.long u3), .second, .val (.long u4), .second, iv u5, iv bv, iv sl, iv (((u4.toUInt64 >>> ((32 : Int32) &&& 0x3f).toInt64.toUInt64).toInt64).toInt32), iv (u4.toInt32), rv b5, rv b8, rv b13, iv (own_eqf (nar .boolean (nar .boolean bv)) u2 u3 (u4.toInt32) u0 u1 (((u4.toUInt64 >>> ((32 : Int32) &&& 0x3f).toInt64.toUInt64).toInt64).toInt32) (nar .boolean bv) u2 u3 (u4.toInt32) u0 u1 (((u4.toUInt64 >>> ((32 : Int32) &&& 0x3f).toInt64.toUInt64).toInt64).toInt32)), iv (1 : Int32)] [])) _
    refine XS.iconst X81.here hx rfl (hb hby at_304) ?_
    show Steps p.tables e below (T81.setTop (mkF m 305 #[.val (.long u0), .second, .val (.long u1), .second, .val (.long u2), .second, .val (.long u3), .second, .val (.long u4), .second, iv u5, iv bv, iv sl, iv (((u4.toUInt64 >>> ((32 : Int32) &&& 0x3f).toInt64.toUInt64).toInt64).toInt32), iv (u4.toInt32), rv b5, rv b8, rv b13, iv (own_eqf (nar .boolean (nar .boolean bv)) u2 u3 (u4.toInt32) u0 u1 (((u4.toUInt64 >>> ((32 : Int32) &&& 0x3f).toInt64.toUInt64).toInt64).toInt32) (nar .boolean bv) u2 u3 (u4.toInt32) u0 u1 (((u4.toUInt64 >>> ((32 : Int32) &&& 0x3f).toInt64.toUInt64).toInt64).toInt32)), iv (1 : Int32)] [(.int (1 : Int32))])) _
    refine XS.goto X81.here hx rfl (pc0 := 305) (pc' := 309) rfl (hb hby at_305) (by decide) (by decide) ?_
    show Steps p.tables e below (T81.setTop (mkF m 309 #[.val (.long u0), .second, .val (.long u1), .second, .val (.long u2), .second, .val (.long u3), .second, .val (.long u4), .second, iv u5, iv bv, iv sl, iv (((u4.toUInt64 >>> ((32 : Int32) &&& 0x3f).toInt64.toUInt64).toInt64).toInt32), iv (u4.toInt32), rv b5, rv b8, rv b13, iv (own_eqf (nar .boolean (nar .boolean bv)) u2 u3 (u4.toInt32) u0 u1 (((u4.toUInt64 >>> ((32 : Int32) &&& 0x3f).toInt64.toUInt64).toInt64).toInt32) (nar .boolean bv) u2 u3 (u4.toInt32) u0 u1 (((u4.toUInt64 >>> ((32 : Int32) &&& 0x3f).toInt64.toUInt64).toInt64).toInt32)), iv (1 : Int32)] [(.int (1 : Int32))])) _
    exact retN X81 hx (t := .boolean) Bd.returns (by simp) (hb hby at_309) hr
  · show Q0 Z u0 u1 u2 u3 u4 u5 h0 n0 _ T81.heap _
    rw [eq81]
    exact ⟨rfl, N81⟩
set_option maxRecDepth 65536 in
set_option maxHeartbeats 40000000 in
theorem comes_1 {Post : Tables → Env → Array Value → State → Outcome → State → Prop} (hpost : ∀ tb e args s v u, (limb_1_1.after args s (.returned v) u = true ∧ limb_1_2.after args s (.returned v) u = true ∧ True) → FrameEnd s (.returned v) u (Jvm.fieldLocs frame_1_writes args s ++ Jvm.arrayLocs frame_1_arrays args s ++ Jvm.staticLocs frame_1_statics s) 16 128 → Post tb e args s (.returned v) u) :
    ArmFor flags0 classFile x code maxLocals ret World_1 tables_1 room_1 Calls_1 rest_1 Pre_1 Post := by
  intro l hfl _ _ p e ha hc hk s m args below hf hA hF happ hP
  obtain ⟨hcalls, hrest, hpre⟩ := hP
  obtain ⟨-, -, -, hnamed, -, -, -, hat⟩ := (Spec.applies_iff hf).mp happ
  obtain ⟨hg, hn⟩ := and_e (Cond.before_iff.mp (show (Jvm.Cond.and given_1 narrow_1).before args s = true from hpre))
  obtain ⟨g1, g2⟩ := and_e hg
  obtain ⟨g3, g4⟩ := and_e g2
  obtain ⟨g5, g6⟩ := and_e g4
  obtain ⟨g7, g8⟩ := and_e g6
  obtain ⟨g9, g10⟩ := and_e g8
  obtain ⟨g11, g12⟩ := and_e g10
  obtain ⟨w0, w1, w2, w3, w4, w5, rfl⟩ : ∃ w0 w1 w2 w3 w4 w5 : Value, args = #[w0, w1, w2, w3, w4, w5] := by
    have hs : args.size = 6 := by simpa [Cond.value, given_1] using g1
    obtain ⟨L⟩ := args
    match L, hs with
    | [w0, w1, w2, w3, w4, w5], _ => exact ⟨w0, w1, w2, w3, w4, w5, rfl⟩
  have hw := fun d (hd : d ∈ tables_1) => atoms_spec (ws := Jvm.Cond.code x code maxLocals ret :: tables_1) hat d (List.mem_cons_of_mem _ hd)
  have hfit : Fit s := fun {y c} hc i hi => by
    obtain ⟨ha, rfl⟩ := Array.getElem?_eq_some_iff.mp hc
    have q := List.all_eq_true.mp ((Array.all_eq_true_iff_forall_mem.mp hF) _ (Array.getElem_mem ha)) i (List.mem_range.mpr hi)
    simpa [Array.getElem?_eq_getElem hi] using q
  obtain ⟨i0, ei0⟩ := isL_v g3
  obtain rfl : w0 = (.long i0) := Option.some.inj ei0
  obtain ⟨i1, ei1⟩ := isL_v g5
  obtain rfl : w1 = (.long i1) := Option.some.inj ei1
  obtain ⟨i2, ei2⟩ := isL_v g7
  obtain rfl : w2 = (.long i2) := Option.some.inj ei2
  obtain ⟨i3, ei3⟩ := isL_v g9
  obtain rfl : w3 = (.long i3) := Option.some.inj ei3
  obtain ⟨i4, ei4⟩ := isL_v g11
  obtain rfl : w4 = (.long i4) := Option.some.inj ei4
  obtain ⟨i5, ei5⟩ := is_v g12
  obtain rfl : w5 = (.int i5) := Option.some.inj ei5
  obtain ⟨n, o, h1, h2, h3, _, L, rfl, ⟨rfl, N⟩, hq⟩ := rm0 l s _ hw tables_1 i0 i1 i2 i3 i4 i5 s.heap s.heap.size (Nat.le_refl _)  p e ha hc hk s m _ below hf ((Spec.applies_iff_loose hf).mp happ).1 ⟨rfl, State.Warmed39.refl s, rfl⟩ trivial
  refine ⟨n, _, h1, h2, h3, hpost _ _ _ _ _ _ ⟨Cond.after_iff.mpr rfl, Cond.after_iff.mpr (eq_i res_at (Term.int_eval (1)) rfl), trivial⟩ ⟨hq.1, hq.2.1, (hq.2.2.sift fun y hy => Or.inr (N y hy)).mono (by decide) (by decide)⟩⟩
theorem main_1_1 : Claimed_1_1 := comes_1 fun _ _ _ _ _ _ h hF => ⟨h.1, hF⟩
theorem main_1_2 : Claimed_1_2 := comes_1 fun _ _ _ _ _ _ h hF => ⟨h.2.1, hF⟩
end Jvm.Pilot.@@N@@
namespace Jvm.Pilot.@@N@@
open Jvm Jvm.ClassFile Sem Op Lib Jvm.Free Jvm.Stand Jvm.Pilot.@@N@@.Jvm.D
/-! MADE BY PROGRAM (witnessworld.py) out of the Statement's table words and the real class files: 9 classes; the members and pool entries that the words name. The judged class is class 1, her method 1. -/
namespace start1
open Jvm.ClassFile
def u (s : String) : CpInfo := .utf8 (stringToUtf16 s)
/-- a pool by its gaps: so many unusable entries, then the entry; so many at the end -/
def gap : Nat → List CpInfo → List CpInfo
  | 0, r => r
  | n + 1, r => .unusable :: gap n r
def poolList (es : List (Nat × CpInfo)) (last : Nat) : List CpInfo := es.foldr (fun e r => gap e.1 (e.2 :: r)) (gap last [])
def pool (es : List (Nat × CpInfo)) (last : Nat) : Array CpInfo := ⟨poolList es last⟩
def fileOf (pool : Array CpInfo) (this : Nat) (attrs : Array Attribute := #[]) (ms : Array MethodInfo := #[]) (fl : Nat := 33) (sup : Nat := 0) (ifs : Array Nat := #[]) (fds : Array FieldInfo := #[]) : ClassFile where
  minorVersion := 0
  majorVersion := 65
  constantPool := pool
  accessFlags := fl
  thisClass := this
  superClass := sup
  interfaces := ifs
  fields := fds
  methods := ms
  attributes := attrs
def plain (name : String) (sup : Option ClassId) : Class where
  name := name
  kind := .ordinary
  loader := none
  accessFlags := 33
  super := sup
  interfaces := #[]
  cf := none
  fields := #[]
  methods := #[]
  instanceTypes := #[]
  staticTypes := #[]
  resolved := #[]
  callSites := []
  init := .initialized
  statics := none
  mirror := none

def pool0 : Array CpInfo := pool [(5, u "<init>"), (0, u "()V"), (1, .class_ 10), (1, u "java/lang/Object")] 113

def k0c0 : Code := { maxStack := 0, maxLocals := 1, code := object_method_1_code, exceptionTable := #[], attributes := #[] }
def k0m0 : Method := { name := "<init>", desc := "()V", sig := { parameters := [], returnType := none }, accessFlags := 1, code := some k0c0 }
/-- java/lang/Object -/
def k0 : Class := { plain "java/lang/Object" none with
  accessFlags := 33
  interfaces := #[]
  cf := some (fileOf pool0 8 #[] #[{ accessFlags := 1, nameIndex := 5, descriptorIndex := 6, attributes := #[] }] 33 0 #[] #[])
  fields := #[]
  methods := #[k0m0]
  instanceTypes := #[]
  staticTypes := #[]
  resolved := Array.replicate 124 none
  statics := none }

def pool1 : Array CpInfo := pool [(2, .class_ 4), (0, .nameAndType 5 6), (0, u "java/lang/Object"), (0, u "<init>"), (0, u "()V"), (0, .integer 2147483647), (0, .class_ 9), (0, u "com/example/tracewell/tracewell/capture/Flow"), (0, .methodref 8 3), (0, .long 18446744073709551615), (1, .methodref 8 14), (0, .nameAndType 15 16), (0, u "set"), (0, u "(ZJJIJJI)V"), (0, .methodref 8 18), (0, .nameAndType 19 20), (0, u "reversed"), (0, u "()Lcom/example/tracewell/tracewell/capture/Flow;"), (0, .methodref 8 22), (0, .nameAndType 23 24), (0, u "equals"), (0, u "(Ljava/lang/Object;)Z"), (0, .class_ 26), (0, u "com/example/tracewell/tracewell/capture/FlowSetPinLaw"), (2, u "law"), (0, u "(JJJJJI)Z")] 3

def k1m0 : Method := { name := "<init>", desc := "()V", sig := { parameters := [], returnType := none }, accessFlags := 1, code := none }
def k1c1 : Code := { maxStack := 13, maxLocals := 20, code := code, exceptionTable := #[], attributes := #[] }
def k1m1 : Method := { name := "law", desc := "(JJJJJI)Z", sig := { parameters := [.long, .long, .long, .long, .long, .int], returnType := some .boolean }, accessFlags := 9, code := some k1c1 }
/-- com/example/tracewell/tracewell/capture/FlowSetPinLaw -/
def k1 : Class := { plain "com/example/tracewell/tracewell/capture/FlowSetPinLaw" (some 0) with
  accessFlags := 49
  interfaces := #[]
  cf := some (fileOf pool1 25 #[] #[{ accessFlags := 1, nameIndex := 5, descriptorIndex := 6, attributes := #[] }, { accessFlags := 9, nameIndex := 29, descriptorIndex := 30, attributes := #[] }] 49 2 #[] #[])
  fields := #[]
  methods := #[k1m0, k1m1]
  instanceTypes := #[]
  staticTypes := #[]
  resolved := Array.replicate 34 none
  statics := none }

def pool2 : Array CpInfo := pool [(1, .methodref 2 3), (0, .class_ 4), (0, .nameAndType 5 6), (0, u "java/lang/Object"), (0, u "<init>"), (0, u "()V"), (0, .methodref 8 9), (0, .class_ 10), (0, .nameAndType 11 12), (0, u "com/example/tracewell/tracewell/capture/Flow"), (0, u "set"), (0, u "(ZJJIJJI)V"), (0, .fieldref 8 14), (0, .nameAndType 15 16), (0, u "ipv6"), (0, u "Z"), (0, .fieldref 8 18), (0, .nameAndType 19 20), (0, u "sourceHigh"), (0, u "J"), (0, .fieldref 8 22), (0, .nameAndType 23 20), (0, u "sourceLow"), (0, .fieldref 8 25), (0, .nameAndType 26 27), (0, u "sourcePort"), (0, u "I"), (0, .fieldref 8 29), (0, .nameAndType 30 20), (0, u "destinationHigh"), (0, .fieldref 8 32), (0, .nameAndType 33 20), (0, u "destinationLow"), (0, .fieldref 8 35), (0, .nameAndType 36 27), (0, u "destinationPort"), (0, .methodref 8 38), (0, .nameAndType 5 12), (9, u "()Lcom/example/tracewell/tracewell/capture/Flow;"), (0, u "reversed"), (0, u "equals"), (0, u "(Ljava/lang/Object;)Z")] 4

def k2c0 : Code := { maxStack := 1, maxLocals := 1, code := prog_11_method_1_code, exceptionTable := #[], attributes := #[] }
def k2m0 : Method := { name := "<init>", desc := "()V", sig := { parameters := [], returnType := none }, accessFlags := 0, code := some k2c0 }
def k2c1 : Code := { maxStack := 12, maxLocals := 12, code := prog_11_method_2_code, exceptionTable := #[], attributes := #[] }
def k2m1 : Method := { name := "<init>", desc := "(ZJJIJJI)V", sig := { parameters := [.boolean, .long, .long, .int, .long, .long, .int], returnType := none }, accessFlags := 0, code := some k2c1 }
def k2c2 : Code := { maxStack := 3, maxLocals := 12, code := prog_11_method_3_code, exceptionTable := #[], attributes := #[] }
def k2m2 : Method := { name := "set", desc := "(ZJJIJJI)V", sig := { parameters := [.boolean, .long, .long, .int, .long, .long, .int], returnType := none }, accessFlags := 0, code := some k2c2 }
def k2c3 : Code := { maxStack := 13, maxLocals := 1, code := prog_11_method_5_code, exceptionTable := #[], attributes := #[] }
def k2m3 : Method := { name := "reversed", desc := "()Lcom/example/tracewell/tracewell/capture/Flow;", sig := { parameters := [], returnType := some (.object "com/example/tracewell/tracewell/capture/Flow") }, accessFlags := 0, code := some k2c3 }
def k2c4 : Code := { maxStack := 4, maxLocals := 3, code := prog_11_method_6_code, exceptionTable := #[], attributes := #[] }
def k2m4 : Method := { name := "equals", desc := "(Ljava/lang/Object;)Z", sig := { parameters := [(.object "java/lang/Object")], returnType := some .boolean }, accessFlags := 1, code := some k2c4 }
/-- com/example/tracewell/tracewell/capture/Flow -/
def k2 : Class := { plain "com/example/tracewell/tracewell/capture/Flow" (some 0) with
  accessFlags := 48
  interfaces := #[]
  cf := some (fileOf pool2 8 #[] #[{ accessFlags := 0, nameIndex := 5, descriptorIndex := 6, attributes := #[] }, { accessFlags := 0, nameIndex := 5, descriptorIndex := 12, attributes := #[] }, { accessFlags := 0, nameIndex := 11, descriptorIndex := 12, attributes := #[] }, { accessFlags := 0, nameIndex := 49, descriptorIndex := 48, attributes := #[] }, { accessFlags := 1, nameIndex := 50, descriptorIndex := 51, attributes := #[] }] 48 2 #[] #[{ accessFlags := 2, nameIndex := 15, descriptorIndex := 16, attributes := #[] }, { accessFlags := 2, nameIndex := 19, descriptorIndex := 20, attributes := #[] }, { accessFlags := 2, nameIndex := 23, descriptorIndex := 20, attributes := #[] }, { accessFlags := 2, nameIndex := 26, descriptorIndex := 27, attributes := #[] }, { accessFlags := 2, nameIndex := 30, descriptorIndex := 20, attributes := #[] }, { accessFlags := 2, nameIndex := 33, descriptorIndex := 20, attributes := #[] }, { accessFlags := 2, nameIndex := 36, descriptorIndex := 27, attributes := #[] }])
  fields := #[{ name := "ipv6", type := .boolean, accessFlags := 2, slot := 0, constantValue := 0 }, { name := "sourceHigh", type := .long, accessFlags := 2, slot := 1, constantValue := 0 }, { name := "sourceLow", type := .long, accessFlags := 2, slot := 2, constantValue := 0 }, { name := "sourcePort", type := .int, accessFlags := 2, slot := 3, constantValue := 0 }, { name := "destinationHigh", type := .long, accessFlags := 2, slot := 4, constantValue := 0 }, { name := "destinationLow", type := .long, accessFlags := 2, slot := 5, constantValue := 0 }, { name := "destinationPort", type := .int, accessFlags := 2, slot := 6, constantValue := 0 }]
  methods := #[k2m0, k2m1, k2m2, k2m3, k2m4]
  instanceTypes := #[.boolean, .long, .long, .int, .long, .long, .int]
  staticTypes := #[]
  resolved := Array.replicate 56 none
  statics := none }

def pool3 : Array CpInfo := pool [(1, u "java/lang/Cloneable"), (0, .class_ 1), (0, u "java/lang/Object"), (0, .class_ 3)] 3

/-- java/lang/Cloneable -/
def k3 : Class := { plain "java/lang/Cloneable" (some 0) with
  accessFlags := 1537
  interfaces := #[]
  cf := some (fileOf pool3 2 #[] #[] 1537 4 #[] #[])
  fields := #[]
  methods := #[]
  instanceTypes := #[]
  staticTypes := #[]
  resolved := Array.replicate 8 none
  statics := none }

def pool4 : Array CpInfo := pool [(1, u "java/io/Serializable"), (0, .class_ 1), (0, u "java/lang/Object"), (0, .class_ 3)] 3

/-- java/io/Serializable -/
def k4 : Class := { plain "java/io/Serializable" (some 0) with
  accessFlags := 1537
  interfaces := #[]
  cf := some (fileOf pool4 2 #[] #[] 1537 4 #[] #[])
  fields := #[]
  methods := #[]
  instanceTypes := #[]
  staticTypes := #[]
  resolved := Array.replicate 8 none
  statics := none }

/-- the primitive byte -/
def k5 : Class := { plain "byte" none with kind := .primitive 'B', accessFlags := 0x411 }
/-- [B -/
def k6 : Class := { plain "[B" (some 0) with kind := .array 5 .byte, interfaces := #[3, 4], accessFlags := 1041 }

/-- the primitive int -/
def k7 : Class := { plain "int" none with kind := .primitive 'I', accessFlags := 0x411 }
/-- [I -/
def k8 : Class := { plain "[I" (some 0) with kind := .array 7 .int, interfaces := #[3, 4], accessFlags := 1041 }

def heap : Heap := #[]
def classes : Array Class := #[k0, k1, k2, k3, k4, k5, k6, k7, k8]
def interned : List (Array UInt16 × Addr) := []
def slotsUsed : Nat := 0
def theMethod : MethodId := ⟨1, 1⟩
def args0 : Array Value := #[.long 5, .long 6, .long 7, .long 8, .long 9, .int 3]
def aboutOver (below : List Frame) : State where
  vm := { classes := classes, interned := interned.toArray }
  heap := heap
  slotsUsed := slotsUsed
  threads := #[{ frames := .invoking theMethod args0 :: below }]
def below0 : List Frame := [.native { method := ⟨0, 0⟩, args := #[] }]
def about1 : State := aboutOver below0
def p0 : Program := .bare "" "" ""
def e0 : Env := launch0.env 0 0 0
theorem w_frames : about1.frames = Frame.invoking theMethod args0 :: below0 := rfl
set_option maxRecDepth 65536 in
theorem w_args : argsFit about1.vm theMethod args0 = true := by decide +kernel
set_option maxRecDepth 65536 in
theorem w_heap : heapFits about1 = true := by decide +kernel
set_option maxRecDepth 65536 in
theorem w_runnable : about1.curStatus? = some .runnable := by decide +kernel
set_option maxRecDepth 65536 in
theorem w_alone : about1.alone = true := by decide +kernel
set_option maxRecDepth 65536 in
theorem w_named : about1.methodNamed? x = some theMethod := by decide +kernel
set_option maxRecDepth 65536 in
theorem w_hears : about1.hears theMethod below0 = true := by decide +kernel
set_option maxRecDepth 65536 in
theorem w_ripe : about1.ripe theMethod args0 below0 = true := by decide +kernel
theorem w_running : about1.status = .running := rfl
set_option maxRecDepth 65536 in
theorem w_room : about1.hasRoom e0.platform room_1 = true :=
  launch0.hasRoom_least _ room_1 (by decide +kernel) (by decide +kernel) (by decide +kernel) (by decide +kernel) (by decide +kernel) (by decide +kernel)
theorem allAtoms_all (ts : List Jvm.Cond) (a : Array Jvm.Value) (st : Jvm.State) : (allAtoms ts).before a st = ts.all (fun c => c.before a st) := by
  induction ts with
  | nil => rfl
  | cons c t ih =>
    show (Jvm.Cond.and c (allAtoms t)).before a st = _
    rw [Jvm.Cond.before_and, ih, List.all_cons]
def words1 : List Jvm.Cond := Jvm.Cond.code x code maxLocals ret :: tables_1
/-- a 'code' word, met by the world's own term for the bytes: nothing is compared byte by byte -/
theorem code_word {y : MethodName} {bytes : ByteArray} {mx : Nat} {rt : Option FieldType} {a : Array Value} {s : State} {m : MethodId} {meth : Method} {c : Code} (h1 : s.methodNamed? y = some m) (h2 : s.vm.method? m = some meth) (h3 : meth.code = some c) (h4 : c.code = bytes)
    (h5 : (c.maxLocals == mx && c.exceptionTable.isEmpty && decide (c.maxStack ≤ mostOperands) && decide (meth.sig.returnType = rt) && !meth.locks && decide (parseMethodDescriptor y.desc = some meth.sig)) = true) : (Jvm.Cond.code y bytes mx rt).before a s = true := by
  simp only [Bool.and_eq_true, beq_iff_eq, Bool.not_eq_true', decide_eq_true_eq] at h5
  obtain ⟨⟨⟨⟨⟨g1, g2⟩, g3⟩, g4⟩, g5⟩, g6⟩ := h5
  simp [Cond.before, Cond.holds, Cond.value, h1, h2, h3, h4, g1, g2, g3, g4, g5, g6]
def isCode : Jvm.Cond → Bool
  | .code _ _ _ _ => true
  | _ => false
theorem all_split {L : List Jvm.Cond} {P : Jvm.Cond → Bool} (h1 : L.all (fun c => isCode c || P c) = true) (h2 : ∀ c ∈ L.filter isCode, P c = true) : L.all P = true := by
  refine List.all_eq_true.mpr fun c hc => ?_
  have h := List.all_eq_true.mp h1 c hc
  rcases Bool.eq_false_or_eq_true (isCode c) with hi | hi
  · exact h2 c (List.mem_filter.mpr ⟨hc, hi⟩)
  · simpa [hi] using h
set_option maxRecDepth 65536 in
theorem w_c0 : (Jvm.Cond.code x code maxLocals ret).before args0 about1 = true := code_word (m := ⟨1, 1⟩) (meth := k1m1) (c := k1c1) (by decide +kernel) rfl rfl rfl (by decide +kernel)
set_option maxRecDepth 65536 in
theorem w_c1 : (Jvm.Cond.code ({ cls := "com/example/tracewell/tracewell/capture/Flow", name := "<init>", desc := "()V" } : Jvm.MethodName) prog_11_method_1_code (1 : Nat) (Option.none : Option Jvm.ClassFile.FieldType)).before args0 about1 = true := code_word (m := ⟨2, 0⟩) (meth := k2m0) (c := k2c0) (by decide +kernel) rfl rfl rfl (by decide +kernel)
set_option maxRecDepth 65536 in
theorem w_c2 : (Jvm.Cond.code ({ cls := "java/lang/Object", name := "<init>", desc := "()V" } : Jvm.MethodName) object_method_1_code (1 : Nat) (Option.none : Option Jvm.ClassFile.FieldType)).before args0 about1 = true := code_word (m := ⟨0, 0⟩) (meth := k0m0) (c := k0c0) (by decide +kernel) rfl rfl rfl (by decide +kernel)
set_option maxRecDepth 65536 in
theorem w_c3 : (Jvm.Cond.code ({ cls := "com/example/tracewell/tracewell/capture/Flow", name := "set", desc := "(ZJJIJJI)V" } : Jvm.MethodName) prog_11_method_3_code (12 : Nat) (Option.none : Option Jvm.ClassFile.FieldType)).before args0 about1 = true := code_word (m := ⟨2, 2⟩) (meth := k2m2) (c := k2c2) (by decide +kernel) rfl rfl rfl (by decide +kernel)
set_option maxRecDepth 65536 in
theorem w_c4 : (Jvm.Cond.code ({ cls := "com/example/tracewell/tracewell/capture/Flow", name := "reversed", desc := "()Lcom/example/tracewell/tracewell/capture/Flow;" } : Jvm.MethodName) prog_11_method_5_code (1 : Nat) (Option.some (Jvm.ClassFile.FieldType.object "com/example/tracewell/tracewell/capture/Flow"))).before args0 about1 = true := code_word (m := ⟨2, 3⟩) (meth := k2m3) (c := k2c3) (by decide +kernel) rfl rfl rfl (by decide +kernel)
set_option maxRecDepth 65536 in
theorem w_c5 : (Jvm.Cond.code ({ cls := "com/example/tracewell/tracewell/capture/Flow", name := "<init>", desc := "(ZJJIJJI)V" } : Jvm.MethodName) prog_11_method_2_code (12 : Nat) (Option.none : Option Jvm.ClassFile.FieldType)).before args0 about1 = true := code_word (m := ⟨2, 1⟩) (meth := k2m1) (c := k2c1) (by decide +kernel) rfl rfl rfl (by decide +kernel)
set_option maxRecDepth 65536 in
theorem w_c6 : (Jvm.Cond.code ({ cls := "com/example/tracewell/tracewell/capture/Flow", name := "equals", desc := "(Ljava/lang/Object;)Z" } : Jvm.MethodName) prog_11_method_6_code (3 : Nat) (Option.some Jvm.ClassFile.FieldType.boolean)).before args0 about1 = true := code_word (m := ⟨2, 4⟩) (meth := k2m4) (c := k2c4) (by decide +kernel) rfl rfl rfl (by decide +kernel)
def codes1 : List Jvm.Cond := [Jvm.Cond.code x code maxLocals ret, Jvm.Cond.code ({ cls := "com/example/tracewell/tracewell/capture/Flow", name := "<init>", desc := "()V" } : Jvm.MethodName) prog_11_method_1_code (1 : Nat) (Option.none : Option Jvm.ClassFile.FieldType), Jvm.Cond.code ({ cls := "java/lang/Object", name := "<init>", desc := "()V" } : Jvm.MethodName) object_method_1_code (1 : Nat) (Option.none : Option Jvm.ClassFile.FieldType), Jvm.Cond.code ({ cls := "com/example/tracewell/tracewell/capture/Flow", name := "set", desc := "(ZJJIJJI)V" } : Jvm.MethodName) prog_11_method_3_code (12 : Nat) (Option.none : Option Jvm.ClassFile.FieldType), Jvm.Cond.code ({ cls := "com/example/tracewell/tracewell/capture/Flow", name := "reversed", desc := "()Lcom/example/tracewell/tracewell/capture/Flow;" } : Jvm.MethodName) prog_11_method_5_code (1 : Nat) (Option.some (Jvm.ClassFile.FieldType.object "com/example/tracewell/tracewell/capture/Flow")), Jvm.Cond.code ({ cls := "com/example/tracewell/tracewell/capture/Flow", name := "<init>", desc := "(ZJJIJJI)V" } : Jvm.MethodName) prog_11_method_2_code (12 : Nat) (Option.none : Option Jvm.ClassFile.FieldType), Jvm.Cond.code ({ cls := "com/example/tracewell/tracewell/capture/Flow", name := "equals", desc := "(Ljava/lang/Object;)Z" } : Jvm.MethodName) prog_11_method_6_code (3 : Nat) (Option.some Jvm.ClassFile.FieldType.boolean)]
set_option maxRecDepth 65536 in
theorem codes_eq : words1.filter isCode = codes1 := rfl
theorem w_codes : ∀ c ∈ words1.filter isCode, c.before args0 about1 = true := by
  rw [codes_eq]
  intro c hc
  simp only [codes1, List.mem_cons, List.not_mem_nil, or_false] at hc
  rcases hc with rfl | rfl | rfl | rfl | rfl | rfl | rfl
  · exact w_c0
  · exact w_c1
  · exact w_c2
  · exact w_c3
  · exact w_c4
  · exact w_c5
  · exact w_c6
set_option maxRecDepth 65536 in
theorem w_t1 : (words1.take 24).all (fun c => isCode c || c.before args0 about1) = true := by decide +kernel
set_option maxRecDepth 65536 in
theorem w_t2 : (words1.drop 24).all (fun c => isCode c || c.before args0 about1) = true := by decide +kernel
theorem w_tables : (allAtoms (Jvm.Cond.code x code maxLocals ret :: tables_1)).before args0 about1 = true := by
  rw [allAtoms_all]
  show words1.all (fun c => c.before args0 about1) = true
  refine all_split ?_ w_codes
  rw [← List.take_append_drop 24 words1, List.all_append, w_t1, w_t2]
  rfl
set_option maxRecDepth 65536 in
theorem w_case : (Jvm.Cond.and given_1 narrow_1).before args0 about1 = true := by decide +kernel
theorem w_applies : (headSpec (Jvm.Cond.code x code maxLocals ret :: tables_1) room_1).applies x e0.platform about1 = true :=
  (Spec.applies_iff w_frames).mpr ⟨w_running, w_runnable, w_alone, w_named, w_hears, w_ripe, w_room, w_tables⟩
theorem atStart : AtStart classFile x code maxLocals ret World_1 tables_1 room_1 Calls_1 rest_1 Pre_1 launch0 p0 e0 about1 theMethod args0 below0 :=
  ⟨lists_1, trivial, launch0.admits_env _ _ _, launch0.least_env, fairChoices_fair.cas, fairChoices_fair.clock, w_frames, w_args, w_heap, w_applies, trivial, trivial, w_case⟩
end start1
theorem witness_1 : WitnessClaimed_1 := ⟨start1.p0, start1.e0, start1.about1, start1.theMethod, start1.args0, start1.below0, start1.atStart⟩
end Jvm.Pilot.@@N@@
