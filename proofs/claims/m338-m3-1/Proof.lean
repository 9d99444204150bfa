import JvmDerived
import JvmDerived.Pilot.@@N@@Statement
import JvmDerived.Pilot.@@N@@Code
set_option linter.unusedVariables false
set_option linter.unusedSimpArgs false
@@BLOCK:NumsL.lean.txt@@
namespace Jvm.RoadKit
open Sem ClassFile Op Lib Jvm.Stand Jvm.Free Jvm.LawKit
section New
variable {p : Program} {l : Launch} {e : Env} {R : Room} {s : State} {m : MethodId} {args : Array Value} {below : List Frame} {meth : Method} {c : Code} {T : State} {locs : List Loc} {cells slots : Nat}
theorem retI (X : Stand p l e R s m args below meth c T locs cells slots) (hx : p.tables.exec = Jvm.exec) {pc : Nat} {Ls : Array Slot} {z : Int32} {rest : List Value} (hret : meth.sig.returnType = some .int) (hd : decode c.code pc = .ok (.ireturn, 1)) {fs : List Frame}
    (hl : ∀ (f : JFrame) (acts : List Action), f.method = m → f.locked = none → f.entered = [] → (doReturn e (T.setTop f) acts (some (.int z))).1 = T.setFrames fs) : Steps p.tables e below (T.setTop (mkF m pc Ls (.int z :: rest))) (T.setFrames fs) := by
  have hm' : T.vm.method? m = some meth := X.method'
  have hn : narrow .int (.int z) = .int z := rfl
  show Steps p.tables e below (T.setTop { method := m, pc := pc, locals := Ls, stack := _ :: rest, locked := none }) _
  jvm_step X.here [X.here.top, hx, hd, hm', hret, hn]
  first | (intro acts; rw [hl _ acts rfl rfl rfl]) | rw [hl _ _ rfl rfl rfl]
  exact Steps.refl _
end New
end Jvm.RoadKit
namespace Jvm.Pilot.@@N@@
open Jvm Jvm.ClassFile Sem Op Lib Jvm.Free Jvm.Stand Jvm.LawKit Jvm.RoadKit Bundle Jvm.Pilot.@@N@@.Jvm.D
theorem own_selp {s : State} {args : Array Value} {n : Nat} {y : MethodName} (hy : y.cls ≠ "java/lang/invoke/MethodHandle" ∧ y.cls ≠ "java/lang/invoke/VarHandle") (hins : (Cond.instantiable y.cls n).before args s = true) (hpriv : (Cond.privateMethod y).before args s = true) (hinst : (Cond.instanceMethod y).before args s = true) :
    (Cond.selects y.cls y y).before args s = true := by
  obtain ⟨c, k, hc, hk, -, hniab, -, -⟩ := Cond.instantiable_spec hins
  have hni : k.isInterface = false := (Bool.or_eq_false_iff.mp hniab).1
  obtain ⟨mk, methM, hnamed, hmethM, -, -⟩ := Cond.instanceMethod_spec hinst
  have hfound : s.methodFound? y.cls y.name y.desc = some mk := State.methodFound?_of_named hnamed hy
  have hcls : mk.cls = c := Option.some.inj ((findClass_of_methodNamed hnamed).symm.trans hc)
  have hsel : selectMethod {} s.vm c mk = .method mk := selectMethod_private hmethM (Cond.privateMethod_at hpriv mk methM hnamed hmethM)
  simp only [Cond.before, Cond.holds, Cond.value, hc, hfound, hnamed, hsel, hcls, hk]
  simp; exact hni

def own_PT0 (Z : State) (h : Heap) (n0 : Nat) (a : Addr) : Prop := Exa Z h a "com/example/tranquility/tranquility/PairTable" ∧ ∃ (ar : Addr) (kk : ClassId), n0 ≤ ar ∧ a ≠ ar ∧ Fld Z h a "com/example/tranquility/tranquility/PairTable" "slots" "[J" (.ref ar) ∧ Fld Z h a "com/example/tranquility/tranquility/PairTable" "shift" "I" (.int (62 : Int32)) ∧ Fld Z h a "com/example/tranquility/tranquility/PairTable" "mask" "I" (.int (3 : Int32)) ∧ Arv Z h ar kk .long (8 : Int32) (([-1, 0, -1, 0, -1, 0, -1, 0] : List Int64).map Value.long) (.long (0 : Int64))
def own_PT (Z : State) (h : Heap) (n0 : Nat) (a : Addr) (ps : Int32) (w : Int64) : Prop := Exa Z h a "com/example/tranquility/tranquility/PairTable" ∧ ∃ (ar : Addr) (kk : ClassId) (xs : List Int64), n0 ≤ ar ∧ a ≠ ar ∧ Fld Z h a "com/example/tranquility/tranquility/PairTable" "slots" "[J" (.ref ar) ∧ Arv Z h ar kk .long (8 : Int32) (xs.map Value.long) (.long (0 : Int64)) ∧ xs.length = 8 ∧ xs.getD ((ps * (2 : Int32)) + (1 : Int32)).toNatClampNeg 0 = w
theorem own_getlong (xs : List Int64) (i : Nat) : (xs.map Value.long).getD i (.long 0) = .long (xs.getD i 0) := by
  simp only [List.getD_eq_getElem?_getD, List.getElem?_map]
  cases xs[i]? <;> rfl
theorem own_four {ps : Int32} (h : 0 ≤ ps.toInt ∧ ps.toInt ≤ 3) : ps = 0 ∨ ps = 1 ∨ ps = 2 ∨ ps = 3 := by
  simp only [← Int32.toInt_inj, Int32.reduceToInt]; omega
theorem own_ix1 {ps : Int32} (h : 0 ≤ ps.toInt ∧ ps.toInt ≤ 3) : ¬ ((ps * (2 : Int32)) + (1 : Int32)) < 0 ∧ ((ps * (2 : Int32)) + (1 : Int32)) < (8 : Int32) := by
  rcases own_four h with rfl | rfl | rfl | rfl <;> decide
theorem own_ix0 {ps : Int32} (h : 0 ≤ ps.toInt ∧ ps.toInt ≤ 3) : ¬ (ps * (2 : Int32)) < 0 ∧ (ps * (2 : Int32)) < (8 : Int32) := by
  rcases own_four h with rfl | rfl | rfl | rfl <;> decide
theorem own_ix1n {ps : Int32} (h : 0 ≤ ps.toInt ∧ ps.toInt ≤ 3) : ((ps * (2 : Int32)) + (1 : Int32)).toNatClampNeg < 8 := by
  rcases own_four h with rfl | rfl | rfl | rfl <;> decide
theorem own_ix0n {ps : Int32} (h : 0 ≤ ps.toInt ∧ ps.toInt ≤ 3) : (ps * (2 : Int32)).toNatClampNeg < 8 := by
  rcases own_four h with rfl | rfl | rfl | rfl <;> decide
theorem own_even {ps : Int32} (h : 0 ≤ ps.toInt ∧ ps.toInt ≤ 3) : ([-1, 0, -1, 0, -1, 0, -1, 0] : List Int64).getD (ps * (2 : Int32)).toNatClampNeg 0 = (-1 : Int64) := by
  rcases own_four h with rfl | rfl | rfl | rfl <;> decide
theorem own_odd {ps : Int32} (h : 0 ≤ ps.toInt ∧ ps.toInt ≤ 3) (w : Int64) : (([-1, 0, -1, 0, -1, 0, -1, 0] : List Int64).set (ps * (2 : Int32)).toNatClampNeg w).getD ((ps * (2 : Int32)) + (1 : Int32)).toNatClampNeg 0 = (0 : Int64) := by
  rcases own_four h with rfl | rfl | rfl | rfl <;> rfl
theorem own_hit (xs : List Int64) (i : Nat) (w : Int64) (h : i < xs.length) : (xs.set i w).getD i 0 = w := by
  simp [List.getD_eq_getElem?_getD, h]
theorem own_b01 (x : Int32) : (x &&& (1 : Int32)) = 0 ∨ (x &&& (1 : Int32)) = 1 := and_one x

theorem d10_0 : decode prog_28_method_8_code 0 = .ok (.lload_n 1, 1) := by decide +kernel
theorem d10_1 : decode prog_28_method_8_code 1 = .ok (.ldc2_w 53, 3) := by decide +kernel
theorem d10_4 : decode prog_28_method_8_code 4 = .ok (.lmul, 1) := by decide +kernel
theorem d10_5 : decode prog_28_method_8_code 5 = .ok (.aload_n 0, 1) := by decide +kernel
theorem d10_6 : decode prog_28_method_8_code 6 = .ok (.getfield 34, 3) := by decide +kernel
theorem d10_9 : decode prog_28_method_8_code 9 = .ok (.lushr, 1) := by decide +kernel
theorem d10_10 : decode prog_28_method_8_code 10 = .ok (.l2i, 1) := by decide +kernel
theorem d10_11 : decode prog_28_method_8_code 11 = .ok (.ireturn, 1) := by decide +kernel
theorem d11_0 : decode prog_28_method_5_code 0 = .ok (.aload_n 0, 1) := by decide +kernel
theorem d11_1 : decode prog_28_method_5_code 1 = .ok (.getfield 21, 3) := by decide +kernel
theorem d11_4 : decode prog_28_method_5_code 4 = .ok (.iload_n 1, 1) := by decide +kernel
theorem d11_5 : decode prog_28_method_5_code 5 = .ok (.iconst 2, 1) := by decide +kernel
theorem d11_6 : decode prog_28_method_5_code 6 = .ok (.imul, 1) := by decide +kernel
theorem d11_7 : decode prog_28_method_5_code 7 = .ok (.iconst 1, 1) := by decide +kernel
theorem d11_8 : decode prog_28_method_5_code 8 = .ok (.iadd, 1) := by decide +kernel
theorem d11_9 : decode prog_28_method_5_code 9 = .ok (.laload, 1) := by decide +kernel
theorem d11_10 : decode prog_28_method_5_code 10 = .ok (.iload_n 2, 1) := by decide +kernel
theorem d11_11 : decode prog_28_method_5_code 11 = .ok (.bipush 32, 2) := by decide +kernel
theorem d11_13 : decode prog_28_method_5_code 13 = .ok (.imul, 1) := by decide +kernel
theorem d11_14 : decode prog_28_method_5_code 14 = .ok (.lushr, 1) := by decide +kernel
theorem d11_15 : decode prog_28_method_5_code 15 = .ok (.l2i, 1) := by decide +kernel
theorem d11_16 : decode prog_28_method_5_code 16 = .ok (.ireturn, 1) := by decide +kernel
theorem d12_0 : decode prog_28_method_6_code 0 = .ok (.iload_n 1, 1) := by decide +kernel
theorem d12_1 : decode prog_28_method_6_code 1 = .ok (.iconst 2, 1) := by decide +kernel
theorem d12_2 : decode prog_28_method_6_code 2 = .ok (.imul, 1) := by decide +kernel
theorem d12_3 : decode prog_28_method_6_code 3 = .ok (.iconst 1, 1) := by decide +kernel
theorem d12_4 : decode prog_28_method_6_code 4 = .ok (.iadd, 1) := by decide +kernel
theorem d12_5 : decode prog_28_method_6_code 5 = .ok (.istore 4, 2) := by decide +kernel
theorem d12_7 : decode prog_28_method_6_code 7 = .ok (.iload_n 2, 1) := by decide +kernel
theorem d12_8 : decode prog_28_method_6_code 8 = .ok (.bipush 32, 2) := by decide +kernel
theorem d12_10 : decode prog_28_method_6_code 10 = .ok (.imul, 1) := by decide +kernel
theorem d12_11 : decode prog_28_method_6_code 11 = .ok (.istore 5, 2) := by decide +kernel
theorem d12_13 : decode prog_28_method_6_code 13 = .ok (.aload_n 0, 1) := by decide +kernel
theorem d12_14 : decode prog_28_method_6_code 14 = .ok (.getfield 21, 3) := by decide +kernel
theorem d12_17 : decode prog_28_method_6_code 17 = .ok (.iload 4, 2) := by decide +kernel
theorem d12_19 : decode prog_28_method_6_code 19 = .ok (.aload_n 0, 1) := by decide +kernel
theorem d12_20 : decode prog_28_method_6_code 20 = .ok (.getfield 21, 3) := by decide +kernel
theorem d12_23 : decode prog_28_method_6_code 23 = .ok (.iload 4, 2) := by decide +kernel
theorem d12_25 : decode prog_28_method_6_code 25 = .ok (.laload, 1) := by decide +kernel
theorem d12_26 : decode prog_28_method_6_code 26 = .ok (.ldc2_w 47, 3) := by decide +kernel
theorem d12_29 : decode prog_28_method_6_code 29 = .ok (.iload 5, 2) := by decide +kernel
theorem d12_31 : decode prog_28_method_6_code 31 = .ok (.lshl, 1) := by decide +kernel
theorem d12_32 : decode prog_28_method_6_code 32 = .ok (.ldc2_w 37, 3) := by decide +kernel
theorem d12_35 : decode prog_28_method_6_code 35 = .ok (.lxor, 1) := by decide +kernel
theorem d12_36 : decode prog_28_method_6_code 36 = .ok (.land, 1) := by decide +kernel
theorem d12_37 : decode prog_28_method_6_code 37 = .ok (.iload_n 3, 1) := by decide +kernel
theorem d12_38 : decode prog_28_method_6_code 38 = .ok (.invokestatic 49, 3) := by decide +kernel
theorem pd_0 : parseMethodDescriptor "(I)J" = some ⟨[.int], some .long⟩ := by decide +kernel
theorem d12_41 : decode prog_28_method_6_code 41 = .ok (.iload 5, 2) := by decide +kernel
theorem d12_43 : decode prog_28_method_6_code 43 = .ok (.lshl, 1) := by decide +kernel
theorem d12_44 : decode prog_28_method_6_code 44 = .ok (.lor, 1) := by decide +kernel
theorem d12_45 : decode prog_28_method_6_code 45 = .ok (.lastore, 1) := by decide +kernel
theorem d12_46 : decode prog_28_method_6_code 46 = .ok (.return_, 1) := by decide +kernel
theorem d3_0 : decode jdk_29_method_65_code 0 = .ok (.iload_n 0, 1) := by decide +kernel
theorem d3_1 : decode jdk_29_method_65_code 1 = .ok (.iload_n 1, 1) := by decide +kernel
theorem d3_2 : decode jdk_29_method_65_code 2 = .ok (.if_icmp .lt 7, 3) := by decide +kernel
theorem d3_9 : decode jdk_29_method_65_code 9 = .ok (.iload_n 1, 1) := by decide +kernel
theorem d3_10 : decode jdk_29_method_65_code 10 = .ok (.ireturn, 1) := by decide +kernel
def QMax (Z : State)   (h0 : Heap) (n0 : Nat) (v : Option Value) (h : Heap) (L : List Loc) : Prop := v = some (.int (3 : Int32)) ∧ Fr n0 L ∧ h = h0
theorem ef_rmMax (m : MethodId)  : entryFrame m #[(.int (1 : Int32)), (.int (3 : Int32))] 2 = mkF m 0 #[iv (1 : Int32), iv (3 : Int32)] [] := by first | (simp [entryFrame, mkF, argsToLocals, Value.category]; done) | rfl
set_option maxRecDepth 65536 in
set_option maxHeartbeats 40000000 in
theorem rmMax (l : Launch) (Z : State) (a0 : Array Value) (hw : ∀ d ∈ tables_1, d.before a0 Z = true) (ws : List Jvm.Cond)   (h0 : Heap) (n0 : Nat) (Z0 : n0 ≤ h0.size) :
    MetFree l (⟨"java/lang/Math", "max", "(II)I"⟩ : MethodName) (head1 (Jvm.Cond.code (⟨"java/lang/Math", "max", "(II)I"⟩ : MethodName) jdk_29_method_65_code 2 (some .int) :: ws) ({ frames := 0, cells := 0, slots := 0, locals := 0 } : Room)) (fun a U => a = #[(.int (1 : Int32)), (.int (3 : Int32))] ∧ Z.Warmed39 U.vm ∧ U.heap = h0) (fun _ _ _ _ _ => True) (fun _ U o U' => ∃ v L, o = .returned v ∧ QMax Z h0 n0 v U'.heap L ∧ FrameEnd U o U' L ({ frames := 0, cells := 0, slots := 0, locals := 0 } : Room).cells ({ frames := 0, cells := 0, slots := 0, locals := 0 } : Room).slots) := by
  refine MetFree.of_bodySF (Jvm.Free.JP.mathPlain rfl (by decide +kernel)) hisR ?_
  intro p e s m args below meth c s₁ Bd hml0 hP hK
  obtain ⟨rfl, hZ, hh⟩ := hP
  have hx := Bd.exec
  have hby := Bd.bytes
  have hml : c.maxLocals = 2 := hml0
  have hown : s.vm.findClass "java/lang/Math" = some m.cls := findClass_of_methodNamed Bd.named
  have hnm := (name_of_methodNamed Bd.named Bd.method).1
  have X0 : Stand p l e ({ frames := 0, cells := 0, slots := 0, locals := 0 } : Room) s m #[(.int (1 : Int32)), (.int (3 : Int32))] below meth c s₁ [] 0 0 := Stand.of_body Bd
  have e0 : s₁.heap = h0 := by rw [← hh, Bd.state]; rfl
  have N0 := Fr.nil n0
  have S0 : ∀ t, Steps p.tables e below (s₁.setTop (mkF m 0 #[iv (1 : Int32), iv (3 : Int32)] [])) t → Steps p.tables e below (s₁.setTop (entryFrame m #[(.int (1 : Int32)), (.int (3 : Int32))] 2)) t := fun t k => castTop (ef_rmMax m ) k
  obtain ⟨fs, hr, hrun, hended, hW, hsame⟩ := X0.leave (v := some (.int (3 : Int32))) (fun h => by rw [Bd.returns] at h; cases h)
  refine ⟨_, _, S0 _ ?_, hrun, hended, _, _, rfl, ?_, ⟨_, rfl⟩, hW, hsame.mono (by decide) (by decide)⟩
  · skip
    show Steps p.tables e below (s₁.setTop (mkF m 0 #[iv (1 : Int32), iv (3 : Int32)] [])) _
    refine XS.iloadN X0.here hx rfl (hb hby d3_0) rfl ?_
    show Steps p.tables e below (s₁.setTop (mkF m 1 #[iv (1 : Int32), iv (3 : Int32)] [(.int (1 : Int32))])) _
    refine XS.iloadN X0.here hx rfl (hb hby d3_1) rfl ?_
    show Steps p.tables e below (s₁.setTop (mkF m 2 #[iv (1 : Int32), iv (3 : Int32)] [(.int (3 : Int32)), (.int (1 : Int32))])) _
    refine XS.icmpYes X0.here hx rfl (pc0 := 2) (pc' := 9) rfl (hb hby d3_2) rfl (tlt (by decide : (1 : Int32) < (3 : Int32))).1 (by decide) (by decide) ?_
    show Steps p.tables e below (s₁.setTop (mkF m 9 #[iv (1 : Int32), iv (3 : Int32)] [])) _
    refine XS.iloadN X0.here hx rfl (hb hby d3_9) rfl ?_
    show Steps p.tables e below (s₁.setTop (mkF m 10 #[iv (1 : Int32), iv (3 : Int32)] [(.int (3 : Int32))])) _
    exact retI X0 hx Bd.returns (hb hby d3_10) hr
  · show QMax Z h0 n0 _ s₁.heap _
    rw [e0]
    exact ⟨rfl, N0, rfl⟩
theorem d5_0 : decode jdk_33_method_47_code 0 = .ok (.iload_n 0, 1) := by decide +kernel
theorem d5_1 : decode jdk_33_method_47_code 1 = .ok (.ifCond .gt 14, 3) := by decide +kernel
theorem d5_15 : decode jdk_33_method_47_code 15 = .ok (.bipush 31, 2) := by decide +kernel
theorem d5_17 : decode jdk_33_method_47_code 17 = .ok (.istore_n 1, 1) := by decide +kernel
theorem d5_18 : decode jdk_33_method_47_code 18 = .ok (.iload_n 0, 1) := by decide +kernel
theorem d5_19 : decode jdk_33_method_47_code 19 = .ok (.ldc_w 264, 3) := by decide +kernel
theorem d5_22 : decode jdk_33_method_47_code 22 = .ok (.if_icmp .lt 11, 3) := by decide +kernel
theorem d5_33 : decode jdk_33_method_47_code 33 = .ok (.iload_n 0, 1) := by decide +kernel
theorem d5_34 : decode jdk_33_method_47_code 34 = .ok (.sipush 256, 3) := by decide +kernel
theorem d5_37 : decode jdk_33_method_47_code 37 = .ok (.if_icmp .lt 11, 3) := by decide +kernel
theorem d5_48 : decode jdk_33_method_47_code 48 = .ok (.iload_n 0, 1) := by decide +kernel
theorem d5_49 : decode jdk_33_method_47_code 49 = .ok (.bipush 16, 2) := by decide +kernel
theorem d5_51 : decode jdk_33_method_47_code 51 = .ok (.if_icmp .lt 10, 3) := by decide +kernel
theorem d5_61 : decode jdk_33_method_47_code 61 = .ok (.iload_n 0, 1) := by decide +kernel
theorem d5_62 : decode jdk_33_method_47_code 62 = .ok (.iconst 4, 1) := by decide +kernel
theorem d5_63 : decode jdk_33_method_47_code 63 = .ok (.if_icmp .lt 10, 3) := by decide +kernel
theorem d5_73 : decode jdk_33_method_47_code 73 = .ok (.iload_n 1, 1) := by decide +kernel
theorem d5_74 : decode jdk_33_method_47_code 74 = .ok (.iload_n 0, 1) := by decide +kernel
theorem d5_75 : decode jdk_33_method_47_code 75 = .ok (.iconst 1, 1) := by decide +kernel
theorem d5_76 : decode jdk_33_method_47_code 76 = .ok (.iushr, 1) := by decide +kernel
theorem d5_77 : decode jdk_33_method_47_code 77 = .ok (.isub, 1) := by decide +kernel
theorem d5_78 : decode jdk_33_method_47_code 78 = .ok (.ireturn, 1) := by decide +kernel
theorem pn_0 : plainName "java/lang/Integer" = true := by first | (simp [plainName, overriddenIn]; done) | decide +kernel
def QNlz (Z : State)   (h0 : Heap) (n0 : Nat) (v : Option Value) (h : Heap) (L : List Loc) : Prop := v = some (.int (30 : Int32)) ∧ Fr n0 L ∧ h = h0
theorem ef_rmNlz (m : MethodId)  : entryFrame m #[(.int (3 : Int32))] 2 = mkF m 0 #[iv (3 : Int32), .unset] [] := by first | (simp [entryFrame, mkF, argsToLocals, Value.category]; done) | rfl
set_option maxRecDepth 65536 in
set_option maxHeartbeats 40000000 in
theorem rmNlz (l : Launch) (Z : State) (a0 : Array Value) (hw : ∀ d ∈ tables_1, d.before a0 Z = true) (ws : List Jvm.Cond)   (h0 : Heap) (n0 : Nat) (Z0 : n0 ≤ h0.size) :
    MetFree l (⟨"java/lang/Integer", "numberOfLeadingZeros", "(I)I"⟩ : MethodName) (head1 (Jvm.Cond.code (⟨"java/lang/Integer", "numberOfLeadingZeros", "(I)I"⟩ : MethodName) jdk_33_method_47_code 2 (some .int) :: ws) ({ frames := 0, cells := 0, slots := 0, locals := 0 } : Room)) (fun a U => a = #[(.int (3 : Int32))] ∧ Z.Warmed39 U.vm ∧ U.heap = h0) (fun _ _ _ _ _ => True) (fun _ U o U' => ∃ v L, o = .returned v ∧ QNlz Z h0 n0 v U'.heap L ∧ FrameEnd U o U' L ({ frames := 0, cells := 0, slots := 0, locals := 0 } : Room).cells ({ frames := 0, cells := 0, slots := 0, locals := 0 } : Room).slots) := by
  refine MetFree.of_bodySF (plainFor_of_name pn_0) hisR ?_
  intro p e s m args below meth c s₁ Bd hml0 hP hK
  obtain ⟨rfl, hZ, hh⟩ := hP
  have hx := Bd.exec
  have hby := Bd.bytes
  have hml : c.maxLocals = 2 := hml0
  have hown : s.vm.findClass "java/lang/Integer" = some m.cls := findClass_of_methodNamed Bd.named
  have hnm := (name_of_methodNamed Bd.named Bd.method).1
  have X0 : Stand p l e ({ frames := 0, cells := 0, slots := 0, locals := 0 } : Room) s m #[(.int (3 : Int32))] below meth c s₁ [] 0 0 := Stand.of_body Bd
  have e0 : s₁.heap = h0 := by rw [← hh, Bd.state]; rfl
  have N0 := Fr.nil n0
  have S0 : ∀ t, Steps p.tables e below (s₁.setTop (mkF m 0 #[iv (3 : Int32), .unset] [])) t → Steps p.tables e below (s₁.setTop (entryFrame m #[(.int (3 : Int32))] 2)) t := fun t k => castTop (ef_rmNlz m ) k
  obtain ⟨fs, hr, hrun, hended, hW, hsame⟩ := X0.leave (v := some (.int (30 : Int32))) (fun h => by rw [Bd.returns] at h; cases h)
  refine ⟨_, _, S0 _ ?_, hrun, hended, _, _, rfl, ?_, ⟨_, rfl⟩, hW, hsame.mono (by decide) (by decide)⟩
  · skip
    show Steps p.tables e below (s₁.setTop (mkF m 0 #[iv (3 : Int32), .unset] [])) _
    refine XS.iloadN X0.here hx rfl (hb hby d5_0) rfl ?_
    show Steps p.tables e below (s₁.setTop (mkF m 1 #[iv (3 : Int32), .unset] [(.int (3 : Int32))])) _
    refine XS.ifYes X0.here hx rfl (pc0 := 1) (pc' := 15) rfl (hb hby d5_1) rfl ((if0 _ _).trans (tlt (by decide : (0 : Int32) < (3 : Int32))).2.2.1) (by decide) (by decide) ?_
    show Steps p.tables e below (s₁.setTop (mkF m 15 #[iv (3 : Int32), .unset] [])) _
    refine XS.bipush X0.here hx rfl (hb hby d5_15) ?_
    show Steps p.tables e below (s₁.setTop (mkF m 17 #[iv (3 : Int32), .unset] [(.int (31 : Int32))])) _
    refine XS.istoreN X0.here hx rfl (hb hby d5_17) rfl (l' := #[iv (3 : Int32), iv (31 : Int32)]) rfl ?_
    show Steps p.tables e below (s₁.setTop (mkF m 18 #[iv (3 : Int32), iv (31 : Int32)] [])) _
    refine XS.iloadN X0.here hx rfl (hb hby d5_18) rfl ?_
    show Steps p.tables e below (s₁.setTop (mkF m 19 #[iv (3 : Int32), iv (31 : Int32)] [(.int (3 : Int32))])) _
    refine X0.ldcwInt hx hown (mvT hZ (hw _ (List.mem_of_getElem? (i := 21) rfl))) (g := (mkF m 19 #[iv (3 : Int32), iv (31 : Int32)] [(.int (3 : Int32))])) rfl (hb hby d5_19) _ ?_
    show Steps p.tables e below (s₁.setTop (mkF m 22 #[iv (3 : Int32), iv (31 : Int32)] [(.int (65536 : Int32)), (.int (3 : Int32))])) _
    refine XS.icmpYes X0.here hx rfl (pc0 := 22) (pc' := 33) rfl (hb hby d5_22) rfl (tlt (by decide : (3 : Int32) < (65536 : Int32))).1 (by decide) (by decide) ?_
    show Steps p.tables e below (s₁.setTop (mkF m 33 #[iv (3 : Int32), iv (31 : Int32)] [])) _
    refine XS.iloadN X0.here hx rfl (hb hby d5_33) rfl ?_
    show Steps p.tables e below (s₁.setTop (mkF m 34 #[iv (3 : Int32), iv (31 : Int32)] [(.int (3 : Int32))])) _
    refine XS.sipush X0.here hx rfl (hb hby d5_34) ?_
    show Steps p.tables e below (s₁.setTop (mkF m 37 #[iv (3 : Int32), iv (31 : Int32)] [(.int (256 : Int32)), (.int (3 : Int32))])) _
    refine XS.icmpYes X0.here hx rfl (pc0 := 37) (pc' := 48) rfl (hb hby d5_37) rfl (tlt (by decide : (3 : Int32) < (256 : Int32))).1 (by decide) (by decide) ?_
    show Steps p.tables e below (s₁.setTop (mkF m 48 #[iv (3 : Int32), iv (31 : Int32)] [])) _
    refine XS.iloadN X0.here hx rfl (hb hby d5_48) rfl ?_
    show Steps p.tables e below (s₁.setTop (mkF m 49 #[iv (3 : Int32), iv (31 : Int32)] [(.int (3 : Int32))])) _
    refine XS.bipush X0.here hx rfl (hb hby d5_49) ?_
    show Steps p.tables e below (s₁.setTop (mkF m 51 #[iv (3 : Int32), iv (31 : Int32)] [(.int (16 : Int32)), (.int (3 : Int32))])) _
    refine XS.icmpYes X0.here hx rfl (pc0 := 51) (pc' := 61) rfl (hb hby d5_51) rfl (tlt (by decide : (3 : Int32) < (16 : Int32))).1 (by decide) (by decide) ?_
    show Steps p.tables e below (s₁.setTop (mkF m 61 #[iv (3 : Int32), iv (31 : Int32)] [])) _
    refine XS.iloadN X0.here hx rfl (hb hby d5_61) rfl ?_
    show Steps p.tables e below (s₁.setTop (mkF m 62 #[iv (3 : Int32), iv (31 : Int32)] [(.int (3 : Int32))])) _
    refine XS.iconst X0.here hx rfl (hb hby d5_62) ?_
    show Steps p.tables e below (s₁.setTop (mkF m 63 #[iv (3 : Int32), iv (31 : Int32)] [(.int (4 : Int32)), (.int (3 : Int32))])) _
    refine XS.icmpYes X0.here hx rfl (pc0 := 63) (pc' := 73) rfl (hb hby d5_63) rfl (tlt (by decide : (3 : Int32) < (4 : Int32))).1 (by decide) (by decide) ?_
    show Steps p.tables e below (s₁.setTop (mkF m 73 #[iv (3 : Int32), iv (31 : Int32)] [])) _
    refine XS.iloadN X0.here hx rfl (hb hby d5_73) rfl ?_
    show Steps p.tables e below (s₁.setTop (mkF m 74 #[iv (3 : Int32), iv (31 : Int32)] [(.int (31 : Int32))])) _
    refine XS.iloadN X0.here hx rfl (hb hby d5_74) rfl ?_
    show Steps p.tables e below (s₁.setTop (mkF m 75 #[iv (3 : Int32), iv (31 : Int32)] [(.int (3 : Int32)), (.int (31 : Int32))])) _
    refine XS.iconst X0.here hx rfl (hb hby d5_75) ?_
    show Steps p.tables e below (s₁.setTop (mkF m 76 #[iv (3 : Int32), iv (31 : Int32)] [(.int (1 : Int32)), (.int (3 : Int32)), (.int (31 : Int32))])) _
    refine XS.iushr X0.here hx rfl (hb hby d5_76) rfl ?_
    show Steps p.tables e below (s₁.setTop (mkF m 77 #[iv (3 : Int32), iv (31 : Int32)] [(.int (1 : Int32)), (.int (31 : Int32))])) _
    refine XS.isub X0.here hx rfl (hb hby d5_77) rfl ?_
    show Steps p.tables e below (s₁.setTop (mkF m 78 #[iv (3 : Int32), iv (31 : Int32)] [(.int (30 : Int32))])) _
    exact retI X0 hx Bd.returns (hb hby d5_78) hr
  · show QNlz Z h0 n0 _ s₁.heap _
    rw [e0]
    exact ⟨rfl, N0, rfl⟩
theorem d4_0 : decode jdk_33_method_45_code 0 = .ok (.iload_n 0, 1) := by decide +kernel
theorem d4_1 : decode jdk_33_method_45_code 1 = .ok (.ldc 127, 2) := by decide +kernel
theorem d4_3 : decode jdk_33_method_45_code 3 = .ok (.iload_n 0, 1) := by decide +kernel
theorem d4_4 : decode jdk_33_method_45_code 4 = .ok (.invokestatic 51, 3) := by decide +kernel
theorem pd_1 : parseMethodDescriptor "(I)I" = some ⟨[.int], some .int⟩ := by decide +kernel
theorem d4_7 : decode jdk_33_method_45_code 7 = .ok (.iushr, 1) := by decide +kernel
theorem d4_8 : decode jdk_33_method_45_code 8 = .ok (.iand, 1) := by decide +kernel
theorem d4_9 : decode jdk_33_method_45_code 9 = .ok (.ireturn, 1) := by decide +kernel
def QHob (Z : State)   (h0 : Heap) (n0 : Nat) (v : Option Value) (h : Heap) (L : List Loc) : Prop := v = some (.int (2 : Int32)) ∧ Fr n0 L ∧ h = h0
theorem ef_rmHob (m : MethodId)  : entryFrame m #[(.int (3 : Int32))] 1 = mkF m 0 #[iv (3 : Int32)] [] := by first | (simp [entryFrame, mkF, argsToLocals, Value.category]; done) | rfl
set_option maxRecDepth 65536 in
set_option maxHeartbeats 40000000 in
theorem rmHob (l : Launch) (Z : State) (a0 : Array Value) (hw : ∀ d ∈ tables_1, d.before a0 Z = true) (ws : List Jvm.Cond)   (h0 : Heap) (n0 : Nat) (Z0 : n0 ≤ h0.size) :
    MetFree l (⟨"java/lang/Integer", "highestOneBit", "(I)I"⟩ : MethodName) (head1 (Jvm.Cond.code (⟨"java/lang/Integer", "highestOneBit", "(I)I"⟩ : MethodName) jdk_33_method_45_code 1 (some .int) :: ws) ({ frames := 1, cells := 0, slots := 0, locals := 15 } : Room)) (fun a U => a = #[(.int (3 : Int32))] ∧ Z.Warmed39 U.vm ∧ U.heap = h0) (fun _ _ _ _ _ => True) (fun _ U o U' => ∃ v L, o = .returned v ∧ QHob Z h0 n0 v U'.heap L ∧ FrameEnd U o U' L ({ frames := 1, cells := 0, slots := 0, locals := 15 } : Room).cells ({ frames := 1, cells := 0, slots := 0, locals := 15 } : Room).slots) := by
  refine MetFree.of_bodySF (plainFor_of_name pn_0) hisR ?_
  intro p e s m args below meth c s₁ Bd hml0 hP hK
  obtain ⟨rfl, hZ, hh⟩ := hP
  have hx := Bd.exec
  have hby := Bd.bytes
  have hml : c.maxLocals = 1 := hml0
  have hown : s.vm.findClass "java/lang/Integer" = some m.cls := findClass_of_methodNamed Bd.named
  have hnm := (name_of_methodNamed Bd.named Bd.method).1
  have X0 : Stand p l e ({ frames := 1, cells := 0, slots := 0, locals := 15 } : Room) s m #[(.int (3 : Int32))] below meth c s₁ [] 0 0 := Stand.of_body Bd
  have e0 : s₁.heap = h0 := by rw [← hh, Bd.state]; rfl
  have N0 := Fr.nil n0
  have S0 : ∀ t, Steps p.tables e below (s₁.setTop (mkF m 0 #[iv (3 : Int32)] [])) t → Steps p.tables e below (s₁.setTop (entryFrame m #[(.int (3 : Int32))] 1)) t := fun t k => castTop (ef_rmHob m ) k
  obtain ⟨_, _, ⟨T1, L1, k1, n1⟩, -, X1, ⟨Lc1, hQ1, l1, y1, z1⟩, st1⟩ := Jvm.LawKit.callS X0 hx (y := (⟨"java/lang/Integer", "numberOfLeadingZeros", "(I)I"⟩ : MethodName)) hown (mvT hZ (hw _ (List.mem_of_getElem? (i := 18) rfl))) (mvT hZ (hw _ (List.mem_of_getElem? (i := 19) rfl))) (mvT hZ (hw _ (List.mem_of_getElem? (i := 15) rfl))) (mvT hZ (hw _ (List.mem_of_getElem? (i := 20) rfl))) (by decide) (backOf (W := 2) (rmNlz l Z a0 hw [] h0 n0 Z0) hZ (hw _ (List.mem_of_getElem? (i := 20) rfl)) (hw _ (List.mem_of_getElem? (i := 15) rfl)) (by decide) (by decide)) (g := (mkF m 4 #[iv (3 : Int32)] [(.int (3 : Int32)), (.int (-2147483648 : Int32)), (.int (3 : Int32))])) rfl (by rw [hml]; rfl) (argsL := [(.int (3 : Int32))]) (rest := [(.int (-2147483648 : Int32)), (.int (3 : Int32))]) (lenOf pd_1 rfl) rfl (by show 2 * 0 + _ ≤ _; exact Nat.le_of_eq rfl) (hb hby d4_4) (fun _ _ => ⟨rfl, e0, (by decide : 0 + 0 ≤ _), (by decide : 0 + 0 ≤ _)⟩)
  dsimp only [Pt.U, Pt.locs, Pt.cells, Pt.slots] at X1 l1 y1 z1 st1 hQ1
  subst l1 y1 z1
  obtain ⟨rfl, Nq1, eq1⟩ := hQ1
  have N1 := Fr.app N0 Nq1
  obtain ⟨fs, hr, hrun, hended, hW, hsame⟩ := X1.leave (v := some (.int (2 : Int32))) (fun h => by rw [Bd.returns] at h; cases h)
  refine ⟨_, _, S0 _ ?_, hrun, hended, _, _, rfl, ?_, ⟨_, rfl⟩, hW, hsame.mono (by decide) (by decide)⟩
  · skip
    show Steps p.tables e below (s₁.setTop (mkF m 0 #[iv (3 : Int32)] [])) _
    refine XS.iloadN X0.here hx rfl (hb hby d4_0) rfl ?_
    show Steps p.tables e below (s₁.setTop (mkF m 1 #[iv (3 : Int32)] [(.int (3 : Int32))])) _
    refine X0.ldcInt hx hown (mvT hZ (hw _ (List.mem_of_getElem? (i := 17) rfl))) (g := (mkF m 1 #[iv (3 : Int32)] [(.int (3 : Int32))])) rfl (hb hby d4_1) _ ?_
    show Steps p.tables e below (s₁.setTop (mkF m 3 #[iv (3 : Int32)] [(.int (-2147483648 : Int32)), (.int (3 : Int32))])) _
    refine XS.iloadN X0.here hx rfl (hb hby d4_3) rfl ?_
    show Steps p.tables e below (s₁.setTop (mkF m 4 #[iv (3 : Int32)] [(.int (3 : Int32)), (.int (-2147483648 : Int32)), (.int (3 : Int32))])) _
    refine st1 _ ?_
    show Steps p.tables e below (T1.setTop (mkF m 7 #[iv (3 : Int32)] [(.int (30 : Int32)), (.int (-2147483648 : Int32)), (.int (3 : Int32))])) _
    refine XS.iushr X1.here hx rfl (hb hby d4_7) rfl ?_
    show Steps p.tables e below (T1.setTop (mkF m 8 #[iv (3 : Int32)] [(.int (2 : Int32)), (.int (3 : Int32))])) _
    refine XS.iand X1.here hx rfl (hb hby d4_8) rfl ?_
    show Steps p.tables e below (T1.setTop (mkF m 9 #[iv (3 : Int32)] [(.int (2 : Int32))])) _
    exact retI X1 hx Bd.returns (hb hby d4_9) hr
  · show QHob Z h0 n0 _ T1.heap _
    rw [eq1]
    exact ⟨rfl, N1, rfl⟩
theorem d6_0 : decode jdk_33_method_48_code 0 = .ok (.iload_n 0, 1) := by decide +kernel
theorem d6_1 : decode jdk_33_method_48_code 1 = .ok (.iconst (-1), 1) := by decide +kernel
theorem d6_2 : decode jdk_33_method_48_code 2 = .ok (.ixor, 1) := by decide +kernel
theorem d6_3 : decode jdk_33_method_48_code 3 = .ok (.iload_n 0, 1) := by decide +kernel
theorem d6_4 : decode jdk_33_method_48_code 4 = .ok (.iconst 1, 1) := by decide +kernel
theorem d6_5 : decode jdk_33_method_48_code 5 = .ok (.isub, 1) := by decide +kernel
theorem d6_6 : decode jdk_33_method_48_code 6 = .ok (.iand, 1) := by decide +kernel
theorem d6_7 : decode jdk_33_method_48_code 7 = .ok (.istore_n 0, 1) := by decide +kernel
theorem d6_8 : decode jdk_33_method_48_code 8 = .ok (.iload_n 0, 1) := by decide +kernel
theorem d6_9 : decode jdk_33_method_48_code 9 = .ok (.ifCond .gt 8, 3) := by decide +kernel
theorem d6_17 : decode jdk_33_method_48_code 17 = .ok (.iconst 1, 1) := by decide +kernel
theorem d6_18 : decode jdk_33_method_48_code 18 = .ok (.istore_n 1, 1) := by decide +kernel
theorem d6_19 : decode jdk_33_method_48_code 19 = .ok (.iload_n 0, 1) := by decide +kernel
theorem d6_20 : decode jdk_33_method_48_code 20 = .ok (.ldc_w 264, 3) := by decide +kernel
theorem d6_23 : decode jdk_33_method_48_code 23 = .ok (.if_icmp .le 11, 3) := by decide +kernel
theorem d6_34 : decode jdk_33_method_48_code 34 = .ok (.iload_n 0, 1) := by decide +kernel
theorem d6_35 : decode jdk_33_method_48_code 35 = .ok (.sipush 256, 3) := by decide +kernel
theorem d6_38 : decode jdk_33_method_48_code 38 = .ok (.if_icmp .le 11, 3) := by decide +kernel
theorem d6_49 : decode jdk_33_method_48_code 49 = .ok (.iload_n 0, 1) := by decide +kernel
theorem d6_50 : decode jdk_33_method_48_code 50 = .ok (.bipush 16, 2) := by decide +kernel
theorem d6_52 : decode jdk_33_method_48_code 52 = .ok (.if_icmp .le 10, 3) := by decide +kernel
theorem d6_62 : decode jdk_33_method_48_code 62 = .ok (.iload_n 0, 1) := by decide +kernel
theorem d6_63 : decode jdk_33_method_48_code 63 = .ok (.iconst 4, 1) := by decide +kernel
theorem d6_64 : decode jdk_33_method_48_code 64 = .ok (.if_icmp .le 10, 3) := by decide +kernel
theorem d6_74 : decode jdk_33_method_48_code 74 = .ok (.iload_n 1, 1) := by decide +kernel
theorem d6_75 : decode jdk_33_method_48_code 75 = .ok (.iload_n 0, 1) := by decide +kernel
theorem d6_76 : decode jdk_33_method_48_code 76 = .ok (.iconst 1, 1) := by decide +kernel
theorem d6_77 : decode jdk_33_method_48_code 77 = .ok (.iushr, 1) := by decide +kernel
theorem d6_78 : decode jdk_33_method_48_code 78 = .ok (.iadd, 1) := by decide +kernel
theorem d6_79 : decode jdk_33_method_48_code 79 = .ok (.ireturn, 1) := by decide +kernel
def QNtz (Z : State)   (h0 : Heap) (n0 : Nat) (v : Option Value) (h : Heap) (L : List Loc) : Prop := v = some (.int (2 : Int32)) ∧ Fr n0 L ∧ h = h0
theorem ef_rmNtz (m : MethodId)  : entryFrame m #[(.int (4 : Int32))] 2 = mkF m 0 #[iv (4 : Int32), .unset] [] := by first | (simp [entryFrame, mkF, argsToLocals, Value.category]; done) | rfl
set_option maxRecDepth 65536 in
set_option maxHeartbeats 40000000 in
theorem rmNtz (l : Launch) (Z : State) (a0 : Array Value) (hw : ∀ d ∈ tables_1, d.before a0 Z = true) (ws : List Jvm.Cond)   (h0 : Heap) (n0 : Nat) (Z0 : n0 ≤ h0.size) :
    MetFree l (⟨"java/lang/Integer", "numberOfTrailingZeros", "(I)I"⟩ : MethodName) (head1 (Jvm.Cond.code (⟨"java/lang/Integer", "numberOfTrailingZeros", "(I)I"⟩ : MethodName) jdk_33_method_48_code 2 (some .int) :: ws) ({ frames := 0, cells := 0, slots := 0, locals := 0 } : Room)) (fun a U => a = #[(.int (4 : Int32))] ∧ Z.Warmed39 U.vm ∧ U.heap = h0) (fun _ _ _ _ _ => True) (fun _ U o U' => ∃ v L, o = .returned v ∧ QNtz Z h0 n0 v U'.heap L ∧ FrameEnd U o U' L ({ frames := 0, cells := 0, slots := 0, locals := 0 } : Room).cells ({ frames := 0, cells := 0, slots := 0, locals := 0 } : Room).slots) := by
  refine MetFree.of_bodySF (plainFor_of_name pn_0) hisR ?_
  intro p e s m args below meth c s₁ Bd hml0 hP hK
  obtain ⟨rfl, hZ, hh⟩ := hP
  have hx := Bd.exec
  have hby := Bd.bytes
  have hml : c.maxLocals = 2 := hml0
  have hown : s.vm.findClass "java/lang/Integer" = some m.cls := findClass_of_methodNamed Bd.named
  have hnm := (name_of_methodNamed Bd.named Bd.method).1
  have X0 : Stand p l e ({ frames := 0, cells := 0, slots := 0, locals := 0 } : Room) s m #[(.int (4 : Int32))] below meth c s₁ [] 0 0 := Stand.of_body Bd
  have e0 : s₁.heap = h0 := by rw [← hh, Bd.state]; rfl
  have N0 := Fr.nil n0
  have S0 : ∀ t, Steps p.tables e below (s₁.setTop (mkF m 0 #[iv (4 : Int32), .unset] [])) t → Steps p.tables e below (s₁.setTop (entryFrame m #[(.int (4 : Int32))] 2)) t := fun t k => castTop (ef_rmNtz m ) k
  obtain ⟨fs, hr, hrun, hended, hW, hsame⟩ := X0.leave (v := some (.int (2 : Int32))) (fun h => by rw [Bd.returns] at h; cases h)
  refine ⟨_, _, S0 _ ?_, hrun, hended, _, _, rfl, ?_, ⟨_, rfl⟩, hW, hsame.mono (by decide) (by decide)⟩
  · skip
    show Steps p.tables e below (s₁.setTop (mkF m 0 #[iv (4 : Int32), .unset] [])) _
    refine XS.iloadN X0.here hx rfl (hb hby d6_0) rfl ?_
    show Steps p.tables e below (s₁.setTop (mkF m 1 #[iv (4 : Int32), .unset] [(.int (4 : Int32))])) _
    refine XS.iconst X0.here hx rfl (hb hby d6_1) ?_
    show Steps p.tables e below (s₁.setTop (mkF m 2 #[iv (4 : Int32), .unset] [(.int (-1 : Int32)), (.int (4 : Int32))])) _
    refine XS.ixor X0.here hx rfl (hb hby d6_2) rfl ?_
    show Steps p.tables e below (s₁.setTop (mkF m 3 #[iv (4 : Int32), .unset] [(.int (-5 : Int32))])) _
    refine XS.iloadN X0.here hx rfl (hb hby d6_3) rfl ?_
    show Steps p.tables e below (s₁.setTop (mkF m 4 #[iv (4 : Int32), .unset] [(.int (4 : Int32)), (.int (-5 : Int32))])) _
    refine XS.iconst X0.here hx rfl (hb hby d6_4) ?_
    show Steps p.tables e below (s₁.setTop (mkF m 5 #[iv (4 : Int32), .unset] [(.int (1 : Int32)), (.int (4 : Int32)), (.int (-5 : Int32))])) _
    refine XS.isub X0.here hx rfl (hb hby d6_5) rfl ?_
    show Steps p.tables e below (s₁.setTop (mkF m 6 #[iv (4 : Int32), .unset] [(.int (3 : Int32)), (.int (-5 : Int32))])) _
    refine XS.iand X0.here hx rfl (hb hby d6_6) rfl ?_
    show Steps p.tables e below (s₁.setTop (mkF m 7 #[iv (4 : Int32), .unset] [(.int (3 : Int32))])) _
    refine XS.istoreN X0.here hx rfl (hb hby d6_7) rfl (l' := #[iv (3 : Int32), .unset]) rfl ?_
    show Steps p.tables e below (s₁.setTop (mkF m 8 #[iv (3 : Int32), .unset] [])) _
    refine XS.iloadN X0.here hx rfl (hb hby d6_8) rfl ?_
    show Steps p.tables e below (s₁.setTop (mkF m 9 #[iv (3 : Int32), .unset] [(.int (3 : Int32))])) _
    refine XS.ifYes X0.here hx rfl (pc0 := 9) (pc' := 17) rfl (hb hby d6_9) rfl ((if0 _ _).trans (tlt (by decide : (0 : Int32) < (3 : Int32))).2.2.1) (by decide) (by decide) ?_
    show Steps p.tables e below (s₁.setTop (mkF m 17 #[iv (3 : Int32), .unset] [])) _
    refine XS.iconst X0.here hx rfl (hb hby d6_17) ?_
    show Steps p.tables e below (s₁.setTop (mkF m 18 #[iv (3 : Int32), .unset] [(.int (1 : Int32))])) _
    refine XS.istoreN X0.here hx rfl (hb hby d6_18) rfl (l' := #[iv (3 : Int32), iv (1 : Int32)]) rfl ?_
    show Steps p.tables e below (s₁.setTop (mkF m 19 #[iv (3 : Int32), iv (1 : Int32)] [])) _
    refine XS.iloadN X0.here hx rfl (hb hby d6_19) rfl ?_
    show Steps p.tables e below (s₁.setTop (mkF m 20 #[iv (3 : Int32), iv (1 : Int32)] [(.int (3 : Int32))])) _
    refine X0.ldcwInt hx hown (mvT hZ (hw _ (List.mem_of_getElem? (i := 21) rfl))) (g := (mkF m 20 #[iv (3 : Int32), iv (1 : Int32)] [(.int (3 : Int32))])) rfl (hb hby d6_20) _ ?_
    show Steps p.tables e below (s₁.setTop (mkF m 23 #[iv (3 : Int32), iv (1 : Int32)] [(.int (65536 : Int32)), (.int (3 : Int32))])) _
    refine XS.icmpYes X0.here hx rfl (pc0 := 23) (pc' := 34) rfl (hb hby d6_23) rfl (flt (by decide : ¬ ((65536 : Int32) < (3 : Int32)))).2.2.2 (by decide) (by decide) ?_
    show Steps p.tables e below (s₁.setTop (mkF m 34 #[iv (3 : Int32), iv (1 : Int32)] [])) _
    refine XS.iloadN X0.here hx rfl (hb hby d6_34) rfl ?_
    show Steps p.tables e below (s₁.setTop (mkF m 35 #[iv (3 : Int32), iv (1 : Int32)] [(.int (3 : Int32))])) _
    refine XS.sipush X0.here hx rfl (hb hby d6_35) ?_
    show Steps p.tables e below (s₁.setTop (mkF m 38 #[iv (3 : Int32), iv (1 : Int32)] [(.int (256 : Int32)), (.int (3 : Int32))])) _
    refine XS.icmpYes X0.here hx rfl (pc0 := 38) (pc' := 49) rfl (hb hby d6_38) rfl (flt (by decide : ¬ ((256 : Int32) < (3 : Int32)))).2.2.2 (by decide) (by decide) ?_
    show Steps p.tables e below (s₁.setTop (mkF m 49 #[iv (3 : Int32), iv (1 : Int32)] [])) _
    refine XS.iloadN X0.here hx rfl (hb hby d6_49) rfl ?_
    show Steps p.tables e below (s₁.setTop (mkF m 50 #[iv (3 : Int32), iv (1 : Int32)] [(.int (3 : Int32))])) _
    refine XS.bipush X0.here hx rfl (hb hby d6_50) ?_
    show Steps p.tables e below (s₁.setTop (mkF m 52 #[iv (3 : Int32), iv (1 : Int32)] [(.int (16 : Int32)), (.int (3 : Int32))])) _
    refine XS.icmpYes X0.here hx rfl (pc0 := 52) (pc' := 62) rfl (hb hby d6_52) rfl (flt (by decide : ¬ ((16 : Int32) < (3 : Int32)))).2.2.2 (by decide) (by decide) ?_
    show Steps p.tables e below (s₁.setTop (mkF m 62 #[iv (3 : Int32), iv (1 : Int32)] [])) _
    refine XS.iloadN X0.here hx rfl (hb hby d6_62) rfl ?_
    show Steps p.tables e below (s₁.setTop (mkF m 63 #[iv (3 : Int32), iv (1 : Int32)] [(.int (3 : Int32))])) _
    refine XS.iconst X0.here hx rfl (hb hby d6_63) ?_
    show Steps p.tables e below (s₁.setTop (mkF m 64 #[iv (3 : Int32), iv (1 : Int32)] [(.int (4 : Int32)), (.int (3 : Int32))])) _
    refine XS.icmpYes X0.here hx rfl (pc0 := 64) (pc' := 74) rfl (hb hby d6_64) rfl (flt (by decide : ¬ ((4 : Int32) < (3 : Int32)))).2.2.2 (by decide) (by decide) ?_
    show Steps p.tables e below (s₁.setTop (mkF m 74 #[iv (3 : Int32), iv (1 : Int32)] [])) _
    refine XS.iloadN X0.here hx rfl (hb hby d6_74) rfl ?_
    show Steps p.tables e below (s₁.setTop (mkF m 75 #[iv (3 : Int32), iv (1 : Int32)] [(.int (1 : Int32))])) _
    refine XS.iloadN X0.here hx rfl (hb hby d6_75) rfl ?_
    show Steps p.tables e below (s₁.setTop (mkF m 76 #[iv (3 : Int32), iv (1 : Int32)] [(.int (3 : Int32)), (.int (1 : Int32))])) _
    refine XS.iconst X0.here hx rfl (hb hby d6_76) ?_
    show Steps p.tables e below (s₁.setTop (mkF m 77 #[iv (3 : Int32), iv (1 : Int32)] [(.int (1 : Int32)), (.int (3 : Int32)), (.int (1 : Int32))])) _
    refine XS.iushr X0.here hx rfl (hb hby d6_77) rfl ?_
    show Steps p.tables e below (s₁.setTop (mkF m 78 #[iv (3 : Int32), iv (1 : Int32)] [(.int (1 : Int32)), (.int (1 : Int32))])) _
    refine XS.iadd X0.here hx rfl (hb hby d6_78) rfl ?_
    show Steps p.tables e below (s₁.setTop (mkF m 79 #[iv (3 : Int32), iv (1 : Int32)] [(.int (2 : Int32))])) _
    exact retI X0 hx Bd.returns (hb hby d6_79) hr
  · show QNtz Z h0 n0 _ s₁.heap _
    rw [e0]
    exact ⟨rfl, N0, rfl⟩
theorem d1_0 : decode prog_28_method_1_code 0 = .ok (.aload_n 0, 1) := by decide +kernel
theorem d1_1 : decode prog_28_method_1_code 1 = .ok (.invokespecial 1, 3) := by decide +kernel
theorem d1_4 : decode prog_28_method_1_code 4 = .ok (.iconst 1, 1) := by decide +kernel
theorem d1_5 : decode prog_28_method_1_code 5 = .ok (.iconst 2, 1) := by decide +kernel
theorem d1_6 : decode prog_28_method_1_code 6 = .ok (.iload_n 1, 1) := by decide +kernel
theorem d1_7 : decode prog_28_method_1_code 7 = .ok (.imul, 1) := by decide +kernel
theorem d1_8 : decode prog_28_method_1_code 8 = .ok (.iconst 1, 1) := by decide +kernel
theorem d1_9 : decode prog_28_method_1_code 9 = .ok (.isub, 1) := by decide +kernel
theorem d1_10 : decode prog_28_method_1_code 10 = .ok (.invokestatic 7, 3) := by decide +kernel
theorem pd_2 : parseMethodDescriptor "(II)I" = some ⟨[.int, .int], some .int⟩ := by decide +kernel
theorem d1_13 : decode prog_28_method_1_code 13 = .ok (.invokestatic 13, 3) := by decide +kernel
theorem d1_16 : decode prog_28_method_1_code 16 = .ok (.iconst 2, 1) := by decide +kernel
theorem d1_17 : decode prog_28_method_1_code 17 = .ok (.imul, 1) := by decide +kernel
theorem d1_18 : decode prog_28_method_1_code 18 = .ok (.istore_n 2, 1) := by decide +kernel
theorem d1_19 : decode prog_28_method_1_code 19 = .ok (.aload_n 0, 1) := by decide +kernel
theorem d1_20 : decode prog_28_method_1_code 20 = .ok (.iload_n 2, 1) := by decide +kernel
theorem d1_21 : decode prog_28_method_1_code 21 = .ok (.iconst 2, 1) := by decide +kernel
theorem d1_22 : decode prog_28_method_1_code 22 = .ok (.imul, 1) := by decide +kernel
theorem d1_23 : decode prog_28_method_1_code 23 = .ok (.newarray .long, 2) := by decide +kernel
theorem d1_25 : decode prog_28_method_1_code 25 = .ok (.putfield 21, 3) := by decide +kernel
theorem d1_28 : decode prog_28_method_1_code 28 = .ok (.aload_n 0, 1) := by decide +kernel
theorem d1_29 : decode prog_28_method_1_code 29 = .ok (.iload_n 2, 1) := by decide +kernel
theorem d1_30 : decode prog_28_method_1_code 30 = .ok (.iconst 1, 1) := by decide +kernel
theorem d1_31 : decode prog_28_method_1_code 31 = .ok (.isub, 1) := by decide +kernel
theorem d1_32 : decode prog_28_method_1_code 32 = .ok (.putfield 25, 3) := by decide +kernel
theorem d1_35 : decode prog_28_method_1_code 35 = .ok (.aload_n 0, 1) := by decide +kernel
theorem d1_36 : decode prog_28_method_1_code 36 = .ok (.bipush 64, 2) := by decide +kernel
theorem d1_38 : decode prog_28_method_1_code 38 = .ok (.iload_n 2, 1) := by decide +kernel
theorem d1_39 : decode prog_28_method_1_code 39 = .ok (.invokestatic 31, 3) := by decide +kernel
theorem d1_42 : decode prog_28_method_1_code 42 = .ok (.isub, 1) := by decide +kernel
theorem d1_43 : decode prog_28_method_1_code 43 = .ok (.putfield 34, 3) := by decide +kernel
theorem d1_46 : decode prog_28_method_1_code 46 = .ok (.iconst 0, 1) := by decide +kernel
theorem d1_47 : decode prog_28_method_1_code 47 = .ok (.istore_n 3, 1) := by decide +kernel
theorem d1_48 : decode prog_28_method_1_code 48 = .ok (.iload_n 3, 1) := by decide +kernel
theorem d1_49 : decode prog_28_method_1_code 49 = .ok (.iload_n 2, 1) := by decide +kernel
theorem d1_50 : decode prog_28_method_1_code 50 = .ok (.if_icmp .ge 20, 3) := by decide +kernel
theorem d1_53 : decode prog_28_method_1_code 53 = .ok (.aload_n 0, 1) := by decide +kernel
theorem d1_54 : decode prog_28_method_1_code 54 = .ok (.getfield 21, 3) := by decide +kernel
theorem d1_57 : decode prog_28_method_1_code 57 = .ok (.iload_n 3, 1) := by decide +kernel
theorem d1_58 : decode prog_28_method_1_code 58 = .ok (.iconst 2, 1) := by decide +kernel
theorem d1_59 : decode prog_28_method_1_code 59 = .ok (.imul, 1) := by decide +kernel
theorem d1_60 : decode prog_28_method_1_code 60 = .ok (.ldc2_w 37, 3) := by decide +kernel
theorem d1_63 : decode prog_28_method_1_code 63 = .ok (.lastore, 1) := by decide +kernel
theorem d1_64 : decode prog_28_method_1_code 64 = .ok (.iinc 3 1, 3) := by decide +kernel
theorem d1_67 : decode prog_28_method_1_code 67 = .ok (.goto (-19), 3) := by decide +kernel
theorem d1_70 : decode prog_28_method_1_code 70 = .ok (.return_, 1) := by decide +kernel
theorem pn_1 : plainName "com/example/tranquility/tranquility/PairTable" = true := by first | (simp [plainName, overriddenIn]; done) | decide +kernel
def QPT (Z : State) (a0_ : Addr)  (h0 : Heap) (n0 : Nat) (v : Option Value) (h : Heap) (L : List Loc) : Prop := v = none ∧ Fr n0 L ∧ n0 ≤ h.size ∧ own_PT0 Z h n0 a0_
theorem ef_rmPT (m : MethodId) (a0_ : Addr) : entryFrame m #[(.ref a0_), (.int (2 : Int32))] 4 = mkF m 0 #[rv a0_, iv (2 : Int32), .unset, .unset] [] := by first | (simp [entryFrame, mkF, argsToLocals, Value.category]; done) | rfl
set_option maxRecDepth 65536 in
set_option maxHeartbeats 40000000 in
theorem rmPT (l : Launch) (Z : State) (a0 : Array Value) (hw : ∀ d ∈ tables_1, d.before a0 Z = true) (ws : List Jvm.Cond) (a0_ : Addr)  (h0 : Heap) (n0 : Nat) (Z0 : n0 ≤ h0.size) (E1 : Exa Z h0 a0_ "com/example/tranquility/tranquility/PairTable") (F1 : Fld Z h0 a0_ "com/example/tranquility/tranquility/PairTable" "slots" "[J" .null) (F2 : Fld Z h0 a0_ "com/example/tranquility/tranquility/PairTable" "mask" "I" (.int (0 : Int32))) (F3 : Fld Z h0 a0_ "com/example/tranquility/tranquility/PairTable" "shift" "I" (.int (0 : Int32))) (g0 : n0 ≤ a0_) :
    MetFree l (⟨"com/example/tranquility/tranquility/PairTable", "<init>", "(I)V"⟩ : MethodName) (head1 (Jvm.Cond.code (⟨"com/example/tranquility/tranquility/PairTable", "<init>", "(I)V"⟩ : MethodName) prog_28_method_1_code 4 none :: ws) ({ frames := 2, cells := 1, slots := 8, locals := 27 } : Room)) (fun a U => a = #[(.ref a0_), (.int (2 : Int32))] ∧ Z.Warmed39 U.vm ∧ U.heap = h0) (fun _ _ _ _ _ => True) (fun _ U o U' => ∃ v L, o = .returned v ∧ QPT Z a0_ h0 n0 v U'.heap L ∧ FrameEnd U o U' L ({ frames := 2, cells := 1, slots := 8, locals := 27 } : Room).cells ({ frames := 2, cells := 1, slots := 8, locals := 27 } : Room).slots) := by
  refine MetFree.of_bodySF (plainFor_of_name pn_1) hisR ?_
  intro p e s m args below meth c s₁ Bd hml0 hP hK
  obtain ⟨rfl, hZ, hh⟩ := hP
  have hx := Bd.exec
  have hby := Bd.bytes
  have hml : c.maxLocals = 4 := hml0
  have hown : s.vm.findClass "com/example/tranquility/tranquility/PairTable" = some m.cls := findClass_of_methodNamed Bd.named
  have hnm := (name_of_methodNamed Bd.named Bd.method).1
  have X0 : Stand p l e ({ frames := 2, cells := 1, slots := 8, locals := 27 } : Room) s m #[(.ref a0_), (.int (2 : Int32))] below meth c s₁ [] 0 0 := Stand.of_body Bd
  have e0 : s₁.heap = h0 := by rw [← hh, Bd.state]; rfl
  have N0 := Fr.nil n0
  have S0 : ∀ t, Steps p.tables e below (s₁.setTop (mkF m 0 #[rv a0_, iv (2 : Int32), .unset, .unset] [])) t → Steps p.tables e below (s₁.setTop (entryFrame m #[(.ref a0_), (.int (2 : Int32))] 4)) t := fun t k => castTop (ef_rmPT m a0_) k
  obtain ⟨T1, X1, e1, st1⟩ := initO X0 hx hZ hown (hw _ (List.mem_of_getElem? (i := 6) rfl)) (hw _ (List.mem_of_getElem? (i := 7) rfl)) (hw _ (List.mem_of_getElem? (i := 8) rfl)) e0 (g := (mkF m 1 #[rv a0_, iv (2 : Int32), .unset, .unset] [(.ref a0_)])) rfl (by rw [hml]; rfl) rfl (hb hby d1_1) (by decide) (W := 0) (by show 2 * 0 + _ ≤ _; exact Nat.le_of_eq rfl) (by decide)
  obtain ⟨_, _, ⟨T2, L2, k2, n2⟩, -, X2, ⟨Lc2, hQ2, l2, y2, z2⟩, st2⟩ := Jvm.LawKit.callS X1 hx (y := (⟨"java/lang/Math", "max", "(II)I"⟩ : MethodName)) hown (mvT hZ (hw _ (List.mem_of_getElem? (i := 9) rfl))) (mvT hZ (hw _ (List.mem_of_getElem? (i := 10) rfl))) (mvT hZ (hw _ (List.mem_of_getElem? (i := 11) rfl))) (mvT hZ (hw _ (List.mem_of_getElem? (i := 12) rfl))) (by decide) (backOf (W := 0) (rmMax l Z a0 hw [] h0 n0 Z0) hZ (hw _ (List.mem_of_getElem? (i := 12) rfl)) (hw _ (List.mem_of_getElem? (i := 11) rfl)) (by decide) (by decide)) (g := (mkF m 10 #[rv a0_, iv (2 : Int32), .unset, .unset] [(.int (3 : Int32)), (.int (1 : Int32))])) rfl (by rw [hml]; rfl) (argsL := [(.int (1 : Int32)), (.int (3 : Int32))]) (rest := []) (lenOf pd_2 rfl) rfl (by show 2 * 0 + _ ≤ _; exact Nat.le_of_eq rfl) (hb hby d1_10) (fun _ _ => ⟨rfl, e1, (by decide : 0 + 0 ≤ _), (by decide : 0 + 0 ≤ _)⟩)
  dsimp only [Pt.U, Pt.locs, Pt.cells, Pt.slots] at X2 l2 y2 z2 st2 hQ2
  subst l2 y2 z2
  obtain ⟨rfl, Nq2, eq2⟩ := hQ2
  have N2 := Fr.app N0 Nq2
  obtain ⟨_, _, ⟨T3, L3, k3, n3⟩, -, X3, ⟨Lc3, hQ3, l3, y3, z3⟩, st3⟩ := Jvm.LawKit.callS X2 hx (y := (⟨"java/lang/Integer", "highestOneBit", "(I)I"⟩ : MethodName)) hown (mvT hZ (hw _ (List.mem_of_getElem? (i := 13) rfl))) (mvT hZ (hw _ (List.mem_of_getElem? (i := 14) rfl))) (mvT hZ (hw _ (List.mem_of_getElem? (i := 15) rfl))) (mvT hZ (hw _ (List.mem_of_getElem? (i := 16) rfl))) (by decide) (backOf (W := 0) (rmHob l Z a0 hw [] h0 n0 Z0) hZ (hw _ (List.mem_of_getElem? (i := 16) rfl)) (hw _ (List.mem_of_getElem? (i := 15) rfl)) (by decide) (by decide)) (g := (mkF m 13 #[rv a0_, iv (2 : Int32), .unset, .unset] [(.int (3 : Int32))])) rfl (by rw [hml]; rfl) (argsL := [(.int (3 : Int32))]) (rest := []) (lenOf pd_1 rfl) rfl (by show 2 * 0 + _ ≤ _; exact Nat.le_of_eq rfl) (hb hby d1_13) (fun _ _ => ⟨rfl, eq2, (by decide : 0 + 0 ≤ _), (by decide : 0 + 0 ≤ _)⟩)
  dsimp only [Pt.U, Pt.locs, Pt.cells, Pt.slots] at X3 l3 y3 z3 st3 hQ3
  subst l3 y3 z3
  obtain ⟨rfl, Nq3, eq3⟩ := hQ3
  have N3 := Fr.app N2 Nq3
  obtain ⟨T4, h4, k4, X4, e4, E4, A4, st4⟩ := newP X3 hx hZ (hw _ (List.mem_of_getElem? (i := 22) rfl)) eq3 (g := (mkF m 23 #[rv a0_, iv (2 : Int32), iv (4 : Int32), .unset] [(.int (8 : Int32)), (.ref a0_)])) rfl (hb hby d1_23) rfl (by decide) (cap := 8) (by decide) (by decide) (by decide) (by decide)
  obtain ⟨b4, g4⟩ : ∃ z, z = h0.size := ⟨_, rfl⟩
  rw [← g4] at A4 st4
  have ge_b4 : n0 ≤ b4 := Nat.le_trans Z0 (Nat.le_of_eq g4.symm)
  have ne_a0__b4 : a0_ ≠ b4 := Nat.ne_of_lt (Nat.lt_of_lt_of_le (E1).lt (Nat.le_of_eq g4.symm))
  have f5 := E1.ext E4
  have f6 := F1.ext E4
  have f7 := F2.ext E4
  have f8 := F3.ext E4
  have V4 : Arv Z h4 b4 k4 .long (8 : Int32) [(.long (0 : Int64)), (.long (0 : Int64)), (.long (0 : Int64)), (.long (0 : Int64)), (.long (0 : Int64)), (.long (0 : Int64)), (.long (0 : Int64)), (.long (0 : Int64))] (.long (0 : Int64)) := (Arv.new A4 (by decide)).pad (pad_rep [] (.long (0 : Int64)) 8)
  have Z4 : n0 ≤ h4.size := Nat.le_trans Z0 E4.1
  obtain ⟨T9, h9, X9, e9, W9, st9⟩ := putF X4 hx hZ hown (host := "") (Or.inl (hw _ (List.mem_of_getElem? (i := 23) rfl))) Via.refl e4 f6 f5 (Or.inr ⟨(hw _ (List.mem_of_getElem? (i := 24) rfl)), rfl, hnm⟩) (hw _ (List.mem_of_getElem? (i := 1) rfl)) (ty := (.array .long)) (by decide) rfl rfl (g := (mkF m 25 #[rv a0_, iv (2 : Int32), iv (4 : Int32), .unset] [(.ref b4), (.ref a0_)])) rfl rfl (hb hby d1_25)
  have Fw9 := f6.same W9
  have f10 := f7.other W9 (Or.inr (slot_ne (Or.inr (hw _ (List.mem_of_getElem? (i := 26) rfl))) (Or.inr (hw _ (List.mem_of_getElem? (i := 24) rfl))) (by decide) (t := .int) (t' := (.array .long)) (by decide) (by decide)))
  have f11 := f8.other W9 (Or.inr (slot_ne (Or.inr (hw _ (List.mem_of_getElem? (i := 31) rfl))) (Or.inr (hw _ (List.mem_of_getElem? (i := 24) rfl))) (by decide) (t := .int) (t' := (.array .long)) (by decide) (by decide)))
  have f12 := f5.wr W9
  have f17 := V4.other W9 (Ne.symm ne_a0__b4)
  have N9 := Fr.snoc X9 N3 g0
  have Z9 : n0 ≤ h9.size := Nat.le_trans Z4 (Keep.of_wr W9).1
  obtain ⟨T18, h18, X18, e18, W18, st18⟩ := putF X9 hx hZ hown (host := "") (Or.inl (hw _ (List.mem_of_getElem? (i := 25) rfl))) Via.refl e9 f10 f12 (Or.inr ⟨(hw _ (List.mem_of_getElem? (i := 26) rfl)), rfl, hnm⟩) (hw _ (List.mem_of_getElem? (i := 1) rfl)) (ty := .int) (by decide) rfl rfl (g := (mkF m 32 #[rv a0_, iv (2 : Int32), iv (4 : Int32), .unset] [(.int (3 : Int32)), (.ref a0_)])) rfl rfl (hb hby d1_32)
  have Fw18 := f10.same W18
  have f19 := Fw9.other W18 (Or.inr (slot_ne (Or.inr (hw _ (List.mem_of_getElem? (i := 24) rfl))) (Or.inr (hw _ (List.mem_of_getElem? (i := 26) rfl))) (by decide) (t := (.array .long)) (t' := .int) (by decide) (by decide)))
  have f20 := f11.other W18 (Or.inr (slot_ne (Or.inr (hw _ (List.mem_of_getElem? (i := 31) rfl))) (Or.inr (hw _ (List.mem_of_getElem? (i := 26) rfl))) (by decide) (t := .int) (t' := .int) (by decide) (by decide)))
  have f21 := f12.wr W18
  have f26 := f17.other W18 (Ne.symm ne_a0__b4)
  have N18 := Fr.snoc X18 N9 g0
  have Z18 : n0 ≤ h18.size := Nat.le_trans Z9 (Keep.of_wr W18).1
  obtain ⟨_, _, ⟨T27, L27, k27, n27⟩, -, X27, ⟨Lc27, hQ27, l27, y27, z27⟩, st27⟩ := Jvm.LawKit.callS X18 hx (y := (⟨"java/lang/Integer", "numberOfTrailingZeros", "(I)I"⟩ : MethodName)) hown (mvT hZ (hw _ (List.mem_of_getElem? (i := 27) rfl))) (mvT hZ (hw _ (List.mem_of_getElem? (i := 28) rfl))) (mvT hZ (hw _ (List.mem_of_getElem? (i := 15) rfl))) (mvT hZ (hw _ (List.mem_of_getElem? (i := 29) rfl))) (by decide) (backOf (W := 2) (rmNtz l Z a0 hw [] h18 n0 Z18) hZ (hw _ (List.mem_of_getElem? (i := 29) rfl)) (hw _ (List.mem_of_getElem? (i := 15) rfl)) (by decide) (by decide)) (g := (mkF m 39 #[rv a0_, iv (2 : Int32), iv (4 : Int32), .unset] [(.int (4 : Int32)), (.int (64 : Int32)), (.ref a0_)])) rfl (by rw [hml]; rfl) (argsL := [(.int (4 : Int32))]) (rest := [(.int (64 : Int32)), (.ref a0_)]) (lenOf pd_1 rfl) rfl (by show 2 * 0 + _ ≤ _; exact Nat.le_of_eq rfl) (hb hby d1_39) (fun _ _ => ⟨rfl, e18, (by decide : 1 + 0 ≤ _), (by decide : 8 + 0 ≤ _)⟩)
  dsimp only [Pt.U, Pt.locs, Pt.cells, Pt.slots] at X27 l27 y27 z27 st27 hQ27
  subst l27 y27 z27
  obtain ⟨rfl, Nq27, eq27⟩ := hQ27
  have N27 := Fr.app N18 Nq27
  obtain ⟨T28, h28, X28, e28, W28, st28⟩ := putF X27 hx hZ hown (host := "") (Or.inl (hw _ (List.mem_of_getElem? (i := 30) rfl))) Via.refl eq27 f20 f21 (Or.inr ⟨(hw _ (List.mem_of_getElem? (i := 31) rfl)), rfl, hnm⟩) (hw _ (List.mem_of_getElem? (i := 1) rfl)) (ty := .int) (by decide) rfl rfl (g := (mkF m 43 #[rv a0_, iv (2 : Int32), iv (4 : Int32), .unset] [(.int (62 : Int32)), (.ref a0_)])) rfl rfl (hb hby d1_43)
  have Fw28 := f20.same W28
  have f29 := f19.other W28 (Or.inr (slot_ne (Or.inr (hw _ (List.mem_of_getElem? (i := 24) rfl))) (Or.inr (hw _ (List.mem_of_getElem? (i := 31) rfl))) (by decide) (t := (.array .long)) (t' := .int) (by decide) (by decide)))
  have f30 := Fw18.other W28 (Or.inr (slot_ne (Or.inr (hw _ (List.mem_of_getElem? (i := 26) rfl))) (Or.inr (hw _ (List.mem_of_getElem? (i := 31) rfl))) (by decide) (t := .int) (t' := .int) (by decide) (by decide)))
  have f31 := f21.wr W28
  have f36 := f26.other W28 (Ne.symm ne_a0__b4)
  have N28 := Fr.snoc X28 N27 g0
  have Z28 : n0 ≤ h28.size := Nat.le_trans Z18 (Keep.of_wr W28).1
  obtain ⟨T37, X37, e37, st37⟩ := getF X28 hx hZ hown (host := "") (Or.inl (hw _ (List.mem_of_getElem? (i := 23) rfl))) Via.refl e28 f29 (g := (mkF m 54 #[rv a0_, iv (2 : Int32), iv (4 : Int32), iv (0 : Int32)] [(.ref a0_)])) rfl rfl (hb hby d1_54)
  obtain ⟨cl38, Ar38, qa38, Sa38, Na38, Ha38, Ga38⟩ := id f36
  have hin38 : ¬ ((0 : Int32) < 0 ∨ cl38.slots.size ≤ ((0 : Int32)).toNatClampNeg) := inb_of Sa38 ⟨by decide, by decide⟩
  obtain ⟨T39, h39, X39, e39, W39, st39⟩ := stJ X37 hx hZ e37 Ar38 (j := (0 : Int32)) hin38 (g := (mkF m 63 #[rv a0_, iv (2 : Int32), iv (4 : Int32), iv (0 : Int32)] [(.long (-1 : Int64)), (.int (0 : Int32)), (.ref b4)])) rfl rfl (hb hby d1_63)
  have V39 : Arv Z h39 b4 k4 .long (8 : Int32) [(.long (-1 : Int64)), (.long (0 : Int64)), (.long (0 : Int64)), (.long (0 : Int64)), (.long (0 : Int64)), (.long (0 : Int64)), (.long (0 : Int64)), (.long (0 : Int64))] (.long (0 : Int64)) := Arv.set Ar38 qa38 Sa38 Na38 Ha38 Ga38 rfl W39 0 rfl (Nat.le_of_ble_eq_true rfl)
  have N39 := Fr.snoc X39 N28 ge_b4
  have Z39 : n0 ≤ h39.size := Nat.le_trans Z28 (Keep.of_wr W39).1
  have f40 := f31.wr W39
  have f41 := f29.other W39 (Or.inl ne_a0__b4)
  have f42 := f30.other W39 (Or.inl ne_a0__b4)
  have f43 := Fw28.other W39 (Or.inl ne_a0__b4)
  obtain ⟨T45, X45, e45, st45⟩ := getF X39 hx hZ hown (host := "") (Or.inl (hw _ (List.mem_of_getElem? (i := 23) rfl))) Via.refl e39 f41 (g := (mkF m 54 #[rv a0_, iv (2 : Int32), iv (4 : Int32), iv (1 : Int32)] [(.ref a0_)])) rfl rfl (hb hby d1_54)
  obtain ⟨cl46, Ar46, qa46, Sa46, Na46, Ha46, Ga46⟩ := id V39
  have hin46 : ¬ ((2 : Int32) < 0 ∨ cl46.slots.size ≤ ((2 : Int32)).toNatClampNeg) := inb_of Sa46 ⟨by decide, by decide⟩
  obtain ⟨T47, h47, X47, e47, W47, st47⟩ := stJ X45 hx hZ e45 Ar46 (j := (2 : Int32)) hin46 (g := (mkF m 63 #[rv a0_, iv (2 : Int32), iv (4 : Int32), iv (1 : Int32)] [(.long (-1 : Int64)), (.int (2 : Int32)), (.ref b4)])) rfl rfl (hb hby d1_63)
  have V47 : Arv Z h47 b4 k4 .long (8 : Int32) [(.long (-1 : Int64)), (.long (0 : Int64)), (.long (-1 : Int64)), (.long (0 : Int64)), (.long (0 : Int64)), (.long (0 : Int64)), (.long (0 : Int64)), (.long (0 : Int64))] (.long (0 : Int64)) := Arv.set Ar46 qa46 Sa46 Na46 Ha46 Ga46 rfl W47 2 rfl (Nat.le_of_ble_eq_true rfl)
  have N47 := Fr.snoc X47 N39 ge_b4
  have Z47 : n0 ≤ h47.size := Nat.le_trans Z39 (Keep.of_wr W47).1
  have f48 := f40.wr W47
  have f49 := f41.other W47 (Or.inl ne_a0__b4)
  have f50 := f42.other W47 (Or.inl ne_a0__b4)
  have f51 := f43.other W47 (Or.inl ne_a0__b4)
  obtain ⟨T53, X53, e53, st53⟩ := getF X47 hx hZ hown (host := "") (Or.inl (hw _ (List.mem_of_getElem? (i := 23) rfl))) Via.refl e47 f49 (g := (mkF m 54 #[rv a0_, iv (2 : Int32), iv (4 : Int32), iv (2 : Int32)] [(.ref a0_)])) rfl rfl (hb hby d1_54)
  obtain ⟨cl54, Ar54, qa54, Sa54, Na54, Ha54, Ga54⟩ := id V47
  have hin54 : ¬ ((4 : Int32) < 0 ∨ cl54.slots.size ≤ ((4 : Int32)).toNatClampNeg) := inb_of Sa54 ⟨by decide, by decide⟩
  obtain ⟨T55, h55, X55, e55, W55, st55⟩ := stJ X53 hx hZ e53 Ar54 (j := (4 : Int32)) hin54 (g := (mkF m 63 #[rv a0_, iv (2 : Int32), iv (4 : Int32), iv (2 : Int32)] [(.long (-1 : Int64)), (.int (4 : Int32)), (.ref b4)])) rfl rfl (hb hby d1_63)
  have V55 : Arv Z h55 b4 k4 .long (8 : Int32) [(.long (-1 : Int64)), (.long (0 : Int64)), (.long (-1 : Int64)), (.long (0 : Int64)), (.long (-1 : Int64)), (.long (0 : Int64)), (.long (0 : Int64)), (.long (0 : Int64))] (.long (0 : Int64)) := Arv.set Ar54 qa54 Sa54 Na54 Ha54 Ga54 rfl W55 4 rfl (Nat.le_of_ble_eq_true rfl)
  have N55 := Fr.snoc X55 N47 ge_b4
  have Z55 : n0 ≤ h55.size := Nat.le_trans Z47 (Keep.of_wr W55).1
  have f56 := f48.wr W55
  have f57 := f49.other W55 (Or.inl ne_a0__b4)
  have f58 := f50.other W55 (Or.inl ne_a0__b4)
  have f59 := f51.other W55 (Or.inl ne_a0__b4)
  obtain ⟨T61, X61, e61, st61⟩ := getF X55 hx hZ hown (host := "") (Or.inl (hw _ (List.mem_of_getElem? (i := 23) rfl))) Via.refl e55 f57 (g := (mkF m 54 #[rv a0_, iv (2 : Int32), iv (4 : Int32), iv (3 : Int32)] [(.ref a0_)])) rfl rfl (hb hby d1_54)
  obtain ⟨cl62, Ar62, qa62, Sa62, Na62, Ha62, Ga62⟩ := id V55
  have hin62 : ¬ ((6 : Int32) < 0 ∨ cl62.slots.size ≤ ((6 : Int32)).toNatClampNeg) := inb_of Sa62 ⟨by decide, by decide⟩
  obtain ⟨T63, h63, X63, e63, W63, st63⟩ := stJ X61 hx hZ e61 Ar62 (j := (6 : Int32)) hin62 (g := (mkF m 63 #[rv a0_, iv (2 : Int32), iv (4 : Int32), iv (3 : Int32)] [(.long (-1 : Int64)), (.int (6 : Int32)), (.ref b4)])) rfl rfl (hb hby d1_63)
  have V63 : Arv Z h63 b4 k4 .long (8 : Int32) [(.long (-1 : Int64)), (.long (0 : Int64)), (.long (-1 : Int64)), (.long (0 : Int64)), (.long (-1 : Int64)), (.long (0 : Int64)), (.long (-1 : Int64)), (.long (0 : Int64))] (.long (0 : Int64)) := Arv.set Ar62 qa62 Sa62 Na62 Ha62 Ga62 rfl W63 6 rfl (Nat.le_of_ble_eq_true rfl)
  have N63 := Fr.snoc X63 N55 ge_b4
  have Z63 : n0 ≤ h63.size := Nat.le_trans Z55 (Keep.of_wr W63).1
  have f64 := f56.wr W63
  have f65 := f57.other W63 (Or.inl ne_a0__b4)
  have f66 := f58.other W63 (Or.inl ne_a0__b4)
  have f67 := f59.other W63 (Or.inl ne_a0__b4)
  obtain ⟨fs, hr, hrun, hended, hW, hsame⟩ := X63.leave (v := none) (fun _ => rfl)
  refine ⟨_, _, S0 _ ?_, hrun, hended, _, _, rfl, ?_, ⟨_, rfl⟩, hW, hsame.mono (by decide) (by decide)⟩
  · skip
    show Steps p.tables e below (s₁.setTop (mkF m 0 #[rv a0_, iv (2 : Int32), .unset, .unset] [])) _
    refine XS.aloadN X0.here hx rfl (hb hby d1_0) rfl rfl ?_
    show Steps p.tables e below (s₁.setTop (mkF m 1 #[rv a0_, iv (2 : Int32), .unset, .unset] [(.ref a0_)])) _
    refine st1 _ ?_
    show Steps p.tables e below (T1.setTop (mkF m 4 #[rv a0_, iv (2 : Int32), .unset, .unset] [])) _
    refine XS.iconst X1.here hx rfl (hb hby d1_4) ?_
    show Steps p.tables e below (T1.setTop (mkF m 5 #[rv a0_, iv (2 : Int32), .unset, .unset] [(.int (1 : Int32))])) _
    refine XS.iconst X1.here hx rfl (hb hby d1_5) ?_
    show Steps p.tables e below (T1.setTop (mkF m 6 #[rv a0_, iv (2 : Int32), .unset, .unset] [(.int (2 : Int32)), (.int (1 : Int32))])) _
    refine XS.iloadN X1.here hx rfl (hb hby d1_6) rfl ?_
    show Steps p.tables e below (T1.setTop (mkF m 7 #[rv a0_, iv (2 : Int32), .unset, .unset] [(.int (2 : Int32)), (.int (2 : Int32)), (.int (1 : Int32))])) _
    refine XS.imul X1.here hx rfl (hb hby d1_7) rfl ?_
    show Steps p.tables e below (T1.setTop (mkF m 8 #[rv a0_, iv (2 : Int32), .unset, .unset] [(.int (4 : Int32)), (.int (1 : Int32))])) _
    refine XS.iconst X1.here hx rfl (hb hby d1_8) ?_
    show Steps p.tables e below (T1.setTop (mkF m 9 #[rv a0_, iv (2 : Int32), .unset, .unset] [(.int (1 : Int32)), (.int (4 : Int32)), (.int (1 : Int32))])) _
    refine XS.isub X1.here hx rfl (hb hby d1_9) rfl ?_
    show Steps p.tables e below (T1.setTop (mkF m 10 #[rv a0_, iv (2 : Int32), .unset, .unset] [(.int (3 : Int32)), (.int (1 : Int32))])) _
    refine st2 _ ?_
    show Steps p.tables e below (T2.setTop (mkF m 13 #[rv a0_, iv (2 : Int32), .unset, .unset] [(.int (3 : Int32))])) _
    refine st3 _ ?_
    show Steps p.tables e below (T3.setTop (mkF m 16 #[rv a0_, iv (2 : Int32), .unset, .unset] [(.int (2 : Int32))])) _
    refine XS.iconst X3.here hx rfl (hb hby d1_16) ?_
    show Steps p.tables e below (T3.setTop (mkF m 17 #[rv a0_, iv (2 : Int32), .unset, .unset] [(.int (2 : Int32)), (.int (2 : Int32))])) _
    refine XS.imul X3.here hx rfl (hb hby d1_17) rfl ?_
    show Steps p.tables e below (T3.setTop (mkF m 18 #[rv a0_, iv (2 : Int32), .unset, .unset] [(.int (4 : Int32))])) _
    refine XS.istoreN X3.here hx rfl (hb hby d1_18) rfl (l' := #[rv a0_, iv (2 : Int32), iv (4 : Int32), .unset]) rfl ?_
    show Steps p.tables e below (T3.setTop (mkF m 19 #[rv a0_, iv (2 : Int32), iv (4 : Int32), .unset] [])) _
    refine XS.aloadN X3.here hx rfl (hb hby d1_19) rfl rfl ?_
    show Steps p.tables e below (T3.setTop (mkF m 20 #[rv a0_, iv (2 : Int32), iv (4 : Int32), .unset] [(.ref a0_)])) _
    refine XS.iloadN X3.here hx rfl (hb hby d1_20) rfl ?_
    show Steps p.tables e below (T3.setTop (mkF m 21 #[rv a0_, iv (2 : Int32), iv (4 : Int32), .unset] [(.int (4 : Int32)), (.ref a0_)])) _
    refine XS.iconst X3.here hx rfl (hb hby d1_21) ?_
    show Steps p.tables e below (T3.setTop (mkF m 22 #[rv a0_, iv (2 : Int32), iv (4 : Int32), .unset] [(.int (2 : Int32)), (.int (4 : Int32)), (.ref a0_)])) _
    refine XS.imul X3.here hx rfl (hb hby d1_22) rfl ?_
    show Steps p.tables e below (T3.setTop (mkF m 23 #[rv a0_, iv (2 : Int32), iv (4 : Int32), .unset] [(.int (8 : Int32)), (.ref a0_)])) _
    refine st4 _ ?_
    show Steps p.tables e below (T4.setTop (mkF m 25 #[rv a0_, iv (2 : Int32), iv (4 : Int32), .unset] [(.ref b4), (.ref a0_)])) _
    refine st9 _ ?_
    show Steps p.tables e below (T9.setTop (mkF m 28 #[rv a0_, iv (2 : Int32), iv (4 : Int32), .unset] [])) _
    refine XS.aloadN X9.here hx rfl (hb hby d1_28) rfl rfl ?_
    show Steps p.tables e below (T9.setTop (mkF m 29 #[rv a0_, iv (2 : Int32), iv (4 : Int32), .unset] [(.ref a0_)])) _
    refine XS.iloadN X9.here hx rfl (hb hby d1_29) rfl ?_
    show Steps p.tables e below (T9.setTop (mkF m 30 #[rv a0_, iv (2 : Int32), iv (4 : Int32), .unset] [(.int (4 : Int32)), (.ref a0_)])) _
    refine XS.iconst X9.here hx rfl (hb hby d1_30) ?_
    show Steps p.tables e below (T9.setTop (mkF m 31 #[rv a0_, iv (2 : Int32), iv (4 : Int32), .unset] [(.int (1 : Int32)), (.int (4 : Int32)), (.ref a0_)])) _
    refine XS.isub X9.here hx rfl (hb hby d1_31) rfl ?_
    show Steps p.tables e below (T9.setTop (mkF m 32 #[rv a0_, iv (2 : Int32), iv (4 : Int32), .unset] [(.int (3 : Int32)), (.ref a0_)])) _
    refine st18 _ ?_
    show Steps p.tables e below (T18.setTop (mkF m 35 #[rv a0_, iv (2 : Int32), iv (4 : Int32), .unset] [])) _
    refine XS.aloadN X18.here hx rfl (hb hby d1_35) rfl rfl ?_
    show Steps p.tables e below (T18.setTop (mkF m 36 #[rv a0_, iv (2 : Int32), iv (4 : Int32), .unset] [(.ref a0_)])) _
    refine XS.bipush X18.here hx rfl (hb hby d1_36) ?_
    show Steps p.tables e below (T18.setTop (mkF m 38 #[rv a0_, iv (2 : Int32), iv (4 : Int32), .unset] [(.int (64 : Int32)), (.ref a0_)])) _
    refine XS.iloadN X18.here hx rfl (hb hby d1_38) rfl ?_
    show Steps p.tables e below (T18.setTop (mkF m 39 #[rv a0_, iv (2 : Int32), iv (4 : Int32), .unset] [(.int (4 : Int32)), (.int (64 : Int32)), (.ref a0_)])) _
    refine st27 _ ?_
    show Steps p.tables e below (T27.setTop (mkF m 42 #[rv a0_, iv (2 : Int32), iv (4 : Int32), .unset] [(.int (2 : Int32)), (.int (64 : Int32)), (.ref a0_)])) _
    refine XS.isub X27.here hx rfl (hb hby d1_42) rfl ?_
    show Steps p.tables e below (T27.setTop (mkF m 43 #[rv a0_, iv (2 : Int32), iv (4 : Int32), .unset] [(.int (62 : Int32)), (.ref a0_)])) _
    refine st28 _ ?_
    show Steps p.tables e below (T28.setTop (mkF m 46 #[rv a0_, iv (2 : Int32), iv (4 : Int32), .unset] [])) _
    refine XS.iconst X28.here hx rfl (hb hby d1_46) ?_
    show Steps p.tables e below (T28.setTop (mkF m 47 #[rv a0_, iv (2 : Int32), iv (4 : Int32), .unset] [(.int (0 : Int32))])) _
    refine XS.istoreN X28.here hx rfl (hb hby d1_47) rfl (l' := #[rv a0_, iv (2 : Int32), iv (4 : Int32), iv (0 : Int32)]) rfl ?_
    show Steps p.tables e below (T28.setTop (mkF m 48 #[rv a0_, iv (2 : Int32), iv (4 : Int32), iv (0 : Int32)] [])) _
    refine XS.iloadN X28.here hx rfl (hb hby d1_48) rfl ?_
    show Steps p.tables e below (T28.setTop (mkF m 49 #[rv a0_, iv (2 : Int32), iv (4 : Int32), iv (0 : Int32)] [(.int (0 : Int32))])) _
    refine XS.iloadN X28.here hx rfl (hb hby d1_49) rfl ?_
    show Steps p.tables e below (T28.setTop (mkF m 50 #[rv a0_, iv (2 : Int32), iv (4 : Int32), iv (0 : Int32)] [(.int (4 : Int32)), (.int (0 : Int32))])) _
    refine XS.icmpNo X28.here hx rfl (hb hby d1_50) rfl (tlt (by decide : (0 : Int32) < (4 : Int32))).2.1 ?_
    show Steps p.tables e below (T28.setTop (mkF m 53 #[rv a0_, iv (2 : Int32), iv (4 : Int32), iv (0 : Int32)] [])) _
    refine XS.aloadN X28.here hx rfl (hb hby d1_53) rfl rfl ?_
    show Steps p.tables e below (T28.setTop (mkF m 54 #[rv a0_, iv (2 : Int32), iv (4 : Int32), iv (0 : Int32)] [(.ref a0_)])) _
    refine st37 _ ?_
    show Steps p.tables e below (T37.setTop (mkF m 57 #[rv a0_, iv (2 : Int32), iv (4 : Int32), iv (0 : Int32)] [(.ref b4)])) _
    refine XS.iloadN X37.here hx rfl (hb hby d1_57) rfl ?_
    show Steps p.tables e below (T37.setTop (mkF m 58 #[rv a0_, iv (2 : Int32), iv (4 : Int32), iv (0 : Int32)] [(.int (0 : Int32)), (.ref b4)])) _
    refine XS.iconst X37.here hx rfl (hb hby d1_58) ?_
    show Steps p.tables e below (T37.setTop (mkF m 59 #[rv a0_, iv (2 : Int32), iv (4 : Int32), iv (0 : Int32)] [(.int (2 : Int32)), (.int (0 : Int32)), (.ref b4)])) _
    refine XS.imul X37.here hx rfl (hb hby d1_59) rfl ?_
    show Steps p.tables e below (T37.setTop (mkF m 60 #[rv a0_, iv (2 : Int32), iv (4 : Int32), iv (0 : Int32)] [(.int (0 : Int32)), (.ref b4)])) _
    refine X37.ldc2Long hx hown (mvT hZ (hw _ (List.mem_of_getElem? (i := 32) rfl))) (g := (mkF m 60 #[rv a0_, iv (2 : Int32), iv (4 : Int32), iv (0 : Int32)] [(.int (0 : Int32)), (.ref b4)])) rfl (hb hby d1_60) _ ?_
    show Steps p.tables e below (T37.setTop (mkF m 63 #[rv a0_, iv (2 : Int32), iv (4 : Int32), iv (0 : Int32)] [(.long (-1 : Int64)), (.int (0 : Int32)), (.ref b4)])) _
    refine st39 _ ?_
    show Steps p.tables e below (T39.setTop (mkF m 64 #[rv a0_, iv (2 : Int32), iv (4 : Int32), iv (0 : Int32)] [])) _
    refine XS.iinc X39.here hx rfl (hb hby d1_64) rfl (l' := #[rv a0_, iv (2 : Int32), iv (4 : Int32), iv (1 : Int32)]) rfl ?_
    show Steps p.tables e below (T39.setTop (mkF m 67 #[rv a0_, iv (2 : Int32), iv (4 : Int32), iv (1 : Int32)] [])) _
    refine XS.goto X39.here hx rfl (pc0 := 67) (pc' := 48) rfl (hb hby d1_67) (by decide) (by decide) ?_
    show Steps p.tables e below (T39.setTop (mkF m 48 #[rv a0_, iv (2 : Int32), iv (4 : Int32), iv (1 : Int32)] [])) _
    refine XS.iloadN X39.here hx rfl (hb hby d1_48) rfl ?_
    show Steps p.tables e below (T39.setTop (mkF m 49 #[rv a0_, iv (2 : Int32), iv (4 : Int32), iv (1 : Int32)] [(.int (1 : Int32))])) _
    refine XS.iloadN X39.here hx rfl (hb hby d1_49) rfl ?_
    show Steps p.tables e below (T39.setTop (mkF m 50 #[rv a0_, iv (2 : Int32), iv (4 : Int32), iv (1 : Int32)] [(.int (4 : Int32)), (.int (1 : Int32))])) _
    refine XS.icmpNo X39.here hx rfl (hb hby d1_50) rfl (tlt (by decide : (1 : Int32) < (4 : Int32))).2.1 ?_
    show Steps p.tables e below (T39.setTop (mkF m 53 #[rv a0_, iv (2 : Int32), iv (4 : Int32), iv (1 : Int32)] [])) _
    refine XS.aloadN X39.here hx rfl (hb hby d1_53) rfl rfl ?_
    show Steps p.tables e below (T39.setTop (mkF m 54 #[rv a0_, iv (2 : Int32), iv (4 : Int32), iv (1 : Int32)] [(.ref a0_)])) _
    refine st45 _ ?_
    show Steps p.tables e below (T45.setTop (mkF m 57 #[rv a0_, iv (2 : Int32), iv (4 : Int32), iv (1 : Int32)] [(.ref b4)])) _
    refine XS.iloadN X45.here hx rfl (hb hby d1_57) rfl ?_
    show Steps p.tables e below (T45.setTop (mkF m 58 #[rv a0_, iv (2 : Int32), iv (4 : Int32), iv (1 : Int32)] [(.int (1 : Int32)), (.ref b4)])) _
    refine XS.iconst X45.here hx rfl (hb hby d1_58) ?_
    show Steps p.tables e below (T45.setTop (mkF m 59 #[rv a0_, iv (2 : Int32), iv (4 : Int32), iv (1 : Int32)] [(.int (2 : Int32)), (.int (1 : Int32)), (.ref b4)])) _
    refine XS.imul X45.here hx rfl (hb hby d1_59) rfl ?_
    show Steps p.tables e below (T45.setTop (mkF m 60 #[rv a0_, iv (2 : Int32), iv (4 : Int32), iv (1 : Int32)] [(.int (2 : Int32)), (.ref b4)])) _
    refine X45.ldc2Long hx hown (mvT hZ (hw _ (List.mem_of_getElem? (i := 32) rfl))) (g := (mkF m 60 #[rv a0_, iv (2 : Int32), iv (4 : Int32), iv (1 : Int32)] [(.int (2 : Int32)), (.ref b4)])) rfl (hb hby d1_60) _ ?_
    show Steps p.tables e below (T45.setTop (mkF m 63 #[rv a0_, iv (2 : Int32), iv (4 : Int32), iv (1 : Int32)] [(.long (-1 : Int64)), (.int (2 : Int32)), (.ref b4)])) _
    refine st47 _ ?_
    show Steps p.tables e below (T47.setTop (mkF m 64 #[rv a0_, iv (2 : Int32), iv (4 : Int32), iv (1 : Int32)] [])) _
    refine XS.iinc X47.here hx rfl (hb hby d1_64) rfl (l' := #[rv a0_, iv (2 : Int32), iv (4 : Int32), iv (2 : Int32)]) rfl ?_
    show Steps p.tables e below (T47.setTop (mkF m 67 #[rv a0_, iv (2 : Int32), iv (4 : Int32), iv (2 : Int32)] [])) _
    refine XS.goto X47.here hx rfl (pc0 := 67) (pc' := 48) rfl (hb hby d1_67) (by decide) (by decide) ?_
    show Steps p.tables e below (T47.setTop (mkF m 48 #[rv a0_, iv (2 : Int32), iv (4 : Int32), iv (2 : Int32)] [])) _
    refine XS.iloadN X47.here hx rfl (hb hby d1_48) rfl ?_
    show Steps p.tables e below (T47.setTop (mkF m 49 #[rv a0_, iv (2 : Int32), iv (4 : Int32), iv (2 : Int32)] [(.int (2 : Int32))])) _
    refine XS.iloadN X47.here hx rfl (hb hby d1_49) rfl ?_
    show Steps p.tables e below (T47.setTop (mkF m 50 #[rv a0_, iv (2 : Int32), iv (4 : Int32), iv (2 : Int32)] [(.int (4 : Int32)), (.int (2 : Int32))])) _
    refine XS.icmpNo X47.here hx rfl (hb hby d1_50) rfl (tlt (by decide : (2 : Int32) < (4 : Int32))).2.1 ?_
    show Steps p.tables e below (T47.setTop (mkF m 53 #[rv a0_, iv (2 : Int32), iv (4 : Int32), iv (2 : Int32)] [])) _
    refine XS.aloadN X47.here hx rfl (hb hby d1_53) rfl rfl ?_
    show Steps p.tables e below (T47.setTop (mkF m 54 #[rv a0_, iv (2 : Int32), iv (4 : Int32), iv (2 : Int32)] [(.ref a0_)])) _
    refine st53 _ ?_
    show Steps p.tables e below (T53.setTop (mkF m 57 #[rv a0_, iv (2 : Int32), iv (4 : Int32), iv (2 : Int32)] [(.ref b4)])) _
    refine XS.iloadN X53.here hx rfl (hb hby d1_57) rfl ?_
    show Steps p.tables e below (T53.setTop (mkF m 58 #[rv a0_, iv (2 : Int32), iv (4 : Int32), iv (2 : Int32)] [(.int (2 : Int32)), (.ref b4)])) _
    refine XS.iconst X53.here hx rfl (hb hby d1_58) ?_
    show Steps p.tables e below (T53.setTop (mkF m 59 #[rv a0_, iv (2 : Int32), iv (4 : Int32), iv (2 : Int32)] [(.int (2 : Int32)), (.int (2 : Int32)), (.ref b4)])) _
    refine XS.imul X53.here hx rfl (hb hby d1_59) rfl ?_
    show Steps p.tables e below (T53.setTop (mkF m 60 #[rv a0_, iv (2 : Int32), iv (4 : Int32), iv (2 : Int32)] [(.int (4 : Int32)), (.ref b4)])) _
    refine X53.ldc2Long hx hown (mvT hZ (hw _ (List.mem_of_getElem? (i := 32) rfl))) (g := (mkF m 60 #[rv a0_, iv (2 : Int32), iv (4 : Int32), iv (2 : Int32)] [(.int (4 : Int32)), (.ref b4)])) rfl (hb hby d1_60) _ ?_
    show Steps p.tables e below (T53.setTop (mkF m 63 #[rv a0_, iv (2 : Int32), iv (4 : Int32), iv (2 : Int32)] [(.long (-1 : Int64)), (.int (4 : Int32)), (.ref b4)])) _
    refine st55 _ ?_
    show Steps p.tables e below (T55.setTop (mkF m 64 #[rv a0_, iv (2 : Int32), iv (4 : Int32), iv (2 : Int32)] [])) _
    refine XS.iinc X55.here hx rfl (hb hby d1_64) rfl (l' := #[rv a0_, iv (2 : Int32), iv (4 : Int32), iv (3 : Int32)]) rfl ?_
    show Steps p.tables e below (T55.setTop (mkF m 67 #[rv a0_, iv (2 : Int32), iv (4 : Int32), iv (3 : Int32)] [])) _
    refine XS.goto X55.here hx rfl (pc0 := 67) (pc' := 48) rfl (hb hby d1_67) (by decide) (by decide) ?_
    show Steps p.tables e below (T55.setTop (mkF m 48 #[rv a0_, iv (2 : Int32), iv (4 : Int32), iv (3 : Int32)] [])) _
    refine XS.iloadN X55.here hx rfl (hb hby d1_48) rfl ?_
    show Steps p.tables e below (T55.setTop (mkF m 49 #[rv a0_, iv (2 : Int32), iv (4 : Int32), iv (3 : Int32)] [(.int (3 : Int32))])) _
    refine XS.iloadN X55.here hx rfl (hb hby d1_49) rfl ?_
    show Steps p.tables e below (T55.setTop (mkF m 50 #[rv a0_, iv (2 : Int32), iv (4 : Int32), iv (3 : Int32)] [(.int (4 : Int32)), (.int (3 : Int32))])) _
    refine XS.icmpNo X55.here hx rfl (hb hby d1_50) rfl (tlt (by decide : (3 : Int32) < (4 : Int32))).2.1 ?_
    show Steps p.tables e below (T55.setTop (mkF m 53 #[rv a0_, iv (2 : Int32), iv (4 : Int32), iv (3 : Int32)] [])) _
    refine XS.aloadN X55.here hx rfl (hb hby d1_53) rfl rfl ?_
    show Steps p.tables e below (T55.setTop (mkF m 54 #[rv a0_, iv (2 : Int32), iv (4 : Int32), iv (3 : Int32)] [(.ref a0_)])) _
    refine st61 _ ?_
    show Steps p.tables e below (T61.setTop (mkF m 57 #[rv a0_, iv (2 : Int32), iv (4 : Int32), iv (3 : Int32)] [(.ref b4)])) _
    refine XS.iloadN X61.here hx rfl (hb hby d1_57) rfl ?_
    show Steps p.tables e below (T61.setTop (mkF m 58 #[rv a0_, iv (2 : Int32), iv (4 : Int32), iv (3 : Int32)] [(.int (3 : Int32)), (.ref b4)])) _
    refine XS.iconst X61.here hx rfl (hb hby d1_58) ?_
    show Steps p.tables e below (T61.setTop (mkF m 59 #[rv a0_, iv (2 : Int32), iv (4 : Int32), iv (3 : Int32)] [(.int (2 : Int32)), (.int (3 : Int32)), (.ref b4)])) _
    refine XS.imul X61.here hx rfl (hb hby d1_59) rfl ?_
    show Steps p.tables e below (T61.setTop (mkF m 60 #[rv a0_, iv (2 : Int32), iv (4 : Int32), iv (3 : Int32)] [(.int (6 : Int32)), (.ref b4)])) _
    refine X61.ldc2Long hx hown (mvT hZ (hw _ (List.mem_of_getElem? (i := 32) rfl))) (g := (mkF m 60 #[rv a0_, iv (2 : Int32), iv (4 : Int32), iv (3 : Int32)] [(.int (6 : Int32)), (.ref b4)])) rfl (hb hby d1_60) _ ?_
    show Steps p.tables e below (T61.setTop (mkF m 63 #[rv a0_, iv (2 : Int32), iv (4 : Int32), iv (3 : Int32)] [(.long (-1 : Int64)), (.int (6 : Int32)), (.ref b4)])) _
    refine st63 _ ?_
    show Steps p.tables e below (T63.setTop (mkF m 64 #[rv a0_, iv (2 : Int32), iv (4 : Int32), iv (3 : Int32)] [])) _
    refine XS.iinc X63.here hx rfl (hb hby d1_64) rfl (l' := #[rv a0_, iv (2 : Int32), iv (4 : Int32), iv (4 : Int32)]) rfl ?_
    show Steps p.tables e below (T63.setTop (mkF m 67 #[rv a0_, iv (2 : Int32), iv (4 : Int32), iv (4 : Int32)] [])) _
    refine XS.goto X63.here hx rfl (pc0 := 67) (pc' := 48) rfl (hb hby d1_67) (by decide) (by decide) ?_
    show Steps p.tables e below (T63.setTop (mkF m 48 #[rv a0_, iv (2 : Int32), iv (4 : Int32), iv (4 : Int32)] [])) _
    refine XS.iloadN X63.here hx rfl (hb hby d1_48) rfl ?_
    show Steps p.tables e below (T63.setTop (mkF m 49 #[rv a0_, iv (2 : Int32), iv (4 : Int32), iv (4 : Int32)] [(.int (4 : Int32))])) _
    refine XS.iloadN X63.here hx rfl (hb hby d1_49) rfl ?_
    show Steps p.tables e below (T63.setTop (mkF m 50 #[rv a0_, iv (2 : Int32), iv (4 : Int32), iv (4 : Int32)] [(.int (4 : Int32)), (.int (4 : Int32))])) _
    refine XS.icmpYes X63.here hx rfl (pc0 := 50) (pc' := 70) rfl (hb hby d1_50) rfl (flt (by decide : ¬ ((4 : Int32) < (4 : Int32)))).2.1 (by decide) (by decide) ?_
    show Steps p.tables e below (T63.setTop (mkF m 70 #[rv a0_, iv (2 : Int32), iv (4 : Int32), iv (4 : Int32)] [])) _
    exact X63.returnOut hx Bd.returns (hb hby d1_70) hr
  · show QPT Z a0_ h0 n0 _ T63.heap _
    rw [e63]
    exact ⟨rfl, N63, Z63, ⟨f64, b4, _, ge_b4, ne_a0__b4, f65, f67, f66, V63⟩⟩
def own_tul (u0 : Int32) : Int64 := ((u0.toInt64) &&& (4294967295 : Int64))
theorem d9_0 : decode jdk_33_method_42_code 0 = .ok (.iload_n 0, 1) := by decide +kernel
theorem d9_1 : decode jdk_33_method_42_code 1 = .ok (.i2l, 1) := by decide +kernel
theorem d9_2 : decode jdk_33_method_42_code 2 = .ok (.ldc2_w 262, 3) := by decide +kernel
theorem d9_5 : decode jdk_33_method_42_code 5 = .ok (.land, 1) := by decide +kernel
theorem d9_6 : decode jdk_33_method_42_code 6 = .ok (.lreturn, 1) := by decide +kernel
def QTul (Z : State) (u0 : Int32)  (h0 : Heap) (n0 : Nat) (v : Option Value) (h : Heap) (L : List Loc) : Prop := v = some (.long (own_tul u0)) ∧ Fr n0 L ∧ h = h0
theorem ef_rmTul (m : MethodId) (u0 : Int32) : entryFrame m #[(.int u0)] 1 = mkF m 0 #[iv u0] [] := by first | (simp [entryFrame, mkF, argsToLocals, Value.category]; done) | rfl
set_option maxRecDepth 65536 in
set_option maxHeartbeats 40000000 in
theorem rmTul (l : Launch) (Z : State) (a0 : Array Value) (hw : ∀ d ∈ tables_1, d.before a0 Z = true) (ws : List Jvm.Cond) (u0 : Int32)  (h0 : Heap) (n0 : Nat) (Z0 : n0 ≤ h0.size) :
    MetFree l (⟨"java/lang/Integer", "toUnsignedLong", "(I)J"⟩ : MethodName) (head1 (Jvm.Cond.code (⟨"java/lang/Integer", "toUnsignedLong", "(I)J"⟩ : MethodName) jdk_33_method_42_code 1 (some .long) :: ws) ({ frames := 0, cells := 0, slots := 0, locals := 0 } : Room)) (fun a U => a = #[(.int u0)] ∧ Z.Warmed39 U.vm ∧ U.heap = h0) (fun _ _ _ _ _ => True) (fun _ U o U' => ∃ v L, o = .returned v ∧ QTul Z u0 h0 n0 v U'.heap L ∧ FrameEnd U o U' L ({ frames := 0, cells := 0, slots := 0, locals := 0 } : Room).cells ({ frames := 0, cells := 0, slots := 0, locals := 0 } : Room).slots) := by
  refine MetFree.of_bodySF (plainFor_of_name pn_0) hisR ?_
  intro p e s m args below meth c s₁ Bd hml0 hP hK
  obtain ⟨rfl, hZ, hh⟩ := hP
  have hx := Bd.exec
  have hby := Bd.bytes
  have hml : c.maxLocals = 1 := hml0
  have hown : s.vm.findClass "java/lang/Integer" = some m.cls := findClass_of_methodNamed Bd.named
  have hnm := (name_of_methodNamed Bd.named Bd.method).1
  have X0 : Stand p l e ({ frames := 0, cells := 0, slots := 0, locals := 0 } : Room) s m #[(.int u0)] below meth c s₁ [] 0 0 := Stand.of_body Bd
  have e0 : s₁.heap = h0 := by rw [← hh, Bd.state]; rfl
  have N0 := Fr.nil n0
  have S0 : ∀ t, Steps p.tables e below (s₁.setTop (mkF m 0 #[iv u0] [])) t → Steps p.tables e below (s₁.setTop (entryFrame m #[(.int u0)] 1)) t := fun t k => castTop (ef_rmTul m u0) k
  obtain ⟨fs, hr, hrun, hended, hW, hsame⟩ := X0.leave (v := some (.long ((u0.toInt64) &&& (4294967295 : Int64)))) (fun h => by rw [Bd.returns] at h; cases h)
  refine ⟨_, _, S0 _ ?_, hrun, hended, _, _, rfl, ?_, ⟨_, rfl⟩, hW, hsame.mono (by decide) (by decide)⟩
  · skip
    show Steps p.tables e below (s₁.setTop (mkF m 0 #[iv u0] [])) _
    refine XS.iloadN X0.here hx rfl (hb hby d9_0) rfl ?_
    show Steps p.tables e below (s₁.setTop (mkF m 1 #[iv u0] [(.int u0)])) _
    refine XS.i2l X0.here hx rfl (hb hby d9_1) rfl ?_
    show Steps p.tables e below (s₁.setTop (mkF m 2 #[iv u0] [(.long (u0.toInt64))])) _
    refine X0.ldc2Long hx hown (mvT hZ (hw _ (List.mem_of_getElem? (i := 45) rfl))) (g := (mkF m 2 #[iv u0] [(.long (u0.toInt64))])) rfl (hb hby d9_2) _ ?_
    show Steps p.tables e below (s₁.setTop (mkF m 5 #[iv u0] [(.long (4294967295 : Int64)), (.long (u0.toInt64))])) _
    refine XS.land X0.here hx rfl (hb hby d9_5) rfl ?_
    show Steps p.tables e below (s₁.setTop (mkF m 6 #[iv u0] [(.long ((u0.toInt64) &&& (4294967295 : Int64)))])) _
    exact retOut X0 hx (t := .long) (i := .lreturn) Bd.returns rfl (Or.inr (Or.inl ⟨rfl, rfl, _, rfl⟩)) (hb hby d9_6) hr
  · show QTul Z u0 h0 n0 _ s₁.heap _
    rw [e0]
    exact ⟨rfl, N0, rfl⟩
def own_pack (u0 : Int32) (u1 : Int32) : Int64 := (((u0.toInt64) <<< ((32 : Int32) &&& 0x3f).toInt64) ||| (own_tul u1))
theorem d8_0 : decode prog_28_method_7_code 0 = .ok (.iload_n 0, 1) := by decide +kernel
theorem d8_1 : decode prog_28_method_7_code 1 = .ok (.i2l, 1) := by decide +kernel
theorem d8_2 : decode prog_28_method_7_code 2 = .ok (.bipush 32, 2) := by decide +kernel
theorem d8_4 : decode prog_28_method_7_code 4 = .ok (.lshl, 1) := by decide +kernel
theorem d8_5 : decode prog_28_method_7_code 5 = .ok (.iload_n 1, 1) := by decide +kernel
theorem d8_6 : decode prog_28_method_7_code 6 = .ok (.invokestatic 49, 3) := by decide +kernel
theorem d8_9 : decode prog_28_method_7_code 9 = .ok (.lor, 1) := by decide +kernel
theorem d8_10 : decode prog_28_method_7_code 10 = .ok (.lreturn, 1) := by decide +kernel
def QPack (Z : State) (u0 : Int32) (u1 : Int32)  (h0 : Heap) (n0 : Nat) (v : Option Value) (h : Heap) (L : List Loc) : Prop := v = some (.long (own_pack u0 u1)) ∧ Fr n0 L ∧ h = h0
theorem ef_rmPack (m : MethodId) (u0 : Int32) (u1 : Int32) : entryFrame m #[(.int u0), (.int u1)] 2 = mkF m 0 #[iv u0, iv u1] [] := by first | (simp [entryFrame, mkF, argsToLocals, Value.category]; done) | rfl
set_option maxRecDepth 65536 in
set_option maxHeartbeats 40000000 in
theorem rmPack (l : Launch) (Z : State) (a0 : Array Value) (hw : ∀ d ∈ tables_1, d.before a0 Z = true) (ws : List Jvm.Cond) (u0 : Int32) (u1 : Int32)  (h0 : Heap) (n0 : Nat) (Z0 : n0 ≤ h0.size) :
    MetFree l (⟨"com/example/tranquility/tranquility/PairTable", "pack", "(II)J"⟩ : MethodName) (head1 (Jvm.Cond.code (⟨"com/example/tranquility/tranquility/PairTable", "pack", "(II)J"⟩ : MethodName) prog_28_method_7_code 2 (some .long) :: ws) ({ frames := 1, cells := 0, slots := 0, locals := 14 } : Room)) (fun a U => a = #[(.int u0), (.int u1)] ∧ Z.Warmed39 U.vm ∧ U.heap = h0) (fun _ _ _ _ _ => True) (fun _ U o U' => ∃ v L, o = .returned v ∧ QPack Z u0 u1 h0 n0 v U'.heap L ∧ FrameEnd U o U' L ({ frames := 1, cells := 0, slots := 0, locals := 14 } : Room).cells ({ frames := 1, cells := 0, slots := 0, locals := 14 } : Room).slots) := by
  refine MetFree.of_bodySF (plainFor_of_name pn_1) hisR ?_
  intro p e s m args below meth c s₁ Bd hml0 hP hK
  obtain ⟨rfl, hZ, hh⟩ := hP
  have hx := Bd.exec
  have hby := Bd.bytes
  have hml : c.maxLocals = 2 := hml0
  have hown : s.vm.findClass "com/example/tranquility/tranquility/PairTable" = some m.cls := findClass_of_methodNamed Bd.named
  have hnm := (name_of_methodNamed Bd.named Bd.method).1
  have X0 : Stand p l e ({ frames := 1, cells := 0, slots := 0, locals := 14 } : Room) s m #[(.int u0), (.int u1)] below meth c s₁ [] 0 0 := Stand.of_body Bd
  have e0 : s₁.heap = h0 := by rw [← hh, Bd.state]; rfl
  have N0 := Fr.nil n0
  have S0 : ∀ t, Steps p.tables e below (s₁.setTop (mkF m 0 #[iv u0, iv u1] [])) t → Steps p.tables e below (s₁.setTop (entryFrame m #[(.int u0), (.int u1)] 2)) t := fun t k => castTop (ef_rmPack m u0 u1) k
  obtain ⟨_, _, ⟨T1, L1, k1, n1⟩, -, X1, ⟨Lc1, hQ1, l1, y1, z1⟩, st1⟩ := Jvm.LawKit.callS X0 hx (y := (⟨"java/lang/Integer", "toUnsignedLong", "(I)J"⟩ : MethodName)) hown (mvT hZ (hw _ (List.mem_of_getElem? (i := 42) rfl))) (mvT hZ (hw _ (List.mem_of_getElem? (i := 43) rfl))) (mvT hZ (hw _ (List.mem_of_getElem? (i := 15) rfl))) (mvT hZ (hw _ (List.mem_of_getElem? (i := 44) rfl))) (by decide) (backOf (W := 2) (rmTul l Z a0 hw [] u1 h0 n0 Z0) hZ (hw _ (List.mem_of_getElem? (i := 44) rfl)) (hw _ (List.mem_of_getElem? (i := 15) rfl)) (by decide) (by decide)) (g := (mkF m 6 #[iv u0, iv u1] [(.int u1), (.long ((u0.toInt64) <<< ((32 : Int32) &&& 0x3f).toInt64))])) rfl (by rw [hml]; rfl) (argsL := [(.int u1)]) (rest := [(.long ((u0.toInt64) <<< ((32 : Int32) &&& 0x3f).toInt64))]) (lenOf pd_0 rfl) rfl (by show 2 * 0 + _ ≤ _; exact Nat.le_of_eq rfl) (hb hby d8_6) (fun _ _ => ⟨rfl, e0, (by decide : 0 + 0 ≤ _), (by decide : 0 + 0 ≤ _)⟩)
  dsimp only [Pt.U, Pt.locs, Pt.cells, Pt.slots] at X1 l1 y1 z1 st1 hQ1
  subst l1 y1 z1
  obtain ⟨rfl, Nq1, eq1⟩ := hQ1
  have N1 := Fr.app N0 Nq1
  obtain ⟨fs, hr, hrun, hended, hW, hsame⟩ := X1.leave (v := some (.long (((u0.toInt64) <<< ((32 : Int32) &&& 0x3f).toInt64) ||| (own_tul u1)))) (fun h => by rw [Bd.returns] at h; cases h)
  refine ⟨_, _, S0 _ ?_, hrun, hended, _, _, rfl, ?_, ⟨_, rfl⟩, hW, hsame.mono (by decide) (by decide)⟩
  · skip
    show Steps p.tables e below (s₁.setTop (mkF m 0 #[iv u0, iv u1] [])) _
    refine XS.iloadN X0.here hx rfl (hb hby d8_0) rfl ?_
    show Steps p.tables e below (s₁.setTop (mkF m 1 #[iv u0, iv u1] [(.int u0)])) _
    refine XS.i2l X0.here hx rfl (hb hby d8_1) rfl ?_
    show Steps p.tables e below (s₁.setTop (mkF m 2 #[iv u0, iv u1] [(.long (u0.toInt64))])) _
    refine XS.bipush X0.here hx rfl (hb hby d8_2) ?_
    show Steps p.tables e below (s₁.setTop (mkF m 4 #[iv u0, iv u1] [(.int (32 : Int32)), (.long (u0.toInt64))])) _
    refine XS.lshl X0.here hx rfl (hb hby d8_4) rfl ?_
    show Steps p.tables e below (s₁.setTop (mkF m 5 #[iv u0, iv u1] [(.long ((u0.toInt64) <<< ((32 : Int32) &&& 0x3f).toInt64))])) _
    refine XS.iloadN X0.here hx rfl (hb hby d8_5) rfl ?_
    show Steps p.tables e below (s₁.setTop (mkF m 6 #[iv u0, iv u1] [(.int u1), (.long ((u0.toInt64) <<< ((32 : Int32) &&& 0x3f).toInt64))])) _
    refine st1 _ ?_
    show Steps p.tables e below (T1.setTop (mkF m 9 #[iv u0, iv u1] [(.long (own_tul u1)), (.long ((u0.toInt64) <<< ((32 : Int32) &&& 0x3f).toInt64))])) _
    refine XS.lor X1.here hx rfl (hb hby d8_9) rfl ?_
    show Steps p.tables e below (T1.setTop (mkF m 10 #[iv u0, iv u1] [(.long (((u0.toInt64) <<< ((32 : Int32) &&& 0x3f).toInt64) ||| (own_tul u1)))])) _
    exact retOut X1 hx (t := .long) (i := .lreturn) Bd.returns rfl (Or.inr (Or.inl ⟨rfl, rfl, _, rfl⟩)) (hb hby d8_10) hr
  · show QPack Z u0 u1 h0 n0 _ T1.heap _
    rw [eq1]
    exact ⟨rfl, N1, rfl⟩
def own_st (u1 : Int64) : Int32 := ((((u1 * (-7046029254386353131 : Int64)).toUInt64 >>> ((62 : Int32) &&& 0x3f).toInt64.toUInt64).toInt64).toInt32)
def QStart (Z : State) (a0_ : Addr) (u1 : Int64)  (h0 : Heap) (n0 : Nat) (v : Option Value) (h : Heap) (L : List Loc) : Prop := v = some (.int (own_st u1)) ∧ Fr n0 L ∧ h = h0
theorem ef_rmStart (m : MethodId) (a0_ : Addr) (u1 : Int64) : entryFrame m #[(.ref a0_), (.long u1)] 3 = mkF m 0 #[rv a0_, .val (.long u1), .second] [] := by first | (simp [entryFrame, mkF, argsToLocals, Value.category]; done) | rfl
set_option maxRecDepth 65536 in
set_option maxHeartbeats 40000000 in
theorem rmStart (l : Launch) (Z : State) (a0 : Array Value) (hw : ∀ d ∈ tables_1, d.before a0 Z = true) (ws : List Jvm.Cond) (a0_ : Addr) (u1 : Int64)  (h0 : Heap) (n0 : Nat) (Z0 : n0 ≤ h0.size) (F3 : Fld Z h0 a0_ "com/example/tranquility/tranquility/PairTable" "shift" "I" (.int (62 : Int32))) :
    MetFree l (⟨"com/example/tranquility/tranquility/PairTable", "start", "(J)I"⟩ : MethodName) (head1 (Jvm.Cond.code (⟨"com/example/tranquility/tranquility/PairTable", "start", "(J)I"⟩ : MethodName) prog_28_method_8_code 3 (some .int) :: ws) ({ frames := 0, cells := 0, slots := 0, locals := 0 } : Room)) (fun a U => a = #[(.ref a0_), (.long u1)] ∧ Z.Warmed39 U.vm ∧ U.heap = h0) (fun _ _ _ _ _ => True) (fun _ U o U' => ∃ v L, o = .returned v ∧ QStart Z a0_ u1 h0 n0 v U'.heap L ∧ FrameEnd U o U' L ({ frames := 0, cells := 0, slots := 0, locals := 0 } : Room).cells ({ frames := 0, cells := 0, slots := 0, locals := 0 } : Room).slots) := by
  refine MetFree.of_bodySF (plainFor_of_name pn_1) hisR ?_
  intro p e s m args below meth c s₁ Bd hml0 hP hK
  obtain ⟨rfl, hZ, hh⟩ := hP
  have hx := Bd.exec
  have hby := Bd.bytes
  have hml : c.maxLocals = 3 := hml0
  have hown : s.vm.findClass "com/example/tranquility/tranquility/PairTable" = some m.cls := findClass_of_methodNamed Bd.named
  have hnm := (name_of_methodNamed Bd.named Bd.method).1
  have X0 : Stand p l e ({ frames := 0, cells := 0, slots := 0, locals := 0 } : Room) s m #[(.ref a0_), (.long u1)] below meth c s₁ [] 0 0 := Stand.of_body Bd
  have e0 : s₁.heap = h0 := by rw [← hh, Bd.state]; rfl
  have N0 := Fr.nil n0
  have S0 : ∀ t, Steps p.tables e below (s₁.setTop (mkF m 0 #[rv a0_, .val (.long u1), .second] [])) t → Steps p.tables e below (s₁.setTop (entryFrame m #[(.ref a0_), (.long u1)] 3)) t := fun t k => castTop (ef_rmStart m a0_ u1) k
  obtain ⟨T1, X1, e1, st1⟩ := getF X0 hx hZ hown (host := "") (Or.inl (hw _ (List.mem_of_getElem? (i := 30) rfl))) Via.refl e0 F3 (g := (mkF m 6 #[rv a0_, .val (.long u1), .second] [(.ref a0_), (.long (u1 * (-7046029254386353131 : Int64)))])) rfl rfl (hb hby d10_6)
  obtain ⟨fs, hr, hrun, hended, hW, hsame⟩ := X1.leave (v := some (.int ((((u1 * (-7046029254386353131 : Int64)).toUInt64 >>> ((62 : Int32) &&& 0x3f).toInt64.toUInt64).toInt64).toInt32))) (fun h => by rw [Bd.returns] at h; cases h)
  refine ⟨_, _, S0 _ ?_, hrun, hended, _, _, rfl, ?_, ⟨_, rfl⟩, hW, hsame.mono (by decide) (by decide)⟩
  · skip
    show Steps p.tables e below (s₁.setTop (mkF m 0 #[rv a0_, .val (.long u1), .second] [])) _
    refine XS.lloadN X0.here hx rfl (hb hby d10_0) rfl ?_
    show Steps p.tables e below (s₁.setTop (mkF m 1 #[rv a0_, .val (.long u1), .second] [(.long u1)])) _
    refine X0.ldc2Long hx hown (mvT hZ (hw _ (List.mem_of_getElem? (i := 50) rfl))) (g := (mkF m 1 #[rv a0_, .val (.long u1), .second] [(.long u1)])) rfl (hb hby d10_1) _ ?_
    show Steps p.tables e below (s₁.setTop (mkF m 4 #[rv a0_, .val (.long u1), .second] [(.long (-7046029254386353131 : Int64)), (.long u1)])) _
    refine XS.lmul X0.here hx rfl (hb hby d10_4) rfl ?_
    show Steps p.tables e below (s₁.setTop (mkF m 5 #[rv a0_, .val (.long u1), .second] [(.long (u1 * (-7046029254386353131 : Int64)))])) _
    refine XS.aloadN X0.here hx rfl (hb hby d10_5) rfl rfl ?_
    show Steps p.tables e below (s₁.setTop (mkF m 6 #[rv a0_, .val (.long u1), .second] [(.ref a0_), (.long (u1 * (-7046029254386353131 : Int64)))])) _
    refine st1 _ ?_
    show Steps p.tables e below (T1.setTop (mkF m 9 #[rv a0_, .val (.long u1), .second] [(.int (62 : Int32)), (.long (u1 * (-7046029254386353131 : Int64)))])) _
    refine XS.lushr X1.here hx rfl (hb hby d10_9) rfl ?_
    show Steps p.tables e below (T1.setTop (mkF m 10 #[rv a0_, .val (.long u1), .second] [(.long (((u1 * (-7046029254386353131 : Int64)).toUInt64 >>> ((62 : Int32) &&& 0x3f).toInt64.toUInt64).toInt64))])) _
    refine XS.l2i X1.here hx rfl (hb hby d10_10) rfl ?_
    show Steps p.tables e below (T1.setTop (mkF m 11 #[rv a0_, .val (.long u1), .second] [(.int ((((u1 * (-7046029254386353131 : Int64)).toUInt64 >>> ((62 : Int32) &&& 0x3f).toInt64.toUInt64).toInt64).toInt32))])) _
    exact retI X1 hx Bd.returns (hb hby d10_11) hr
  · show QStart Z a0_ u1 h0 n0 _ T1.heap _
    rw [e1]
    exact ⟨rfl, N0, rfl⟩
def own_get (wd : Int64) (u2 : Int32) : Int32 := (((wd.toUInt64 >>> ((u2 * (32 : Int32)) &&& 0x3f).toInt64.toUInt64).toInt64).toInt32)
def QGet (Z : State) (a0_ : Addr) (u1 : Int32) (u2 : Int32) (wd : Int64) (h0 : Heap) (n0 : Nat) (v : Option Value) (h : Heap) (L : List Loc) : Prop := v = some (.int (own_get wd u2)) ∧ Fr n0 L ∧ h = h0
theorem ef_rmGet (m : MethodId) (a0_ : Addr) (u1 : Int32) (u2 : Int32) : entryFrame m #[(.ref a0_), (.int u1), (.int u2)] 3 = mkF m 0 #[rv a0_, iv u1, iv u2] [] := by first | (simp [entryFrame, mkF, argsToLocals, Value.category]; done) | rfl
set_option maxRecDepth 65536 in
set_option maxHeartbeats 40000000 in
theorem rmGet (l : Launch) (Z : State) (a0 : Array Value) (hw : ∀ d ∈ tables_1, d.before a0 Z = true) (ws : List Jvm.Cond) (a0_ : Addr) (u1 : Int32) (u2 : Int32) (wd : Int64) (h0 : Heap) (n0 : Nat) (Z0 : n0 ≤ h0.size) (P0 : own_PT Z h0 n0 a0_ u1 wd) (hb_ : 0 ≤ u1.toInt ∧ u1.toInt ≤ 3) :
    MetFree l (⟨"com/example/tranquility/tranquility/PairTable", "get", "(II)I"⟩ : MethodName) (head1 (Jvm.Cond.code (⟨"com/example/tranquility/tranquility/PairTable", "get", "(II)I"⟩ : MethodName) prog_28_method_5_code 3 (some .int) :: ws) ({ frames := 0, cells := 0, slots := 0, locals := 0 } : Room)) (fun a U => a = #[(.ref a0_), (.int u1), (.int u2)] ∧ Z.Warmed39 U.vm ∧ U.heap = h0) (fun _ _ _ _ _ => True) (fun _ U o U' => ∃ v L, o = .returned v ∧ QGet Z a0_ u1 u2 wd h0 n0 v U'.heap L ∧ FrameEnd U o U' L ({ frames := 0, cells := 0, slots := 0, locals := 0 } : Room).cells ({ frames := 0, cells := 0, slots := 0, locals := 0 } : Room).slots) := by
  refine MetFree.of_bodySF (plainFor_of_name pn_1) hisR ?_
  intro p e s m args below meth c s₁ Bd hml0 hP hK
  obtain ⟨rfl, hZ, hh⟩ := hP
  have hx := Bd.exec
  have hby := Bd.bytes
  have hml : c.maxLocals = 3 := hml0
  have hown : s.vm.findClass "com/example/tranquility/tranquility/PairTable" = some m.cls := findClass_of_methodNamed Bd.named
  have hnm := (name_of_methodNamed Bd.named Bd.method).1
  have X0 : Stand p l e ({ frames := 0, cells := 0, slots := 0, locals := 0 } : Room) s m #[(.ref a0_), (.int u1), (.int u2)] below meth c s₁ [] 0 0 := Stand.of_body Bd
  have e0 : s₁.heap = h0 := by rw [← hh, Bd.state]; rfl
  have N0 := Fr.nil n0
  have S0 : ∀ t, Steps p.tables e below (s₁.setTop (mkF m 0 #[rv a0_, iv u1, iv u2] [])) t → Steps p.tables e below (s₁.setTop (entryFrame m #[(.ref a0_), (.int u1), (.int u2)] 3)) t := fun t k => castTop (ef_rmGet m a0_ u1 u2) k
  obtain ⟨E0_, ar, kk, xs, gar, nea, Fs, V0, hlen, hWd⟩ := id P0
  obtain ⟨T1, X1, e1, st1⟩ := getF X0 hx hZ hown (host := "") (Or.inl (hw _ (List.mem_of_getElem? (i := 23) rfl))) Via.refl e0 Fs (g := (mkF m 1 #[rv a0_, iv u1, iv u2] [(.ref a0_)])) rfl rfl (hb hby d11_1)
  obtain ⟨cl2, Ar2, qa2, Sa2, Na2, Ha2, Ga2⟩ := id V0
  have hin2 : ¬ (((u1 * (2 : Int32)) + (1 : Int32)) < 0 ∨ cl2.slots.size ≤ (((u1 * (2 : Int32)) + (1 : Int32))).toNatClampNeg) := inb_of Sa2 (own_ix1 hb_)
  obtain ⟨fs, hr, hrun, hended, hW, hsame⟩ := X1.leave (v := some (.int (((wd.toUInt64 >>> ((u2 * (32 : Int32)) &&& 0x3f).toInt64.toUInt64).toInt64).toInt32))) (fun h => by rw [Bd.returns] at h; cases h)
  refine ⟨_, _, S0 _ ?_, hrun, hended, _, _, rfl, ?_, ⟨_, rfl⟩, hW, hsame.mono (by decide) (by decide)⟩
  · skip
    show Steps p.tables e below (s₁.setTop (mkF m 0 #[rv a0_, iv u1, iv u2] [])) _
    refine XS.aloadN X0.here hx rfl (hb hby d11_0) rfl rfl ?_
    show Steps p.tables e below (s₁.setTop (mkF m 1 #[rv a0_, iv u1, iv u2] [(.ref a0_)])) _
    refine st1 _ ?_
    show Steps p.tables e below (T1.setTop (mkF m 4 #[rv a0_, iv u1, iv u2] [(.ref ar)])) _
    refine XS.iloadN X1.here hx rfl (hb hby d11_4) rfl ?_
    show Steps p.tables e below (T1.setTop (mkF m 5 #[rv a0_, iv u1, iv u2] [(.int u1), (.ref ar)])) _
    refine XS.iconst X1.here hx rfl (hb hby d11_5) ?_
    show Steps p.tables e below (T1.setTop (mkF m 6 #[rv a0_, iv u1, iv u2] [(.int (2 : Int32)), (.int u1), (.ref ar)])) _
    refine XS.imul X1.here hx rfl (hb hby d11_6) rfl ?_
    show Steps p.tables e below (T1.setTop (mkF m 7 #[rv a0_, iv u1, iv u2] [(.int (u1 * (2 : Int32))), (.ref ar)])) _
    refine XS.iconst X1.here hx rfl (hb hby d11_7) ?_
    show Steps p.tables e below (T1.setTop (mkF m 8 #[rv a0_, iv u1, iv u2] [(.int (1 : Int32)), (.int (u1 * (2 : Int32))), (.ref ar)])) _
    refine XS.iadd X1.here hx rfl (hb hby d11_8) rfl ?_
    show Steps p.tables e below (T1.setTop (mkF m 9 #[rv a0_, iv u1, iv u2] [(.int ((u1 * (2 : Int32)) + (1 : Int32))), (.ref ar)])) _
    refine X1.laload hx (j := ((u1 * (2 : Int32)) + (1 : Int32))) (v := (.long wd)) (by rw [e1]; exact Ar2.1) (State.isArrayOf_alike hZ.alike Ar2.2.1) Ar2.2.2 hin2 (Has.at Ha2 hin2 ((own_getlong xs _).trans (congrArg Value.long hWd))) (g := (mkF m 9 #[rv a0_, iv u1, iv u2] [(.int ((u1 * (2 : Int32)) + (1 : Int32))), (.ref ar)])) rfl rfl (hb hby d11_9) _ ?_
    show Steps p.tables e below (T1.setTop (mkF m 10 #[rv a0_, iv u1, iv u2] [(.long wd)])) _
    refine XS.iloadN X1.here hx rfl (hb hby d11_10) rfl ?_
    show Steps p.tables e below (T1.setTop (mkF m 11 #[rv a0_, iv u1, iv u2] [(.int u2), (.long wd)])) _
    refine XS.bipush X1.here hx rfl (hb hby d11_11) ?_
    show Steps p.tables e below (T1.setTop (mkF m 13 #[rv a0_, iv u1, iv u2] [(.int (32 : Int32)), (.int u2), (.long wd)])) _
    refine XS.imul X1.here hx rfl (hb hby d11_13) rfl ?_
    show Steps p.tables e below (T1.setTop (mkF m 14 #[rv a0_, iv u1, iv u2] [(.int (u2 * (32 : Int32))), (.long wd)])) _
    refine XS.lushr X1.here hx rfl (hb hby d11_14) rfl ?_
    show Steps p.tables e below (T1.setTop (mkF m 15 #[rv a0_, iv u1, iv u2] [(.long ((wd.toUInt64 >>> ((u2 * (32 : Int32)) &&& 0x3f).toInt64.toUInt64).toInt64))])) _
    refine XS.l2i X1.here hx rfl (hb hby d11_15) rfl ?_
    show Steps p.tables e below (T1.setTop (mkF m 16 #[rv a0_, iv u1, iv u2] [(.int (((wd.toUInt64 >>> ((u2 * (32 : Int32)) &&& 0x3f).toInt64.toUInt64).toInt64).toInt32))])) _
    exact retI X1 hx Bd.returns (hb hby d11_16) hr
  · show QGet Z a0_ u1 u2 wd h0 n0 _ T1.heap _
    rw [e1]
    exact ⟨rfl, N0, rfl⟩
def own_set (wd : Int64) (u2 u3 : Int32) : Int64 := ((wd &&& (((4294967295 : Int64) <<< ((u2 * (32 : Int32)) &&& 0x3f).toInt64) ^^^ (-1 : Int64))) ||| ((own_tul u3) <<< ((u2 * (32 : Int32)) &&& 0x3f).toInt64))
def QSet (Z : State) (a0_ : Addr) (u1 : Int32) (u2 : Int32) (u3 : Int32) (wd : Int64) (h0 : Heap) (n0 : Nat) (v : Option Value) (h : Heap) (L : List Loc) : Prop := v = none ∧ Fr n0 L ∧ n0 ≤ h.size ∧ own_PT Z h n0 a0_ u1 (own_set wd u2 u3)
theorem ef_rmSet (m : MethodId) (a0_ : Addr) (u1 : Int32) (u2 : Int32) (u3 : Int32) : entryFrame m #[(.ref a0_), (.int u1), (.int u2), (.int u3)] 6 = mkF m 0 #[rv a0_, iv u1, iv u2, iv u3, .unset, .unset] [] := by first | (simp [entryFrame, mkF, argsToLocals, Value.category]; done) | rfl
set_option maxRecDepth 65536 in
set_option maxHeartbeats 40000000 in
theorem rmSet (l : Launch) (Z : State) (a0 : Array Value) (hw : ∀ d ∈ tables_1, d.before a0 Z = true) (ws : List Jvm.Cond) (a0_ : Addr) (u1 : Int32) (u2 : Int32) (u3 : Int32) (wd : Int64) (h0 : Heap) (n0 : Nat) (Z0 : n0 ≤ h0.size) (P0 : own_PT Z h0 n0 a0_ u1 wd) (hb_ : 0 ≤ u1.toInt ∧ u1.toInt ≤ 3) :
    MetFree l (⟨"com/example/tranquility/tranquility/PairTable", "set", "(III)V"⟩ : MethodName) (head1 (Jvm.Cond.code (⟨"com/example/tranquility/tranquility/PairTable", "set", "(III)V"⟩ : MethodName) prog_28_method_6_code 6 none :: ws) ({ frames := 1, cells := 0, slots := 0, locals := 17 } : Room)) (fun a U => a = #[(.ref a0_), (.int u1), (.int u2), (.int u3)] ∧ Z.Warmed39 U.vm ∧ U.heap = h0) (fun _ _ _ _ _ => True) (fun _ U o U' => ∃ v L, o = .returned v ∧ QSet Z a0_ u1 u2 u3 wd h0 n0 v U'.heap L ∧ FrameEnd U o U' L ({ frames := 1, cells := 0, slots := 0, locals := 17 } : Room).cells ({ frames := 1, cells := 0, slots := 0, locals := 17 } : Room).slots) := by
  refine MetFree.of_bodySF (plainFor_of_name pn_1) hisR ?_
  intro p e s m args below meth c s₁ Bd hml0 hP hK
  obtain ⟨rfl, hZ, hh⟩ := hP
  have hx := Bd.exec
  have hby := Bd.bytes
  have hml : c.maxLocals = 6 := hml0
  have hown : s.vm.findClass "com/example/tranquility/tranquility/PairTable" = some m.cls := findClass_of_methodNamed Bd.named
  have hnm := (name_of_methodNamed Bd.named Bd.method).1
  have X0 : Stand p l e ({ frames := 1, cells := 0, slots := 0, locals := 17 } : Room) s m #[(.ref a0_), (.int u1), (.int u2), (.int u3)] below meth c s₁ [] 0 0 := Stand.of_body Bd
  have e0 : s₁.heap = h0 := by rw [← hh, Bd.state]; rfl
  have N0 := Fr.nil n0
  have S0 : ∀ t, Steps p.tables e below (s₁.setTop (mkF m 0 #[rv a0_, iv u1, iv u2, iv u3, .unset, .unset] [])) t → Steps p.tables e below (s₁.setTop (entryFrame m #[(.ref a0_), (.int u1), (.int u2), (.int u3)] 6)) t := fun t k => castTop (ef_rmSet m a0_ u1 u2 u3) k
  obtain ⟨E0_, ar, kk, xs, gar, nea, Fs, V0, hlen, hWd⟩ := id P0
  obtain ⟨T1, X1, e1, st1⟩ := getF X0 hx hZ hown (host := "") (Or.inl (hw _ (List.mem_of_getElem? (i := 23) rfl))) Via.refl e0 Fs (g := (mkF m 14 #[rv a0_, iv u1, iv u2, iv u3, iv ((u1 * (2 : Int32)) + (1 : Int32)), iv (u2 * (32 : Int32))] [(.ref a0_)])) rfl rfl (hb hby d12_14)
  obtain ⟨T2, X2, e2, st2⟩ := getF X1 hx hZ hown (host := "") (Or.inl (hw _ (List.mem_of_getElem? (i := 23) rfl))) Via.refl e1 Fs (g := (mkF m 20 #[rv a0_, iv u1, iv u2, iv u3, iv ((u1 * (2 : Int32)) + (1 : Int32)), iv (u2 * (32 : Int32))] [(.ref a0_), (.int ((u1 * (2 : Int32)) + (1 : Int32))), (.ref ar)])) rfl rfl (hb hby d12_20)
  obtain ⟨cl3, Ar3, qa3, Sa3, Na3, Ha3, Ga3⟩ := id V0
  have hin3 : ¬ (((u1 * (2 : Int32)) + (1 : Int32)) < 0 ∨ cl3.slots.size ≤ (((u1 * (2 : Int32)) + (1 : Int32))).toNatClampNeg) := inb_of Sa3 (own_ix1 hb_)
  obtain ⟨_, _, ⟨T4, L4, k4, n4⟩, -, X4, ⟨Lc4, hQ4, l4, y4, z4⟩, st4⟩ := Jvm.LawKit.callS X2 hx (y := (⟨"java/lang/Integer", "toUnsignedLong", "(I)J"⟩ : MethodName)) hown (mvT hZ (hw _ (List.mem_of_getElem? (i := 42) rfl))) (mvT hZ (hw _ (List.mem_of_getElem? (i := 43) rfl))) (mvT hZ (hw _ (List.mem_of_getElem? (i := 15) rfl))) (mvT hZ (hw _ (List.mem_of_getElem? (i := 44) rfl))) (by decide) (backOf (W := 4) (rmTul l Z a0 hw [] u3 h0 n0 Z0) hZ (hw _ (List.mem_of_getElem? (i := 44) rfl)) (hw _ (List.mem_of_getElem? (i := 15) rfl)) (by decide) (by decide)) (g := (mkF m 38 #[rv a0_, iv u1, iv u2, iv u3, iv ((u1 * (2 : Int32)) + (1 : Int32)), iv (u2 * (32 : Int32))] [(.int u3), (.long (wd &&& (((4294967295 : Int64) <<< ((u2 * (32 : Int32)) &&& 0x3f).toInt64) ^^^ (-1 : Int64)))), (.int ((u1 * (2 : Int32)) + (1 : Int32))), (.ref ar)])) rfl (by rw [hml]; rfl) (argsL := [(.int u3)]) (rest := [(.long (wd &&& (((4294967295 : Int64) <<< ((u2 * (32 : Int32)) &&& 0x3f).toInt64) ^^^ (-1 : Int64)))), (.int ((u1 * (2 : Int32)) + (1 : Int32))), (.ref ar)]) (lenOf pd_0 rfl) rfl (by show 2 * 0 + _ ≤ _; exact Nat.le_of_eq rfl) (hb hby d12_38) (fun _ _ => ⟨rfl, e2, (by decide : 0 + 0 ≤ _), (by decide : 0 + 0 ≤ _)⟩)
  dsimp only [Pt.U, Pt.locs, Pt.cells, Pt.slots] at X4 l4 y4 z4 st4 hQ4
  subst l4 y4 z4
  obtain ⟨rfl, Nq4, eq4⟩ := hQ4
  have N4 := Fr.app N0 Nq4
  obtain ⟨cl5, Ar5, qa5, Sa5, Na5, Ha5, Ga5⟩ := id V0
  have hin5 : ¬ (((u1 * (2 : Int32)) + (1 : Int32)) < 0 ∨ cl5.slots.size ≤ (((u1 * (2 : Int32)) + (1 : Int32))).toNatClampNeg) := inb_of Sa5 (own_ix1 hb_)
  obtain ⟨T6, h6, X6, e6, W6, st6⟩ := stJ X4 hx hZ eq4 Ar5 (j := ((u1 * (2 : Int32)) + (1 : Int32))) hin5 (g := (mkF m 45 #[rv a0_, iv u1, iv u2, iv u3, iv ((u1 * (2 : Int32)) + (1 : Int32)), iv (u2 * (32 : Int32))] [(.long ((wd &&& (((4294967295 : Int64) <<< ((u2 * (32 : Int32)) &&& 0x3f).toInt64) ^^^ (-1 : Int64))) ||| ((own_tul u3) <<< ((u2 * (32 : Int32)) &&& 0x3f).toInt64))), (.int ((u1 * (2 : Int32)) + (1 : Int32))), (.ref ar)])) rfl rfl (hb hby d12_45)
  have V6 : Arv Z h6 ar kk .long (8 : Int32) ((xs.set (((u1 * (2 : Int32)) + (1 : Int32))).toNatClampNeg ((wd &&& (((4294967295 : Int64) <<< ((u2 * (32 : Int32)) &&& 0x3f).toInt64) ^^^ (-1 : Int64))) ||| ((own_tul u3) <<< ((u2 * (32 : Int32)) &&& 0x3f).toInt64))).map Value.long) (.long (0 : Int64)) := by rw [List.map_set]; exact Arv.set Ar5 qa5 Sa5 Na5 Ha5 Ga5 rfl W6 (((u1 * (2 : Int32)) + (1 : Int32))).toNatClampNeg rfl (by rw [List.length_map, hlen]; exact own_ix1n hb_)
  have N6 := Fr.snoc X6 N4 gar
  have Z6 : n0 ≤ h6.size := Nat.le_trans Z0 (Keep.of_wr W6).1
  have f7 := E0_.wr W6
  have f8 := Fs.other W6 (Or.inl nea)
  obtain ⟨fs, hr, hrun, hended, hW, hsame⟩ := X6.leave (v := none) (fun _ => rfl)
  refine ⟨_, _, S0 _ ?_, hrun, hended, _, _, rfl, ?_, ⟨_, rfl⟩, hW, hsame.mono (by decide) (by decide)⟩
  · skip
    show Steps p.tables e below (s₁.setTop (mkF m 0 #[rv a0_, iv u1, iv u2, iv u3, .unset, .unset] [])) _
    refine XS.iloadN X0.here hx rfl (hb hby d12_0) rfl ?_
    show Steps p.tables e below (s₁.setTop (mkF m 1 #[rv a0_, iv u1, iv u2, iv u3, .unset, .unset] [(.int u1)])) _
    refine XS.iconst X0.here hx rfl (hb hby d12_1) ?_
    show Steps p.tables e below (s₁.setTop (mkF m 2 #[rv a0_, iv u1, iv u2, iv u3, .unset, .unset] [(.int (2 : Int32)), (.int u1)])) _
    refine XS.imul X0.here hx rfl (hb hby d12_2) rfl ?_
    show Steps p.tables e below (s₁.setTop (mkF m 3 #[rv a0_, iv u1, iv u2, iv u3, .unset, .unset] [(.int (u1 * (2 : Int32)))])) _
    refine XS.iconst X0.here hx rfl (hb hby d12_3) ?_
    show Steps p.tables e below (s₁.setTop (mkF m 4 #[rv a0_, iv u1, iv u2, iv u3, .unset, .unset] [(.int (1 : Int32)), (.int (u1 * (2 : Int32)))])) _
    refine XS.iadd X0.here hx rfl (hb hby d12_4) rfl ?_
    show Steps p.tables e below (s₁.setTop (mkF m 5 #[rv a0_, iv u1, iv u2, iv u3, .unset, .unset] [(.int ((u1 * (2 : Int32)) + (1 : Int32)))])) _
    refine XS.istore X0.here hx rfl (hb hby d12_5) rfl (l' := #[rv a0_, iv u1, iv u2, iv u3, iv ((u1 * (2 : Int32)) + (1 : Int32)), .unset]) rfl ?_
    show Steps p.tables e below (s₁.setTop (mkF m 7 #[rv a0_, iv u1, iv u2, iv u3, iv ((u1 * (2 : Int32)) + (1 : Int32)), .unset] [])) _
    refine XS.iloadN X0.here hx rfl (hb hby d12_7) rfl ?_
    show Steps p.tables e below (s₁.setTop (mkF m 8 #[rv a0_, iv u1, iv u2, iv u3, iv ((u1 * (2 : Int32)) + (1 : Int32)), .unset] [(.int u2)])) _
    refine XS.bipush X0.here hx rfl (hb hby d12_8) ?_
    show Steps p.tables e below (s₁.setTop (mkF m 10 #[rv a0_, iv u1, iv u2, iv u3, iv ((u1 * (2 : Int32)) + (1 : Int32)), .unset] [(.int (32 : Int32)), (.int u2)])) _
    refine XS.imul X0.here hx rfl (hb hby d12_10) rfl ?_
    show Steps p.tables e below (s₁.setTop (mkF m 11 #[rv a0_, iv u1, iv u2, iv u3, iv ((u1 * (2 : Int32)) + (1 : Int32)), .unset] [(.int (u2 * (32 : Int32)))])) _
    refine XS.istore X0.here hx rfl (hb hby d12_11) rfl (l' := #[rv a0_, iv u1, iv u2, iv u3, iv ((u1 * (2 : Int32)) + (1 : Int32)), iv (u2 * (32 : Int32))]) rfl ?_
    show Steps p.tables e below (s₁.setTop (mkF m 13 #[rv a0_, iv u1, iv u2, iv u3, iv ((u1 * (2 : Int32)) + (1 : Int32)), iv (u2 * (32 : Int32))] [])) _
    refine XS.aloadN X0.here hx rfl (hb hby d12_13) rfl rfl ?_
    show Steps p.tables e below (s₁.setTop (mkF m 14 #[rv a0_, iv u1, iv u2, iv u3, iv ((u1 * (2 : Int32)) + (1 : Int32)), iv (u2 * (32 : Int32))] [(.ref a0_)])) _
    refine st1 _ ?_
    show Steps p.tables e below (T1.setTop (mkF m 17 #[rv a0_, iv u1, iv u2, iv u3, iv ((u1 * (2 : Int32)) + (1 : Int32)), iv (u2 * (32 : Int32))] [(.ref ar)])) _
    refine XS.iload X1.here hx rfl (hb hby d12_17) rfl ?_
    show Steps p.tables e below (T1.setTop (mkF m 19 #[rv a0_, iv u1, iv u2, iv u3, iv ((u1 * (2 : Int32)) + (1 : Int32)), iv (u2 * (32 : Int32))] [(.int ((u1 * (2 : Int32)) + (1 : Int32))), (.ref ar)])) _
    refine XS.aloadN X1.here hx rfl (hb hby d12_19) rfl rfl ?_
    show Steps p.tables e below (T1.setTop (mkF m 20 #[rv a0_, iv u1, iv u2, iv u3, iv ((u1 * (2 : Int32)) + (1 : Int32)), iv (u2 * (32 : Int32))] [(.ref a0_), (.int ((u1 * (2 : Int32)) + (1 : Int32))), (.ref ar)])) _
    refine st2 _ ?_
    show Steps p.tables e below (T2.setTop (mkF m 23 #[rv a0_, iv u1, iv u2, iv u3, iv ((u1 * (2 : Int32)) + (1 : Int32)), iv (u2 * (32 : Int32))] [(.ref ar), (.int ((u1 * (2 : Int32)) + (1 : Int32))), (.ref ar)])) _
    refine XS.iload X2.here hx rfl (hb hby d12_23) rfl ?_
    show Steps p.tables e below (T2.setTop (mkF m 25 #[rv a0_, iv u1, iv u2, iv u3, iv ((u1 * (2 : Int32)) + (1 : Int32)), iv (u2 * (32 : Int32))] [(.int ((u1 * (2 : Int32)) + (1 : Int32))), (.ref ar), (.int ((u1 * (2 : Int32)) + (1 : Int32))), (.ref ar)])) _
    refine X2.laload hx (j := ((u1 * (2 : Int32)) + (1 : Int32))) (v := (.long wd)) (by rw [e2]; exact Ar3.1) (State.isArrayOf_alike hZ.alike Ar3.2.1) Ar3.2.2 hin3 (Has.at Ha3 hin3 ((own_getlong xs _).trans (congrArg Value.long hWd))) (g := (mkF m 25 #[rv a0_, iv u1, iv u2, iv u3, iv ((u1 * (2 : Int32)) + (1 : Int32)), iv (u2 * (32 : Int32))] [(.int ((u1 * (2 : Int32)) + (1 : Int32))), (.ref ar), (.int ((u1 * (2 : Int32)) + (1 : Int32))), (.ref ar)])) rfl rfl (hb hby d12_25) _ ?_
    show Steps p.tables e below (T2.setTop (mkF m 26 #[rv a0_, iv u1, iv u2, iv u3, iv ((u1 * (2 : Int32)) + (1 : Int32)), iv (u2 * (32 : Int32))] [(.long wd), (.int ((u1 * (2 : Int32)) + (1 : Int32))), (.ref ar)])) _
    refine X2.ldc2Long hx hown (mvT hZ (hw _ (List.mem_of_getElem? (i := 61) rfl))) (g := (mkF m 26 #[rv a0_, iv u1, iv u2, iv u3, iv ((u1 * (2 : Int32)) + (1 : Int32)), iv (u2 * (32 : Int32))] [(.long wd), (.int ((u1 * (2 : Int32)) + (1 : Int32))), (.ref ar)])) rfl (hb hby d12_26) _ ?_
    show Steps p.tables e below (T2.setTop (mkF m 29 #[rv a0_, iv u1, iv u2, iv u3, iv ((u1 * (2 : Int32)) + (1 : Int32)), iv (u2 * (32 : Int32))] [(.long (4294967295 : Int64)), (.long wd), (.int ((u1 * (2 : Int32)) + (1 : Int32))), (.ref ar)])) _
    refine XS.iload X2.here hx rfl (hb hby d12_29) rfl ?_
    show Steps p.tables e below (T2.setTop (mkF m 31 #[rv a0_, iv u1, iv u2, iv u3, iv ((u1 * (2 : Int32)) + (1 : Int32)), iv (u2 * (32 : Int32))] [(.int (u2 * (32 : Int32))), (.long (4294967295 : Int64)), (.long wd), (.int ((u1 * (2 : Int32)) + (1 : Int32))), (.ref ar)])) _
    refine XS.lshl X2.here hx rfl (hb hby d12_31) rfl ?_
    show Steps p.tables e below (T2.setTop (mkF m 32 #[rv a0_, iv u1, iv u2, iv u3, iv ((u1 * (2 : Int32)) + (1 : Int32)), iv (u2 * (32 : Int32))] [(.long ((4294967295 : Int64) <<< ((u2 * (32 : Int32)) &&& 0x3f).toInt64)), (.long wd), (.int ((u1 * (2 : Int32)) + (1 : Int32))), (.ref ar)])) _
    refine X2.ldc2Long hx hown (mvT hZ (hw _ (List.mem_of_getElem? (i := 32) rfl))) (g := (mkF m 32 #[rv a0_, iv u1, iv u2, iv u3, iv ((u1 * (2 : Int32)) + (1 : Int32)), iv (u2 * (32 : Int32))] [(.long ((4294967295 : Int64) <<< ((u2 * (32 : Int32)) &&& 0x3f).toInt64)), (.long wd), (.int ((u1 * (2 : Int32)) + (1 : Int32))), (.ref ar)])) rfl (hb hby d12_32) _ ?_
    show Steps p.tables e below (T2.setTop (mkF m 35 #[rv a0_, iv u1, iv u2, iv u3, iv ((u1 * (2 : Int32)) + (1 : Int32)), iv (u2 * (32 : Int32))] [(.long (-1 : Int64)), (.long ((4294967295 : Int64) <<< ((u2 * (32 : Int32)) &&& 0x3f).toInt64)), (.long wd), (.int ((u1 * (2 : Int32)) + (1 : Int32))), (.ref ar)])) _
    refine XS.lxor X2.here hx rfl (hb hby d12_35) rfl ?_
    show Steps p.tables e below (T2.setTop (mkF m 36 #[rv a0_, iv u1, iv u2, iv u3, iv ((u1 * (2 : Int32)) + (1 : Int32)), iv (u2 * (32 : Int32))] [(.long (((4294967295 : Int64) <<< ((u2 * (32 : Int32)) &&& 0x3f).toInt64) ^^^ (-1 : Int64))), (.long wd), (.int ((u1 * (2 : Int32)) + (1 : Int32))), (.ref ar)])) _
    refine XS.land X2.here hx rfl (hb hby d12_36) rfl ?_
    show Steps p.tables e below (T2.setTop (mkF m 37 #[rv a0_, iv u1, iv u2, iv u3, iv ((u1 * (2 : Int32)) + (1 : Int32)), iv (u2 * (32 : Int32))] [(.long (wd &&& (((4294967295 : Int64) <<< ((u2 * (32 : Int32)) &&& 0x3f).toInt64) ^^^ (-1 : Int64)))), (.int ((u1 * (2 : Int32)) + (1 : Int32))), (.ref ar)])) _
    refine XS.iloadN X2.here hx rfl (hb hby d12_37) rfl ?_
    show Steps p.tables e below (T2.setTop (mkF m 38 #[rv a0_, iv u1, iv u2, iv u3, iv ((u1 * (2 : Int32)) + (1 : Int32)), iv (u2 * (32 : Int32))] [(.int u3), (.long (wd &&& (((4294967295 : Int64) <<< ((u2 * (32 : Int32)) &&& 0x3f).toInt64) ^^^ (-1 : Int64)))), (.int ((u1 * (2 : Int32)) + (1 : Int32))), (.ref ar)])) _
    refine st4 _ ?_
    show Steps p.tables e below (T4.setTop (mkF m 41 #[rv a0_, iv u1, iv u2, iv u3, iv ((u1 * (2 : Int32)) + (1 : Int32)), iv (u2 * (32 : Int32))] [(.long (own_tul u3)), (.long (wd &&& (((4294967295 : Int64) <<< ((u2 * (32 : Int32)) &&& 0x3f).toInt64) ^^^ (-1 : Int64)))), (.int ((u1 * (2 : Int32)) + (1 : Int32))), (.ref ar)])) _
    refine XS.iload X4.here hx rfl (hb hby d12_41) rfl ?_
    show Steps p.tables e below (T4.setTop (mkF m 43 #[rv a0_, iv u1, iv u2, iv u3, iv ((u1 * (2 : Int32)) + (1 : Int32)), iv (u2 * (32 : Int32))] [(.int (u2 * (32 : Int32))), (.long (own_tul u3)), (.long (wd &&& (((4294967295 : Int64) <<< ((u2 * (32 : Int32)) &&& 0x3f).toInt64) ^^^ (-1 : Int64)))), (.int ((u1 * (2 : Int32)) + (1 : Int32))), (.ref ar)])) _
    refine XS.lshl X4.here hx rfl (hb hby d12_43) rfl ?_
    show Steps p.tables e below (T4.setTop (mkF m 44 #[rv a0_, iv u1, iv u2, iv u3, iv ((u1 * (2 : Int32)) + (1 : Int32)), iv (u2 * (32 : Int32))] [(.long ((own_tul u3) <<< ((u2 * (32 : Int32)) &&& 0x3f).toInt64)), (.long (wd &&& (((4294967295 : Int64) <<< ((u2 * (32 : Int32)) &&& 0x3f).toInt64) ^^^ (-1 : Int64)))), (.int ((u1 * (2 : Int32)) + (1 : Int32))), (.ref ar)])) _
    refine XS.lor X4.here hx rfl (hb hby d12_44) rfl ?_
    show Steps p.tables e below (T4.setTop (mkF m 45 #[rv a0_, iv u1, iv u2, iv u3, iv ((u1 * (2 : Int32)) + (1 : Int32)), iv (u2 * (32 : Int32))] [(.long ((wd &&& (((4294967295 : Int64) <<< ((u2 * (32 : Int32)) &&& 0x3f).toInt64) ^^^ (-1 : Int64))) ||| ((own_tul u3) <<< ((u2 * (32 : Int32)) &&& 0x3f).toInt64))), (.int ((u1 * (2 : Int32)) + (1 : Int32))), (.ref ar)])) _
    refine st6 _ ?_
    show Steps p.tables e below (T6.setTop (mkF m 46 #[rv a0_, iv u1, iv u2, iv u3, iv ((u1 * (2 : Int32)) + (1 : Int32)), iv (u2 * (32 : Int32))] [])) _
    exact X6.returnOut hx Bd.returns (hb hby d12_46) hr
  · show QSet Z a0_ u1 u2 u3 wd h0 n0 _ T6.heap _
    rw [e6]
    exact ⟨rfl, N6, Z6, ⟨f7, ar, kk, _, gar, nea, f8, V6, by simp [hlen], own_hit _ _ _ (by rw [hlen]; exact own_ix1n hb_)⟩⟩
theorem own_m32 (i : Nat) (h : i < 64) : (4294967295#64).getLsbD i = decide (i < 32) := by
  have : ∀ i : Fin 64, (4294967295#64).getLsbD i.val = decide (i.val < 32) := by decide
  exact this ⟨i, h⟩
theorem own_t32 (x : Int64) : x.toInt32.toBitVec.toNat = x.toBitVec.toNat % 2 ^ 32 := by
  show (x.toBitVec.signExtend 32).toNat = _
  rw [BitVec.signExtend_eq_setWidth_of_le _ (by decide), BitVec.toNat_setWidth]
theorem own_get0 (W : Int64) : (own_get W 0).toBitVec.toNat = W.toBitVec.toNat % 2 ^ 32 := by
  unfold own_get
  rw [own_t32]
  show (W.toUInt64 >>> (((0 : Int32) * (32 : Int32)) &&& 0x3f).toInt64.toUInt64).toNat % 2 ^ 32 = _
  have e : (((0 : Int32) * (32 : Int32)) &&& 0x3f).toInt64.toUInt64.toNat % 64 = 0 := by decide
  rw [UInt64.toNat_shiftRight, e]; rfl
theorem own_get1 (W : Int64) : (own_get W 1).toBitVec.toNat = W.toBitVec.toNat / 2 ^ 32 % 2 ^ 32 := by
  unfold own_get
  rw [own_t32]
  show (W.toUInt64 >>> (((1 : Int32) * (32 : Int32)) &&& 0x3f).toInt64.toUInt64).toNat % 2 ^ 32 = _
  have e : (((1 : Int32) * (32 : Int32)) &&& 0x3f).toInt64.toUInt64.toNat % 64 = 32 := by decide
  rw [UInt64.toNat_shiftRight, e, Nat.shiftRight_eq_div_pow]; rfl
theorem own_tulN (u : Int32) : (own_tul u).toBitVec.toNat = u.toBitVec.toNat := by
  show (u.toInt64.toBitVec &&& (4294967295 : Int64).toBitVec).toNat = _
  have e1 : (4294967295 : Int64).toBitVec.toNat = 2 ^ 32 - 1 := by decide
  rw [BitVec.toNat_and, e1, Nat.and_two_pow_sub_one_eq_mod]
  show (u.toBitVec.signExtend 64).toNat % 2 ^ 32 = _
  have hl := u.toBitVec.isLt
  rw [BitVec.toNat_signExtend]
  simp only [BitVec.toNat_setWidth]
  split <;> omega
theorem own_set0 (W : Int64) (u : Int32) : (own_set W 0 u).toBitVec.toNat = W.toBitVec.toNat / 2 ^ 32 * 2 ^ 32 + u.toBitVec.toNat := by
  show ((W.toBitVec &&& (((4294967295 : Int64) <<< (((0 : Int32) * (32 : Int32)) &&& 0x3f).toInt64) ^^^ (-1 : Int64)).toBitVec) ||| ((own_tul u) <<< (((0 : Int32) * (32 : Int32)) &&& 0x3f).toInt64).toBitVec).toNat = _
  have e1 : (((4294967295 : Int64) <<< (((0 : Int32) * (32 : Int32)) &&& 0x3f).toInt64) ^^^ (-1 : Int64)).toBitVec.toNat = (2 ^ 32 - 1) <<< 32 := by decide
  have e2 : ((own_tul u) <<< (((0 : Int32) * (32 : Int32)) &&& 0x3f).toInt64) = own_tul u := by
    have : (((0 : Int32) * (32 : Int32)) &&& 0x3f).toInt64 = 0 := by decide
    rw [this]; simp
  rw [e2, BitVec.toNat_or, BitVec.toNat_and, e1, own_tulN]
  have hW := W.toBitVec.isLt
  have hu := u.toBitVec.isLt
  have q : W.toBitVec.toNat &&& (2 ^ 32 - 1) <<< 32 = (W.toBitVec.toNat / 2 ^ 32) <<< 32 := by
    apply Nat.eq_of_testBit_eq; intro i
    rw [Nat.testBit_and, Nat.testBit_shiftLeft, Nat.testBit_shiftLeft, Nat.testBit_two_pow_sub_one, Nat.testBit_div_two_pow]
    by_cases h : 32 ≤ i
    · by_cases h2 : i - 32 < 32
      · simp [h, h2]
      · have : W.toBitVec.toNat.testBit i = false := Nat.testBit_lt_two_pow (Nat.lt_of_lt_of_le hW (Nat.pow_le_pow_right (by decide) (by omega)))
        simp [h, h2, this]
    · simp [h]
  rw [q, ← Nat.shiftLeft_add_eq_or_of_lt hu, Nat.shiftLeft_eq]
theorem own_set1 (W : Int64) (u : Int32) : (own_set W 1 u).toBitVec.toNat = u.toBitVec.toNat * 2 ^ 32 + W.toBitVec.toNat % 2 ^ 32 := by
  show ((W.toBitVec &&& (((4294967295 : Int64) <<< (((1 : Int32) * (32 : Int32)) &&& 0x3f).toInt64) ^^^ (-1 : Int64)).toBitVec) ||| ((own_tul u) <<< (((1 : Int32) * (32 : Int32)) &&& 0x3f).toInt64).toBitVec).toNat = _
  have e1 : (((4294967295 : Int64) <<< (((1 : Int32) * (32 : Int32)) &&& 0x3f).toInt64) ^^^ (-1 : Int64)).toBitVec.toNat = 2 ^ 32 - 1 := by decide
  have hu := u.toBitVec.isLt
  have e2 : ((own_tul u) <<< (((1 : Int32) * (32 : Int32)) &&& 0x3f).toInt64).toBitVec.toNat = u.toBitVec.toNat <<< 32 := by
    have : (((1 : Int32) * (32 : Int32)) &&& 0x3f).toInt64 = 32 := by decide
    rw [this]
    show ((own_tul u).toBitVec <<< 32).toNat = _
    rw [BitVec.toNat_shiftLeft, own_tulN, Nat.shiftLeft_eq]
    exact Nat.mod_eq_of_lt (by omega)
  rw [BitVec.toNat_or, BitVec.toNat_and, e1, e2, Nat.and_two_pow_sub_one_eq_mod, Nat.or_comm, ← Nat.shiftLeft_add_eq_or_of_lt (Nat.mod_lt _ (by decide)), Nat.shiftLeft_eq]
theorem own_inj {x y : Int32} (h : x.toBitVec.toNat = y.toBitVec.toNat) : x = y := Int32.toBitVec_inj.mp (BitVec.eq_of_toNat_eq h)
theorem own_gs0 (W : Int64) (u : Int32) : own_get (own_set W 0 u) 0 = u := own_inj (by have := u.toBitVec.isLt; rw [own_get0, own_set0]; omega)
theorem own_gs1 (W : Int64) (u : Int32) : own_get (own_set W 1 u) 1 = u := own_inj (by have := u.toBitVec.isLt; rw [own_get1, own_set1]; omega)
theorem own_gs01 (W : Int64) (u : Int32) : own_get (own_set W 1 u) 0 = own_get W 0 := own_inj (by have := u.toBitVec.isLt; rw [own_get0, own_get0, own_set1]; omega)
theorem own_gs10 (W : Int64) (u : Int32) : own_get (own_set W 0 u) 1 = own_get W 1 := own_inj (by have := W.toBitVec.isLt; have := u.toBitVec.isLt; rw [own_get1, own_get1, own_set0]; omega)
theorem own_st3 (u : Int64) : 0 ≤ (own_st u).toInt ∧ (own_st u).toInt ≤ 3 := by
  have h : (own_st u).toBitVec.toNat ≤ 3 := by
    unfold own_st
    rw [own_t32]
    show ((u * (-7046029254386353131 : Int64)).toUInt64 >>> ((62 : Int32) &&& 0x3f).toInt64.toUInt64).toNat % 2 ^ 32 ≤ 3
    have e : ((62 : Int32) &&& 0x3f).toInt64.toUInt64.toNat % 64 = 62 := by decide
    rw [UInt64.toNat_shiftRight, e, Nat.shiftRight_eq_div_pow]
    have := (u * (-7046029254386353131 : Int64)).toUInt64.toNat_lt
    omega
  have hd : (own_st u).toInt = (own_st u).toBitVec.toInt := rfl
  rw [hd, BitVec.toInt_eq_toNat_cond, if_pos (by omega)]
  omega

theorem d7_0 : decode prog_28_method_2_code 0 = .ok (.iload_n 1, 1) := by decide +kernel
theorem d7_1 : decode prog_28_method_2_code 1 = .ok (.iload_n 2, 1) := by decide +kernel
theorem d7_2 : decode prog_28_method_2_code 2 = .ok (.invokestatic 39, 3) := by decide +kernel
theorem pd_3 : parseMethodDescriptor "(II)J" = some ⟨[.int, .int], some .long⟩ := by decide +kernel
theorem d7_5 : decode prog_28_method_2_code 5 = .ok (.lstore_n 3, 1) := by decide +kernel
theorem d7_6 : decode prog_28_method_2_code 6 = .ok (.aload_n 0, 1) := by decide +kernel
theorem d7_7 : decode prog_28_method_2_code 7 = .ok (.lload_n 3, 1) := by decide +kernel
theorem d7_8 : decode prog_28_method_2_code 8 = .ok (.invokevirtual 43, 3) := by decide +kernel
theorem pd_4 : parseMethodDescriptor "(J)I" = some ⟨[.long], some .int⟩ := by decide +kernel
theorem d7_11 : decode prog_28_method_2_code 11 = .ok (.istore 5, 2) := by decide +kernel
theorem d7_13 : decode prog_28_method_2_code 13 = .ok (.aload_n 0, 1) := by decide +kernel
theorem d7_14 : decode prog_28_method_2_code 14 = .ok (.getfield 21, 3) := by decide +kernel
theorem d7_17 : decode prog_28_method_2_code 17 = .ok (.iload 5, 2) := by decide +kernel
theorem d7_19 : decode prog_28_method_2_code 19 = .ok (.iconst 2, 1) := by decide +kernel
theorem d7_20 : decode prog_28_method_2_code 20 = .ok (.imul, 1) := by decide +kernel
theorem d7_21 : decode prog_28_method_2_code 21 = .ok (.laload, 1) := by decide +kernel
theorem d7_22 : decode prog_28_method_2_code 22 = .ok (.ldc2_w 37, 3) := by decide +kernel
theorem d7_25 : decode prog_28_method_2_code 25 = .ok (.lcmp, 1) := by decide +kernel
theorem d7_26 : decode prog_28_method_2_code 26 = .ok (.ifCond .eq 17, 3) := by decide +kernel
theorem d7_43 : decode prog_28_method_2_code 43 = .ok (.aload_n 0, 1) := by decide +kernel
theorem d7_44 : decode prog_28_method_2_code 44 = .ok (.getfield 21, 3) := by decide +kernel
theorem d7_47 : decode prog_28_method_2_code 47 = .ok (.iload 5, 2) := by decide +kernel
theorem d7_49 : decode prog_28_method_2_code 49 = .ok (.iconst 2, 1) := by decide +kernel
theorem d7_50 : decode prog_28_method_2_code 50 = .ok (.imul, 1) := by decide +kernel
theorem d7_51 : decode prog_28_method_2_code 51 = .ok (.lload_n 3, 1) := by decide +kernel
theorem d7_52 : decode prog_28_method_2_code 52 = .ok (.lastore, 1) := by decide +kernel
theorem d7_53 : decode prog_28_method_2_code 53 = .ok (.iload 5, 2) := by decide +kernel
theorem d7_55 : decode prog_28_method_2_code 55 = .ok (.ireturn, 1) := by decide +kernel
def QAdd (Z : State) (a0_ : Addr) (u1 : Int32) (u2 : Int32)  (h0 : Heap) (n0 : Nat) (v : Option Value) (h : Heap) (L : List Loc) : Prop := ∃ ps : Int32, v = some (.int ps) ∧ Fr n0 L ∧ n0 ≤ h.size ∧ (0 ≤ ps.toInt ∧ ps.toInt ≤ 3) ∧ own_PT Z h n0 a0_ ps 0
theorem ef_rmAdd (m : MethodId) (a0_ : Addr) (u1 : Int32) (u2 : Int32) : entryFrame m #[(.ref a0_), (.int u1), (.int u2)] 6 = mkF m 0 #[rv a0_, iv u1, iv u2, .unset, .unset, .unset] [] := by first | (simp [entryFrame, mkF, argsToLocals, Value.category]; done) | rfl
set_option maxRecDepth 65536 in
set_option maxHeartbeats 40000000 in
theorem rmAdd (l : Launch) (Z : State) (a0 : Array Value) (hw : ∀ d ∈ tables_1, d.before a0 Z = true) (ws : List Jvm.Cond) (a0_ : Addr) (u1 : Int32) (u2 : Int32)  (h0 : Heap) (n0 : Nat) (Z0 : n0 ≤ h0.size) (P0 : own_PT0 Z h0 n0 a0_) :
    MetFree l (⟨"com/example/tranquility/tranquility/PairTable", "add", "(II)I"⟩ : MethodName) (head1 (Jvm.Cond.code (⟨"com/example/tranquility/tranquility/PairTable", "add", "(II)I"⟩ : MethodName) prog_28_method_2_code 6 (some .int) :: ws) ({ frames := 2, cells := 0, slots := 0, locals := 30 } : Room)) (fun a U => a = #[(.ref a0_), (.int u1), (.int u2)] ∧ Z.Warmed39 U.vm ∧ U.heap = h0) (fun _ _ _ _ _ => True) (fun _ U o U' => ∃ v L, o = .returned v ∧ QAdd Z a0_ u1 u2 h0 n0 v U'.heap L ∧ FrameEnd U o U' L ({ frames := 2, cells := 0, slots := 0, locals := 30 } : Room).cells ({ frames := 2, cells := 0, slots := 0, locals := 30 } : Room).slots) := by
  refine MetFree.of_bodySF (plainFor_of_name pn_1) hisR ?_
  intro p e s m args below meth c s₁ Bd hml0 hP hK
  obtain ⟨rfl, hZ, hh⟩ := hP
  have hx := Bd.exec
  have hby := Bd.bytes
  have hml : c.maxLocals = 6 := hml0
  have hown : s.vm.findClass "com/example/tranquility/tranquility/PairTable" = some m.cls := findClass_of_methodNamed Bd.named
  have hnm := (name_of_methodNamed Bd.named Bd.method).1
  have X0 : Stand p l e ({ frames := 2, cells := 0, slots := 0, locals := 30 } : Room) s m #[(.ref a0_), (.int u1), (.int u2)] below meth c s₁ [] 0 0 := Stand.of_body Bd
  have e0 : s₁.heap = h0 := by rw [← hh, Bd.state]; rfl
  have N0 := Fr.nil n0
  have S0 : ∀ t, Steps p.tables e below (s₁.setTop (mkF m 0 #[rv a0_, iv u1, iv u2, .unset, .unset, .unset] [])) t → Steps p.tables e below (s₁.setTop (entryFrame m #[(.ref a0_), (.int u1), (.int u2)] 6)) t := fun t k => castTop (ef_rmAdd m a0_ u1 u2) k
  obtain ⟨E0_, ar, kk, gar, nea, Fs, Fh, Fm, V0⟩ := id P0
  obtain ⟨_, _, ⟨T1, L1, k1, n1⟩, -, X1, ⟨Lc1, hQ1, l1, y1, z1⟩, st1⟩ := Jvm.LawKit.callS X0 hx (y := (⟨"com/example/tranquility/tranquility/PairTable", "pack", "(II)J"⟩ : MethodName)) hown (mvT hZ (hw _ (List.mem_of_getElem? (i := 39) rfl))) (mvT hZ (hw _ (List.mem_of_getElem? (i := 40) rfl))) (mvT hZ (hw _ (List.mem_of_getElem? (i := 2) rfl))) (mvT hZ (hw _ (List.mem_of_getElem? (i := 41) rfl))) (by decide) (backOf (W := 0) (rmPack l Z a0 hw [] u1 u2 h0 n0 Z0) hZ (hw _ (List.mem_of_getElem? (i := 41) rfl)) (hw _ (List.mem_of_getElem? (i := 2) rfl)) (by decide) (by decide)) (g := (mkF m 2 #[rv a0_, iv u1, iv u2, .unset, .unset, .unset] [(.int u2), (.int u1)])) rfl (by rw [hml]; rfl) (argsL := [(.int u1), (.int u2)]) (rest := []) (lenOf pd_3 rfl) rfl (by show 2 * 0 + _ ≤ _; exact Nat.le_of_eq rfl) (hb hby d7_2) (fun _ _ => ⟨rfl, e0, (by decide : 0 + 0 ≤ _), (by decide : 0 + 0 ≤ _)⟩)
  dsimp only [Pt.U, Pt.locs, Pt.cells, Pt.slots] at X1 l1 y1 z1 st1 hQ1
  subst l1 y1 z1
  obtain ⟨rfl, Nq1, eq1⟩ := hQ1
  have N1 := Fr.app N0 Nq1
  obtain ⟨cq2, q2, q2'⟩ := E0_.cell
  obtain ⟨_, _, ⟨T2, L2, k2, n2⟩, -, X2, ⟨Lc2, hQ2, l2, y2, z2⟩, st2⟩ := X1.privateBack hx (y := (⟨"com/example/tranquility/tranquility/PairTable", "start", "(J)I"⟩ : MethodName)) hown (mvT hZ (hw _ (List.mem_of_getElem? (i := 46) rfl))) (mvT hZ (hw _ (List.mem_of_getElem? (i := 47) rfl))) (mvT hZ (own_selp (by decide) (hw _ (List.mem_of_getElem? (i := 1) rfl)) (hw _ (List.mem_of_getElem? (i := 48) rfl)) (hw _ (List.mem_of_getElem? (i := 47) rfl)))) (Cond.privateMethod_at (mvP hZ (hw _ (List.mem_of_getElem? (i := 48) rfl)) (args := #[]))) (mvT hZ (hw _ (List.mem_of_getElem? (i := 49) rfl))) (by decide) (backOf (W := 0) (rmStart l Z a0 hw [] a0_ (own_pack u1 u2) h0 n0 Z0 Fh) hZ (hw _ (List.mem_of_getElem? (i := 49) rfl)) (hw _ (List.mem_of_getElem? (i := 2) rfl)) (by decide) (by decide)) (g := (mkF m 8 #[rv a0_, iv u1, iv u2, .val (.long (own_pack u1 u2)), .second, .unset] [(.long (own_pack u1 u2)), (.ref a0_)])) rfl (by rw [hml]; rfl) (Steps.refl _) (a := a0_) (by rw [eq1]; exact q2) q2' (argsL := [(.long (own_pack u1 u2))]) (rest := []) (lenOf pd_4 rfl) rfl (by show 2 * 0 + _ ≤ _; exact Nat.le_of_eq rfl) (hb hby d7_8) (fun _ _ => ⟨rfl, eq1, (by decide : 0 + 0 ≤ _), (by decide : 0 + 0 ≤ _)⟩)
  dsimp only [Pt.U, Pt.locs, Pt.cells, Pt.slots] at X2 l2 y2 z2 st2 hQ2
  subst l2 y2 z2
  obtain ⟨rfl, Nq2, eq2⟩ := hQ2
  have N2 := Fr.app N1 Nq2
  have S3 : ∀ t, Steps p.tables e below (T2.setTop (mkF m 13 #[rv a0_, iv u1, iv u2, .val (.long (own_pack u1 u2)), .second, iv (own_st (own_pack u1 u2))] [])) t → Steps p.tables e below (s₁.setTop (entryFrame m #[(.ref a0_), (.int u1), (.int u2)] 6)) t := by
    intro t k
    refine S0 t ?_
    show Steps p.tables e below (s₁.setTop (mkF m 0 #[rv a0_, iv u1, iv u2, .unset, .unset, .unset] [])) _
    refine XS.iloadN X0.here hx rfl (hb hby d7_0) rfl ?_
    show Steps p.tables e below (s₁.setTop (mkF m 1 #[rv a0_, iv u1, iv u2, .unset, .unset, .unset] [(.int u1)])) _
    refine XS.iloadN X0.here hx rfl (hb hby d7_1) rfl ?_
    show Steps p.tables e below (s₁.setTop (mkF m 2 #[rv a0_, iv u1, iv u2, .unset, .unset, .unset] [(.int u2), (.int u1)])) _
    refine st1 _ ?_
    show Steps p.tables e below (T1.setTop (mkF m 5 #[rv a0_, iv u1, iv u2, .unset, .unset, .unset] [(.long (own_pack u1 u2))])) _
    refine XS.lstoreN X1.here hx rfl (hb hby d7_5) rfl (l' := #[rv a0_, iv u1, iv u2, .val (.long (own_pack u1 u2)), .second, .unset]) rfl ?_
    show Steps p.tables e below (T1.setTop (mkF m 6 #[rv a0_, iv u1, iv u2, .val (.long (own_pack u1 u2)), .second, .unset] [])) _
    refine XS.aloadN X1.here hx rfl (hb hby d7_6) rfl rfl ?_
    show Steps p.tables e below (T1.setTop (mkF m 7 #[rv a0_, iv u1, iv u2, .val (.long (own_pack u1 u2)), .second, .unset] [(.ref a0_)])) _
    refine XS.lloadN X1.here hx rfl (hb hby d7_7) rfl ?_
    show Steps p.tables e below (T1.setTop (mkF m 8 #[rv a0_, iv u1, iv u2, .val (.long (own_pack u1 u2)), .second, .unset] [(.long (own_pack u1 u2)), (.ref a0_)])) _
    refine st2.trans ?_
    show Steps p.tables e below (T2.setTop (mkF m 11 #[rv a0_, iv u1, iv u2, .val (.long (own_pack u1 u2)), .second, .unset] [(.int (own_st (own_pack u1 u2)))])) _
    refine XS.istore X2.here hx rfl (hb hby d7_11) rfl (l' := #[rv a0_, iv u1, iv u2, .val (.long (own_pack u1 u2)), .second, iv (own_st (own_pack u1 u2))]) rfl ?_
    exact k
  obtain ⟨ps, e_ps⟩ : ∃ z : Int32, z = (own_st (own_pack u1 u2)) := ⟨_, rfl⟩
  rw [← e_ps] at S3
  have hps : 0 ≤ ps.toInt ∧ ps.toInt ≤ 3 := by rw [e_ps]; exact own_st3 _
  obtain ⟨T4, X4, e4, st4⟩ := getF X2 hx hZ hown (host := "") (Or.inl (hw _ (List.mem_of_getElem? (i := 23) rfl))) Via.refl eq2 Fs (g := (mkF m 14 #[rv a0_, iv u1, iv u2, .val (.long (own_pack u1 u2)), .second, iv ps] [(.ref a0_)])) rfl rfl (hb hby d7_14)
  obtain ⟨cl5, Ar5, qa5, Sa5, Na5, Ha5, Ga5⟩ := id V0
  have hin5 : ¬ ((ps * (2 : Int32)) < 0 ∨ cl5.slots.size ≤ ((ps * (2 : Int32))).toNatClampNeg) := inb_of Sa5 (own_ix0 hps)
  obtain ⟨T6, X6, e6, st6⟩ := getF X4 hx hZ hown (host := "") (Or.inl (hw _ (List.mem_of_getElem? (i := 23) rfl))) Via.refl e4 Fs (g := (mkF m 44 #[rv a0_, iv u1, iv u2, .val (.long (own_pack u1 u2)), .second, iv ps] [(.ref a0_)])) rfl rfl (hb hby d7_44)
  obtain ⟨cl7, Ar7, qa7, Sa7, Na7, Ha7, Ga7⟩ := id V0
  have hin7 : ¬ ((ps * (2 : Int32)) < 0 ∨ cl7.slots.size ≤ ((ps * (2 : Int32))).toNatClampNeg) := inb_of Sa7 (own_ix0 hps)
  obtain ⟨T8, h8, X8, e8, W8, st8⟩ := stJ X6 hx hZ e6 Ar7 (j := (ps * (2 : Int32))) hin7 (g := (mkF m 52 #[rv a0_, iv u1, iv u2, .val (.long (own_pack u1 u2)), .second, iv ps] [(.long (own_pack u1 u2)), (.int (ps * (2 : Int32))), (.ref ar)])) rfl rfl (hb hby d7_52)
  have V8 : Arv Z h8 ar kk .long (8 : Int32) ((([-1, 0, -1, 0, -1, 0, -1, 0] : List Int64).set ((ps * (2 : Int32))).toNatClampNeg (own_pack u1 u2)).map Value.long) (.long (0 : Int64)) := by rw [List.map_set]; exact Arv.set Ar7 qa7 Sa7 Na7 Ha7 Ga7 rfl W8 ((ps * (2 : Int32))).toNatClampNeg rfl (own_ix0n hps)
  have N8 := Fr.snoc X8 N2 gar
  have Z8 : n0 ≤ h8.size := Nat.le_trans Z0 (Keep.of_wr W8).1
  have f9 := E0_.wr W8
  have f10 := Fs.other W8 (Or.inl nea)
  have f11 := Fh.other W8 (Or.inl nea)
  have f12 := Fm.other W8 (Or.inl nea)
  obtain ⟨fs, hr, hrun, hended, hW, hsame⟩ := X8.leave (v := some (.int ps)) (fun h => by rw [Bd.returns] at h; cases h)
  refine ⟨_, _, S3 _ ?_, hrun, hended, _, _, rfl, ?_, ⟨_, rfl⟩, hW, hsame.mono (by decide) (by decide)⟩
  · skip
    show Steps p.tables e below (T2.setTop (mkF m 13 #[rv a0_, iv u1, iv u2, .val (.long (own_pack u1 u2)), .second, iv ps] [])) _
    refine XS.aloadN X2.here hx rfl (hb hby d7_13) rfl rfl ?_
    show Steps p.tables e below (T2.setTop (mkF m 14 #[rv a0_, iv u1, iv u2, .val (.long (own_pack u1 u2)), .second, iv ps] [(.ref a0_)])) _
    refine st4 _ ?_
    show Steps p.tables e below (T4.setTop (mkF m 17 #[rv a0_, iv u1, iv u2, .val (.long (own_pack u1 u2)), .second, iv ps] [(.ref ar)])) _
    refine XS.iload X4.here hx rfl (hb hby d7_17) rfl ?_
    show Steps p.tables e below (T4.setTop (mkF m 19 #[rv a0_, iv u1, iv u2, .val (.long (own_pack u1 u2)), .second, iv ps] [(.int ps), (.ref ar)])) _
    refine XS.iconst X4.here hx rfl (hb hby d7_19) ?_
    show Steps p.tables e below (T4.setTop (mkF m 20 #[rv a0_, iv u1, iv u2, .val (.long (own_pack u1 u2)), .second, iv ps] [(.int (2 : Int32)), (.int ps), (.ref ar)])) _
    refine XS.imul X4.here hx rfl (hb hby d7_20) rfl ?_
    show Steps p.tables e below (T4.setTop (mkF m 21 #[rv a0_, iv u1, iv u2, .val (.long (own_pack u1 u2)), .second, iv ps] [(.int (ps * (2 : Int32))), (.ref ar)])) _
    refine X4.laload hx (j := (ps * (2 : Int32))) (v := (.long (-1 : Int64))) (by rw [e4]; exact Ar5.1) (State.isArrayOf_alike hZ.alike Ar5.2.1) Ar5.2.2 hin5 (Has.at Ha5 hin5 ((own_getlong ([-1, 0, -1, 0, -1, 0, -1, 0] : List Int64) _).trans (congrArg Value.long (own_even hps)))) (g := (mkF m 21 #[rv a0_, iv u1, iv u2, .val (.long (own_pack u1 u2)), .second, iv ps] [(.int (ps * (2 : Int32))), (.ref ar)])) rfl rfl (hb hby d7_21) _ ?_
    show Steps p.tables e below (T4.setTop (mkF m 22 #[rv a0_, iv u1, iv u2, .val (.long (own_pack u1 u2)), .second, iv ps] [(.long (-1 : Int64))])) _
    refine X4.ldc2Long hx hown (mvT hZ (hw _ (List.mem_of_getElem? (i := 32) rfl))) (g := (mkF m 22 #[rv a0_, iv u1, iv u2, .val (.long (own_pack u1 u2)), .second, iv ps] [(.long (-1 : Int64))])) rfl (hb hby d7_22) _ ?_
    show Steps p.tables e below (T4.setTop (mkF m 25 #[rv a0_, iv u1, iv u2, .val (.long (own_pack u1 u2)), .second, iv ps] [(.long (-1 : Int64)), (.long (-1 : Int64))])) _
    refine XS.lcmp X4.here hx rfl (hb hby d7_25) rfl ?_
    show Steps p.tables e below (T4.setTop (mkF m 26 #[rv a0_, iv u1, iv u2, .val (.long (own_pack u1 u2)), .second, iv ps] [(.int (lcmpW (-1 : Int64) (-1 : Int64)))])) _
    refine XS.ifYes X4.here hx rfl (pc0 := 26) (pc' := 43) rfl (hb hby d7_26) rfl ((if0 _ _).trans (teq ((lw_eq _ _).mpr (by decide : (-1 : Int64) = (-1 : Int64)))).1) (by decide) (by decide) ?_
    show Steps p.tables e below (T4.setTop (mkF m 43 #[rv a0_, iv u1, iv u2, .val (.long (own_pack u1 u2)), .second, iv ps] [])) _
    refine XS.aloadN X4.here hx rfl (hb hby d7_43) rfl rfl ?_
    show Steps p.tables e below (T4.setTop (mkF m 44 #[rv a0_, iv u1, iv u2, .val (.long (own_pack u1 u2)), .second, iv ps] [(.ref a0_)])) _
    refine st6 _ ?_
    show Steps p.tables e below (T6.setTop (mkF m 47 #[rv a0_, iv u1, iv u2, .val (.long (own_pack u1 u2)), .second, iv ps] [(.ref ar)])) _
    refine XS.iload X6.here hx rfl (hb hby d7_47) rfl ?_
    show Steps p.tables e below (T6.setTop (mkF m 49 #[rv a0_, iv u1, iv u2, .val (.long (own_pack u1 u2)), .second, iv ps] [(.int ps), (.ref ar)])) _
    refine XS.iconst X6.here hx rfl (hb hby d7_49) ?_
    show Steps p.tables e below (T6.setTop (mkF m 50 #[rv a0_, iv u1, iv u2, .val (.long (own_pack u1 u2)), .second, iv ps] [(.int (2 : Int32)), (.int ps), (.ref ar)])) _
    refine XS.imul X6.here hx rfl (hb hby d7_50) rfl ?_
    show Steps p.tables e below (T6.setTop (mkF m 51 #[rv a0_, iv u1, iv u2, .val (.long (own_pack u1 u2)), .second, iv ps] [(.int (ps * (2 : Int32))), (.ref ar)])) _
    refine XS.lloadN X6.here hx rfl (hb hby d7_51) rfl ?_
    show Steps p.tables e below (T6.setTop (mkF m 52 #[rv a0_, iv u1, iv u2, .val (.long (own_pack u1 u2)), .second, iv ps] [(.long (own_pack u1 u2)), (.int (ps * (2 : Int32))), (.ref ar)])) _
    refine st8 _ ?_
    show Steps p.tables e below (T8.setTop (mkF m 53 #[rv a0_, iv u1, iv u2, .val (.long (own_pack u1 u2)), .second, iv ps] [])) _
    refine XS.iload X8.here hx rfl (hb hby d7_53) rfl ?_
    show Steps p.tables e below (T8.setTop (mkF m 55 #[rv a0_, iv u1, iv u2, .val (.long (own_pack u1 u2)), .second, iv ps] [(.int ps)])) _
    exact retI X8 hx Bd.returns (hb hby d7_55) hr
  · show QAdd Z a0_ u1 u2 h0 n0 _ T8.heap _
    rw [e8]
    exact ⟨ps, rfl, N8, Z8, hps, ⟨f9, ar, kk, _, gar, nea, f10, V8, by simp, own_odd hps _⟩⟩
theorem pd_5 : parseMethodDescriptor "(I)V" = some ⟨[.int], none⟩ := by decide +kernel
theorem pd_6 : parseMethodDescriptor "(III)V" = some ⟨[.int, .int, .int], none⟩ := by decide +kernel
theorem pn_2 : plainName "com/example/tranquility/tranquility/PairTableGetPinLaw" = true := by first | (simp [plainName, overriddenIn]; done) | decide +kernel
def Q0 (Z : State) (u0 : Int32) (u1 : Int32) (u2 : Int32) (u3 : Int32) (u4 : Int32) (u5 : Int32)  (h0 : Heap) (n0 : Nat) (v : Option Value) (h : Heap) (L : List Loc) : Prop := v = some (.int 1) ∧ Fr n0 L
theorem ef_rm0 (m : MethodId) (u0 : Int32) (u1 : Int32) (u2 : Int32) (u3 : Int32) (u4 : Int32) (u5 : Int32) : entryFrame m #[(.int u0), (.int u1), (.int u2), (.int u3), (.int u4), (.int u5)] maxLocals = mkF m 0 #[iv u0, iv u1, iv u2, iv u3, iv u4, iv u5, .unset, .unset, .unset, .unset, .unset, .unset, .unset] [] := by first | (simp [entryFrame, mkF, argsToLocals, Value.category, maxLocals]; done) | rfl
set_option maxRecDepth 65536 in
set_option maxHeartbeats 40000000 in
theorem rm0 (l : Launch) (Z : State) (a0 : Array Value) (hw : ∀ d ∈ tables_1, d.before a0 Z = true) (ws : List Jvm.Cond) (u0 : Int32) (u1 : Int32) (u2 : Int32) (u3 : Int32) (u4 : Int32) (u5 : Int32)  (h0 : Heap) (n0 : Nat) (Z0 : n0 ≤ h0.size) :
    MetFree l x (head1 (Jvm.Cond.code x code maxLocals ret :: ws) room_1) (fun a U => a = #[(.int u0), (.int u1), (.int u2), (.int u3), (.int u4), (.int u5)] ∧ Z.Warmed39 U.vm ∧ U.heap = h0) (fun _ _ _ _ _ => True) (fun _ U o U' => ∃ v L, o = .returned v ∧ Q0 Z u0 u1 u2 u3 u4 u5 h0 n0 v U'.heap L ∧ FrameEnd U o U' L room_1.cells room_1.slots) := by
  refine MetFree.of_bodySF (plainFor_of_name pn_2) hisR ?_
  intro p e s m args below meth c s₁ Bd hml0 hP hK
  obtain ⟨rfl, hZ, hh⟩ := hP
  have hx := Bd.exec
  have hby := Bd.bytes
  have hml : c.maxLocals = 13 := hml0
  have hown : s.vm.findClass "com/example/tranquility/tranquility/PairTableGetPinLaw" = some m.cls := findClass_of_methodNamed Bd.named
  have hnm := (name_of_methodNamed Bd.named Bd.method).1
  have X0 : Stand p l e room_1 s m #[(.int u0), (.int u1), (.int u2), (.int u3), (.int u4), (.int u5)] below meth c s₁ [] 0 0 := Stand.of_body Bd
  have e0 : s₁.heap = h0 := by rw [← hh, Bd.state]; rfl
  have N0 := Fr.nil n0
  have S0 : ∀ t, Steps p.tables e below (s₁.setTop (mkF m 0 #[iv u0, iv u1, iv u2, iv u3, iv u4, iv u5, .unset, .unset, .unset, .unset, .unset, .unset, .unset] [])) t → Steps p.tables e below (s₁.setTop (entryFrame m #[(.int u0), (.int u1), (.int u2), (.int u3), (.int u4), (.int u5)] maxLocals)) t := fun t k => castTop (ef_rm0 m u0 u1 u2 u3 u4 u5) k
  obtain ⟨T1, h1, X1, e1, E1, A1, D1, -, st1⟩ := newO X0 hx hZ hown (hw _ (List.mem_of_getElem? (i := 0) rfl)) (hw _ (List.mem_of_getElem? (i := 1) rfl)) (hw _ (List.mem_of_getElem? (i := 2) rfl)) e0 (g := (mkF m 0 #[iv u0, iv u1, iv u2, iv u3, iv u4, iv u5, .unset, .unset, .unset, .unset, .unset, .unset, .unset] [])) rfl (hb hby at_0) (by decide) (by decide)
  obtain ⟨b1, g1⟩ : ∃ z, z = h0.size := ⟨_, rfl⟩
  rw [← g1] at A1 D1 st1
  have ge_b1 : n0 ≤ b1 := Nat.le_trans Z0 (Nat.le_of_eq g1.symm)
  have F1_slots : Fld Z h1 b1 "com/example/tranquility/tranquility/PairTable" "slots" "[J" .null := D1 (Or.inr (hw _ (List.mem_of_getElem? (i := 24) rfl))) (ty := (.array .long)) (by decide)
  have F1_mask : Fld Z h1 b1 "com/example/tranquility/tranquility/PairTable" "mask" "I" (.int (0 : Int32)) := D1 (Or.inr (hw _ (List.mem_of_getElem? (i := 26) rfl))) (ty := .int) (by decide)
  have F1_shift : Fld Z h1 b1 "com/example/tranquility/tranquility/PairTable" "shift" "I" (.int (0 : Int32)) := D1 (Or.inr (hw _ (List.mem_of_getElem? (i := 31) rfl))) (ty := .int) (by decide)
  have Z1 : n0 ≤ h1.size := Nat.le_trans Z0 E1.1
  obtain ⟨_, _, ⟨T2, L2, k2, n2⟩, -, X2, ⟨Lc2, hQ2, l2, y2, z2⟩, st2⟩ := X1.specialBack hx (y := (⟨"com/example/tranquility/tranquility/PairTable", "<init>", "(I)V"⟩ : MethodName)) rfl hown (mvT hZ (hw _ (List.mem_of_getElem? (i := 3) rfl))) (mvT hZ (hw _ (List.mem_of_getElem? (i := 4) rfl))) (mvT hZ (hw _ (List.mem_of_getElem? (i := 5) rfl))) (by decide) (backOf (W := 1) (rmPT l Z a0 hw [] b1 h1 n0 Z1 A1 F1_slots F1_mask F1_shift ge_b1) hZ (hw _ (List.mem_of_getElem? (i := 5) rfl)) (hw _ (List.mem_of_getElem? (i := 2) rfl)) (by decide) (by decide)) (g := (mkF m 5 #[iv u0, iv u1, iv u2, iv u3, iv u4, iv u5, .unset, .unset, .unset, .unset, .unset, .unset, .unset] [(.int (2 : Int32)), (.ref b1), (.ref b1)])) rfl (by rw [hml]; rfl) (Steps.refl _) (a := b1) (argsL := [(.int (2 : Int32))]) (rest := [(.ref b1)]) (lenOf pd_5 rfl) rfl (by show 2 * 0 + _ ≤ _; exact Nat.le_of_eq rfl) (hb hby at_5) (fun _ _ => ⟨rfl, e1, (by decide : 1 + 1 ≤ _), (by decide : 3 + 8 ≤ _)⟩)
  dsimp only [Pt.U, Pt.locs, Pt.cells, Pt.slots] at X2 l2 y2 z2 st2 hQ2
  subst l2 y2 z2
  obtain ⟨rfl, Nq2, Zq2, Pq2⟩ := hQ2
  have N2 := Fr.app N0 Nq2
  obtain ⟨cq3, kq3, q3a, q3b, q3c⟩ := isOf hZ rfl Pq2.1
  obtain ⟨_, _, ⟨T3, L3, k3, n3⟩, -, X3, ⟨Lc3, hQ3, l3, y3, z3⟩, st3⟩ := X2.virtualBack hx (y := (⟨"com/example/tranquility/tranquility/PairTable", "add", "(II)I"⟩ : MethodName)) (z := (⟨"com/example/tranquility/tranquility/PairTable", "add", "(II)I"⟩ : MethodName)) hown (mvT hZ (hw _ (List.mem_of_getElem? (i := 34) rfl))) (mvT hZ (hw _ (List.mem_of_getElem? (i := 35) rfl))) (notFace_of_selects (args := #[]) (mvT hZ (hw _ (List.mem_of_getElem? (i := 37) rfl)))) (mvT hZ (hw _ (List.mem_of_getElem? (i := 37) rfl))) (mvT hZ (hw _ (List.mem_of_getElem? (i := 36) rfl))) (by decide) (backOf (W := 0) (rmAdd l Z a0 hw [] b1 (u1 &&& (2147483647 : Int32)) (u2 &&& (2147483647 : Int32)) T2.heap n0 Zq2 Pq2) hZ (hw _ (List.mem_of_getElem? (i := 38) rfl)) (hw _ (List.mem_of_getElem? (i := 2) rfl)) (by decide) (by decide)) q3a q3c (g := (mkF m 20 #[iv u0, iv u1, iv u2, iv u3, iv u4, iv u5, rv b1, .unset, .unset, .unset, .unset, .unset, .unset] [(.int (u2 &&& (2147483647 : Int32))), (.int (u1 &&& (2147483647 : Int32))), (.ref b1)])) rfl (by rw [hml]; rfl) (Steps.refl _) (argsL := [(.int (u1 &&& (2147483647 : Int32))), (.int (u2 &&& (2147483647 : Int32)))]) (rest := []) (lenOf pd_2 rfl) rfl (by show 2 * 0 + _ ≤ _; exact Nat.le_of_eq rfl) (hb hby at_20) (fun _ _ => ⟨rfl, rfl, (by decide : 2 + 0 ≤ _), (by decide : 11 + 0 ≤ _)⟩)
  dsimp only [Pt.U, Pt.locs, Pt.cells, Pt.slots] at X3 l3 y3 z3 st3 hQ3
  subst l3 y3 z3
  obtain ⟨psq3, rfl, Nq3, Zq3, hbq3, Pq3⟩ := hQ3
  have N3 := Fr.app N2 Nq3
  have S4 : ∀ t, Steps p.tables e below (T3.setTop (mkF m 30 #[iv u0, iv u1, iv u2, iv u3, iv u4, iv u5, rv b1, iv psq3, iv (u0 &&& (1 : Int32)), .unset, .unset, .unset, .unset] [])) t → Steps p.tables e below (s₁.setTop (entryFrame m #[(.int u0), (.int u1), (.int u2), (.int u3), (.int u4), (.int u5)] maxLocals)) t := by
    intro t k
    refine S0 t ?_
    show Steps p.tables e below (s₁.setTop (mkF m 0 #[iv u0, iv u1, iv u2, iv u3, iv u4, iv u5, .unset, .unset, .unset, .unset, .unset, .unset, .unset] [])) _
    refine st1 _ ?_
    show Steps p.tables e below (T1.setTop (mkF m 3 #[iv u0, iv u1, iv u2, iv u3, iv u4, iv u5, .unset, .unset, .unset, .unset, .unset, .unset, .unset] [(.ref b1)])) _
    refine XS.dup X1.here hx rfl (hb hby at_3) rfl rfl ?_
    show Steps p.tables e below (T1.setTop (mkF m 4 #[iv u0, iv u1, iv u2, iv u3, iv u4, iv u5, .unset, .unset, .unset, .unset, .unset, .unset, .unset] [(.ref b1), (.ref b1)])) _
    refine XS.iconst X1.here hx rfl (hb hby at_4) ?_
    show Steps p.tables e below (T1.setTop (mkF m 5 #[iv u0, iv u1, iv u2, iv u3, iv u4, iv u5, .unset, .unset, .unset, .unset, .unset, .unset, .unset] [(.int (2 : Int32)), (.ref b1), (.ref b1)])) _
    refine st2.trans ?_
    show Steps p.tables e below (T2.setTop (mkF m 8 #[iv u0, iv u1, iv u2, iv u3, iv u4, iv u5, .unset, .unset, .unset, .unset, .unset, .unset, .unset] [(.ref b1)])) _
    refine XS.astore X2.here hx rfl (hb hby at_8) rfl rfl (l' := #[iv u0, iv u1, iv u2, iv u3, iv u4, iv u5, rv b1, .unset, .unset, .unset, .unset, .unset, .unset]) rfl ?_
    show Steps p.tables e below (T2.setTop (mkF m 10 #[iv u0, iv u1, iv u2, iv u3, iv u4, iv u5, rv b1, .unset, .unset, .unset, .unset, .unset, .unset] [])) _
    refine XS.aload X2.here hx rfl (hb hby at_10) rfl rfl ?_
    show Steps p.tables e below (T2.setTop (mkF m 12 #[iv u0, iv u1, iv u2, iv u3, iv u4, iv u5, rv b1, .unset, .unset, .unset, .unset, .unset, .unset] [(.ref b1)])) _
    refine XS.iloadN X2.here hx rfl (hb hby at_12) rfl ?_
    show Steps p.tables e below (T2.setTop (mkF m 13 #[iv u0, iv u1, iv u2, iv u3, iv u4, iv u5, rv b1, .unset, .unset, .unset, .unset, .unset, .unset] [(.int u1), (.ref b1)])) _
    refine X2.ldcInt hx hown (mvT hZ (hw _ (List.mem_of_getElem? (i := 33) rfl))) (g := (mkF m 13 #[iv u0, iv u1, iv u2, iv u3, iv u4, iv u5, rv b1, .unset, .unset, .unset, .unset, .unset, .unset] [(.int u1), (.ref b1)])) rfl (hb hby at_13) _ ?_
    show Steps p.tables e below (T2.setTop (mkF m 15 #[iv u0, iv u1, iv u2, iv u3, iv u4, iv u5, rv b1, .unset, .unset, .unset, .unset, .unset, .unset] [(.int (2147483647 : Int32)), (.int u1), (.ref b1)])) _
    refine XS.iand X2.here hx rfl (hb hby at_15) rfl ?_
    show Steps p.tables e below (T2.setTop (mkF m 16 #[iv u0, iv u1, iv u2, iv u3, iv u4, iv u5, rv b1, .unset, .unset, .unset, .unset, .unset, .unset] [(.int (u1 &&& (2147483647 : Int32))), (.ref b1)])) _
    refine XS.iloadN X2.here hx rfl (hb hby at_16) rfl ?_
    show Steps p.tables e below (T2.setTop (mkF m 17 #[iv u0, iv u1, iv u2, iv u3, iv u4, iv u5, rv b1, .unset, .unset, .unset, .unset, .unset, .unset] [(.int u2), (.int (u1 &&& (2147483647 : Int32))), (.ref b1)])) _
    refine X2.ldcInt hx hown (mvT hZ (hw _ (List.mem_of_getElem? (i := 33) rfl))) (g := (mkF m 17 #[iv u0, iv u1, iv u2, iv u3, iv u4, iv u5, rv b1, .unset, .unset, .unset, .unset, .unset, .unset] [(.int u2), (.int (u1 &&& (2147483647 : Int32))), (.ref b1)])) rfl (hb hby at_17) _ ?_
    show Steps p.tables e below (T2.setTop (mkF m 19 #[iv u0, iv u1, iv u2, iv u3, iv u4, iv u5, rv b1, .unset, .unset, .unset, .unset, .unset, .unset] [(.int (2147483647 : Int32)), (.int u2), (.int (u1 &&& (2147483647 : Int32))), (.ref b1)])) _
    refine XS.iand X2.here hx rfl (hb hby at_19) rfl ?_
    show Steps p.tables e below (T2.setTop (mkF m 20 #[iv u0, iv u1, iv u2, iv u3, iv u4, iv u5, rv b1, .unset, .unset, .unset, .unset, .unset, .unset] [(.int (u2 &&& (2147483647 : Int32))), (.int (u1 &&& (2147483647 : Int32))), (.ref b1)])) _
    refine st3.trans ?_
    show Steps p.tables e below (T3.setTop (mkF m 23 #[iv u0, iv u1, iv u2, iv u3, iv u4, iv u5, rv b1, .unset, .unset, .unset, .unset, .unset, .unset] [(.int psq3)])) _
    refine XS.istore X3.here hx rfl (hb hby at_23) rfl (l' := #[iv u0, iv u1, iv u2, iv u3, iv u4, iv u5, rv b1, iv psq3, .unset, .unset, .unset, .unset, .unset]) rfl ?_
    show Steps p.tables e below (T3.setTop (mkF m 25 #[iv u0, iv u1, iv u2, iv u3, iv u4, iv u5, rv b1, iv psq3, .unset, .unset, .unset, .unset, .unset] [])) _
    refine XS.iloadN X3.here hx rfl (hb hby at_25) rfl ?_
    show Steps p.tables e below (T3.setTop (mkF m 26 #[iv u0, iv u1, iv u2, iv u3, iv u4, iv u5, rv b1, iv psq3, .unset, .unset, .unset, .unset, .unset] [(.int u0)])) _
    refine XS.iconst X3.here hx rfl (hb hby at_26) ?_
    show Steps p.tables e below (T3.setTop (mkF m 27 #[iv u0, iv u1, iv u2, iv u3, iv u4, iv u5, rv b1, iv psq3, .unset, .unset, .unset, .unset, .unset] [(.int (1 : Int32)), (.int u0)])) _
    refine XS.iand X3.here hx rfl (hb hby at_27) rfl ?_
    show Steps p.tables e below (T3.setTop (mkF m 28 #[iv u0, iv u1, iv u2, iv u3, iv u4, iv u5, rv b1, iv psq3, .unset, .unset, .unset, .unset, .unset] [(.int (u0 &&& (1 : Int32)))])) _
    refine XS.istore X3.here hx rfl (hb hby at_28) rfl (l' := #[iv u0, iv u1, iv u2, iv u3, iv u4, iv u5, rv b1, iv psq3, iv (u0 &&& (1 : Int32)), .unset, .unset, .unset, .unset]) rfl ?_
    exact k
  rcases own_b01 u0 with hk | hk
  · skip
    rw [hk] at S4
    obtain ⟨cq5, kq5, q5a, q5b, q5c⟩ := isOf hZ rfl Pq3.1
    obtain ⟨_, _, ⟨T5, L5, k5, n5⟩, -, X5, ⟨Lc5, hQ5, l5, y5, z5⟩, st5⟩ := X3.virtualBack hx (y := (⟨"com/example/tranquility/tranquility/PairTable", "get", "(II)I"⟩ : MethodName)) (z := (⟨"com/example/tranquility/tranquility/PairTable", "get", "(II)I"⟩ : MethodName)) hown (mvT hZ (hw _ (List.mem_of_getElem? (i := 51) rfl))) (mvT hZ (hw _ (List.mem_of_getElem? (i := 52) rfl))) (notFace_of_selects (args := #[]) (mvT hZ (hw _ (List.mem_of_getElem? (i := 54) rfl)))) (mvT hZ (hw _ (List.mem_of_getElem? (i := 54) rfl))) (mvT hZ (hw _ (List.mem_of_getElem? (i := 53) rfl))) (by decide) (backOf (W := 0) (rmGet l Z a0 hw [] b1 psq3 (0 : Int32) (0 : Int64) T3.heap n0 Zq3 Pq3 hbq3) hZ (hw _ (List.mem_of_getElem? (i := 55) rfl)) (hw _ (List.mem_of_getElem? (i := 2) rfl)) (by decide) (by decide)) q5a q5c (g := (mkF m 42 #[iv u0, iv u1, iv u2, iv u3, iv u4, iv u5, rv b1, iv psq3, iv (0 : Int32), iv (1 : Int32), .unset, .unset, .unset] [(.int (0 : Int32)), (.int psq3), (.ref b1)])) rfl (by rw [hml]; rfl) (Steps.refl _) (argsL := [(.int psq3), (.int (0 : Int32))]) (rest := []) (lenOf pd_2 rfl) rfl (by show 2 * 0 + _ ≤ _; exact Nat.le_of_eq rfl) (hb hby at_42) (fun _ _ => ⟨rfl, rfl, (by decide : 2 + 0 ≤ _), (by decide : 11 + 0 ≤ _)⟩)
    dsimp only [Pt.U, Pt.locs, Pt.cells, Pt.slots] at X5 l5 y5 z5 st5 hQ5
    subst l5 y5 z5
    obtain ⟨rfl, Nq5, eq5⟩ := hQ5
    have N5 := Fr.app N3 Nq5
    obtain ⟨cq6, kq6, q6a, q6b, q6c⟩ := isOf hZ eq5 Pq3.1
    obtain ⟨_, _, ⟨T6, L6, k6, n6⟩, -, X6, ⟨Lc6, hQ6, l6, y6, z6⟩, st6⟩ := X5.virtualBack hx (y := (⟨"com/example/tranquility/tranquility/PairTable", "set", "(III)V"⟩ : MethodName)) (z := (⟨"com/example/tranquility/tranquility/PairTable", "set", "(III)V"⟩ : MethodName)) hown (mvT hZ (hw _ (List.mem_of_getElem? (i := 56) rfl))) (mvT hZ (hw _ (List.mem_of_getElem? (i := 57) rfl))) (notFace_of_selects (args := #[]) (mvT hZ (hw _ (List.mem_of_getElem? (i := 59) rfl)))) (mvT hZ (hw _ (List.mem_of_getElem? (i := 59) rfl))) (mvT hZ (hw _ (List.mem_of_getElem? (i := 58) rfl))) (by decide) (backOf (W := 0) (rmSet l Z a0 hw [] b1 psq3 (0 : Int32) u3 (0 : Int64) T3.heap n0 Zq3 Pq3 hbq3) hZ (hw _ (List.mem_of_getElem? (i := 60) rfl)) (hw _ (List.mem_of_getElem? (i := 2) rfl)) (by decide) (by decide)) q6a q6c (g := (mkF m 62 #[iv u0, iv u1, iv u2, iv u3, iv u4, iv u5, rv b1, iv psq3, iv (0 : Int32), iv (1 : Int32), iv (1 : Int32), .unset, .unset] [(.int u3), (.int (0 : Int32)), (.int psq3), (.ref b1)])) rfl (by rw [hml]; rfl) (Steps.refl _) (argsL := [(.int psq3), (.int (0 : Int32)), (.int u3)]) (rest := []) (lenOf pd_6 rfl) rfl (by show 2 * 0 + _ ≤ _; exact Nat.le_of_eq rfl) (hb hby at_62) (fun _ _ => ⟨rfl, eq5, (by decide : 2 + 0 ≤ _), (by decide : 11 + 0 ≤ _)⟩)
    dsimp only [Pt.U, Pt.locs, Pt.cells, Pt.slots] at X6 l6 y6 z6 st6 hQ6
    subst l6 y6 z6
    obtain ⟨rfl, Nq6, Zq6, Pq6⟩ := hQ6
    have N6 := Fr.app N5 Nq6
    obtain ⟨cq7, kq7, q7a, q7b, q7c⟩ := isOf hZ rfl Pq6.1
    obtain ⟨_, _, ⟨T7, L7, k7, n7⟩, -, X7, ⟨Lc7, hQ7, l7, y7, z7⟩, st7⟩ := X6.virtualBack hx (y := (⟨"com/example/tranquility/tranquility/PairTable", "set", "(III)V"⟩ : MethodName)) (z := (⟨"com/example/tranquility/tranquility/PairTable", "set", "(III)V"⟩ : MethodName)) hown (mvT hZ (hw _ (List.mem_of_getElem? (i := 56) rfl))) (mvT hZ (hw _ (List.mem_of_getElem? (i := 57) rfl))) (notFace_of_selects (args := #[]) (mvT hZ (hw _ (List.mem_of_getElem? (i := 59) rfl)))) (mvT hZ (hw _ (List.mem_of_getElem? (i := 59) rfl))) (mvT hZ (hw _ (List.mem_of_getElem? (i := 58) rfl))) (by decide) (backOf (W := 0) (rmSet l Z a0 hw [] b1 psq3 (1 : Int32) u4 (own_set (0 : Int64) (0 : Int32) u3) T6.heap n0 Zq6 Pq6 hbq3) hZ (hw _ (List.mem_of_getElem? (i := 60) rfl)) (hw _ (List.mem_of_getElem? (i := 2) rfl)) (by decide) (by decide)) q7a q7c (g := (mkF m 73 #[iv u0, iv u1, iv u2, iv u3, iv u4, iv u5, rv b1, iv psq3, iv (0 : Int32), iv (1 : Int32), iv (1 : Int32), .unset, .unset] [(.int u4), (.int (1 : Int32)), (.int psq3), (.ref b1)])) rfl (by rw [hml]; rfl) (Steps.refl _) (argsL := [(.int psq3), (.int (1 : Int32)), (.int u4)]) (rest := []) (lenOf pd_6 rfl) rfl (by show 2 * 0 + _ ≤ _; exact Nat.le_of_eq rfl) (hb hby at_73) (fun _ _ => ⟨rfl, rfl, (by decide : 2 + 0 ≤ _), (by decide : 11 + 0 ≤ _)⟩)
    dsimp only [Pt.U, Pt.locs, Pt.cells, Pt.slots] at X7 l7 y7 z7 st7 hQ7
    subst l7 y7 z7
    obtain ⟨rfl, Nq7, Zq7, Pq7⟩ := hQ7
    have N7 := Fr.app N6 Nq7
    obtain ⟨cq8, kq8, q8a, q8b, q8c⟩ := isOf hZ rfl Pq7.1
    obtain ⟨_, _, ⟨T8, L8, k8, n8⟩, -, X8, ⟨Lc8, hQ8, l8, y8, z8⟩, st8⟩ := X7.virtualBack hx (y := (⟨"com/example/tranquility/tranquility/PairTable", "get", "(II)I"⟩ : MethodName)) (z := (⟨"com/example/tranquility/tranquility/PairTable", "get", "(II)I"⟩ : MethodName)) hown (mvT hZ (hw _ (List.mem_of_getElem? (i := 51) rfl))) (mvT hZ (hw _ (List.mem_of_getElem? (i := 52) rfl))) (notFace_of_selects (args := #[]) (mvT hZ (hw _ (List.mem_of_getElem? (i := 54) rfl)))) (mvT hZ (hw _ (List.mem_of_getElem? (i := 54) rfl))) (mvT hZ (hw _ (List.mem_of_getElem? (i := 53) rfl))) (by decide) (backOf (W := 0) (rmGet l Z a0 hw [] b1 psq3 (0 : Int32) (own_set (own_set (0 : Int64) (0 : Int32) u3) (1 : Int32) u4) T7.heap n0 Zq7 Pq7 hbq3) hZ (hw _ (List.mem_of_getElem? (i := 55) rfl)) (hw _ (List.mem_of_getElem? (i := 2) rfl)) (by decide) (by decide)) q8a q8c (g := (mkF m 82 #[iv u0, iv u1, iv u2, iv u3, iv u4, iv u5, rv b1, iv psq3, iv (0 : Int32), iv (1 : Int32), iv (1 : Int32), .unset, .unset] [(.int (0 : Int32)), (.int psq3), (.ref b1)])) rfl (by rw [hml]; rfl) (Steps.refl _) (argsL := [(.int psq3), (.int (0 : Int32))]) (rest := []) (lenOf pd_2 rfl) rfl (by show 2 * 0 + _ ≤ _; exact Nat.le_of_eq rfl) (hb hby at_82) (fun _ _ => ⟨rfl, rfl, (by decide : 2 + 0 ≤ _), (by decide : 11 + 0 ≤ _)⟩)
    dsimp only [Pt.U, Pt.locs, Pt.cells, Pt.slots] at X8 l8 y8 z8 st8 hQ8
    subst l8 y8 z8
    obtain ⟨rfl, Nq8, eq8⟩ := hQ8
    have N8 := Fr.app N7 Nq8
    obtain ⟨cq9, kq9, q9a, q9b, q9c⟩ := isOf hZ eq8 Pq7.1
    obtain ⟨_, _, ⟨T9, L9, k9, n9⟩, -, X9, ⟨Lc9, hQ9, l9, y9, z9⟩, st9⟩ := X8.virtualBack hx (y := (⟨"com/example/tranquility/tranquility/PairTable", "get", "(II)I"⟩ : MethodName)) (z := (⟨"com/example/tranquility/tranquility/PairTable", "get", "(II)I"⟩ : MethodName)) hown (mvT hZ (hw _ (List.mem_of_getElem? (i := 51) rfl))) (mvT hZ (hw _ (List.mem_of_getElem? (i := 52) rfl))) (notFace_of_selects (args := #[]) (mvT hZ (hw _ (List.mem_of_getElem? (i := 54) rfl)))) (mvT hZ (hw _ (List.mem_of_getElem? (i := 54) rfl))) (mvT hZ (hw _ (List.mem_of_getElem? (i := 53) rfl))) (by decide) (backOf (W := 0) (rmGet l Z a0 hw [] b1 psq3 (1 : Int32) (own_set (own_set (0 : Int64) (0 : Int32) u3) (1 : Int32) u4) T7.heap n0 Zq7 Pq7 hbq3) hZ (hw _ (List.mem_of_getElem? (i := 55) rfl)) (hw _ (List.mem_of_getElem? (i := 2) rfl)) (by decide) (by decide)) q9a q9c (g := (mkF m 95 #[iv u0, iv u1, iv u2, iv u3, iv u4, iv u5, rv b1, iv psq3, iv (0 : Int32), iv (1 : Int32), iv (1 : Int32), .unset, .unset] [(.int (1 : Int32)), (.int psq3), (.ref b1)])) rfl (by rw [hml]; rfl) (Steps.refl _) (argsL := [(.int psq3), (.int (1 : Int32))]) (rest := []) (lenOf pd_2 rfl) rfl (by show 2 * 0 + _ ≤ _; exact Nat.le_of_eq rfl) (hb hby at_95) (fun _ _ => ⟨rfl, eq8, (by decide : 2 + 0 ≤ _), (by decide : 11 + 0 ≤ _)⟩)
    dsimp only [Pt.U, Pt.locs, Pt.cells, Pt.slots] at X9 l9 y9 z9 st9 hQ9
    subst l9 y9 z9
    obtain ⟨rfl, Nq9, eq9⟩ := hQ9
    have N9 := Fr.app N8 Nq9
    obtain ⟨cq10, kq10, q10a, q10b, q10c⟩ := isOf hZ eq9 Pq7.1
    obtain ⟨_, _, ⟨T10, L10, k10, n10⟩, -, X10, ⟨Lc10, hQ10, l10, y10, z10⟩, st10⟩ := X9.virtualBack hx (y := (⟨"com/example/tranquility/tranquility/PairTable", "set", "(III)V"⟩ : MethodName)) (z := (⟨"com/example/tranquility/tranquility/PairTable", "set", "(III)V"⟩ : MethodName)) hown (mvT hZ (hw _ (List.mem_of_getElem? (i := 56) rfl))) (mvT hZ (hw _ (List.mem_of_getElem? (i := 57) rfl))) (notFace_of_selects (args := #[]) (mvT hZ (hw _ (List.mem_of_getElem? (i := 59) rfl)))) (mvT hZ (hw _ (List.mem_of_getElem? (i := 59) rfl))) (mvT hZ (hw _ (List.mem_of_getElem? (i := 58) rfl))) (by decide) (backOf (W := 0) (rmSet l Z a0 hw [] b1 psq3 (0 : Int32) u5 (own_set (own_set (0 : Int64) (0 : Int32) u3) (1 : Int32) u4) T7.heap n0 Zq7 Pq7 hbq3) hZ (hw _ (List.mem_of_getElem? (i := 60) rfl)) (hw _ (List.mem_of_getElem? (i := 2) rfl)) (by decide) (by decide)) q10a q10c (g := (mkF m 118 #[iv u0, iv u1, iv u2, iv u3, iv u4, iv u5, rv b1, iv psq3, iv (0 : Int32), iv (1 : Int32), iv (1 : Int32), iv (1 : Int32), .unset] [(.int u5), (.int (0 : Int32)), (.int psq3), (.ref b1)])) rfl (by rw [hml]; rfl) (Steps.refl _) (argsL := [(.int psq3), (.int (0 : Int32)), (.int u5)]) (rest := []) (lenOf pd_6 rfl) rfl (by show 2 * 0 + _ ≤ _; exact Nat.le_of_eq rfl) (hb hby at_118) (fun _ _ => ⟨rfl, eq9, (by decide : 2 + 0 ≤ _), (by decide : 11 + 0 ≤ _)⟩)
    dsimp only [Pt.U, Pt.locs, Pt.cells, Pt.slots] at X10 l10 y10 z10 st10 hQ10
    subst l10 y10 z10
    obtain ⟨rfl, Nq10, Zq10, Pq10⟩ := hQ10
    have N10 := Fr.app N9 Nq10
    obtain ⟨cq11, kq11, q11a, q11b, q11c⟩ := isOf hZ rfl Pq10.1
    obtain ⟨_, _, ⟨T11, L11, k11, n11⟩, -, X11, ⟨Lc11, hQ11, l11, y11, z11⟩, st11⟩ := X10.virtualBack hx (y := (⟨"com/example/tranquility/tranquility/PairTable", "get", "(II)I"⟩ : MethodName)) (z := (⟨"com/example/tranquility/tranquility/PairTable", "get", "(II)I"⟩ : MethodName)) hown (mvT hZ (hw _ (List.mem_of_getElem? (i := 51) rfl))) (mvT hZ (hw _ (List.mem_of_getElem? (i := 52) rfl))) (notFace_of_selects (args := #[]) (mvT hZ (hw _ (List.mem_of_getElem? (i := 54) rfl)))) (mvT hZ (hw _ (List.mem_of_getElem? (i := 54) rfl))) (mvT hZ (hw _ (List.mem_of_getElem? (i := 53) rfl))) (by decide) (backOf (W := 0) (rmGet l Z a0 hw [] b1 psq3 (0 : Int32) (own_set (own_set (own_set (0 : Int64) (0 : Int32) u3) (1 : Int32) u4) (0 : Int32) u5) T10.heap n0 Zq10 Pq10 hbq3) hZ (hw _ (List.mem_of_getElem? (i := 55) rfl)) (hw _ (List.mem_of_getElem? (i := 2) rfl)) (by decide) (by decide)) q11a q11c (g := (mkF m 127 #[iv u0, iv u1, iv u2, iv u3, iv u4, iv u5, rv b1, iv psq3, iv (0 : Int32), iv (1 : Int32), iv (1 : Int32), iv (1 : Int32), .unset] [(.int (0 : Int32)), (.int psq3), (.ref b1)])) rfl (by rw [hml]; rfl) (Steps.refl _) (argsL := [(.int psq3), (.int (0 : Int32))]) (rest := []) (lenOf pd_2 rfl) rfl (by show 2 * 0 + _ ≤ _; exact Nat.le_of_eq rfl) (hb hby at_127) (fun _ _ => ⟨rfl, rfl, (by decide : 2 + 0 ≤ _), (by decide : 11 + 0 ≤ _)⟩)
    dsimp only [Pt.U, Pt.locs, Pt.cells, Pt.slots] at X11 l11 y11 z11 st11 hQ11
    subst l11 y11 z11
    obtain ⟨rfl, Nq11, eq11⟩ := hQ11
    have N11 := Fr.app N10 Nq11
    obtain ⟨cq12, kq12, q12a, q12b, q12c⟩ := isOf hZ eq11 Pq10.1
    obtain ⟨_, _, ⟨T12, L12, k12, n12⟩, -, X12, ⟨Lc12, hQ12, l12, y12, z12⟩, st12⟩ := X11.virtualBack hx (y := (⟨"com/example/tranquility/tranquility/PairTable", "get", "(II)I"⟩ : MethodName)) (z := (⟨"com/example/tranquility/tranquility/PairTable", "get", "(II)I"⟩ : MethodName)) hown (mvT hZ (hw _ (List.mem_of_getElem? (i := 51) rfl))) (mvT hZ (hw _ (List.mem_of_getElem? (i := 52) rfl))) (notFace_of_selects (args := #[]) (mvT hZ (hw _ (List.mem_of_getElem? (i := 54) rfl)))) (mvT hZ (hw _ (List.mem_of_getElem? (i := 54) rfl))) (mvT hZ (hw _ (List.mem_of_getElem? (i := 53) rfl))) (by decide) (backOf (W := 0) (rmGet l Z a0 hw [] b1 psq3 (1 : Int32) (own_set (own_set (own_set (0 : Int64) (0 : Int32) u3) (1 : Int32) u4) (0 : Int32) u5) T10.heap n0 Zq10 Pq10 hbq3) hZ (hw _ (List.mem_of_getElem? (i := 55) rfl)) (hw _ (List.mem_of_getElem? (i := 2) rfl)) (by decide) (by decide)) q12a q12c (g := (mkF m 141 #[iv u0, iv u1, iv u2, iv u3, iv u4, iv u5, rv b1, iv psq3, iv (0 : Int32), iv (1 : Int32), iv (1 : Int32), iv (1 : Int32), .unset] [(.int (1 : Int32)), (.int psq3), (.ref b1)])) rfl (by rw [hml]; rfl) (Steps.refl _) (argsL := [(.int psq3), (.int (1 : Int32))]) (rest := []) (lenOf pd_2 rfl) rfl (by show 2 * 0 + _ ≤ _; exact Nat.le_of_eq rfl) (hb hby at_141) (fun _ _ => ⟨rfl, eq11, (by decide : 2 + 0 ≤ _), (by decide : 11 + 0 ≤ _)⟩)
    dsimp only [Pt.U, Pt.locs, Pt.cells, Pt.slots] at X12 l12 y12 z12 st12 hQ12
    subst l12 y12 z12
    obtain ⟨rfl, Nq12, eq12⟩ := hQ12
    have N12 := Fr.app N11 Nq12
    obtain ⟨fs, hr, hrun, hended, hW, hsame⟩ := X12.leave (v := some (.int (1 : Int32))) (fun h => by rw [Bd.returns] at h; cases h)
    refine ⟨_, _, S4 _ ?_, hrun, hended, _, _, rfl, ?_, ⟨_, rfl⟩, hW, hsame.mono (by decide) (by decide)⟩
    · skip
      show Steps p.tables e below (T3.setTop (mkF m 30 #[iv u0, iv u1, iv u2, iv u3, iv u4, iv u5, rv b1, iv psq3, iv (0 : Int32), .unset, .unset, .unset, .unset] [])) _
      refine XS.iconst X3.here hx rfl (hb hby at_30) ?_
      show Steps p.tables e below (T3.setTop (mkF m 31 #[iv u0, iv u1, iv u2, iv u3, iv u4, iv u5, rv b1, iv psq3, iv (0 : Int32), .unset, .unset, .unset, .unset] [(.int (1 : Int32))])) _
      refine XS.iload X3.here hx rfl (hb hby at_31) rfl ?_
      show Steps p.tables e below (T3.setTop (mkF m 33 #[iv u0, iv u1, iv u2, iv u3, iv u4, iv u5, rv b1, iv psq3, iv (0 : Int32), .unset, .unset, .unset, .unset] [(.int (0 : Int32)), (.int (1 : Int32))])) _
      refine XS.isub X3.here hx rfl (hb hby at_33) rfl ?_
      show Steps p.tables e below (T3.setTop (mkF m 34 #[iv u0, iv u1, iv u2, iv u3, iv u4, iv u5, rv b1, iv psq3, iv (0 : Int32), .unset, .unset, .unset, .unset] [(.int (1 : Int32))])) _
      refine XS.istore X3.here hx rfl (hb hby at_34) rfl (l' := #[iv u0, iv u1, iv u2, iv u3, iv u4, iv u5, rv b1, iv psq3, iv (0 : Int32), iv (1 : Int32), .unset, .unset, .unset]) rfl ?_
      show Steps p.tables e below (T3.setTop (mkF m 36 #[iv u0, iv u1, iv u2, iv u3, iv u4, iv u5, rv b1, iv psq3, iv (0 : Int32), iv (1 : Int32), .unset, .unset, .unset] [])) _
      refine XS.aload X3.here hx rfl (hb hby at_36) rfl rfl ?_
      show Steps p.tables e below (T3.setTop (mkF m 38 #[iv u0, iv u1, iv u2, iv u3, iv u4, iv u5, rv b1, iv psq3, iv (0 : Int32), iv (1 : Int32), .unset, .unset, .unset] [(.ref b1)])) _
      refine XS.iload X3.here hx rfl (hb hby at_38) rfl ?_
      show Steps p.tables e below (T3.setTop (mkF m 40 #[iv u0, iv u1, iv u2, iv u3, iv u4, iv u5, rv b1, iv psq3, iv (0 : Int32), iv (1 : Int32), .unset, .unset, .unset] [(.int psq3), (.ref b1)])) _
      refine XS.iload X3.here hx rfl (hb hby at_40) rfl ?_
      show Steps p.tables e below (T3.setTop (mkF m 42 #[iv u0, iv u1, iv u2, iv u3, iv u4, iv u5, rv b1, iv psq3, iv (0 : Int32), iv (1 : Int32), .unset, .unset, .unset] [(.int (0 : Int32)), (.int psq3), (.ref b1)])) _
      refine st5.trans ?_
      show Steps p.tables e below (T5.setTop (mkF m 45 #[iv u0, iv u1, iv u2, iv u3, iv u4, iv u5, rv b1, iv psq3, iv (0 : Int32), iv (1 : Int32), .unset, .unset, .unset] [(.int (own_get (0 : Int64) (0 : Int32)))])) _
      refine XS.ifNo X5.here hx rfl (hb hby at_45) rfl ((if0 _ _).trans (teq (by decide)).2) ?_
      show Steps p.tables e below (T5.setTop (mkF m 48 #[iv u0, iv u1, iv u2, iv u3, iv u4, iv u5, rv b1, iv psq3, iv (0 : Int32), iv (1 : Int32), .unset, .unset, .unset] [])) _
      refine XS.iconst X5.here hx rfl (hb hby at_48) ?_
      show Steps p.tables e below (T5.setTop (mkF m 49 #[iv u0, iv u1, iv u2, iv u3, iv u4, iv u5, rv b1, iv psq3, iv (0 : Int32), iv (1 : Int32), .unset, .unset, .unset] [(.int (1 : Int32))])) _
      refine XS.goto X5.here hx rfl (pc0 := 49) (pc' := 53) rfl (hb hby at_49) (by decide) (by decide) ?_
      show Steps p.tables e below (T5.setTop (mkF m 53 #[iv u0, iv u1, iv u2, iv u3, iv u4, iv u5, rv b1, iv psq3, iv (0 : Int32), iv (1 : Int32), .unset, .unset, .unset] [(.int (1 : Int32))])) _
      refine XS.istore X5.here hx rfl (hb hby at_53) rfl (l' := #[iv u0, iv u1, iv u2, iv u3, iv u4, iv u5, rv b1, iv psq3, iv (0 : Int32), iv (1 : Int32), iv (1 : Int32), .unset, .unset]) rfl ?_
      show Steps p.tables e below (T5.setTop (mkF m 55 #[iv u0, iv u1, iv u2, iv u3, iv u4, iv u5, rv b1, iv psq3, iv (0 : Int32), iv (1 : Int32), iv (1 : Int32), .unset, .unset] [])) _
      refine XS.aload X5.here hx rfl (hb hby at_55) rfl rfl ?_
      show Steps p.tables e below (T5.setTop (mkF m 57 #[iv u0, iv u1, iv u2, iv u3, iv u4, iv u5, rv b1, iv psq3, iv (0 : Int32), iv (1 : Int32), iv (1 : Int32), .unset, .unset] [(.ref b1)])) _
      refine XS.iload X5.here hx rfl (hb hby at_57) rfl ?_
      show Steps p.tables e below (T5.setTop (mkF m 59 #[iv u0, iv u1, iv u2, iv u3, iv u4, iv u5, rv b1, iv psq3, iv (0 : Int32), iv (1 : Int32), iv (1 : Int32), .unset, .unset] [(.int psq3), (.ref b1)])) _
      refine XS.iload X5.here hx rfl (hb hby at_59) rfl ?_
      show Steps p.tables e below (T5.setTop (mkF m 61 #[iv u0, iv u1, iv u2, iv u3, iv u4, iv u5, rv b1, iv psq3, iv (0 : Int32), iv (1 : Int32), iv (1 : Int32), .unset, .unset] [(.int (0 : Int32)), (.int psq3), (.ref b1)])) _
      refine XS.iloadN X5.here hx rfl (hb hby at_61) rfl ?_
      show Steps p.tables e below (T5.setTop (mkF m 62 #[iv u0, iv u1, iv u2, iv u3, iv u4, iv u5, rv b1, iv psq3, iv (0 : Int32), iv (1 : Int32), iv (1 : Int32), .unset, .unset] [(.int u3), (.int (0 : Int32)), (.int psq3), (.ref b1)])) _
      refine st6.trans ?_
      show Steps p.tables e below (T6.setTop (mkF m 65 #[iv u0, iv u1, iv u2, iv u3, iv u4, iv u5, rv b1, iv psq3, iv (0 : Int32), iv (1 : Int32), iv (1 : Int32), .unset, .unset] [])) _
      refine XS.aload X6.here hx rfl (hb hby at_65) rfl rfl ?_
      show Steps p.tables e below (T6.setTop (mkF m 67 #[iv u0, iv u1, iv u2, iv u3, iv u4, iv u5, rv b1, iv psq3, iv (0 : Int32), iv (1 : Int32), iv (1 : Int32), .unset, .unset] [(.ref b1)])) _
      refine XS.iload X6.here hx rfl (hb hby at_67) rfl ?_
      show Steps p.tables e below (T6.setTop (mkF m 69 #[iv u0, iv u1, iv u2, iv u3, iv u4, iv u5, rv b1, iv psq3, iv (0 : Int32), iv (1 : Int32), iv (1 : Int32), .unset, .unset] [(.int psq3), (.ref b1)])) _
      refine XS.iload X6.here hx rfl (hb hby at_69) rfl ?_
      show Steps p.tables e below (T6.setTop (mkF m 71 #[iv u0, iv u1, iv u2, iv u3, iv u4, iv u5, rv b1, iv psq3, iv (0 : Int32), iv (1 : Int32), iv (1 : Int32), .unset, .unset] [(.int (1 : Int32)), (.int psq3), (.ref b1)])) _
      refine XS.iload X6.here hx rfl (hb hby at_71) rfl ?_
      show Steps p.tables e below (T6.setTop (mkF m 73 #[iv u0, iv u1, iv u2, iv u3, iv u4, iv u5, rv b1, iv psq3, iv (0 : Int32), iv (1 : Int32), iv (1 : Int32), .unset, .unset] [(.int u4), (.int (1 : Int32)), (.int psq3), (.ref b1)])) _
      refine st7.trans ?_
      show Steps p.tables e below (T7.setTop (mkF m 76 #[iv u0, iv u1, iv u2, iv u3, iv u4, iv u5, rv b1, iv psq3, iv (0 : Int32), iv (1 : Int32), iv (1 : Int32), .unset, .unset] [])) _
      refine XS.aload X7.here hx rfl (hb hby at_76) rfl rfl ?_
      show Steps p.tables e below (T7.setTop (mkF m 78 #[iv u0, iv u1, iv u2, iv u3, iv u4, iv u5, rv b1, iv psq3, iv (0 : Int32), iv (1 : Int32), iv (1 : Int32), .unset, .unset] [(.ref b1)])) _
      refine XS.iload X7.here hx rfl (hb hby at_78) rfl ?_
      show Steps p.tables e below (T7.setTop (mkF m 80 #[iv u0, iv u1, iv u2, iv u3, iv u4, iv u5, rv b1, iv psq3, iv (0 : Int32), iv (1 : Int32), iv (1 : Int32), .unset, .unset] [(.int psq3), (.ref b1)])) _
      refine XS.iload X7.here hx rfl (hb hby at_80) rfl ?_
      show Steps p.tables e below (T7.setTop (mkF m 82 #[iv u0, iv u1, iv u2, iv u3, iv u4, iv u5, rv b1, iv psq3, iv (0 : Int32), iv (1 : Int32), iv (1 : Int32), .unset, .unset] [(.int (0 : Int32)), (.int psq3), (.ref b1)])) _
      refine st8.trans ?_
      show Steps p.tables e below (T8.setTop (mkF m 85 #[iv u0, iv u1, iv u2, iv u3, iv u4, iv u5, rv b1, iv psq3, iv (0 : Int32), iv (1 : Int32), iv (1 : Int32), .unset, .unset] [(.int (own_get (own_set (own_set (0 : Int64) (0 : Int32) u3) (1 : Int32) u4) (0 : Int32)))])) _
      refine XS.iloadN X8.here hx rfl (hb hby at_85) rfl ?_
      show Steps p.tables e below (T8.setTop (mkF m 86 #[iv u0, iv u1, iv u2, iv u3, iv u4, iv u5, rv b1, iv psq3, iv (0 : Int32), iv (1 : Int32), iv (1 : Int32), .unset, .unset] [(.int u3), (.int (own_get (own_set (own_set (0 : Int64) (0 : Int32) u3) (1 : Int32) u4) (0 : Int32)))])) _
      refine XS.icmpNo X8.here hx rfl (hb hby at_86) rfl (teq (by rw [own_gs01]; exact own_gs0 _ _)).2 ?_
      show Steps p.tables e below (T8.setTop (mkF m 89 #[iv u0, iv u1, iv u2, iv u3, iv u4, iv u5, rv b1, iv psq3, iv (0 : Int32), iv (1 : Int32), iv (1 : Int32), .unset, .unset] [])) _
      refine XS.aload X8.here hx rfl (hb hby at_89) rfl rfl ?_
      show Steps p.tables e below (T8.setTop (mkF m 91 #[iv u0, iv u1, iv u2, iv u3, iv u4, iv u5, rv b1, iv psq3, iv (0 : Int32), iv (1 : Int32), iv (1 : Int32), .unset, .unset] [(.ref b1)])) _
      refine XS.iload X8.here hx rfl (hb hby at_91) rfl ?_
      show Steps p.tables e below (T8.setTop (mkF m 93 #[iv u0, iv u1, iv u2, iv u3, iv u4, iv u5, rv b1, iv psq3, iv (0 : Int32), iv (1 : Int32), iv (1 : Int32), .unset, .unset] [(.int psq3), (.ref b1)])) _
      refine XS.iload X8.here hx rfl (hb hby at_93) rfl ?_
      show Steps p.tables e below (T8.setTop (mkF m 95 #[iv u0, iv u1, iv u2, iv u3, iv u4, iv u5, rv b1, iv psq3, iv (0 : Int32), iv (1 : Int32), iv (1 : Int32), .unset, .unset] [(.int (1 : Int32)), (.int psq3), (.ref b1)])) _
      refine st9.trans ?_
      show Steps p.tables e below (T9.setTop (mkF m 98 #[iv u0, iv u1, iv u2, iv u3, iv u4, iv u5, rv b1, iv psq3, iv (0 : Int32), iv (1 : Int32), iv (1 : Int32), .unset, .unset] [(.int (own_get (own_set (own_set (0 : Int64) (0 : Int32) u3) (1 : Int32) u4) (1 : Int32)))])) _
      refine XS.iload X9.here hx rfl (hb hby at_98) rfl ?_
      show Steps p.tables e below (T9.setTop (mkF m 100 #[iv u0, iv u1, iv u2, iv u3, iv u4, iv u5, rv b1, iv psq3, iv (0 : Int32), iv (1 : Int32), iv (1 : Int32), .unset, .unset] [(.int u4), (.int (own_get (own_set (own_set (0 : Int64) (0 : Int32) u3) (1 : Int32) u4) (1 : Int32)))])) _
      refine XS.icmpNo X9.here hx rfl (hb hby at_100) rfl (teq (own_gs1 _ _)).2 ?_
      show Steps p.tables e below (T9.setTop (mkF m 103 #[iv u0, iv u1, iv u2, iv u3, iv u4, iv u5, rv b1, iv psq3, iv (0 : Int32), iv (1 : Int32), iv (1 : Int32), .unset, .unset] [])) _
      refine XS.iconst X9.here hx rfl (hb hby at_103) ?_
      show Steps p.tables e below (T9.setTop (mkF m 104 #[iv u0, iv u1, iv u2, iv u3, iv u4, iv u5, rv b1, iv psq3, iv (0 : Int32), iv (1 : Int32), iv (1 : Int32), .unset, .unset] [(.int (1 : Int32))])) _
      refine XS.goto X9.here hx rfl (pc0 := 104) (pc' := 108) rfl (hb hby at_104) (by decide) (by decide) ?_
      show Steps p.tables e below (T9.setTop (mkF m 108 #[iv u0, iv u1, iv u2, iv u3, iv u4, iv u5, rv b1, iv psq3, iv (0 : Int32), iv (1 : Int32), iv (1 : Int32), .unset, .unset] [(.int (1 : Int32))])) _
      refine XS.istore X9.here hx rfl (hb hby at_108) rfl (l' := #[iv u0, iv u1, iv u2, iv u3, iv u4, iv u5, rv b1, iv psq3, iv (0 : Int32), iv (1 : Int32), iv (1 : Int32), iv (1 : Int32), .unset]) rfl ?_
      show Steps p.tables e below (T9.setTop (mkF m 110 #[iv u0, iv u1, iv u2, iv u3, iv u4, iv u5, rv b1, iv psq3, iv (0 : Int32), iv (1 : Int32), iv (1 : Int32), iv (1 : Int32), .unset] [])) _
      refine XS.aload X9.here hx rfl (hb hby at_110) rfl rfl ?_
      show Steps p.tables e below (T9.setTop (mkF m 112 #[iv u0, iv u1, iv u2, iv u3, iv u4, iv u5, rv b1, iv psq3, iv (0 : Int32), iv (1 : Int32), iv (1 : Int32), iv (1 : Int32), .unset] [(.ref b1)])) _
      refine XS.iload X9.here hx rfl (hb hby at_112) rfl ?_
      show Steps p.tables e below (T9.setTop (mkF m 114 #[iv u0, iv u1, iv u2, iv u3, iv u4, iv u5, rv b1, iv psq3, iv (0 : Int32), iv (1 : Int32), iv (1 : Int32), iv (1 : Int32), .unset] [(.int psq3), (.ref b1)])) _
      refine XS.iload X9.here hx rfl (hb hby at_114) rfl ?_
      show Steps p.tables e below (T9.setTop (mkF m 116 #[iv u0, iv u1, iv u2, iv u3, iv u4, iv u5, rv b1, iv psq3, iv (0 : Int32), iv (1 : Int32), iv (1 : Int32), iv (1 : Int32), .unset] [(.int (0 : Int32)), (.int psq3), (.ref b1)])) _
      refine XS.iload X9.here hx rfl (hb hby at_116) rfl ?_
      show Steps p.tables e below (T9.setTop (mkF m 118 #[iv u0, iv u1, iv u2, iv u3, iv u4, iv u5, rv b1, iv psq3, iv (0 : Int32), iv (1 : Int32), iv (1 : Int32), iv (1 : Int32), .unset] [(.int u5), (.int (0 : Int32)), (.int psq3), (.ref b1)])) _
      refine st10.trans ?_
      show Steps p.tables e below (T10.setTop (mkF m 121 #[iv u0, iv u1, iv u2, iv u3, iv u4, iv u5, rv b1, iv psq3, iv (0 : Int32), iv (1 : Int32), iv (1 : Int32), iv (1 : Int32), .unset] [])) _
      refine XS.aload X10.here hx rfl (hb hby at_121) rfl rfl ?_
      show Steps p.tables e below (T10.setTop (mkF m 123 #[iv u0, iv u1, iv u2, iv u3, iv u4, iv u5, rv b1, iv psq3, iv (0 : Int32), iv (1 : Int32), iv (1 : Int32), iv (1 : Int32), .unset] [(.ref b1)])) _
      refine XS.iload X10.here hx rfl (hb hby at_123) rfl ?_
      show Steps p.tables e below (T10.setTop (mkF m 125 #[iv u0, iv u1, iv u2, iv u3, iv u4, iv u5, rv b1, iv psq3, iv (0 : Int32), iv (1 : Int32), iv (1 : Int32), iv (1 : Int32), .unset] [(.int psq3), (.ref b1)])) _
      refine XS.iload X10.here hx rfl (hb hby at_125) rfl ?_
      show Steps p.tables e below (T10.setTop (mkF m 127 #[iv u0, iv u1, iv u2, iv u3, iv u4, iv u5, rv b1, iv psq3, iv (0 : Int32), iv (1 : Int32), iv (1 : Int32), iv (1 : Int32), .unset] [(.int (0 : Int32)), (.int psq3), (.ref b1)])) _
      refine st11.trans ?_
      show Steps p.tables e below (T11.setTop (mkF m 130 #[iv u0, iv u1, iv u2, iv u3, iv u4, iv u5, rv b1, iv psq3, iv (0 : Int32), iv (1 : Int32), iv (1 : Int32), iv (1 : Int32), .unset] [(.int (own_get (own_set (own_set (own_set (0 : Int64) (0 : Int32) u3) (1 : Int32) u4) (0 : Int32) u5) (0 : Int32)))])) _
      refine XS.iload X11.here hx rfl (hb hby at_130) rfl ?_
      show Steps p.tables e below (T11.setTop (mkF m 132 #[iv u0, iv u1, iv u2, iv u3, iv u4, iv u5, rv b1, iv psq3, iv (0 : Int32), iv (1 : Int32), iv (1 : Int32), iv (1 : Int32), .unset] [(.int u5), (.int (own_get (own_set (own_set (own_set (0 : Int64) (0 : Int32) u3) (1 : Int32) u4) (0 : Int32) u5) (0 : Int32)))])) _
      refine XS.icmpNo X11.here hx rfl (hb hby at_132) rfl (teq (own_gs0 _ _)).2 ?_
      show Steps p.tables e below (T11.setTop (mkF m 135 #[iv u0, iv u1, iv u2, iv u3, iv u4, iv u5, rv b1, iv psq3, iv (0 : Int32), iv (1 : Int32), iv (1 : Int32), iv (1 : Int32), .unset] [])) _
      refine XS.aload X11.here hx rfl (hb hby at_135) rfl rfl ?_
      show Steps p.tables e below (T11.setTop (mkF m 137 #[iv u0, iv u1, iv u2, iv u3, iv u4, iv u5, rv b1, iv psq3, iv (0 : Int32), iv (1 : Int32), iv (1 : Int32), iv (1 : Int32), .unset] [(.ref b1)])) _
      refine XS.iload X11.here hx rfl (hb hby at_137) rfl ?_
      show Steps p.tables e below (T11.setTop (mkF m 139 #[iv u0, iv u1, iv u2, iv u3, iv u4, iv u5, rv b1, iv psq3, iv (0 : Int32), iv (1 : Int32), iv (1 : Int32), iv (1 : Int32), .unset] [(.int psq3), (.ref b1)])) _
      refine XS.iload X11.here hx rfl (hb hby at_139) rfl ?_
      show Steps p.tables e below (T11.setTop (mkF m 141 #[iv u0, iv u1, iv u2, iv u3, iv u4, iv u5, rv b1, iv psq3, iv (0 : Int32), iv (1 : Int32), iv (1 : Int32), iv (1 : Int32), .unset] [(.int (1 : Int32)), (.int psq3), (.ref b1)])) _
      refine st12.trans ?_
      show Steps p.tables e below (T12.setTop (mkF m 144 #[iv u0, iv u1, iv u2, iv u3, iv u4, iv u5, rv b1, iv psq3, iv (0 : Int32), iv (1 : Int32), iv (1 : Int32), iv (1 : Int32), .unset] [(.int (own_get (own_set (own_set (own_set (0 : Int64) (0 : Int32) u3) (1 : Int32) u4) (0 : Int32) u5) (1 : Int32)))])) _
      refine XS.iload X12.here hx rfl (hb hby at_144) rfl ?_
      show Steps p.tables e below (T12.setTop (mkF m 146 #[iv u0, iv u1, iv u2, iv u3, iv u4, iv u5, rv b1, iv psq3, iv (0 : Int32), iv (1 : Int32), iv (1 : Int32), iv (1 : Int32), .unset] [(.int u4), (.int (own_get (own_set (own_set (own_set (0 : Int64) (0 : Int32) u3) (1 : Int32) u4) (0 : Int32) u5) (1 : Int32)))])) _
      refine XS.icmpNo X12.here hx rfl (hb hby at_146) rfl (teq (by rw [own_gs10]; exact own_gs1 _ _)).2 ?_
      show Steps p.tables e below (T12.setTop (mkF m 149 #[iv u0, iv u1, iv u2, iv u3, iv u4, iv u5, rv b1, iv psq3, iv (0 : Int32), iv (1 : Int32), iv (1 : Int32), iv (1 : Int32), .unset] [])) _
      refine XS.iconst X12.here hx rfl (hb hby at_149) ?_
      show Steps p.tables e below (T12.setTop (mkF m 150 #[iv u0, iv u1, iv u2, iv u3, iv u4, iv u5, rv b1, iv psq3, iv (0 : Int32), iv (1 : Int32), iv (1 : Int32), iv (1 : Int32), .unset] [(.int (1 : Int32))])) _
      refine XS.goto X12.here hx rfl (pc0 := 150) (pc' := 154) rfl (hb hby at_150) (by decide) (by decide) ?_
      show Steps p.tables e below (T12.setTop (mkF m 154 #[iv u0, iv u1, iv u2, iv u3, iv u4, iv u5, rv b1, iv psq3, iv (0 : Int32), iv (1 : Int32), iv (1 : Int32), iv (1 : Int32), .unset] [(.int (1 : Int32))])) _
      refine XS.istore X12.here hx rfl (hb hby at_154) rfl (l' := #[iv u0, iv u1, iv u2, iv u3, iv u4, iv u5, rv b1, iv psq3, iv (0 : Int32), iv (1 : Int32), iv (1 : Int32), iv (1 : Int32), iv (1 : Int32)]) rfl ?_
      show Steps p.tables e below (T12.setTop (mkF m 156 #[iv u0, iv u1, iv u2, iv u3, iv u4, iv u5, rv b1, iv psq3, iv (0 : Int32), iv (1 : Int32), iv (1 : Int32), iv (1 : Int32), iv (1 : Int32)] [])) _
      refine XS.iload X12.here hx rfl (hb hby at_156) rfl ?_
      show Steps p.tables e below (T12.setTop (mkF m 158 #[iv u0, iv u1, iv u2, iv u3, iv u4, iv u5, rv b1, iv psq3, iv (0 : Int32), iv (1 : Int32), iv (1 : Int32), iv (1 : Int32), iv (1 : Int32)] [(.int (1 : Int32))])) _
      refine XS.ifNo X12.here hx rfl (hb hby at_158) rfl ((if0 _ _).trans (feq (by decide : ¬ ((1 : Int32) = (0 : Int32)))).1) ?_
      show Steps p.tables e below (T12.setTop (mkF m 161 #[iv u0, iv u1, iv u2, iv u3, iv u4, iv u5, rv b1, iv psq3, iv (0 : Int32), iv (1 : Int32), iv (1 : Int32), iv (1 : Int32), iv (1 : Int32)] [])) _
      refine XS.iload X12.here hx rfl (hb hby at_161) rfl ?_
      show Steps p.tables e below (T12.setTop (mkF m 163 #[iv u0, iv u1, iv u2, iv u3, iv u4, iv u5, rv b1, iv psq3, iv (0 : Int32), iv (1 : Int32), iv (1 : Int32), iv (1 : Int32), iv (1 : Int32)] [(.int (1 : Int32))])) _
      refine XS.ifNo X12.here hx rfl (hb hby at_163) rfl ((if0 _ _).trans (feq (by decide : ¬ ((1 : Int32) = (0 : Int32)))).1) ?_
      show Steps p.tables e below (T12.setTop (mkF m 166 #[iv u0, iv u1, iv u2, iv u3, iv u4, iv u5, rv b1, iv psq3, iv (0 : Int32), iv (1 : Int32), iv (1 : Int32), iv (1 : Int32), iv (1 : Int32)] [])) _
      refine XS.iload X12.here hx rfl (hb hby at_166) rfl ?_
      show Steps p.tables e below (T12.setTop (mkF m 168 #[iv u0, iv u1, iv u2, iv u3, iv u4, iv u5, rv b1, iv psq3, iv (0 : Int32), iv (1 : Int32), iv (1 : Int32), iv (1 : Int32), iv (1 : Int32)] [(.int (1 : Int32))])) _
      refine XS.ifNo X12.here hx rfl (hb hby at_168) rfl ((if0 _ _).trans (feq (by decide : ¬ ((1 : Int32) = (0 : Int32)))).1) ?_
      show Steps p.tables e below (T12.setTop (mkF m 171 #[iv u0, iv u1, iv u2, iv u3, iv u4, iv u5, rv b1, iv psq3, iv (0 : Int32), iv (1 : Int32), iv (1 : Int32), iv (1 : Int32), iv (1 : Int32)] [])) _
      refine XS.iconst X12.here hx rfl (hb hby at_171) ?_
      show Steps p.tables e below (T12.setTop (mkF m 172 #[iv u0, iv u1, iv u2, iv u3, iv u4, iv u5, rv b1, iv psq3, iv (0 : Int32), iv (1 : Int32), iv (1 : Int32), iv (1 : Int32), iv (1 : Int32)] [(.int (1 : Int32))])) _
      refine XS.goto X12.here hx rfl (pc0 := 172) (pc' := 176) rfl (hb hby at_172) (by decide) (by decide) ?_
      show Steps p.tables e below (T12.setTop (mkF m 176 #[iv u0, iv u1, iv u2, iv u3, iv u4, iv u5, rv b1, iv psq3, iv (0 : Int32), iv (1 : Int32), iv (1 : Int32), iv (1 : Int32), iv (1 : Int32)] [(.int (1 : Int32))])) _
      exact retN X12 hx (t := .boolean) Bd.returns (by simp) (hb hby at_176) hr
    · show Q0 Z u0 u1 u2 u3 u4 u5 h0 n0 _ T12.heap _
      rw [eq12]
      exact ⟨rfl, N12⟩
  · skip
    rw [hk] at S4
    obtain ⟨cq13, kq13, q13a, q13b, q13c⟩ := isOf hZ rfl Pq3.1
    obtain ⟨_, _, ⟨T13, L13, k13, n13⟩, -, X13, ⟨Lc13, hQ13, l13, y13, z13⟩, st13⟩ := X3.virtualBack hx (y := (⟨"com/example/tranquility/tranquility/PairTable", "get", "(II)I"⟩ : MethodName)) (z := (⟨"com/example/tranquility/tranquility/PairTable", "get", "(II)I"⟩ : MethodName)) hown (mvT hZ (hw _ (List.mem_of_getElem? (i := 51) rfl))) (mvT hZ (hw _ (List.mem_of_getElem? (i := 52) rfl))) (notFace_of_selects (args := #[]) (mvT hZ (hw _ (List.mem_of_getElem? (i := 54) rfl)))) (mvT hZ (hw _ (List.mem_of_getElem? (i := 54) rfl))) (mvT hZ (hw _ (List.mem_of_getElem? (i := 53) rfl))) (by decide) (backOf (W := 0) (rmGet l Z a0 hw [] b1 psq3 (1 : Int32) (0 : Int64) T3.heap n0 Zq3 Pq3 hbq3) hZ (hw _ (List.mem_of_getElem? (i := 55) rfl)) (hw _ (List.mem_of_getElem? (i := 2) rfl)) (by decide) (by decide)) q13a q13c (g := (mkF m 42 #[iv u0, iv u1, iv u2, iv u3, iv u4, iv u5, rv b1, iv psq3, iv (1 : Int32), iv (0 : Int32), .unset, .unset, .unset] [(.int (1 : Int32)), (.int psq3), (.ref b1)])) rfl (by rw [hml]; rfl) (Steps.refl _) (argsL := [(.int psq3), (.int (1 : Int32))]) (rest := []) (lenOf pd_2 rfl) rfl (by show 2 * 0 + _ ≤ _; exact Nat.le_of_eq rfl) (hb hby at_42) (fun _ _ => ⟨rfl, rfl, (by decide : 2 + 0 ≤ _), (by decide : 11 + 0 ≤ _)⟩)
    dsimp only [Pt.U, Pt.locs, Pt.cells, Pt.slots] at X13 l13 y13 z13 st13 hQ13
    subst l13 y13 z13
    obtain ⟨rfl, Nq13, eq13⟩ := hQ13
    have N13 := Fr.app N3 Nq13
    obtain ⟨cq14, kq14, q14a, q14b, q14c⟩ := isOf hZ eq13 Pq3.1
    obtain ⟨_, _, ⟨T14, L14, k14, n14⟩, -, X14, ⟨Lc14, hQ14, l14, y14, z14⟩, st14⟩ := X13.virtualBack hx (y := (⟨"com/example/tranquility/tranquility/PairTable", "set", "(III)V"⟩ : MethodName)) (z := (⟨"com/example/tranquility/tranquility/PairTable", "set", "(III)V"⟩ : MethodName)) hown (mvT hZ (hw _ (List.mem_of_getElem? (i := 56) rfl))) (mvT hZ (hw _ (List.mem_of_getElem? (i := 57) rfl))) (notFace_of_selects (args := #[]) (mvT hZ (hw _ (List.mem_of_getElem? (i := 59) rfl)))) (mvT hZ (hw _ (List.mem_of_getElem? (i := 59) rfl))) (mvT hZ (hw _ (List.mem_of_getElem? (i := 58) rfl))) (by decide) (backOf (W := 0) (rmSet l Z a0 hw [] b1 psq3 (1 : Int32) u3 (0 : Int64) T3.heap n0 Zq3 Pq3 hbq3) hZ (hw _ (List.mem_of_getElem? (i := 60) rfl)) (hw _ (List.mem_of_getElem? (i := 2) rfl)) (by decide) (by decide)) q14a q14c (g := (mkF m 62 #[iv u0, iv u1, iv u2, iv u3, iv u4, iv u5, rv b1, iv psq3, iv (1 : Int32), iv (0 : Int32), iv (1 : Int32), .unset, .unset] [(.int u3), (.int (1 : Int32)), (.int psq3), (.ref b1)])) rfl (by rw [hml]; rfl) (Steps.refl _) (argsL := [(.int psq3), (.int (1 : Int32)), (.int u3)]) (rest := []) (lenOf pd_6 rfl) rfl (by show 2 * 0 + _ ≤ _; exact Nat.le_of_eq rfl) (hb hby at_62) (fun _ _ => ⟨rfl, eq13, (by decide : 2 + 0 ≤ _), (by decide : 11 + 0 ≤ _)⟩)
    dsimp only [Pt.U, Pt.locs, Pt.cells, Pt.slots] at X14 l14 y14 z14 st14 hQ14
    subst l14 y14 z14
    obtain ⟨rfl, Nq14, Zq14, Pq14⟩ := hQ14
    have N14 := Fr.app N13 Nq14
    obtain ⟨cq15, kq15, q15a, q15b, q15c⟩ := isOf hZ rfl Pq14.1
    obtain ⟨_, _, ⟨T15, L15, k15, n15⟩, -, X15, ⟨Lc15, hQ15, l15, y15, z15⟩, st15⟩ := X14.virtualBack hx (y := (⟨"com/example/tranquility/tranquility/PairTable", "set", "(III)V"⟩ : MethodName)) (z := (⟨"com/example/tranquility/tranquility/PairTable", "set", "(III)V"⟩ : MethodName)) hown (mvT hZ (hw _ (List.mem_of_getElem? (i := 56) rfl))) (mvT hZ (hw _ (List.mem_of_getElem? (i := 57) rfl))) (notFace_of_selects (args := #[]) (mvT hZ (hw _ (List.mem_of_getElem? (i := 59) rfl)))) (mvT hZ (hw _ (List.mem_of_getElem? (i := 59) rfl))) (mvT hZ (hw _ (List.mem_of_getElem? (i := 58) rfl))) (by decide) (backOf (W := 0) (rmSet l Z a0 hw [] b1 psq3 (0 : Int32) u4 (own_set (0 : Int64) (1 : Int32) u3) T14.heap n0 Zq14 Pq14 hbq3) hZ (hw _ (List.mem_of_getElem? (i := 60) rfl)) (hw _ (List.mem_of_getElem? (i := 2) rfl)) (by decide) (by decide)) q15a q15c (g := (mkF m 73 #[iv u0, iv u1, iv u2, iv u3, iv u4, iv u5, rv b1, iv psq3, iv (1 : Int32), iv (0 : Int32), iv (1 : Int32), .unset, .unset] [(.int u4), (.int (0 : Int32)), (.int psq3), (.ref b1)])) rfl (by rw [hml]; rfl) (Steps.refl _) (argsL := [(.int psq3), (.int (0 : Int32)), (.int u4)]) (rest := []) (lenOf pd_6 rfl) rfl (by show 2 * 0 + _ ≤ _; exact Nat.le_of_eq rfl) (hb hby at_73) (fun _ _ => ⟨rfl, rfl, (by decide : 2 + 0 ≤ _), (by decide : 11 + 0 ≤ _)⟩)
    dsimp only [Pt.U, Pt.locs, Pt.cells, Pt.slots] at X15 l15 y15 z15 st15 hQ15
    subst l15 y15 z15
    obtain ⟨rfl, Nq15, Zq15, Pq15⟩ := hQ15
    have N15 := Fr.app N14 Nq15
    obtain ⟨cq16, kq16, q16a, q16b, q16c⟩ := isOf hZ rfl Pq15.1
    obtain ⟨_, _, ⟨T16, L16, k16, n16⟩, -, X16, ⟨Lc16, hQ16, l16, y16, z16⟩, st16⟩ := X15.virtualBack hx (y := (⟨"com/example/tranquility/tranquility/PairTable", "get", "(II)I"⟩ : MethodName)) (z := (⟨"com/example/tranquility/tranquility/PairTable", "get", "(II)I"⟩ : MethodName)) hown (mvT hZ (hw _ (List.mem_of_getElem? (i := 51) rfl))) (mvT hZ (hw _ (List.mem_of_getElem? (i := 52) rfl))) (notFace_of_selects (args := #[]) (mvT hZ (hw _ (List.mem_of_getElem? (i := 54) rfl)))) (mvT hZ (hw _ (List.mem_of_getElem? (i := 54) rfl))) (mvT hZ (hw _ (List.mem_of_getElem? (i := 53) rfl))) (by decide) (backOf (W := 0) (rmGet l Z a0 hw [] b1 psq3 (1 : Int32) (own_set (own_set (0 : Int64) (1 : Int32) u3) (0 : Int32) u4) T15.heap n0 Zq15 Pq15 hbq3) hZ (hw _ (List.mem_of_getElem? (i := 55) rfl)) (hw _ (List.mem_of_getElem? (i := 2) rfl)) (by decide) (by decide)) q16a q16c (g := (mkF m 82 #[iv u0, iv u1, iv u2, iv u3, iv u4, iv u5, rv b1, iv psq3, iv (1 : Int32), iv (0 : Int32), iv (1 : Int32), .unset, .unset] [(.int (1 : Int32)), (.int psq3), (.ref b1)])) rfl (by rw [hml]; rfl) (Steps.refl _) (argsL := [(.int psq3), (.int (1 : Int32))]) (rest := []) (lenOf pd_2 rfl) rfl (by show 2 * 0 + _ ≤ _; exact Nat.le_of_eq rfl) (hb hby at_82) (fun _ _ => ⟨rfl, rfl, (by decide : 2 + 0 ≤ _), (by decide : 11 + 0 ≤ _)⟩)
    dsimp only [Pt.U, Pt.locs, Pt.cells, Pt.slots] at X16 l16 y16 z16 st16 hQ16
    subst l16 y16 z16
    obtain ⟨rfl, Nq16, eq16⟩ := hQ16
    have N16 := Fr.app N15 Nq16
    obtain ⟨cq17, kq17, q17a, q17b, q17c⟩ := isOf hZ eq16 Pq15.1
    obtain ⟨_, _, ⟨T17, L17, k17, n17⟩, -, X17, ⟨Lc17, hQ17, l17, y17, z17⟩, st17⟩ := X16.virtualBack hx (y := (⟨"com/example/tranquility/tranquility/PairTable", "get", "(II)I"⟩ : MethodName)) (z := (⟨"com/example/tranquility/tranquility/PairTable", "get", "(II)I"⟩ : MethodName)) hown (mvT hZ (hw _ (List.mem_of_getElem? (i := 51) rfl))) (mvT hZ (hw _ (List.mem_of_getElem? (i := 52) rfl))) (notFace_of_selects (args := #[]) (mvT hZ (hw _ (List.mem_of_getElem? (i := 54) rfl)))) (mvT hZ (hw _ (List.mem_of_getElem? (i := 54) rfl))) (mvT hZ (hw _ (List.mem_of_getElem? (i := 53) rfl))) (by decide) (backOf (W := 0) (rmGet l Z a0 hw [] b1 psq3 (0 : Int32) (own_set (own_set (0 : Int64) (1 : Int32) u3) (0 : Int32) u4) T15.heap n0 Zq15 Pq15 hbq3) hZ (hw _ (List.mem_of_getElem? (i := 55) rfl)) (hw _ (List.mem_of_getElem? (i := 2) rfl)) (by decide) (by decide)) q17a q17c (g := (mkF m 95 #[iv u0, iv u1, iv u2, iv u3, iv u4, iv u5, rv b1, iv psq3, iv (1 : Int32), iv (0 : Int32), iv (1 : Int32), .unset, .unset] [(.int (0 : Int32)), (.int psq3), (.ref b1)])) rfl (by rw [hml]; rfl) (Steps.refl _) (argsL := [(.int psq3), (.int (0 : Int32))]) (rest := []) (lenOf pd_2 rfl) rfl (by show 2 * 0 + _ ≤ _; exact Nat.le_of_eq rfl) (hb hby at_95) (fun _ _ => ⟨rfl, eq16, (by decide : 2 + 0 ≤ _), (by decide : 11 + 0 ≤ _)⟩)
    dsimp only [Pt.U, Pt.locs, Pt.cells, Pt.slots] at X17 l17 y17 z17 st17 hQ17
    subst l17 y17 z17
    obtain ⟨rfl, Nq17, eq17⟩ := hQ17
    have N17 := Fr.app N16 Nq17
    obtain ⟨cq18, kq18, q18a, q18b, q18c⟩ := isOf hZ eq17 Pq15.1
    obtain ⟨_, _, ⟨T18, L18, k18, n18⟩, -, X18, ⟨Lc18, hQ18, l18, y18, z18⟩, st18⟩ := X17.virtualBack hx (y := (⟨"com/example/tranquility/tranquility/PairTable", "set", "(III)V"⟩ : MethodName)) (z := (⟨"com/example/tranquility/tranquility/PairTable", "set", "(III)V"⟩ : MethodName)) hown (mvT hZ (hw _ (List.mem_of_getElem? (i := 56) rfl))) (mvT hZ (hw _ (List.mem_of_getElem? (i := 57) rfl))) (notFace_of_selects (args := #[]) (mvT hZ (hw _ (List.mem_of_getElem? (i := 59) rfl)))) (mvT hZ (hw _ (List.mem_of_getElem? (i := 59) rfl))) (mvT hZ (hw _ (List.mem_of_getElem? (i := 58) rfl))) (by decide) (backOf (W := 0) (rmSet l Z a0 hw [] b1 psq3 (1 : Int32) u5 (own_set (own_set (0 : Int64) (1 : Int32) u3) (0 : Int32) u4) T15.heap n0 Zq15 Pq15 hbq3) hZ (hw _ (List.mem_of_getElem? (i := 60) rfl)) (hw _ (List.mem_of_getElem? (i := 2) rfl)) (by decide) (by decide)) q18a q18c (g := (mkF m 118 #[iv u0, iv u1, iv u2, iv u3, iv u4, iv u5, rv b1, iv psq3, iv (1 : Int32), iv (0 : Int32), iv (1 : Int32), iv (1 : Int32), .unset] [(.int u5), (.int (1 : Int32)), (.int psq3), (.ref b1)])) rfl (by rw [hml]; rfl) (Steps.refl _) (argsL := [(.int psq3), (.int (1 : Int32)), (.int u5)]) (rest := []) (lenOf pd_6 rfl) rfl (by show 2 * 0 + _ ≤ _; exact Nat.le_of_eq rfl) (hb hby at_118) (fun _ _ => ⟨rfl, eq17, (by decide : 2 + 0 ≤ _), (by decide : 11 + 0 ≤ _)⟩)
    dsimp only [Pt.U, Pt.locs, Pt.cells, Pt.slots] at X18 l18 y18 z18 st18 hQ18
    subst l18 y18 z18
    obtain ⟨rfl, Nq18, Zq18, Pq18⟩ := hQ18
    have N18 := Fr.app N17 Nq18
    obtain ⟨cq19, kq19, q19a, q19b, q19c⟩ := isOf hZ rfl Pq18.1
    obtain ⟨_, _, ⟨T19, L19, k19, n19⟩, -, X19, ⟨Lc19, hQ19, l19, y19, z19⟩, st19⟩ := X18.virtualBack hx (y := (⟨"com/example/tranquility/tranquility/PairTable", "get", "(II)I"⟩ : MethodName)) (z := (⟨"com/example/tranquility/tranquility/PairTable", "get", "(II)I"⟩ : MethodName)) hown (mvT hZ (hw _ (List.mem_of_getElem? (i := 51) rfl))) (mvT hZ (hw _ (List.mem_of_getElem? (i := 52) rfl))) (notFace_of_selects (args := #[]) (mvT hZ (hw _ (List.mem_of_getElem? (i := 54) rfl)))) (mvT hZ (hw _ (List.mem_of_getElem? (i := 54) rfl))) (mvT hZ (hw _ (List.mem_of_getElem? (i := 53) rfl))) (by decide) (backOf (W := 0) (rmGet l Z a0 hw [] b1 psq3 (1 : Int32) (own_set (own_set (own_set (0 : Int64) (1 : Int32) u3) (0 : Int32) u4) (1 : Int32) u5) T18.heap n0 Zq18 Pq18 hbq3) hZ (hw _ (List.mem_of_getElem? (i := 55) rfl)) (hw _ (List.mem_of_getElem? (i := 2) rfl)) (by decide) (by decide)) q19a q19c (g := (mkF m 127 #[iv u0, iv u1, iv u2, iv u3, iv u4, iv u5, rv b1, iv psq3, iv (1 : Int32), iv (0 : Int32), iv (1 : Int32), iv (1 : Int32), .unset] [(.int (1 : Int32)), (.int psq3), (.ref b1)])) rfl (by rw [hml]; rfl) (Steps.refl _) (argsL := [(.int psq3), (.int (1 : Int32))]) (rest := []) (lenOf pd_2 rfl) rfl (by show 2 * 0 + _ ≤ _; exact Nat.le_of_eq rfl) (hb hby at_127) (fun _ _ => ⟨rfl, rfl, (by decide : 2 + 0 ≤ _), (by decide : 11 + 0 ≤ _)⟩)
    dsimp only [Pt.U, Pt.locs, Pt.cells, Pt.slots] at X19 l19 y19 z19 st19 hQ19
    subst l19 y19 z19
    obtain ⟨rfl, Nq19, eq19⟩ := hQ19
    have N19 := Fr.app N18 Nq19
    obtain ⟨cq20, kq20, q20a, q20b, q20c⟩ := isOf hZ eq19 Pq18.1
    obtain ⟨_, _, ⟨T20, L20, k20, n20⟩, -, X20, ⟨Lc20, hQ20, l20, y20, z20⟩, st20⟩ := X19.virtualBack hx (y := (⟨"com/example/tranquility/tranquility/PairTable", "get", "(II)I"⟩ : MethodName)) (z := (⟨"com/example/tranquility/tranquility/PairTable", "get", "(II)I"⟩ : MethodName)) hown (mvT hZ (hw _ (List.mem_of_getElem? (i := 51) rfl))) (mvT hZ (hw _ (List.mem_of_getElem? (i := 52) rfl))) (notFace_of_selects (args := #[]) (mvT hZ (hw _ (List.mem_of_getElem? (i := 54) rfl)))) (mvT hZ (hw _ (List.mem_of_getElem? (i := 54) rfl))) (mvT hZ (hw _ (List.mem_of_getElem? (i := 53) rfl))) (by decide) (backOf (W := 0) (rmGet l Z a0 hw [] b1 psq3 (0 : Int32) (own_set (own_set (own_set (0 : Int64) (1 : Int32) u3) (0 : Int32) u4) (1 : Int32) u5) T18.heap n0 Zq18 Pq18 hbq3) hZ (hw _ (List.mem_of_getElem? (i := 55) rfl)) (hw _ (List.mem_of_getElem? (i := 2) rfl)) (by decide) (by decide)) q20a q20c (g := (mkF m 141 #[iv u0, iv u1, iv u2, iv u3, iv u4, iv u5, rv b1, iv psq3, iv (1 : Int32), iv (0 : Int32), iv (1 : Int32), iv (1 : Int32), .unset] [(.int (0 : Int32)), (.int psq3), (.ref b1)])) rfl (by rw [hml]; rfl) (Steps.refl _) (argsL := [(.int psq3), (.int (0 : Int32))]) (rest := []) (lenOf pd_2 rfl) rfl (by show 2 * 0 + _ ≤ _; exact Nat.le_of_eq rfl) (hb hby at_141) (fun _ _ => ⟨rfl, eq19, (by decide : 2 + 0 ≤ _), (by decide : 11 + 0 ≤ _)⟩)
    dsimp only [Pt.U, Pt.locs, Pt.cells, Pt.slots] at X20 l20 y20 z20 st20 hQ20
    subst l20 y20 z20
    obtain ⟨rfl, Nq20, eq20⟩ := hQ20
    have N20 := Fr.app N19 Nq20
    obtain ⟨fs, hr, hrun, hended, hW, hsame⟩ := X20.leave (v := some (.int (1 : Int32))) (fun h => by rw [Bd.returns] at h; cases h)
    refine ⟨_, _, S4 _ ?_, hrun, hended, _, _, rfl, ?_, ⟨_, rfl⟩, hW, hsame.mono (by decide) (by decide)⟩
    · skip
      show Steps p.tables e below (T3.setTop (mkF m 30 #[iv u0, iv u1, iv u2, iv u3, iv u4, iv u5, rv b1, iv psq3, iv (1 : Int32), .unset, .unset, .unset, .unset] [])) _
      refine XS.iconst X3.here hx rfl (hb hby at_30) ?_
      show Steps p.tables e below (T3.setTop (mkF m 31 #[iv u0, iv u1, iv u2, iv u3, iv u4, iv u5, rv b1, iv psq3, iv (1 : Int32), .unset, .unset, .unset, .unset] [(.int (1 : Int32))])) _
      refine XS.iload X3.here hx rfl (hb hby at_31) rfl ?_
      show Steps p.tables e below (T3.setTop (mkF m 33 #[iv u0, iv u1, iv u2, iv u3, iv u4, iv u5, rv b1, iv psq3, iv (1 : Int32), .unset, .unset, .unset, .unset] [(.int (1 : Int32)), (.int (1 : Int32))])) _
      refine XS.isub X3.here hx rfl (hb hby at_33) rfl ?_
      show Steps p.tables e below (T3.setTop (mkF m 34 #[iv u0, iv u1, iv u2, iv u3, iv u4, iv u5, rv b1, iv psq3, iv (1 : Int32), .unset, .unset, .unset, .unset] [(.int (0 : Int32))])) _
      refine XS.istore X3.here hx rfl (hb hby at_34) rfl (l' := #[iv u0, iv u1, iv u2, iv u3, iv u4, iv u5, rv b1, iv psq3, iv (1 : Int32), iv (0 : Int32), .unset, .unset, .unset]) rfl ?_
      show Steps p.tables e below (T3.setTop (mkF m 36 #[iv u0, iv u1, iv u2, iv u3, iv u4, iv u5, rv b1, iv psq3, iv (1 : Int32), iv (0 : Int32), .unset, .unset, .unset] [])) _
      refine XS.aload X3.here hx rfl (hb hby at_36) rfl rfl ?_
      show Steps p.tables e below (T3.setTop (mkF m 38 #[iv u0, iv u1, iv u2, iv u3, iv u4, iv u5, rv b1, iv psq3, iv (1 : Int32), iv (0 : Int32), .unset, .unset, .unset] [(.ref b1)])) _
      refine XS.iload X3.here hx rfl (hb hby at_38) rfl ?_
      show Steps p.tables e below (T3.setTop (mkF m 40 #[iv u0, iv u1, iv u2, iv u3, iv u4, iv u5, rv b1, iv psq3, iv (1 : Int32), iv (0 : Int32), .unset, .unset, .unset] [(.int psq3), (.ref b1)])) _
      refine XS.iload X3.here hx rfl (hb hby at_40) rfl ?_
      show Steps p.tables e below (T3.setTop (mkF m 42 #[iv u0, iv u1, iv u2, iv u3, iv u4, iv u5, rv b1, iv psq3, iv (1 : Int32), iv (0 : Int32), .unset, .unset, .unset] [(.int (1 : Int32)), (.int psq3), (.ref b1)])) _
      refine st13.trans ?_
      show Steps p.tables e below (T13.setTop (mkF m 45 #[iv u0, iv u1, iv u2, iv u3, iv u4, iv u5, rv b1, iv psq3, iv (1 : Int32), iv (0 : Int32), .unset, .unset, .unset] [(.int (own_get (0 : Int64) (1 : Int32)))])) _
      refine XS.ifNo X13.here hx rfl (hb hby at_45) rfl ((if0 _ _).trans (teq (by decide)).2) ?_
      show Steps p.tables e below (T13.setTop (mkF m 48 #[iv u0, iv u1, iv u2, iv u3, iv u4, iv u5, rv b1, iv psq3, iv (1 : Int32), iv (0 : Int32), .unset, .unset, .unset] [])) _
      refine XS.iconst X13.here hx rfl (hb hby at_48) ?_
      show Steps p.tables e below (T13.setTop (mkF m 49 #[iv u0, iv u1, iv u2, iv u3, iv u4, iv u5, rv b1, iv psq3, iv (1 : Int32), iv (0 : Int32), .unset, .unset, .unset] [(.int (1 : Int32))])) _
      refine XS.goto X13.here hx rfl (pc0 := 49) (pc' := 53) rfl (hb hby at_49) (by decide) (by decide) ?_
      show Steps p.tables e below (T13.setTop (mkF m 53 #[iv u0, iv u1, iv u2, iv u3, iv u4, iv u5, rv b1, iv psq3, iv (1 : Int32), iv (0 : Int32), .unset, .unset, .unset] [(.int (1 : Int32))])) _
      refine XS.istore X13.here hx rfl (hb hby at_53) rfl (l' := #[iv u0, iv u1, iv u2, iv u3, iv u4, iv u5, rv b1, iv psq3, iv (1 : Int32), iv (0 : Int32), iv (1 : Int32), .unset, .unset]) rfl ?_
      show Steps p.tables e below (T13.setTop (mkF m 55 #[iv u0, iv u1, iv u2, iv u3, iv u4, iv u5, rv b1, iv psq3, iv (1 : Int32), iv (0 : Int32), iv (1 : Int32), .unset, .unset] [])) _
      refine XS.aload X13.here hx rfl (hb hby at_55) rfl rfl ?_
      show Steps p.tables e below (T13.setTop (mkF m 57 #[iv u0, iv u1, iv u2, iv u3, iv u4, iv u5, rv b1, iv psq3, iv (1 : Int32), iv (0 : Int32), iv (1 : Int32), .unset, .unset] [(.ref b1)])) _
      refine XS.iload X13.here hx rfl (hb hby at_57) rfl ?_
      show Steps p.tables e below (T13.setTop (mkF m 59 #[iv u0, iv u1, iv u2, iv u3, iv u4, iv u5, rv b1, iv psq3, iv (1 : Int32), iv (0 : Int32), iv (1 : Int32), .unset, .unset] [(.int psq3), (.ref b1)])) _
      refine XS.iload X13.here hx rfl (hb hby at_59) rfl ?_
      show Steps p.tables e below (T13.setTop (mkF m 61 #[iv u0, iv u1, iv u2, iv u3, iv u4, iv u5, rv b1, iv psq3, iv (1 : Int32), iv (0 : Int32), iv (1 : Int32), .unset, .unset] [(.int (1 : Int32)), (.int psq3), (.ref b1)])) _
      refine XS.iloadN X13.here hx rfl (hb hby at_61) rfl ?_
      show Steps p.tables e below (T13.setTop (mkF m 62 #[iv u0, iv u1, iv u2, iv u3, iv u4, iv u5, rv b1, iv psq3, iv (1 : Int32), iv (0 : Int32), iv (1 : Int32), .unset, .unset] [(.int u3), (.int (1 : Int32)), (.int psq3), (.ref b1)])) _
      refine st14.trans ?_
      show Steps p.tables e below (T14.setTop (mkF m 65 #[iv u0, iv u1, iv u2, iv u3, iv u4, iv u5, rv b1, iv psq3, iv (1 : Int32), iv (0 : Int32), iv (1 : Int32), .unset, .unset] [])) _
      refine XS.aload X14.here hx rfl (hb hby at_65) rfl rfl ?_
      show Steps p.tables e below (T14.setTop (mkF m 67 #[iv u0, iv u1, iv u2, iv u3, iv u4, iv u5, rv b1, iv psq3, iv (1 : Int32), iv (0 : Int32), iv (1 : Int32), .unset, .unset] [(.ref b1)])) _
      refine XS.iload X14.here hx rfl (hb hby at_67) rfl ?_
      show Steps p.tables e below (T14.setTop (mkF m 69 #[iv u0, iv u1, iv u2, iv u3, iv u4, iv u5, rv b1, iv psq3, iv (1 : Int32), iv (0 : Int32), iv (1 : Int32), .unset, .unset] [(.int psq3), (.ref b1)])) _
      refine XS.iload X14.here hx rfl (hb hby at_69) rfl ?_
      show Steps p.tables e below (T14.setTop (mkF m 71 #[iv u0, iv u1, iv u2, iv u3, iv u4, iv u5, rv b1, iv psq3, iv (1 : Int32), iv (0 : Int32), iv (1 : Int32), .unset, .unset] [(.int (0 : Int32)), (.int psq3), (.ref b1)])) _
      refine XS.iload X14.here hx rfl (hb hby at_71) rfl ?_
      show Steps p.tables e below (T14.setTop (mkF m 73 #[iv u0, iv u1, iv u2, iv u3, iv u4, iv u5, rv b1, iv psq3, iv (1 : Int32), iv (0 : Int32), iv (1 : Int32), .unset, .unset] [(.int u4), (.int (0 : Int32)), (.int psq3), (.ref b1)])) _
      refine st15.trans ?_
      show Steps p.tables e below (T15.setTop (mkF m 76 #[iv u0, iv u1, iv u2, iv u3, iv u4, iv u5, rv b1, iv psq3, iv (1 : Int32), iv (0 : Int32), iv (1 : Int32), .unset, .unset] [])) _
      refine XS.aload X15.here hx rfl (hb hby at_76) rfl rfl ?_
      show Steps p.tables e below (T15.setTop (mkF m 78 #[iv u0, iv u1, iv u2, iv u3, iv u4, iv u5, rv b1, iv psq3, iv (1 : Int32), iv (0 : Int32), iv (1 : Int32), .unset, .unset] [(.ref b1)])) _
      refine XS.iload X15.here hx rfl (hb hby at_78) rfl ?_
      show Steps p.tables e below (T15.setTop (mkF m 80 #[iv u0, iv u1, iv u2, iv u3, iv u4, iv u5, rv b1, iv psq3, iv (1 : Int32), iv (0 : Int32), iv (1 : Int32), .unset, .unset] [(.int psq3), (.ref b1)])) _
      refine XS.iload X15.here hx rfl (hb hby at_80) rfl ?_
      show Steps p.tables e below (T15.setTop (mkF m 82 #[iv u0, iv u1, iv u2, iv u3, iv u4, iv u5, rv b1, iv psq3, iv (1 : Int32), iv (0 : Int32), iv (1 : Int32), .unset, .unset] [(.int (1 : Int32)), (.int psq3), (.ref b1)])) _
      refine st16.trans ?_
      show Steps p.tables e below (T16.setTop (mkF m 85 #[iv u0, iv u1, iv u2, iv u3, iv u4, iv u5, rv b1, iv psq3, iv (1 : Int32), iv (0 : Int32), iv (1 : Int32), .unset, .unset] [(.int (own_get (own_set (own_set (0 : Int64) (1 : Int32) u3) (0 : Int32) u4) (1 : Int32)))])) _
      refine XS.iloadN X16.here hx rfl (hb hby at_85) rfl ?_
      show Steps p.tables e below (T16.setTop (mkF m 86 #[iv u0, iv u1, iv u2, iv u3, iv u4, iv u5, rv b1, iv psq3, iv (1 : Int32), iv (0 : Int32), iv (1 : Int32), .unset, .unset] [(.int u3), (.int (own_get (own_set (own_set (0 : Int64) (1 : Int32) u3) (0 : Int32) u4) (1 : Int32)))])) _
      refine XS.icmpNo X16.here hx rfl (hb hby at_86) rfl (teq (by rw [own_gs10]; exact own_gs1 _ _)).2 ?_
      show Steps p.tables e below (T16.setTop (mkF m 89 #[iv u0, iv u1, iv u2, iv u3, iv u4, iv u5, rv b1, iv psq3, iv (1 : Int32), iv (0 : Int32), iv (1 : Int32), .unset, .unset] [])) _
      refine XS.aload X16.here hx rfl (hb hby at_89) rfl rfl ?_
      show Steps p.tables e below (T16.setTop (mkF m 91 #[iv u0, iv u1, iv u2, iv u3, iv u4, iv u5, rv b1, iv psq3, iv (1 : Int32), iv (0 : Int32), iv (1 : Int32), .unset, .unset] [(.ref b1)])) _
      refine XS.iload X16.here hx rfl (hb hby at_91) rfl ?_
      show Steps p.tables e below (T16.setTop (mkF m 93 #[iv u0, iv u1, iv u2, iv u3, iv u4, iv u5, rv b1, iv psq3, iv (1 : Int32), iv (0 : Int32), iv (1 : Int32), .unset, .unset] [(.int psq3), (.ref b1)])) _
      refine XS.iload X16.here hx rfl (hb hby at_93) rfl ?_
      show Steps p.tables e below (T16.setTop (mkF m 95 #[iv u0, iv u1, iv u2, iv u3, iv u4, iv u5, rv b1, iv psq3, iv (1 : Int32), iv (0 : Int32), iv (1 : Int32), .unset, .unset] [(.int (0 : Int32)), (.int psq3), (.ref b1)])) _
      refine st17.trans ?_
      show Steps p.tables e below (T17.setTop (mkF m 98 #[iv u0, iv u1, iv u2, iv u3, iv u4, iv u5, rv b1, iv psq3, iv (1 : Int32), iv (0 : Int32), iv (1 : Int32), .unset, .unset] [(.int (own_get (own_set (own_set (0 : Int64) (1 : Int32) u3) (0 : Int32) u4) (0 : Int32)))])) _
      refine XS.iload X17.here hx rfl (hb hby at_98) rfl ?_
      show Steps p.tables e below (T17.setTop (mkF m 100 #[iv u0, iv u1, iv u2, iv u3, iv u4, iv u5, rv b1, iv psq3, iv (1 : Int32), iv (0 : Int32), iv (1 : Int32), .unset, .unset] [(.int u4), (.int (own_get (own_set (own_set (0 : Int64) (1 : Int32) u3) (0 : Int32) u4) (0 : Int32)))])) _
      refine XS.icmpNo X17.here hx rfl (hb hby at_100) rfl (teq (own_gs0 _ _)).2 ?_
      show Steps p.tables e below (T17.setTop (mkF m 103 #[iv u0, iv u1, iv u2, iv u3, iv u4, iv u5, rv b1, iv psq3, iv (1 : Int32), iv (0 : Int32), iv (1 : Int32), .unset, .unset] [])) _
      refine XS.iconst X17.here hx rfl (hb hby at_103) ?_
      show Steps p.tables e below (T17.setTop (mkF m 104 #[iv u0, iv u1, iv u2, iv u3, iv u4, iv u5, rv b1, iv psq3, iv (1 : Int32), iv (0 : Int32), iv (1 : Int32), .unset, .unset] [(.int (1 : Int32))])) _
      refine XS.goto X17.here hx rfl (pc0 := 104) (pc' := 108) rfl (hb hby at_104) (by decide) (by decide) ?_
      show Steps p.tables e below (T17.setTop (mkF m 108 #[iv u0, iv u1, iv u2, iv u3, iv u4, iv u5, rv b1, iv psq3, iv (1 : Int32), iv (0 : Int32), iv (1 : Int32), .unset, .unset] [(.int (1 : Int32))])) _
      refine XS.istore X17.here hx rfl (hb hby at_108) rfl (l' := #[iv u0, iv u1, iv u2, iv u3, iv u4, iv u5, rv b1, iv psq3, iv (1 : Int32), iv (0 : Int32), iv (1 : Int32), iv (1 : Int32), .unset]) rfl ?_
      show Steps p.tables e below (T17.setTop (mkF m 110 #[iv u0, iv u1, iv u2, iv u3, iv u4, iv u5, rv b1, iv psq3, iv (1 : Int32), iv (0 : Int32), iv (1 : Int32), iv (1 : Int32), .unset] [])) _
      refine XS.aload X17.here hx rfl (hb hby at_110) rfl rfl ?_
      show Steps p.tables e below (T17.setTop (mkF m 112 #[iv u0, iv u1, iv u2, iv u3, iv u4, iv u5, rv b1, iv psq3, iv (1 : Int32), iv (0 : Int32), iv (1 : Int32), iv (1 : Int32), .unset] [(.ref b1)])) _
      refine XS.iload X17.here hx rfl (hb hby at_112) rfl ?_
      show Steps p.tables e below (T17.setTop (mkF m 114 #[iv u0, iv u1, iv u2, iv u3, iv u4, iv u5, rv b1, iv psq3, iv (1 : Int32), iv (0 : Int32), iv (1 : Int32), iv (1 : Int32), .unset] [(.int psq3), (.ref b1)])) _
      refine XS.iload X17.here hx rfl (hb hby at_114) rfl ?_
      show Steps p.tables e below (T17.setTop (mkF m 116 #[iv u0, iv u1, iv u2, iv u3, iv u4, iv u5, rv b1, iv psq3, iv (1 : Int32), iv (0 : Int32), iv (1 : Int32), iv (1 : Int32), .unset] [(.int (1 : Int32)), (.int psq3), (.ref b1)])) _
      refine XS.iload X17.here hx rfl (hb hby at_116) rfl ?_
      show Steps p.tables e below (T17.setTop (mkF m 118 #[iv u0, iv u1, iv u2, iv u3, iv u4, iv u5, rv b1, iv psq3, iv (1 : Int32), iv (0 : Int32), iv (1 : Int32), iv (1 : Int32), .unset] [(.int u5), (.int (1 : Int32)), (.int psq3), (.ref b1)])) _
      refine st18.trans ?_
      show Steps p.tables e below (T18.setTop (mkF m 121 #[iv u0, iv u1, iv u2, iv u3, iv u4, iv u5, rv b1, iv psq3, iv (1 : Int32), iv (0 : Int32), iv (1 : Int32), iv (1 : Int32), .unset] [])) _
      refine XS.aload X18.here hx rfl (hb hby at_121) rfl rfl ?_
      show Steps p.tables e below (T18.setTop (mkF m 123 #[iv u0, iv u1, iv u2, iv u3, iv u4, iv u5, rv b1, iv psq3, iv (1 : Int32), iv (0 : Int32), iv (1 : Int32), iv (1 : Int32), .unset] [(.ref b1)])) _
      refine XS.iload X18.here hx rfl (hb hby at_123) rfl ?_
      show Steps p.tables e below (T18.setTop (mkF m 125 #[iv u0, iv u1, iv u2, iv u3, iv u4, iv u5, rv b1, iv psq3, iv (1 : Int32), iv (0 : Int32), iv (1 : Int32), iv (1 : Int32), .unset] [(.int psq3), (.ref b1)])) _
      refine XS.iload X18.here hx rfl (hb hby at_125) rfl ?_
      show Steps p.tables e below (T18.setTop (mkF m 127 #[iv u0, iv u1, iv u2, iv u3, iv u4, iv u5, rv b1, iv psq3, iv (1 : Int32), iv (0 : Int32), iv (1 : Int32), iv (1 : Int32), .unset] [(.int (1 : Int32)), (.int psq3), (.ref b1)])) _
      refine st19.trans ?_
      show Steps p.tables e below (T19.setTop (mkF m 130 #[iv u0, iv u1, iv u2, iv u3, iv u4, iv u5, rv b1, iv psq3, iv (1 : Int32), iv (0 : Int32), iv (1 : Int32), iv (1 : Int32), .unset] [(.int (own_get (own_set (own_set (own_set (0 : Int64) (1 : Int32) u3) (0 : Int32) u4) (1 : Int32) u5) (1 : Int32)))])) _
      refine XS.iload X19.here hx rfl (hb hby at_130) rfl ?_
      show Steps p.tables e below (T19.setTop (mkF m 132 #[iv u0, iv u1, iv u2, iv u3, iv u4, iv u5, rv b1, iv psq3, iv (1 : Int32), iv (0 : Int32), iv (1 : Int32), iv (1 : Int32), .unset] [(.int u5), (.int (own_get (own_set (own_set (own_set (0 : Int64) (1 : Int32) u3) (0 : Int32) u4) (1 : Int32) u5) (1 : Int32)))])) _
      refine XS.icmpNo X19.here hx rfl (hb hby at_132) rfl (teq (own_gs1 _ _)).2 ?_
      show Steps p.tables e below (T19.setTop (mkF m 135 #[iv u0, iv u1, iv u2, iv u3, iv u4, iv u5, rv b1, iv psq3, iv (1 : Int32), iv (0 : Int32), iv (1 : Int32), iv (1 : Int32), .unset] [])) _
      refine XS.aload X19.here hx rfl (hb hby at_135) rfl rfl ?_
      show Steps p.tables e below (T19.setTop (mkF m 137 #[iv u0, iv u1, iv u2, iv u3, iv u4, iv u5, rv b1, iv psq3, iv (1 : Int32), iv (0 : Int32), iv (1 : Int32), iv (1 : Int32), .unset] [(.ref b1)])) _
      refine XS.iload X19.here hx rfl (hb hby at_137) rfl ?_
      show Steps p.tables e below (T19.setTop (mkF m 139 #[iv u0, iv u1, iv u2, iv u3, iv u4, iv u5, rv b1, iv psq3, iv (1 : Int32), iv (0 : Int32), iv (1 : Int32), iv (1 : Int32), .unset] [(.int psq3), (.ref b1)])) _
      refine XS.iload X19.here hx rfl (hb hby at_139) rfl ?_
      show Steps p.tables e below (T19.setTop (mkF m 141 #[iv u0, iv u1, iv u2, iv u3, iv u4, iv u5, rv b1, iv psq3, iv (1 : Int32), iv (0 : Int32), iv (1 : Int32), iv (1 : Int32), .unset] [(.int (0 : Int32)), (.int psq3), (.ref b1)])) _
      refine st20.trans ?_
      show Steps p.tables e below (T20.setTop (mkF m 144 #[iv u0, iv u1, iv u2, iv u3, iv u4, iv u5, rv b1, iv psq3, iv (1 : Int32), iv (0 : Int32), iv (1 : Int32), iv (1 : Int32), .unset] [(.int (own_get (own_set (own_set (own_set (0 : Int64) (1 : Int32) u3) (0 : Int32) u4) (1 : Int32) u5) (0 : Int32)))])) _
      refine XS.iload X20.here hx rfl (hb hby at_144) rfl ?_
      show Steps p.tables e below (T20.setTop (mkF m 146 #[iv u0, iv u1, iv u2, iv u3, iv u4, iv u5, rv b1, iv psq3, iv (1 : Int32), iv (0 : Int32), iv (1 : Int32), iv (1 : Int32), .unset] [(.int u4), (.int (own_get (own_set (own_set (own_set (0 : Int64) (1 : Int32) u3) (0 : Int32) u4) (1 : Int32) u5) (0 : Int32)))])) _
      refine XS.icmpNo X20.here hx rfl (hb hby at_146) rfl (teq (by rw [own_gs01]; exact own_gs0 _ _)).2 ?_
      show Steps p.tables e below (T20.setTop (mkF m 149 #[iv u0, iv u1, iv u2, iv u3, iv u4, iv u5, rv b1, iv psq3, iv (1 : Int32), iv (0 : Int32), iv (1 : Int32), iv (1 : Int32), .unset] [])) _
      refine XS.iconst X20.here hx rfl (hb hby at_149) ?_
      show Steps p.tables e below (T20.setTop (mkF m 150 #[iv u0, iv u1, iv u2, iv u3, iv u4, iv u5, rv b1, iv psq3, iv (1 : Int32), iv (0 : Int32), iv (1 : Int32), iv (1 : Int32), .unset] [(.int (1 : Int32))])) _
      refine XS.goto X20.here hx rfl (pc0 := 150) (pc' := 154) rfl (hb hby at_150) (by decide) (by decide) ?_
      show Steps p.tables e below (T20.setTop (mkF m 154 #[iv u0, iv u1, iv u2, iv u3, iv u4, iv u5, rv b1, iv psq3, iv (1 : Int32), iv (0 : Int32), iv (1 : Int32), iv (1 : Int32), .unset] [(.int (1 : Int32))])) _
      refine XS.istore X20.here hx rfl (hb hby at_154) rfl (l' := #[iv u0, iv u1, iv u2, iv u3, iv u4, iv u5, rv b1, iv psq3, iv (1 : Int32), iv (0 : Int32), iv (1 : Int32), iv (1 : Int32), iv (1 : Int32)]) rfl ?_
      show Steps p.tables e below (T20.setTop (mkF m 156 #[iv u0, iv u1, iv u2, iv u3, iv u4, iv u5, rv b1, iv psq3, iv (1 : Int32), iv (0 : Int32), iv (1 : Int32), iv (1 : Int32), iv (1 : Int32)] [])) _
      refine XS.iload X20.here hx rfl (hb hby at_156) rfl ?_
      show Steps p.tables e below (T20.setTop (mkF m 158 #[iv u0, iv u1, iv u2, iv u3, iv u4, iv u5, rv b1, iv psq3, iv (1 : Int32), iv (0 : Int32), iv (1 : Int32), iv (1 : Int32), iv (1 : Int32)] [(.int (1 : Int32))])) _
      refine XS.ifNo X20.here hx rfl (hb hby at_158) rfl ((if0 _ _).trans (feq (by decide : ¬ ((1 : Int32) = (0 : Int32)))).1) ?_
      show Steps p.tables e below (T20.setTop (mkF m 161 #[iv u0, iv u1, iv u2, iv u3, iv u4, iv u5, rv b1, iv psq3, iv (1 : Int32), iv (0 : Int32), iv (1 : Int32), iv (1 : Int32), iv (1 : Int32)] [])) _
      refine XS.iload X20.here hx rfl (hb hby at_161) rfl ?_
      show Steps p.tables e below (T20.setTop (mkF m 163 #[iv u0, iv u1, iv u2, iv u3, iv u4, iv u5, rv b1, iv psq3, iv (1 : Int32), iv (0 : Int32), iv (1 : Int32), iv (1 : Int32), iv (1 : Int32)] [(.int (1 : Int32))])) _
      refine XS.ifNo X20.here hx rfl (hb hby at_163) rfl ((if0 _ _).trans (feq (by decide : ¬ ((1 : Int32) = (0 : Int32)))).1) ?_
      show Steps p.tables e below (T20.setTop (mkF m 166 #[iv u0, iv u1, iv u2, iv u3, iv u4, iv u5, rv b1, iv psq3, iv (1 : Int32), iv (0 : Int32), iv (1 : Int32), iv (1 : Int32), iv (1 : Int32)] [])) _
      refine XS.iload X20.here hx rfl (hb hby at_166) rfl ?_
      show Steps p.tables e below (T20.setTop (mkF m 168 #[iv u0, iv u1, iv u2, iv u3, iv u4, iv u5, rv b1, iv psq3, iv (1 : Int32), iv (0 : Int32), iv (1 : Int32), iv (1 : Int32), iv (1 : Int32)] [(.int (1 : Int32))])) _
      refine XS.ifNo X20.here hx rfl (hb hby at_168) rfl ((if0 _ _).trans (feq (by decide : ¬ ((1 : Int32) = (0 : Int32)))).1) ?_
      show Steps p.tables e below (T20.setTop (mkF m 171 #[iv u0, iv u1, iv u2, iv u3, iv u4, iv u5, rv b1, iv psq3, iv (1 : Int32), iv (0 : Int32), iv (1 : Int32), iv (1 : Int32), iv (1 : Int32)] [])) _
      refine XS.iconst X20.here hx rfl (hb hby at_171) ?_
      show Steps p.tables e below (T20.setTop (mkF m 172 #[iv u0, iv u1, iv u2, iv u3, iv u4, iv u5, rv b1, iv psq3, iv (1 : Int32), iv (0 : Int32), iv (1 : Int32), iv (1 : Int32), iv (1 : Int32)] [(.int (1 : Int32))])) _
      refine XS.goto X20.here hx rfl (pc0 := 172) (pc' := 176) rfl (hb hby at_172) (by decide) (by decide) ?_
      show Steps p.tables e below (T20.setTop (mkF m 176 #[iv u0, iv u1, iv u2, iv u3, iv u4, iv u5, rv b1, iv psq3, iv (1 : Int32), iv (0 : Int32), iv (1 : Int32), iv (1 : Int32), iv (1 : Int32)] [(.int (1 : Int32))])) _
      exact retN X20 hx (t := .boolean) Bd.returns (by simp) (hb hby at_176) hr
    · show Q0 Z u0 u1 u2 u3 u4 u5 h0 n0 _ T20.heap _
      rw [eq20]
      exact ⟨rfl, N20⟩
set_option maxRecDepth 65536 in
set_option maxHeartbeats 40000000 in
theorem comes_1 {Post : Tables → Env → Array Value → State → Outcome → State → Prop} (hpost : ∀ tb e args s v u, (limb_1_1.after args s (.returned v) u = true ∧ limb_1_2.after args s (.returned v) u = true ∧ True) → FrameEnd s (.returned v) u (Jvm.fieldLocs frame_1_writes args s ++ Jvm.arrayLocs frame_1_arrays args s ++ Jvm.staticLocs frame_1_statics s) 16 128 → Post tb e args s (.returned v) u) :
    ArmFor flags0 classFile x code maxLocals ret World_1 tables_1 room_1 Calls_1 rest_1 Pre_1 Post := by
  intro l hfl _ _ p e ha hc hk s m args below hf hA hF happ hP
  obtain ⟨hcalls, hrest, hpre⟩ := hP
  obtain ⟨-, -, -, hnamed, -, -, -, hat⟩ := (Spec.applies_iff hf).mp happ
  obtain ⟨hg, hn⟩ := and_e (Cond.before_iff.mp (show (Jvm.Cond.and given_1 narrow_1).before args s = true from hpre))
  obtain ⟨g1, g2⟩ := and_e hg
  obtain ⟨g3, g4⟩ := and_e g2
  obtain ⟨g5, g6⟩ := and_e g4
  obtain ⟨g7, g8⟩ := and_e g6
  obtain ⟨g9, g10⟩ := and_e g8
  obtain ⟨g11, g12⟩ := and_e g10
  obtain ⟨w0, w1, w2, w3, w4, w5, rfl⟩ : ∃ w0 w1 w2 w3 w4 w5 : Value, args = #[w0, w1, w2, w3, w4, w5] := by
    have hs : args.size = 6 := by simpa [Cond.value, given_1] using g1
    obtain ⟨L⟩ := args
    match L, hs with
    | [w0, w1, w2, w3, w4, w5], _ => exact ⟨w0, w1, w2, w3, w4, w5, rfl⟩
  have hw := fun d (hd : d ∈ tables_1) => atoms_spec (ws := Jvm.Cond.code x code maxLocals ret :: tables_1) hat d (List.mem_cons_of_mem _ hd)
  have hfit : Fit s := fun {y c} hc i hi => by
    obtain ⟨ha, rfl⟩ := Array.getElem?_eq_some_iff.mp hc
    have q := List.all_eq_true.mp ((Array.all_eq_true_iff_forall_mem.mp hF) _ (Array.getElem_mem ha)) i (List.mem_range.mpr hi)
    simpa [Array.getElem?_eq_getElem hi] using q
  obtain ⟨i0, ei0⟩ := is_v g3
  obtain rfl : w0 = (.int i0) := Option.some.inj ei0
  obtain ⟨i1, ei1⟩ := is_v g5
  obtain rfl : w1 = (.int i1) := Option.some.inj ei1
  obtain ⟨i2, ei2⟩ := is_v g7
  obtain rfl : w2 = (.int i2) := Option.some.inj ei2
  obtain ⟨i3, ei3⟩ := is_v g9
  obtain rfl : w3 = (.int i3) := Option.some.inj ei3
  obtain ⟨i4, ei4⟩ := is_v g11
  obtain rfl : w4 = (.int i4) := Option.some.inj ei4
  obtain ⟨i5, ei5⟩ := is_v g12
  obtain rfl : w5 = (.int i5) := Option.some.inj ei5
  obtain ⟨n, o, h1, h2, h3, _, L, rfl, ⟨rfl, N⟩, hq⟩ := rm0 l s _ hw tables_1 i0 i1 i2 i3 i4 i5 s.heap s.heap.size (Nat.le_refl _)  p e ha hc hk s m _ below hf ((Spec.applies_iff_loose hf).mp happ).1 ⟨rfl, State.Warmed39.refl s, rfl⟩ trivial
  refine ⟨n, _, h1, h2, h3, hpost _ _ _ _ _ _ ⟨Cond.after_iff.mpr rfl, Cond.after_iff.mpr (eq_i res_at (Term.int_eval (1)) rfl), trivial⟩ ⟨hq.1, hq.2.1, (hq.2.2.sift fun y hy => Or.inr (N y hy)).mono (by decide) (by decide)⟩⟩
theorem main_1_1 : Claimed_1_1 := comes_1 fun _ _ _ _ _ _ h hF => ⟨h.1, hF⟩
theorem main_1_2 : Claimed_1_2 := comes_1 fun _ _ _ _ _ _ h hF => ⟨h.2.1, hF⟩
end Jvm.Pilot.@@N@@
namespace Jvm.Pilot.@@N@@
open Jvm Jvm.ClassFile Sem Op Lib Jvm.Free Jvm.Stand Jvm.Pilot.@@N@@.Jvm.D
/-! MADE BY PROGRAM (witnessworld.py) out of the Statement's table words and the real class files: 17 classes; the members and pool entries that the words name. The judged class is class 1, her method 1. -/
namespace start1
open Jvm.ClassFile
def u (s : String) : CpInfo := .utf8 (stringToUtf16 s)
/-- a pool by its gaps: so many unusable entries, then the entry; so many at the end -/
def gap : Nat → List CpInfo → List CpInfo
  | 0, r => r
  | n + 1, r => .unusable :: gap n r
def poolList (es : List (Nat × CpInfo)) (last : Nat) : List CpInfo := es.foldr (fun e r => gap e.1 (e.2 :: r)) (gap last [])
def pool (es : List (Nat × CpInfo)) (last : Nat) : Array CpInfo := ⟨poolList es last⟩
def fileOf (pool : Array CpInfo) (this : Nat) (attrs : Array Attribute := #[]) (ms : Array MethodInfo := #[]) (fl : Nat := 33) (sup : Nat := 0) (ifs : Array Nat := #[]) (fds : Array FieldInfo := #[]) : ClassFile where
  minorVersion := 0
  majorVersion := 65
  constantPool := pool
  accessFlags := fl
  thisClass := this
  superClass := sup
  interfaces := ifs
  fields := fds
  methods := ms
  attributes := attrs
def plain (name : String) (sup : Option ClassId) : Class where
  name := name
  kind := .ordinary
  loader := none
  accessFlags := 33
  super := sup
  interfaces := #[]
  cf := none
  fields := #[]
  methods := #[]
  instanceTypes := #[]
  staticTypes := #[]
  resolved := #[]
  callSites := []
  init := .initialized
  statics := none
  mirror := none

def pool0 : Array CpInfo := pool [(5, u "<init>"), (0, u "()V"), (1, .class_ 10), (1, u "java/lang/Object")] 113

def k0c0 : Code := { maxStack := 0, maxLocals := 1, code := object_method_1_code, exceptionTable := #[], attributes := #[] }
def k0m0 : Method := { name := "<init>", desc := "()V", sig := { parameters := [], returnType := none }, accessFlags := 1, code := some k0c0 }
/-- java/lang/Object -/
def k0 : Class := { plain "java/lang/Object" none with
  accessFlags := 33
  interfaces := #[]
  cf := some (fileOf pool0 8 #[] #[{ accessFlags := 1, nameIndex := 5, descriptorIndex := 6, attributes := #[] }] 33 0 #[] #[])
  fields := #[]
  methods := #[k0m0]
  instanceTypes := #[]
  staticTypes := #[]
  resolved := Array.replicate 124 none
  statics := none }

def pool1 : Array CpInfo := pool [(2, .class_ 4), (1, u "java/lang/Object"), (0, u "<init>"), (0, u "()V"), (0, .class_ 8), (0, u "com/example/tranquility/tranquility/PairTable"), (0, .methodref 7 10), (0, .nameAndType 5 11), (0, u "(I)V"), (0, .integer 2147483647), (0, .methodref 7 14), (0, .nameAndType 15 16), (0, u "add"), (0, u "(II)I"), (0, .methodref 7 18), (0, .nameAndType 19 16), (0, u "get"), (0, .methodref 7 21), (0, .nameAndType 22 23), (0, u "set"), (0, u "(III)V"), (0, .class_ 25), (0, u "com/example/tranquility/tranquility/PairTableGetPinLaw"), (2, u "law"), (0, u "(IIIIII)Z")] 3

def k1m0 : Method := { name := "<init>", desc := "()V", sig := { parameters := [], returnType := none }, accessFlags := 1, code := none }
def k1c1 : Code := { maxStack := 4, maxLocals := 13, code := code, exceptionTable := #[], attributes := #[] }
def k1m1 : Method := { name := "law", desc := "(IIIIII)Z", sig := { parameters := [.int, .int, .int, .int, .int, .int], returnType := some .boolean }, accessFlags := 9, code := some k1c1 }
/-- com/example/tranquility/tranquility/PairTableGetPinLaw -/
def k1 : Class := { plain "com/example/tranquility/tranquility/PairTableGetPinLaw" (some 0) with
  accessFlags := 49
  interfaces := #[]
  cf := some (fileOf pool1 24 #[] #[{ accessFlags := 1, nameIndex := 5, descriptorIndex := 6, attributes := #[] }, { accessFlags := 9, nameIndex := 28, descriptorIndex := 29, attributes := #[] }] 49 2 #[] #[])
  fields := #[]
  methods := #[k1m0, k1m1]
  instanceTypes := #[]
  staticTypes := #[]
  resolved := Array.replicate 33 none
  statics := none }

def pool2 : Array CpInfo := pool [(1, .methodref 2 3), (0, .class_ 4), (0, .nameAndType 5 6), (0, u "java/lang/Object"), (0, u "<init>"), (0, u "()V"), (0, .methodref 8 9), (0, .class_ 10), (0, .nameAndType 11 12), (0, u "java/lang/Math"), (0, u "max"), (0, u "(II)I"), (0, .methodref 14 15), (0, .class_ 16), (0, .nameAndType 17 18), (0, u "java/lang/Integer"), (0, u "highestOneBit"), (0, u "(I)I"), (0, .class_ 20), (0, u "com/example/tranquility/tranquility/PairTable"), (0, .fieldref 19 22), (0, .nameAndType 23 24), (0, u "slots"), (0, u "[J"), (0, .fieldref 19 26), (0, .nameAndType 27 28), (0, u "mask"), (0, u "I"), (2, .methodref 14 32), (0, .nameAndType 33 18), (0, u "numberOfTrailingZeros"), (0, .fieldref 19 35), (0, .nameAndType 36 28), (0, u "shift"), (0, .long 18446744073709551615), (1, .methodref 19 40), (0, .nameAndType 41 42), (0, u "pack"), (0, u "(II)J"), (0, .methodref 19 44), (0, .nameAndType 45 46), (0, u "start"), (0, u "(J)I"), (0, .long 4294967295), (1, .methodref 14 50), (0, .nameAndType 51 52), (0, u "toUnsignedLong"), (0, u "(I)J"), (0, .long 11400714819323198485), (1, u "SLOT"), (2, u "FREE"), (0, u "J"), (0, u "(I)V"), (3, u "add"), (2, u "get"), (0, u "set"), (0, u "(III)V")] 2

def k2c0 : Code := { maxStack := 4, maxLocals := 4, code := prog_28_method_1_code, exceptionTable := #[], attributes := #[] }
def k2m0 : Method := { name := "<init>", desc := "(I)V", sig := { parameters := [.int], returnType := none }, accessFlags := 0, code := some k2c0 }
def k2c1 : Code := { maxStack := 4, maxLocals := 6, code := prog_28_method_2_code, exceptionTable := #[], attributes := #[] }
def k2m1 : Method := { name := "add", desc := "(II)I", sig := { parameters := [.int, .int], returnType := some .int }, accessFlags := 0, code := some k2c1 }
def k2c2 : Code := { maxStack := 4, maxLocals := 3, code := prog_28_method_5_code, exceptionTable := #[], attributes := #[] }
def k2m2 : Method := { name := "get", desc := "(II)I", sig := { parameters := [.int, .int], returnType := some .int }, accessFlags := 0, code := some k2c2 }
def k2c3 : Code := { maxStack := 8, maxLocals := 6, code := prog_28_method_6_code, exceptionTable := #[], attributes := #[] }
def k2m3 : Method := { name := "set", desc := "(III)V", sig := { parameters := [.int, .int, .int], returnType := none }, accessFlags := 0, code := some k2c3 }
def k2c4 : Code := { maxStack := 4, maxLocals := 2, code := prog_28_method_7_code, exceptionTable := #[], attributes := #[] }
def k2m4 : Method := { name := "pack", desc := "(II)J", sig := { parameters := [.int, .int], returnType := some .long }, accessFlags := 10, code := some k2c4 }
def k2c5 : Code := { maxStack := 4, maxLocals := 3, code := prog_28_method_8_code, exceptionTable := #[], attributes := #[] }
def k2m5 : Method := { name := "start", desc := "(J)I", sig := { parameters := [.long], returnType := some .int }, accessFlags := 2, code := some k2c5 }
/-- com/example/tranquility/tranquility/PairTable -/
def k2 : Class := { plain "com/example/tranquility/tranquility/PairTable" (some 0) with
  accessFlags := 32
  interfaces := #[]
  cf := some (fileOf pool2 19 #[] #[{ accessFlags := 0, nameIndex := 5, descriptorIndex := 60, attributes := #[] }, { accessFlags := 0, nameIndex := 64, descriptorIndex := 12, attributes := #[] }, { accessFlags := 0, nameIndex := 67, descriptorIndex := 12, attributes := #[] }, { accessFlags := 0, nameIndex := 68, descriptorIndex := 69, attributes := #[] }, { accessFlags := 10, nameIndex := 41, descriptorIndex := 42, attributes := #[] }, { accessFlags := 2, nameIndex := 45, descriptorIndex := 46, attributes := #[] }] 32 2 #[] #[{ accessFlags := 26, nameIndex := 55, descriptorIndex := 28, attributes := #[] }, { accessFlags := 26, nameIndex := 58, descriptorIndex := 59, attributes := #[] }, { accessFlags := 18, nameIndex := 23, descriptorIndex := 24, attributes := #[] }, { accessFlags := 18, nameIndex := 27, descriptorIndex := 28, attributes := #[] }, { accessFlags := 18, nameIndex := 36, descriptorIndex := 28, attributes := #[] }])
  fields := #[{ name := "SLOT", type := .int, accessFlags := 26, slot := 0, constantValue := 0 }, { name := "FREE", type := .long, accessFlags := 26, slot := 1, constantValue := 0 }, { name := "slots", type := (.array .long), accessFlags := 18, slot := 0, constantValue := 0 }, { name := "mask", type := .int, accessFlags := 18, slot := 1, constantValue := 0 }, { name := "shift", type := .int, accessFlags := 18, slot := 2, constantValue := 0 }]
  methods := #[k2m0, k2m1, k2m2, k2m3, k2m4, k2m5]
  instanceTypes := #[(.array .long), .int, .int]
  staticTypes := #[.int, .long]
  resolved := Array.replicate 72 none
  statics := none }

def pool3 : Array CpInfo := pool [(1, .class_ 2), (0, u "java/lang/Math"), (1, .class_ 6), (1, u "java/lang/Object"), (0, u "<init>"), (0, u "()V"), (89, .class_ 100), (1, u "java/lang/Math$RandomNumberGeneratorHolder"), (71, u "negativeZeroFloatBits"), (0, u "J"), (2, u "negativeZeroDoubleBits"), (21, u "max"), (46, u "$assertionsDisabled"), (0, u "Z"), (88, u "(II)I"), (2, u "twoToTheDoubleScaleDown"), (0, u "D"), (4, u "twoToTheDoubleScaleUp"), (9, u "E"), (3, u "PI"), (2, u "TAU"), (2, u "DEGREES_TO_RADIANS"), (0, u "RADIANS_TO_DEGREES")] 94

def k3m0 : Method := { name := "<init>", desc := "()V", sig := { parameters := [], returnType := none }, accessFlags := 2, code := none }
def k3c1 : Code := { maxStack := 2, maxLocals := 2, code := jdk_29_method_65_code, exceptionTable := #[], attributes := #[] }
def k3m1 : Method := { name := "max", desc := "(II)I", sig := { parameters := [.int, .int], returnType := some .int }, accessFlags := 9, code := some k3c1 }
/-- java/lang/Math -/
def k3 : Class := { plain "java/lang/Math" (some 0) with
  accessFlags := 49
  interfaces := #[]
  cf := some (fileOf pool3 1 #[.nestMembers #[98]] #[{ accessFlags := 2, nameIndex := 7, descriptorIndex := 8, attributes := #[] }, { accessFlags := 9, nameIndex := 198, descriptorIndex := 335, attributes := #[] }] 49 4 #[] #[{ accessFlags := 25, nameIndex := 354, descriptorIndex := 339, attributes := #[] }, { accessFlags := 25, nameIndex := 358, descriptorIndex := 339, attributes := #[] }, { accessFlags := 25, nameIndex := 361, descriptorIndex := 339, attributes := #[] }, { accessFlags := 26, nameIndex := 364, descriptorIndex := 339, attributes := #[] }, { accessFlags := 26, nameIndex := 365, descriptorIndex := 339, attributes := #[] }, { accessFlags := 26, nameIndex := 172, descriptorIndex := 173, attributes := #[] }, { accessFlags := 26, nameIndex := 176, descriptorIndex := 173, attributes := #[] }, { accessFlags := 8, nameIndex := 344, descriptorIndex := 339, attributes := #[] }, { accessFlags := 8, nameIndex := 338, descriptorIndex := 339, attributes := #[] }, { accessFlags := 4120, nameIndex := 245, descriptorIndex := 246, attributes := #[] }])
  fields := #[{ name := "E", type := .double, accessFlags := 25, slot := 0, constantValue := 0 }, { name := "PI", type := .double, accessFlags := 25, slot := 1, constantValue := 0 }, { name := "TAU", type := .double, accessFlags := 25, slot := 2, constantValue := 0 }, { name := "DEGREES_TO_RADIANS", type := .double, accessFlags := 26, slot := 3, constantValue := 0 }, { name := "RADIANS_TO_DEGREES", type := .double, accessFlags := 26, slot := 4, constantValue := 0 }, { name := "negativeZeroFloatBits", type := .long, accessFlags := 26, slot := 5, constantValue := 0 }, { name := "negativeZeroDoubleBits", type := .long, accessFlags := 26, slot := 6, constantValue := 0 }, { name := "twoToTheDoubleScaleUp", type := .double, accessFlags := 8, slot := 7, constantValue := 0 }, { name := "twoToTheDoubleScaleDown", type := .double, accessFlags := 8, slot := 8, constantValue := 0 }, { name := "$assertionsDisabled", type := .boolean, accessFlags := 4120, slot := 9, constantValue := 0 }]
  methods := #[k3m0, k3m1]
  instanceTypes := #[]
  staticTypes := #[.double, .double, .double, .double, .double, .long, .long, .double, .double, .boolean]
  resolved := Array.replicate 460 none
  statics := none }

def pool4 : Array CpInfo := pool [(1, .class_ 2), (0, u "java/io/Serializable"), (0, .class_ 4), (0, u "java/lang/Object")] 2

/-- java/io/Serializable -/
def k4 : Class := { plain "java/io/Serializable" (some 0) with
  accessFlags := 1537
  interfaces := #[]
  cf := some (fileOf pool4 1 #[] #[] 1537 3 #[] #[])
  fields := #[]
  methods := #[]
  instanceTypes := #[]
  staticTypes := #[]
  resolved := Array.replicate 7 none
  statics := none }

def pool5 : Array CpInfo := pool [(2, .class_ 4), (1, u "java/lang/Object"), (0, u "<init>"), (0, u "()V"), (1, .class_ 10), (1, u "java/lang/Number"), (2, .class_ 14), (0, u "java/io/Serializable"), (0, u "serialVersionUID"), (0, u "J")] 20

def k5m0 : Method := { name := "<init>", desc := "()V", sig := { parameters := [], returnType := none }, accessFlags := 1, code := none }
/-- java/lang/Number -/
def k5 : Class := { plain "java/lang/Number" (some 0) with
  accessFlags := 1057
  interfaces := #[4]
  cf := some (fileOf pool5 8 #[] #[{ accessFlags := 1, nameIndex := 5, descriptorIndex := 6, attributes := #[] }] 1057 2 #[13] #[{ accessFlags := 26, nameIndex := 15, descriptorIndex := 16, attributes := #[] }])
  fields := #[{ name := "serialVersionUID", type := .long, accessFlags := 26, slot := 0, constantValue := 0 }]
  methods := #[k5m0]
  instanceTypes := #[]
  staticTypes := #[.long]
  resolved := Array.replicate 37 none
  statics := none }

def pool6 : Array CpInfo := pool [(1, .class_ 2), (0, u "java/lang/Comparable"), (0, .class_ 4), (0, u "java/lang/Object")] 7

/-- java/lang/Comparable -/
def k6 : Class := { plain "java/lang/Comparable" (some 0) with
  accessFlags := 1537
  interfaces := #[]
  cf := some (fileOf pool6 1 #[] #[] 1537 3 #[] #[])
  fields := #[]
  methods := #[]
  instanceTypes := #[]
  staticTypes := #[]
  resolved := Array.replicate 12 none
  statics := none }

def pool7 : Array CpInfo := pool [(1, .class_ 2), (0, u "java/lang/constant/Constable"), (0, .class_ 4), (0, u "java/lang/Object")] 6

/-- java/lang/constant/Constable -/
def k7 : Class := { plain "java/lang/constant/Constable" (some 0) with
  accessFlags := 1537
  interfaces := #[]
  cf := some (fileOf pool7 1 #[] #[] 1537 3 #[] #[])
  fields := #[]
  methods := #[]
  instanceTypes := #[]
  staticTypes := #[]
  resolved := Array.replicate 11 none
  statics := none }

def pool8 : Array CpInfo := pool [(1, .class_ 2), (0, u "java/lang/constant/ConstantDesc"), (0, .class_ 4), (0, u "java/lang/Object")] 32

/-- java/lang/constant/ConstantDesc -/
def k8 : Class := { plain "java/lang/constant/ConstantDesc" (some 0) with
  accessFlags := 1537
  interfaces := #[]
  cf := some (fileOf pool8 1 #[] #[] 1537 3 #[] #[])
  fields := #[]
  methods := #[]
  instanceTypes := #[]
  staticTypes := #[]
  resolved := Array.replicate 37 none
  statics := none }

def pool9 : Array CpInfo := pool [(1, .class_ 2), (0, u "java/lang/Integer"), (16, u "digits"), (0, u "[C"), (19, u "toUnsignedLong"), (0, u "(I)J"), (9, .methodref 1 52), (0, .nameAndType 53 54), (0, u "numberOfLeadingZeros"), (0, u "(I)I"), (30, u "DigitOnes"), (0, u "[B"), (2, u "DigitTens"), (37, .integer 2147483648), (61, .class_ 190), (0, u "java/lang/Integer$IntegerCache"), (3, u "I"), (8, .class_ 204), (0, u "java/lang/Number"), (2, u "value"), (54, .long 4294967295), (1, .integer 65536), (37, u "TYPE"), (0, u "Ljava/lang/Class;"), (0, .class_ 305), (0, u "java/lang/Comparable"), (0, .class_ 307), (0, u "java/lang/constant/Constable"), (0, .class_ 309), (0, u "java/lang/constant/ConstantDesc"), (0, u "MIN_VALUE"), (1, u "MAX_VALUE"), (3, u "SIZE"), (1, u "BYTES"), (1, u "serialVersionUID"), (0, u "J"), (81, u "highestOneBit"), (2, u "numberOfTrailingZeros")] 46

def k9c0 : Code := { maxStack := 4, maxLocals := 1, code := jdk_33_method_42_code, exceptionTable := #[], attributes := #[] }
def k9m0 : Method := { name := "toUnsignedLong", desc := "(I)J", sig := { parameters := [.int], returnType := some .long }, accessFlags := 9, code := some k9c0 }
def k9c1 : Code := { maxStack := 3, maxLocals := 1, code := jdk_33_method_45_code, exceptionTable := #[], attributes := #[] }
def k9m1 : Method := { name := "highestOneBit", desc := "(I)I", sig := { parameters := [.int], returnType := some .int }, accessFlags := 9, code := some k9c1 }
def k9c2 : Code := { maxStack := 3, maxLocals := 2, code := jdk_33_method_47_code, exceptionTable := #[], attributes := #[] }
def k9m2 : Method := { name := "numberOfLeadingZeros", desc := "(I)I", sig := { parameters := [.int], returnType := some .int }, accessFlags := 9, code := some k9c2 }
def k9c3 : Code := { maxStack := 3, maxLocals := 2, code := jdk_33_method_48_code, exceptionTable := #[], attributes := #[] }
def k9m3 : Method := { name := "numberOfTrailingZeros", desc := "(I)I", sig := { parameters := [.int], returnType := some .int }, accessFlags := 9, code := some k9c3 }
/-- java/lang/Integer -/
def k9 : Class := { plain "java/lang/Integer" (some 5) with
  accessFlags := 49
  interfaces := #[6, 7, 8]
  cf := some (fileOf pool9 1 #[.nestMembers #[189]] #[{ accessFlags := 9, nameIndex := 40, descriptorIndex := 41, attributes := #[] }, { accessFlags := 9, nameIndex := 403, descriptorIndex := 54, attributes := #[] }, { accessFlags := 9, nameIndex := 53, descriptorIndex := 54, attributes := #[] }, { accessFlags := 9, nameIndex := 406, descriptorIndex := 54, attributes := #[] }] 49 203 #[304, 306, 308] #[{ accessFlags := 25, nameIndex := 310, descriptorIndex := 194, attributes := #[] }, { accessFlags := 25, nameIndex := 312, descriptorIndex := 194, attributes := #[] }, { accessFlags := 25, nameIndex := 302, descriptorIndex := 303, attributes := #[] }, { accessFlags := 24, nameIndex := 19, descriptorIndex := 20, attributes := #[] }, { accessFlags := 24, nameIndex := 89, descriptorIndex := 86, attributes := #[] }, { accessFlags := 24, nameIndex := 85, descriptorIndex := 86, attributes := #[] }, { accessFlags := 18, nameIndex := 207, descriptorIndex := 194, attributes := #[] }, { accessFlags := 25, nameIndex := 316, descriptorIndex := 194, attributes := #[] }, { accessFlags := 25, nameIndex := 318, descriptorIndex := 194, attributes := #[] }, { accessFlags := 26, nameIndex := 320, descriptorIndex := 321, attributes := #[] }])
  fields := #[{ name := "MIN_VALUE", type := .int, accessFlags := 25, slot := 0, constantValue := 0 }, { name := "MAX_VALUE", type := .int, accessFlags := 25, slot := 1, constantValue := 0 }, { name := "TYPE", type := (.object "java/lang/Class"), accessFlags := 25, slot := 2, constantValue := 0 }, { name := "digits", type := (.array .char), accessFlags := 24, slot := 3, constantValue := 0 }, { name := "DigitTens", type := (.array .byte), accessFlags := 24, slot := 4, constantValue := 0 }, { name := "DigitOnes", type := (.array .byte), accessFlags := 24, slot := 5, constantValue := 0 }, { name := "value", type := .int, accessFlags := 18, slot := 0, constantValue := 0 }, { name := "SIZE", type := .int, accessFlags := 25, slot := 6, constantValue := 0 }, { name := "BYTES", type := .int, accessFlags := 25, slot := 7, constantValue := 0 }, { name := "serialVersionUID", type := .long, accessFlags := 26, slot := 8, constantValue := 0 }]
  methods := #[k9m0, k9m1, k9m2, k9m3]
  instanceTypes := #[.int]
  staticTypes := #[.int, .int, (.object "java/lang/Class"), (.array .char), (.array .byte), (.array .byte), .int, .int, .long]
  resolved := Array.replicate 453 none
  statics := none }

def pool10 : Array CpInfo := pool [(1, u "java/lang/Cloneable"), (0, .class_ 1), (0, u "java/lang/Object"), (0, .class_ 3)] 3

/-- java/lang/Cloneable -/
def k10 : Class := { plain "java/lang/Cloneable" (some 0) with
  accessFlags := 1537
  interfaces := #[]
  cf := some (fileOf pool10 2 #[] #[] 1537 4 #[] #[])
  fields := #[]
  methods := #[]
  instanceTypes := #[]
  staticTypes := #[]
  resolved := Array.replicate 8 none
  statics := none }

/-- the primitive byte -/
def k11 : Class := { plain "byte" none with kind := .primitive 'B', accessFlags := 0x411 }
/-- [B -/
def k12 : Class := { plain "[B" (some 0) with kind := .array 11 .byte, interfaces := #[10, 4], accessFlags := 1041 }

/-- the primitive int -/
def k13 : Class := { plain "int" none with kind := .primitive 'I', accessFlags := 0x411 }
/-- [I -/
def k14 : Class := { plain "[I" (some 0) with kind := .array 13 .int, interfaces := #[10, 4], accessFlags := 1041 }

/-- the primitive long -/
def k15 : Class := { plain "long" none with kind := .primitive 'J', accessFlags := 0x411 }
/-- [J -/
def k16 : Class := { plain "[J" (some 0) with kind := .array 15 .long, interfaces := #[10, 4], accessFlags := 1041 }

def heap : Heap := #[]
def classes : Array Class := #[k0, k1, k2, k3, k4, k5, k6, k7, k8, k9, k10, k11, k12, k13, k14, k15, k16]
def interned : List (Array UInt16 × Addr) := []
def slotsUsed : Nat := 0
def theMethod : MethodId := ⟨1, 1⟩
def args0 : Array Value := #[.int 1, .int 6, .int 7, .int 8, .int 9, .int 10]
def aboutOver (below : List Frame) : State where
  vm := { classes := classes, interned := interned.toArray }
  heap := heap
  slotsUsed := slotsUsed
  threads := #[{ frames := .invoking theMethod args0 :: below }]
def below0 : List Frame := [.native { method := ⟨0, 0⟩, args := #[] }]
def about1 : State := aboutOver below0
def p0 : Program := .bare "" "" ""
def e0 : Env := launch0.env 0 0 0
theorem w_frames : about1.frames = Frame.invoking theMethod args0 :: below0 := rfl
set_option maxRecDepth 65536 in
theorem w_args : argsFit about1.vm theMethod args0 = true := by decide +kernel
set_option maxRecDepth 65536 in
theorem w_heap : heapFits about1 = true := by decide +kernel
set_option maxRecDepth 65536 in
theorem w_runnable : about1.curStatus? = some .runnable := by decide +kernel
set_option maxRecDepth 65536 in
theorem w_alone : about1.alone = true := by decide +kernel
set_option maxRecDepth 65536 in
theorem w_named : about1.methodNamed? x = some theMethod := by decide +kernel
set_option maxRecDepth 65536 in
theorem w_hears : about1.hears theMethod below0 = true := by decide +kernel
set_option maxRecDepth 65536 in
theorem w_ripe : about1.ripe theMethod args0 below0 = true := by decide +kernel
theorem w_running : about1.status = .running := rfl
set_option maxRecDepth 65536 in
theorem w_room : about1.hasRoom e0.platform room_1 = true :=
  launch0.hasRoom_least _ room_1 (by decide +kernel) (by decide +kernel) (by decide +kernel) (by decide +kernel) (by decide +kernel) (by decide +kernel)
theorem allAtoms_all (ts : List Jvm.Cond) (a : Array Jvm.Value) (st : Jvm.State) : (allAtoms ts).before a st = ts.all (fun c => c.before a st) := by
  induction ts with
  | nil => rfl
  | cons c t ih =>
    show (Jvm.Cond.and c (allAtoms t)).before a st = _
    rw [Jvm.Cond.before_and, ih, List.all_cons]
def words1 : List Jvm.Cond := Jvm.Cond.code x code maxLocals ret :: tables_1
/-- a 'code' word, met by the world's own term for the bytes: nothing is compared byte by byte -/
theorem code_word {y : MethodName} {bytes : ByteArray} {mx : Nat} {rt : Option FieldType} {a : Array Value} {s : State} {m : MethodId} {meth : Method} {c : Code} (h1 : s.methodNamed? y = some m) (h2 : s.vm.method? m = some meth) (h3 : meth.code = some c) (h4 : c.code = bytes)
    (h5 : (c.maxLocals == mx && c.exceptionTable.isEmpty && decide (c.maxStack ≤ mostOperands) && decide (meth.sig.returnType = rt) && !meth.locks && decide (parseMethodDescriptor y.desc = some meth.sig)) = true) : (Jvm.Cond.code y bytes mx rt).before a s = true := by
  simp only [Bool.and_eq_true, beq_iff_eq, Bool.not_eq_true', decide_eq_true_eq] at h5
  obtain ⟨⟨⟨⟨⟨g1, g2⟩, g3⟩, g4⟩, g5⟩, g6⟩ := h5
  simp [Cond.before, Cond.holds, Cond.value, h1, h2, h3, h4, g1, g2, g3, g4, g5, g6]
def isCode : Jvm.Cond → Bool
  | .code _ _ _ _ => true
  | _ => false
theorem all_split {L : List Jvm.Cond} {P : Jvm.Cond → Bool} (h1 : L.all (fun c => isCode c || P c) = true) (h2 : ∀ c ∈ L.filter isCode, P c = true) : L.all P = true := by
  refine List.all_eq_true.mpr fun c hc => ?_
  have h := List.all_eq_true.mp h1 c hc
  rcases Bool.eq_false_or_eq_true (isCode c) with hi | hi
  · exact h2 c (List.mem_filter.mpr ⟨hc, hi⟩)
  · simpa [hi] using h
set_option maxRecDepth 65536 in
theorem w_c0 : (Jvm.Cond.code x code maxLocals ret).before args0 about1 = true := code_word (m := ⟨1, 1⟩) (meth := k1m1) (c := k1c1) (by decide +kernel) rfl rfl rfl (by decide +kernel)
set_option maxRecDepth 65536 in
theorem w_c1 : (Jvm.Cond.code ({ cls := "com/example/tranquility/tranquility/PairTable", name := "<init>", desc := "(I)V" } : Jvm.MethodName) prog_28_method_1_code (4 : Nat) (Option.none : Option Jvm.ClassFile.FieldType)).before args0 about1 = true := code_word (m := ⟨2, 0⟩) (meth := k2m0) (c := k2c0) (by decide +kernel) rfl rfl rfl (by decide +kernel)
set_option maxRecDepth 65536 in
theorem w_c2 : (Jvm.Cond.code ({ cls := "java/lang/Object", name := "<init>", desc := "()V" } : Jvm.MethodName) object_method_1_code (1 : Nat) (Option.none : Option Jvm.ClassFile.FieldType)).before args0 about1 = true := code_word (m := ⟨0, 0⟩) (meth := k0m0) (c := k0c0) (by decide +kernel) rfl rfl rfl (by decide +kernel)
set_option maxRecDepth 65536 in
theorem w_c3 : (Jvm.Cond.code ({ cls := "java/lang/Math", name := "max", desc := "(II)I" } : Jvm.MethodName) jdk_29_method_65_code (2 : Nat) (Option.some Jvm.ClassFile.FieldType.int)).before args0 about1 = true := code_word (m := ⟨3, 1⟩) (meth := k3m1) (c := k3c1) (by decide +kernel) rfl rfl rfl (by decide +kernel)
set_option maxRecDepth 65536 in
theorem w_c4 : (Jvm.Cond.code ({ cls := "java/lang/Integer", name := "highestOneBit", desc := "(I)I" } : Jvm.MethodName) jdk_33_method_45_code (1 : Nat) (Option.some Jvm.ClassFile.FieldType.int)).before args0 about1 = true := code_word (m := ⟨9, 1⟩) (meth := k9m1) (c := k9c1) (by decide +kernel) rfl rfl rfl (by decide +kernel)
set_option maxRecDepth 65536 in
theorem w_c5 : (Jvm.Cond.code ({ cls := "java/lang/Integer", name := "numberOfLeadingZeros", desc := "(I)I" } : Jvm.MethodName) jdk_33_method_47_code (2 : Nat) (Option.some Jvm.ClassFile.FieldType.int)).before args0 about1 = true := code_word (m := ⟨9, 2⟩) (meth := k9m2) (c := k9c2) (by decide +kernel) rfl rfl rfl (by decide +kernel)
set_option maxRecDepth 65536 in
theorem w_c6 : (Jvm.Cond.code ({ cls := "java/lang/Integer", name := "numberOfTrailingZeros", desc := "(I)I" } : Jvm.MethodName) jdk_33_method_48_code (2 : Nat) (Option.some Jvm.ClassFile.FieldType.int)).before args0 about1 = true := code_word (m := ⟨9, 3⟩) (meth := k9m3) (c := k9c3) (by decide +kernel) rfl rfl rfl (by decide +kernel)
set_option maxRecDepth 65536 in
theorem w_c7 : (Jvm.Cond.code ({ cls := "com/example/tranquility/tranquility/PairTable", name := "add", desc := "(II)I" } : Jvm.MethodName) prog_28_method_2_code (6 : Nat) (Option.some Jvm.ClassFile.FieldType.int)).before args0 about1 = true := code_word (m := ⟨2, 1⟩) (meth := k2m1) (c := k2c1) (by decide +kernel) rfl rfl rfl (by decide +kernel)
set_option maxRecDepth 65536 in
theorem w_c8 : (Jvm.Cond.code ({ cls := "com/example/tranquility/tranquility/PairTable", name := "pack", desc := "(II)J" } : Jvm.MethodName) prog_28_method_7_code (2 : Nat) (Option.some Jvm.ClassFile.FieldType.long)).before args0 about1 = true := code_word (m := ⟨2, 4⟩) (meth := k2m4) (c := k2c4) (by decide +kernel) rfl rfl rfl (by decide +kernel)
set_option maxRecDepth 65536 in
theorem w_c9 : (Jvm.Cond.code ({ cls := "java/lang/Integer", name := "toUnsignedLong", desc := "(I)J" } : Jvm.MethodName) jdk_33_method_42_code (1 : Nat) (Option.some Jvm.ClassFile.FieldType.long)).before args0 about1 = true := code_word (m := ⟨9, 0⟩) (meth := k9m0) (c := k9c0) (by decide +kernel) rfl rfl rfl (by decide +kernel)
set_option maxRecDepth 65536 in
theorem w_c10 : (Jvm.Cond.code ({ cls := "com/example/tranquility/tranquility/PairTable", name := "start", desc := "(J)I" } : Jvm.MethodName) prog_28_method_8_code (3 : Nat) (Option.some Jvm.ClassFile.FieldType.int)).before args0 about1 = true := code_word (m := ⟨2, 5⟩) (meth := k2m5) (c := k2c5) (by decide +kernel) rfl rfl rfl (by decide +kernel)
set_option maxRecDepth 65536 in
theorem w_c11 : (Jvm.Cond.code ({ cls := "com/example/tranquility/tranquility/PairTable", name := "get", desc := "(II)I" } : Jvm.MethodName) prog_28_method_5_code (3 : Nat) (Option.some Jvm.ClassFile.FieldType.int)).before args0 about1 = true := code_word (m := ⟨2, 2⟩) (meth := k2m2) (c := k2c2) (by decide +kernel) rfl rfl rfl (by decide +kernel)
set_option maxRecDepth 65536 in
theorem w_c12 : (Jvm.Cond.code ({ cls := "com/example/tranquility/tranquility/PairTable", name := "set", desc := "(III)V" } : Jvm.MethodName) prog_28_method_6_code (6 : Nat) (Option.none : Option Jvm.ClassFile.FieldType)).before args0 about1 = true := code_word (m := ⟨2, 3⟩) (meth := k2m3) (c := k2c3) (by decide +kernel) rfl rfl rfl (by decide +kernel)
def codes1 : List Jvm.Cond := [Jvm.Cond.code x code maxLocals ret, Jvm.Cond.code ({ cls := "com/example/tranquility/tranquility/PairTable", name := "<init>", desc := "(I)V" } : Jvm.MethodName) prog_28_method_1_code (4 : Nat) (Option.none : Option Jvm.ClassFile.FieldType), Jvm.Cond.code ({ cls := "java/lang/Object", name := "<init>", desc := "()V" } : Jvm.MethodName) object_method_1_code (1 : Nat) (Option.none : Option Jvm.ClassFile.FieldType), Jvm.Cond.code ({ cls := "java/lang/Math", name := "max", desc := "(II)I" } : Jvm.MethodName) jdk_29_method_65_code (2 : Nat) (Option.some Jvm.ClassFile.FieldType.int), Jvm.Cond.code ({ cls := "java/lang/Integer", name := "highestOneBit", desc := "(I)I" } : Jvm.MethodName) jdk_33_method_45_code (1 : Nat) (Option.some Jvm.ClassFile.FieldType.int), Jvm.Cond.code ({ cls := "java/lang/Integer", name := "numberOfLeadingZeros", desc := "(I)I" } : Jvm.MethodName) jdk_33_method_47_code (2 : Nat) (Option.some Jvm.ClassFile.FieldType.int), Jvm.Cond.code ({ cls := "java/lang/Integer", name := "numberOfTrailingZeros", desc := "(I)I" } : Jvm.MethodName) jdk_33_method_48_code (2 : Nat) (Option.some Jvm.ClassFile.FieldType.int), Jvm.Cond.code ({ cls := "com/example/tranquility/tranquility/PairTable", name := "add", desc := "(II)I" } : Jvm.MethodName) prog_28_method_2_code (6 : Nat) (Option.some Jvm.ClassFile.FieldType.int), Jvm.Cond.code ({ cls := "com/example/tranquility/tranquility/PairTable", name := "pack", desc := "(II)J" } : Jvm.MethodName) prog_28_method_7_code (2 : Nat) (Option.some Jvm.ClassFile.FieldType.long), Jvm.Cond.code ({ cls := "java/lang/Integer", name := "toUnsignedLong", desc := "(I)J" } : Jvm.MethodName) jdk_33_method_42_code (1 : Nat) (Option.some Jvm.ClassFile.FieldType.long), Jvm.Cond.code ({ cls := "com/example/tranquility/tranquility/PairTable", name := "start", desc := "(J)I" } : Jvm.MethodName) prog_28_method_8_code (3 : Nat) (Option.some Jvm.ClassFile.FieldType.int), Jvm.Cond.code ({ cls := "com/example/tranquility/tranquility/PairTable", name := "get", desc := "(II)I" } : Jvm.MethodName) prog_28_method_5_code (3 : Nat) (Option.some Jvm.ClassFile.FieldType.int), Jvm.Cond.code ({ cls := "com/example/tranquility/tranquility/PairTable", name := "set", desc := "(III)V" } : Jvm.MethodName) prog_28_method_6_code (6 : Nat) (Option.none : Option Jvm.ClassFile.FieldType)]
set_option maxRecDepth 65536 in
theorem codes_eq : words1.filter isCode = codes1 := rfl
theorem w_codes : ∀ c ∈ words1.filter isCode, c.before args0 about1 = true := by
  rw [codes_eq]
  intro c hc
  simp only [codes1, List.mem_cons, List.not_mem_nil, or_false] at hc
  rcases hc with rfl | rfl | rfl | rfl | rfl | rfl | rfl | rfl | rfl | rfl | rfl | rfl | rfl
  · exact w_c0
  · exact w_c1
  · exact w_c2
  · exact w_c3
  · exact w_c4
  · exact w_c5
  · exact w_c6
  · exact w_c7
  · exact w_c8
  · exact w_c9
  · exact w_c10
  · exact w_c11
  · exact w_c12
set_option maxRecDepth 65536 in
theorem w_t1 : (words1.take 24).all (fun c => isCode c || c.before args0 about1) = true := by decide +kernel
set_option maxRecDepth 65536 in
theorem w_t2 : ((words1.drop 24).take 24).all (fun c => isCode c || c.before args0 about1) = true := by decide +kernel
set_option maxRecDepth 65536 in
theorem w_t3 : ((words1.drop 24).drop 24).all (fun c => isCode c || c.before args0 about1) = true := by decide +kernel
theorem w_tables : (allAtoms (Jvm.Cond.code x code maxLocals ret :: tables_1)).before args0 about1 = true := by
  rw [allAtoms_all]
  show words1.all (fun c => c.before args0 about1) = true
  refine all_split ?_ w_codes
  rw [← List.take_append_drop 24 words1, List.all_append, w_t1, ← List.take_append_drop 24 (words1.drop 24), List.all_append, w_t2, w_t3]
  rfl
set_option maxRecDepth 65536 in
theorem w_case : (Jvm.Cond.and given_1 narrow_1).before args0 about1 = true := by decide +kernel
theorem w_applies : (headSpec (Jvm.Cond.code x code maxLocals ret :: tables_1) room_1).applies x e0.platform about1 = true :=
  (Spec.applies_iff w_frames).mpr ⟨w_running, w_runnable, w_alone, w_named, w_hears, w_ripe, w_room, w_tables⟩
theorem atStart : AtStart classFile x code maxLocals ret World_1 tables_1 room_1 Calls_1 rest_1 Pre_1 launch0 p0 e0 about1 theMethod args0 below0 :=
  ⟨lists_1, trivial, launch0.admits_env _ _ _, launch0.least_env, fairChoices_fair.cas, fairChoices_fair.clock, w_frames, w_args, w_heap, w_applies, trivial, trivial, w_case⟩
end start1
theorem witness_1 : WitnessClaimed_1 := ⟨start1.p0, start1.e0, start1.about1, start1.theMethod, start1.args0, start1.below0, start1.atStart⟩
end Jvm.Pilot.@@N@@
