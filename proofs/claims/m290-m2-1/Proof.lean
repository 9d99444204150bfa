import JvmDerived
import JvmDerived.Pilot.@@N@@Statement
import JvmDerived.Pilot.@@N@@Code
set_option linter.unusedVariables false
set_option linter.unusedSimpArgs false
@@BLOCK:NumsL.lean.txt@@
namespace Jvm.RoadKit
open Sem ClassFile Op Lib Jvm.Stand Jvm.Free Jvm.LawKit
section New
variable {p : Program} {l : Launch} {e : Env} {R : Room} {s : State} {m : MethodId} {args : Array Value} {below : List Frame} {meth : Method} {c : Code} {T : State} {locs : List Loc} {cells slots : Nat}
theorem retI (X : Stand p l e R s m args below meth c T locs cells slots) (hx : p.tables.exec = Jvm.exec) {pc : Nat} {Ls : Array Slot} {z : Int32} {rest : List Value} (hret : meth.sig.returnType = some .int) (hd : decode c.code pc = .ok (.ireturn, 1)) {fs : List Frame}
    (hl : ∀ (f : JFrame) (acts : List Action), f.method = m → f.locked = none → f.entered = [] → (doReturn e (T.setTop f) acts (some (.int z))).1 = T.setFrames fs) : Steps p.tables e below (T.setTop (mkF m pc Ls (.int z :: rest))) (T.setFrames fs) := by
  have hm' : T.vm.method? m = some meth := X.method'
  have hn : narrow .int (.int z) = .int z := rfl
  show Steps p.tables e below (T.setTop { method := m, pc := pc, locals := Ls, stack := _ :: rest, locked := none }) _
  jvm_step X.here [X.here.top, hx, hd, hm', hret, hn]
  first | (intro acts; rw [hl _ acts rfl rfl rfl]) | rw [hl _ _ rfl rfl rfl]
  exact Steps.refl _
end New
end Jvm.RoadKit
namespace Jvm.Pilot.@@N@@
open Jvm Jvm.ClassFile Sem Op Lib Jvm.Free Jvm.Stand Jvm.LawKit Jvm.RoadKit Bundle Jvm.Pilot.@@N@@.Jvm.D
theorem own_nb (y : Int32) : nar .byte (y.toInt8.toInt32) = y.toInt8.toInt32 := by
  show (y.toInt8.toInt32).toInt8.toInt32 = _
  simp
theorem own_fb (y : Int32) : fits .byte (.int (y.toInt8.toInt32)) = true := fits_nar_byte y

def own_St (Z : State) (t0 t1 t2 t3 d0 d1 d2 d3 oa : Addr) (oc : Cell) : Prop := (Sta Z Z.heap "com/example/reroutine/reroutine/scenario/EventType" "ACT_END" "Lcom/example/reroutine/reroutine/scenario/EventType;" (.ref t0) ∧ Exa Z Z.heap t0 "com/example/reroutine/reroutine/scenario/EventType" ∧ Fld Z Z.heap t0 "com/example/reroutine/reroutine/scenario/EventType" "detailAttribute" "Ljava/lang/String;" (.ref d0)) ∧ (Sta Z Z.heap "com/example/reroutine/reroutine/scenario/EventType" "DEPARTURE" "Lcom/example/reroutine/reroutine/scenario/EventType;" (.ref t1) ∧ Exa Z Z.heap t1 "com/example/reroutine/reroutine/scenario/EventType" ∧ Fld Z Z.heap t1 "com/example/reroutine/reroutine/scenario/EventType" "detailAttribute" "Ljava/lang/String;" (.ref d1)) ∧ (Sta Z Z.heap "com/example/reroutine/reroutine/scenario/EventType" "ARRIVAL" "Lcom/example/reroutine/reroutine/scenario/EventType;" (.ref t2) ∧ Exa Z Z.heap t2 "com/example/reroutine/reroutine/scenario/EventType" ∧ Fld Z Z.heap t2 "com/example/reroutine/reroutine/scenario/EventType" "detailAttribute" "Ljava/lang/String;" (.ref d2)) ∧ (Sta Z Z.heap "com/example/reroutine/reroutine/scenario/EventType" "ACT_START" "Lcom/example/reroutine/reroutine/scenario/EventType;" (.ref t3) ∧ Exa Z Z.heap t3 "com/example/reroutine/reroutine/scenario/EventType" ∧ Fld Z Z.heap t3 "com/example/reroutine/reroutine/scenario/EventType" "detailAttribute" "Ljava/lang/String;" (.ref d3)) ∧ Sta Z Z.heap "com/example/reroutine/reroutine/replanning/ExecutedDay" "ORDER" "[Lcom/example/reroutine/reroutine/scenario/EventType;" (.ref oa) ∧ Arr Z Z.heap oa oc (.object "com/example/reroutine/reroutine/scenario/EventType") ∧ oc.slots.size = (4 : Int32).toNatClampNeg ∧ (oc.slots[0]? = some (.ref t0) ∧ oc.slots[1]? = some (.ref t1) ∧ oc.slots[2]? = some (.ref t2) ∧ oc.slots[3]? = some (.ref t3))
def own_ED (Z : State) (h : Heap) (n0 : Nat) (a : Addr) (sz cap : Int32) : Prop := Exa Z h a "com/example/reroutine/reroutine/replanning/ExecutedDay" ∧ Fld Z h a "com/example/reroutine/reroutine/replanning/ExecutedDay" "size" "I" (.int sz) ∧ ∃ (ar : Addr) (kk : ClassId) (vs : List Value), n0 ≤ ar ∧ a ≠ ar ∧ Fld Z h a "com/example/reroutine/reroutine/replanning/ExecutedDay" "times" "[I" (.ref ar) ∧ Arv Z h ar kk .int cap vs (.int (0 : Int32)) ∧ vs.length = cap.toNatClampNeg
theorem own_ED.lt {Z : State} {h : Heap} {n0 : Nat} {a : Addr} {sz cap : Int32} (B : own_ED Z h n0 a sz cap) : a < h.size := B.1.lt
theorem own_ED.ext {Z : State} {h h' : Heap} {n0 : Nat} {a : Addr} {sz cap : Int32} (B : own_ED Z h n0 a sz cap) (E : Ext h h') : own_ED Z h' n0 a sz cap := by
  obtain ⟨e, f, ar, kk, vs, g1, g2, g3, g4, g5⟩ := B
  exact ⟨e.ext E, f.ext E, ar, kk, vs, g1, g2, g3.ext E, g4.ext E, g5⟩
theorem own_ED.keep0 {Z : State} {h h' : Heap} {n0 : Nat} {a : Addr} {sz cap : Int32} (B : own_ED Z h n0 a sz cap) (K : Keep h h' []) : own_ED Z h' n0 a sz cap := by
  obtain ⟨e, f, ar, kk, vs, g1, g2, g3, g4, g5⟩ := B
  exact ⟨e.keep K, f.keep K nin0, ar, kk, vs, g1, g2, g3.keep K nin0, g4.keep K nin0, g5⟩

theorem own_c255 (x : Int32) : ((x &&& (255 : Int32)).toUInt32.toUInt16.toUInt32.toInt32) = x &&& (255 : Int32) := by
  have a : ∀ n : Nat, n &&& 255 = n % 256 := fun n => Nat.and_two_pow_sub_one_eq_mod n 8
  apply Int32.toBitVec_inj.mp
  apply BitVec.eq_of_toNat_eq
  simp
  simp only [a]
  omega
theorem own_ch (x : Int32) : ¬ (255 : Int32) < ((x &&& (255 : Int32)).toUInt32.toUInt16.toUInt32.toInt32) := by
  rw [own_c255]
  have h := Jvm.Kit.i32_mask x 255 (k := 8) (by decide) (by decide)
  simp only [Int32.lt_iff_toInt_lt, h, Int32.reduceToInt]
  omega
theorem own_tm (y : Int32) : ¬ (y &&& (2147483647 : Int32)) < 0 := by
  have h := Jvm.Kit.i32_mask y 2147483647 (k := 31) (by decide) (by decide)
  simp only [Int32.lt_iff_toInt_lt, h, Int32.reduceToInt]
  omega

theorem own_ns (y : Int32) : ((y &&& (2147483647 : Int32)) % (8 : Int32)) = (0 : Int32) ∨ ((y &&& (2147483647 : Int32)) % (8 : Int32)) = (1 : Int32) ∨ ((y &&& (2147483647 : Int32)) % (8 : Int32)) = (2 : Int32) ∨ ((y &&& (2147483647 : Int32)) % (8 : Int32)) = (3 : Int32) ∨ ((y &&& (2147483647 : Int32)) % (8 : Int32)) = (4 : Int32) ∨ ((y &&& (2147483647 : Int32)) % (8 : Int32)) = (5 : Int32) ∨ ((y &&& (2147483647 : Int32)) % (8 : Int32)) = (6 : Int32) ∨ ((y &&& (2147483647 : Int32)) % (8 : Int32)) = (7 : Int32) := by
  have h := Jvm.Kit.i32_mask y 2147483647 (k := 31) (by decide) (by decide)
  have q := Jvm.Kit.i32_rem_nonneg (x := y &&& (2147483647 : Int32)) (y := 8) (by rw [h]; omega)
  have e : (8 : Int32).toInt = 8 := by decide
  rw [e] at q
  simp only [← Int32.toInt_inj, q, Int32.reduceToInt]; omega

theorem d2_0 : decode jdk_43_method_3_code 0 = .ok (.iload_n 0, 1) := by decide +kernel
theorem d2_1 : decode jdk_43_method_3_code 1 = .ok (.sipush 255, 3) := by decide +kernel
theorem d2_4 : decode jdk_43_method_3_code 4 = .ok (.if_icmp .gt 7, 3) := by decide +kernel
theorem d2_7 : decode jdk_43_method_3_code 7 = .ok (.iconst 1, 1) := by decide +kernel
theorem d2_8 : decode jdk_43_method_3_code 8 = .ok (.goto 4, 3) := by decide +kernel
theorem d2_12 : decode jdk_43_method_3_code 12 = .ok (.ireturn, 1) := by decide +kernel
theorem pn_0 : plainName "java/lang/StringLatin1" = true := by first | (simp [plainName, overriddenIn]; done) | decide +kernel
def QCanE (Z : State) (u0 : Int32)  (h0 : Heap) (n0 : Nat) (v : Option Value) (h : Heap) (L : List Loc) : Prop := v = some (.int (1 : Int32)) ∧ Fr n0 L ∧ h = h0
theorem ef_rmCanE (m : MethodId) (u0 : Int32) : entryFrame m #[(.int u0)] 1 = mkF m 0 #[iv u0] [] := by first | (simp [entryFrame, mkF, argsToLocals, Value.category]; done) | rfl
set_option maxRecDepth 65536 in
set_option maxHeartbeats 40000000 in
theorem rmCanE (l : Launch) (Z : State) (a0 : Array Value) (hw : ∀ d ∈ tables_1, d.before a0 Z = true) (ws : List Jvm.Cond) (u0 : Int32)  (h0 : Heap) (n0 : Nat) (Z0 : n0 ≤ h0.size) (hc : ¬ (255 : Int32) < u0) :
    MetFree l (⟨"java/lang/StringLatin1", "canEncode", "(C)Z"⟩ : MethodName) (head1 (Jvm.Cond.code (⟨"java/lang/StringLatin1", "canEncode", "(C)Z"⟩ : MethodName) jdk_43_method_3_code 1 (some .boolean) :: ws) ({ frames := 0, cells := 0, slots := 0, locals := 0 } : Room)) (fun a U => a = #[(.int u0)] ∧ Z.Warmed39 U.vm ∧ U.heap = h0) (fun _ _ _ _ _ => True) (fun _ U o U' => ∃ v L, o = .returned v ∧ QCanE Z u0 h0 n0 v U'.heap L ∧ FrameEnd U o U' L ({ frames := 0, cells := 0, slots := 0, locals := 0 } : Room).cells ({ frames := 0, cells := 0, slots := 0, locals := 0 } : Room).slots) := by
  refine MetFree.of_bodySF (plainFor_of_name pn_0) hisR ?_
  intro p e s m args below meth c s₁ Bd hml0 hP hK
  obtain ⟨rfl, hZ, hh⟩ := hP
  have hx := Bd.exec
  have hby := Bd.bytes
  have hml : c.maxLocals = 1 := hml0
  have hown : s.vm.findClass "java/lang/StringLatin1" = some m.cls := findClass_of_methodNamed Bd.named
  have hnm := (name_of_methodNamed Bd.named Bd.method).1
  have X0 : Stand p l e ({ frames := 0, cells := 0, slots := 0, locals := 0 } : Room) s m #[(.int u0)] below meth c s₁ [] 0 0 := Stand.of_body Bd
  have e0 : s₁.heap = h0 := by rw [← hh, Bd.state]; rfl
  have N0 := Fr.nil n0
  have S0 : ∀ t, Steps p.tables e below (s₁.setTop (mkF m 0 #[iv u0] [])) t → Steps p.tables e below (s₁.setTop (entryFrame m #[(.int u0)] 1)) t := fun t k => castTop (ef_rmCanE m u0) k
  obtain ⟨fs, hr, hrun, hended, hW, hsame⟩ := X0.leave (v := some (.int (1 : Int32))) (fun h => by rw [Bd.returns] at h; cases h)
  refine ⟨_, _, S0 _ ?_, hrun, hended, _, _, rfl, ?_, ⟨_, rfl⟩, hW, hsame.mono (by decide) (by decide)⟩
  · skip
    show Steps p.tables e below (s₁.setTop (mkF m 0 #[iv u0] [])) _
    refine XS.iloadN X0.here hx rfl (hb hby d2_0) rfl ?_
    show Steps p.tables e below (s₁.setTop (mkF m 1 #[iv u0] [(.int u0)])) _
    refine XS.sipush X0.here hx rfl (hb hby d2_1) ?_
    show Steps p.tables e below (s₁.setTop (mkF m 4 #[iv u0] [(.int (255 : Int32)), (.int u0)])) _
    refine XS.icmpNo X0.here hx rfl (hb hby d2_4) rfl (flt hc).2.2.1 ?_
    show Steps p.tables e below (s₁.setTop (mkF m 7 #[iv u0] [])) _
    refine XS.iconst X0.here hx rfl (hb hby d2_7) ?_
    show Steps p.tables e below (s₁.setTop (mkF m 8 #[iv u0] [(.int (1 : Int32))])) _
    refine XS.goto X0.here hx rfl (pc0 := 8) (pc' := 12) rfl (hb hby d2_8) (by decide) (by decide) ?_
    show Steps p.tables e below (s₁.setTop (mkF m 12 #[iv u0] [(.int (1 : Int32))])) _
    exact retN X0 hx (t := .boolean) Bd.returns (by simp) (hb hby d2_12) hr
  · show QCanE Z u0 h0 n0 _ s₁.heap _
    rw [e0]
    exact ⟨rfl, N0, rfl⟩
theorem d3_0 : decode jdk_43_method_46_code 0 = .ok (.iconst 1, 1) := by decide +kernel
theorem d3_1 : decode jdk_43_method_46_code 1 = .ok (.newarray .byte, 2) := by decide +kernel
theorem d3_3 : decode jdk_43_method_46_code 3 = .ok (.dup, 1) := by decide +kernel
theorem d3_4 : decode jdk_43_method_46_code 4 = .ok (.iconst 0, 1) := by decide +kernel
theorem d3_5 : decode jdk_43_method_46_code 5 = .ok (.iload_n 0, 1) := by decide +kernel
theorem d3_6 : decode jdk_43_method_46_code 6 = .ok (.i2b, 1) := by decide +kernel
theorem d3_7 : decode jdk_43_method_46_code 7 = .ok (.bastore, 1) := by decide +kernel
theorem d3_8 : decode jdk_43_method_46_code 8 = .ok (.areturn, 1) := by decide +kernel
def QToB (Z : State) (u0 : Int32)  (h0 : Heap) (n0 : Nat) (v : Option Value) (h : Heap) (L : List Loc) : Prop := ∃ b : Addr, v = some (.ref b) ∧ Fr n0 L ∧ Keep h0 h [] ∧ n0 ≤ b ∧ h0.size ≤ b
theorem ef_rmToB (m : MethodId) (u0 : Int32) : entryFrame m #[(.int u0)] 1 = mkF m 0 #[iv u0] [] := by first | (simp [entryFrame, mkF, argsToLocals, Value.category]; done) | rfl
set_option maxRecDepth 65536 in
set_option maxHeartbeats 40000000 in
theorem rmToB (l : Launch) (Z : State) (a0 : Array Value) (hw : ∀ d ∈ tables_1, d.before a0 Z = true) (ws : List Jvm.Cond) (u0 : Int32)  (h0 : Heap) (n0 : Nat) (Z0 : n0 ≤ h0.size) :
    MetFree l (⟨"java/lang/StringLatin1", "toBytes", "(C)[B"⟩ : MethodName) (head1 (Jvm.Cond.code (⟨"java/lang/StringLatin1", "toBytes", "(C)[B"⟩ : MethodName) jdk_43_method_46_code 1 (some (.array .byte)) :: ws) ({ frames := 0, cells := 1, slots := 1, locals := 0 } : Room)) (fun a U => a = #[(.int u0)] ∧ Z.Warmed39 U.vm ∧ U.heap = h0) (fun _ _ _ _ _ => True) (fun _ U o U' => ∃ v L, o = .returned v ∧ QToB Z u0 h0 n0 v U'.heap L ∧ FrameEnd U o U' L ({ frames := 0, cells := 1, slots := 1, locals := 0 } : Room).cells ({ frames := 0, cells := 1, slots := 1, locals := 0 } : Room).slots) := by
  refine MetFree.of_bodySF (plainFor_of_name pn_0) hisR ?_
  intro p e s m args below meth c s₁ Bd hml0 hP hK
  obtain ⟨rfl, hZ, hh⟩ := hP
  have hx := Bd.exec
  have hby := Bd.bytes
  have hml : c.maxLocals = 1 := hml0
  have hown : s.vm.findClass "java/lang/StringLatin1" = some m.cls := findClass_of_methodNamed Bd.named
  have hnm := (name_of_methodNamed Bd.named Bd.method).1
  have X0 : Stand p l e ({ frames := 0, cells := 1, slots := 1, locals := 0 } : Room) s m #[(.int u0)] below meth c s₁ [] 0 0 := Stand.of_body Bd
  have e0 : s₁.heap = h0 := by rw [← hh, Bd.state]; rfl
  have N0 := Fr.nil n0
  have S0 : ∀ t, Steps p.tables e below (s₁.setTop (mkF m 0 #[iv u0] [])) t → Steps p.tables e below (s₁.setTop (entryFrame m #[(.int u0)] 1)) t := fun t k => castTop (ef_rmToB m u0) k
  have K0 : Keep h0 h0 [] := Keep.refl _ _
  obtain ⟨T1, h1, k1, X1, e1, E1, A1, st1⟩ := newP X0 hx hZ (hw _ (List.mem_of_getElem? (i := 15) rfl)) e0 (g := (mkF m 1 #[iv u0] [(.int (1 : Int32))])) rfl (hb hby d3_1) rfl (by decide) (cap := 1) (by decide) (by decide) (by decide) (by decide)
  obtain ⟨b1, g1⟩ : ∃ z, z = h0.size := ⟨_, rfl⟩
  rw [← g1] at A1 st1
  have ge_b1 : n0 ≤ b1 := Nat.le_trans Z0 (Nat.le_of_eq g1.symm)
  have V1 : Arv Z h1 b1 k1 .byte (1 : Int32) [(.int (0 : Int32))] (.int (0 : Int32)) := (Arv.new A1 (by decide)).pad (pad_rep [] (.int (0 : Int32)) 1)
  have Z1 : n0 ≤ h1.size := Nat.le_trans Z0 E1.1
  have K1 : Keep h0 h1 [] := K0.ext E1
  have sz_b1 : h0.size ≤ b1 := Nat.le_trans K0.1 (Nat.le_of_eq g1.symm)
  obtain ⟨cl2, Ar2, qa2, Sa2, Na2, Ha2, Ga2⟩ := id V1
  have hin2 : ¬ ((0 : Int32) < 0 ∨ cl2.slots.size ≤ ((0 : Int32)).toNatClampNeg) := inb_of Sa2 ⟨by decide, by decide⟩
  obtain ⟨T3, h3, X3, e3, W3, st3⟩ := stB X1 hx hZ e1 Ar2 (j := (0 : Int32)) hin2 (g := (mkF m 7 #[iv u0] [(.int (u0.toInt8.toInt32)), (.int (0 : Int32)), (.ref b1), (.ref b1)])) rfl rfl (hb hby d3_7)
  rw [own_nb] at W3
  have V3 : Arv Z h3 b1 k1 .byte (1 : Int32) [(.int (u0.toInt8.toInt32))] (.int (0 : Int32)) := Arv.set Ar2 qa2 Sa2 Na2 Ha2 Ga2 (own_fb _) W3 0 rfl (Nat.le_of_ble_eq_true rfl)
  have N3 := Fr.snoc X3 N0 ge_b1
  have Z3 : n0 ≤ h3.size := Nat.le_trans Z1 (Keep.of_wr W3).1
  have K3 : Keep h0 h3 [] := K1.wr W3 (Or.inr sz_b1)
  obtain ⟨fs, hr, hrun, hended, hW, hsame⟩ := X3.leave (v := some (.ref b1)) (fun h => by rw [Bd.returns] at h; cases h)
  refine ⟨_, _, S0 _ ?_, hrun, hended, _, _, rfl, ?_, ⟨_, rfl⟩, hW, hsame.mono (by decide) (by decide)⟩
  · skip
    show Steps p.tables e below (s₁.setTop (mkF m 0 #[iv u0] [])) _
    refine XS.iconst X0.here hx rfl (hb hby d3_0) ?_
    show Steps p.tables e below (s₁.setTop (mkF m 1 #[iv u0] [(.int (1 : Int32))])) _
    refine st1 _ ?_
    show Steps p.tables e below (T1.setTop (mkF m 3 #[iv u0] [(.ref b1)])) _
    refine XS.dup X1.here hx rfl (hb hby d3_3) rfl rfl ?_
    show Steps p.tables e below (T1.setTop (mkF m 4 #[iv u0] [(.ref b1), (.ref b1)])) _
    refine XS.iconst X1.here hx rfl (hb hby d3_4) ?_
    show Steps p.tables e below (T1.setTop (mkF m 5 #[iv u0] [(.int (0 : Int32)), (.ref b1), (.ref b1)])) _
    refine XS.iloadN X1.here hx rfl (hb hby d3_5) rfl ?_
    show Steps p.tables e below (T1.setTop (mkF m 6 #[iv u0] [(.int u0), (.int (0 : Int32)), (.ref b1), (.ref b1)])) _
    refine XS.i2b X1.here hx rfl (hb hby d3_6) rfl ?_
    show Steps p.tables e below (T1.setTop (mkF m 7 #[iv u0] [(.int (u0.toInt8.toInt32)), (.int (0 : Int32)), (.ref b1), (.ref b1)])) _
    refine st3 _ ?_
    show Steps p.tables e below (T3.setTop (mkF m 8 #[iv u0] [(.ref b1)])) _
    jvm_step X3.here [X3.here.top, hx, (hb hby d3_8), X3.method', Bd.returns, Value.isRef, FieldType.isReference]
    first | (intro acts; rw [hr _ acts rfl rfl rfl]) | rw [hr _ _ rfl rfl rfl]
    exact Steps.refl _
  · show QToB Z u0 h0 n0 _ T3.heap _
    rw [e3]
    exact ⟨_, rfl, N3, K3, ge_b1, sz_b1⟩
theorem d4_0 : decode jdk_42_method_151_code 0 = .ok (.aload_n 0, 1) := by decide +kernel
theorem d4_1 : decode jdk_42_method_151_code 1 = .ok (.invokespecial 1, 3) := by decide +kernel
theorem d4_4 : decode jdk_42_method_151_code 4 = .ok (.aload_n 0, 1) := by decide +kernel
theorem d4_5 : decode jdk_42_method_151_code 5 = .ok (.aload_n 1, 1) := by decide +kernel
theorem d4_6 : decode jdk_42_method_151_code 6 = .ok (.putfield 9, 3) := by decide +kernel
theorem d4_9 : decode jdk_42_method_151_code 9 = .ok (.aload_n 0, 1) := by decide +kernel
theorem d4_10 : decode jdk_42_method_151_code 10 = .ok (.iload_n 2, 1) := by decide +kernel
theorem d4_11 : decode jdk_42_method_151_code 11 = .ok (.putfield 15, 3) := by decide +kernel
theorem d4_14 : decode jdk_42_method_151_code 14 = .ok (.return_, 1) := by decide +kernel
theorem pn_1 : plainName "java/lang/String" = true := by first | (simp [plainName, overriddenIn]; done) | decide +kernel
def QStrI (Z : State) (a0_ : Addr) (a1_ : Addr)  (h0 : Heap) (n0 : Nat) (v : Option Value) (h : Heap) (L : List Loc) : Prop := v = none ∧ Fr n0 L ∧ Keep h0 h [a0_] ∧ Exa Z h a0_ "java/lang/String"
theorem ef_rmStrI (m : MethodId) (a0_ : Addr) (a1_ : Addr) : entryFrame m #[(.ref a0_), (.ref a1_), (.int (0 : Int32))] 3 = mkF m 0 #[rv a0_, rv a1_, iv (0 : Int32)] [] := by first | (simp [entryFrame, mkF, argsToLocals, Value.category]; done) | rfl
set_option maxRecDepth 65536 in
set_option maxHeartbeats 40000000 in
theorem rmStrI (l : Launch) (Z : State) (a0 : Array Value) (hw : ∀ d ∈ tables_1, d.before a0 Z = true) (ws : List Jvm.Cond) (a0_ : Addr) (a1_ : Addr)  (h0 : Heap) (n0 : Nat) (Z0 : n0 ≤ h0.size) (E1 : Exa Z h0 a0_ "java/lang/String") (F1 : Fld Z h0 a0_ "java/lang/String" "value" "[B" .null) (F2 : Fld Z h0 a0_ "java/lang/String" "coder" "B" (.int (0 : Int32))) (g0 : n0 ≤ a0_) :
    MetFree l (⟨"java/lang/String", "<init>", "([BB)V"⟩ : MethodName) (head1 (Jvm.Cond.code (⟨"java/lang/String", "<init>", "([BB)V"⟩ : MethodName) jdk_42_method_151_code 3 none :: ws) ({ frames := 1, cells := 0, slots := 0, locals := 12 } : Room)) (fun a U => a = #[(.ref a0_), (.ref a1_), (.int (0 : Int32))] ∧ Z.Warmed39 U.vm ∧ U.heap = h0) (fun _ _ _ _ _ => True) (fun _ U o U' => ∃ v L, o = .returned v ∧ QStrI Z a0_ a1_ h0 n0 v U'.heap L ∧ FrameEnd U o U' L ({ frames := 1, cells := 0, slots := 0, locals := 12 } : Room).cells ({ frames := 1, cells := 0, slots := 0, locals := 12 } : Room).slots) := by
  refine MetFree.of_bodySF (plainFor_of_name pn_1) hisR ?_
  intro p e s m args below meth c s₁ Bd hml0 hP hK
  obtain ⟨rfl, hZ, hh⟩ := hP
  have hx := Bd.exec
  have hby := Bd.bytes
  have hml : c.maxLocals = 3 := hml0
  have hown : s.vm.findClass "java/lang/String" = some m.cls := findClass_of_methodNamed Bd.named
  have hnm := (name_of_methodNamed Bd.named Bd.method).1
  have X0 : Stand p l e ({ frames := 1, cells := 0, slots := 0, locals := 12 } : Room) s m #[(.ref a0_), (.ref a1_), (.int (0 : Int32))] below meth c s₁ [] 0 0 := Stand.of_body Bd
  have e0 : s₁.heap = h0 := by rw [← hh, Bd.state]; rfl
  have N0 := Fr.nil n0
  have S0 : ∀ t, Steps p.tables e below (s₁.setTop (mkF m 0 #[rv a0_, rv a1_, iv (0 : Int32)] [])) t → Steps p.tables e below (s₁.setTop (entryFrame m #[(.ref a0_), (.ref a1_), (.int (0 : Int32))] 3)) t := fun t k => castTop (ef_rmStrI m a0_ a1_) k
  have K0 : Keep h0 h0 [a0_] := Keep.refl _ _
  obtain ⟨T1, X1, e1, st1⟩ := initO X0 hx hZ hown (hw _ (List.mem_of_getElem? (i := 20) rfl)) (hw _ (List.mem_of_getElem? (i := 21) rfl)) (hw _ (List.mem_of_getElem? (i := 22) rfl)) e0 (g := (mkF m 1 #[rv a0_, rv a1_, iv (0 : Int32)] [(.ref a0_)])) rfl (by rw [hml]; rfl) rfl (hb hby d4_1) (by decide) (W := 0) (by show 2 * 0 + _ ≤ _; exact Nat.le_of_eq rfl) (by decide)
  obtain ⟨T2, h2, X2, e2, W2, st2⟩ := putF X1 hx hZ hown (host := "") (Or.inl (hw _ (List.mem_of_getElem? (i := 23) rfl))) Via.refl e1 F1 E1 (Or.inr ⟨(hw _ (List.mem_of_getElem? (i := 24) rfl)), rfl, hnm⟩) (hw _ (List.mem_of_getElem? (i := 11) rfl)) (ty := (.array .byte)) (by decide) rfl rfl (g := (mkF m 6 #[rv a0_, rv a1_, iv (0 : Int32)] [(.ref a1_), (.ref a0_)])) rfl rfl (hb hby d4_6)
  have Fw2 := F1.same W2
  have f3 := F2.other W2 (Or.inr (slot_ne (Or.inr (hw _ (List.mem_of_getElem? (i := 26) rfl))) (Or.inr (hw _ (List.mem_of_getElem? (i := 24) rfl))) (by decide) (t := .byte) (t' := (.array .byte)) (by decide) (by decide)))
  have f4 := E1.wr W2
  have N2 := Fr.snoc X2 N0 g0
  have Z2 : n0 ≤ h2.size := Nat.le_trans Z0 (Keep.of_wr W2).1
  have K2 : Keep h0 h2 [a0_] := K0.wr W2 (Or.inl (List.mem_of_getElem? (i := 0) rfl))
  obtain ⟨T8, h8, X8, e8, W8, st8⟩ := putFN X2 hx hZ hown (hw _ (List.mem_of_getElem? (i := 25) rfl)) Via.refl e2 f3 f4 (Or.inr ⟨(hw _ (List.mem_of_getElem? (i := 26) rfl)), rfl, hnm⟩) (hw _ (List.mem_of_getElem? (i := 11) rfl)) (ty := .byte) (v' := (.int (nar .byte (0 : Int32)))) (by decide) rfl (fits_nar_byte _) (g := (mkF m 11 #[rv a0_, rv a1_, iv (0 : Int32)] [(.int (0 : Int32)), (.ref a0_)])) rfl rfl (hb hby d4_11)
  have Fw8 := f3.same W8
  have f9 := Fw2.other W8 (Or.inr (slot_ne (Or.inr (hw _ (List.mem_of_getElem? (i := 24) rfl))) (Or.inr (hw _ (List.mem_of_getElem? (i := 26) rfl))) (by decide) (t := (.array .byte)) (t' := .byte) (by decide) (by decide)))
  have f10 := f4.wr W8
  have N8 := Fr.snoc X8 N2 g0
  have Z8 : n0 ≤ h8.size := Nat.le_trans Z2 (Keep.of_wr W8).1
  have K8 : Keep h0 h8 [a0_] := K2.wr W8 (Or.inl (List.mem_of_getElem? (i := 0) rfl))
  obtain ⟨fs, hr, hrun, hended, hW, hsame⟩ := X8.leave (v := none) (fun _ => rfl)
  refine ⟨_, _, S0 _ ?_, hrun, hended, _, _, rfl, ?_, ⟨_, rfl⟩, hW, hsame.mono (by decide) (by decide)⟩
  · skip
    show Steps p.tables e below (s₁.setTop (mkF m 0 #[rv a0_, rv a1_, iv (0 : Int32)] [])) _
    refine XS.aloadN X0.here hx rfl (hb hby d4_0) rfl rfl ?_
    show Steps p.tables e below (s₁.setTop (mkF m 1 #[rv a0_, rv a1_, iv (0 : Int32)] [(.ref a0_)])) _
    refine st1 _ ?_
    show Steps p.tables e below (T1.setTop (mkF m 4 #[rv a0_, rv a1_, iv (0 : Int32)] [])) _
    refine XS.aloadN X1.here hx rfl (hb hby d4_4) rfl rfl ?_
    show Steps p.tables e below (T1.setTop (mkF m 5 #[rv a0_, rv a1_, iv (0 : Int32)] [(.ref a0_)])) _
    refine XS.aloadN X1.here hx rfl (hb hby d4_5) rfl rfl ?_
    show Steps p.tables e below (T1.setTop (mkF m 6 #[rv a0_, rv a1_, iv (0 : Int32)] [(.ref a1_), (.ref a0_)])) _
    refine st2 _ ?_
    show Steps p.tables e below (T2.setTop (mkF m 9 #[rv a0_, rv a1_, iv (0 : Int32)] [])) _
    refine XS.aloadN X2.here hx rfl (hb hby d4_9) rfl rfl ?_
    show Steps p.tables e below (T2.setTop (mkF m 10 #[rv a0_, rv a1_, iv (0 : Int32)] [(.ref a0_)])) _
    refine XS.iloadN X2.here hx rfl (hb hby d4_10) rfl ?_
    show Steps p.tables e below (T2.setTop (mkF m 11 #[rv a0_, rv a1_, iv (0 : Int32)] [(.int (0 : Int32)), (.ref a0_)])) _
    refine st8 _ ?_
    show Steps p.tables e below (T8.setTop (mkF m 14 #[rv a0_, rv a1_, iv (0 : Int32)] [])) _
    exact X8.returnOut hx Bd.returns (hb hby d4_14) hr
  · show QStrI Z a0_ a1_ h0 n0 _ T8.heap _
    rw [e8]
    exact ⟨rfl, N8, K8, f10⟩
theorem d1_0 : decode jdk_42_method_139_code 0 = .ok (.getstatic 38, 3) := by decide +kernel
theorem d1_3 : decode jdk_42_method_139_code 3 = .ok (.ifCond .eq 23, 3) := by decide +kernel
theorem d1_6 : decode jdk_42_method_139_code 6 = .ok (.iload_n 0, 1) := by decide +kernel
theorem d1_7 : decode jdk_42_method_139_code 7 = .ok (.invokestatic 1015, 3) := by decide +kernel
theorem pd_0 : parseMethodDescriptor "(C)Z" = some ⟨[.char], some .boolean⟩ := by decide +kernel
theorem d1_10 : decode jdk_42_method_139_code 10 = .ok (.ifCond .eq 16, 3) := by decide +kernel
theorem d1_13 : decode jdk_42_method_139_code 13 = .ok (.new 10, 3) := by decide +kernel
theorem d1_16 : decode jdk_42_method_139_code 16 = .ok (.dup, 1) := by decide +kernel
theorem d1_17 : decode jdk_42_method_139_code 17 = .ok (.iload_n 0, 1) := by decide +kernel
theorem d1_18 : decode jdk_42_method_139_code 18 = .ok (.invokestatic 1018, 3) := by decide +kernel
theorem pd_1 : parseMethodDescriptor "(C)[B" = some ⟨[.char], some (.array .byte)⟩ := by decide +kernel
theorem d1_21 : decode jdk_42_method_139_code 21 = .ok (.iconst 0, 1) := by decide +kernel
theorem d1_22 : decode jdk_42_method_139_code 22 = .ok (.invokespecial 209, 3) := by decide +kernel
theorem pd_2 : parseMethodDescriptor "([BB)V" = some ⟨[(.array .byte), .byte], none⟩ := by decide +kernel
theorem d1_25 : decode jdk_42_method_139_code 25 = .ok (.areturn, 1) := by decide +kernel
def QVal (Z : State) (u0 : Int32) (G1 : Int32) (h0 : Heap) (n0 : Nat) (v : Option Value) (h : Heap) (L : List Loc) : Prop := ∃ b : Addr, v = some (.ref b) ∧ Fr n0 L ∧ Keep h0 h [] ∧ n0 ≤ b ∧ h0.size ≤ b ∧ Exa Z h b "java/lang/String"
theorem ef_rmVal (m : MethodId) (u0 : Int32) : entryFrame m #[(.int u0)] 1 = mkF m 0 #[iv u0] [] := by first | (simp [entryFrame, mkF, argsToLocals, Value.category]; done) | rfl
set_option maxRecDepth 65536 in
set_option maxHeartbeats 40000000 in
theorem rmVal (l : Launch) (Z : State) (a0 : Array Value) (hw : ∀ d ∈ tables_1, d.before a0 Z = true) (ws : List Jvm.Cond) (u0 : Int32) (G1 : Int32) (h0 : Heap) (n0 : Nat) (Z0 : n0 ≤ h0.size) (hO : Old Z n0 h0) (O2 : Sta Z Z.heap "java/lang/String" "COMPACT_STRINGS" "Z" (.int G1)) (P3 : ¬ (G1 = (0 : Int32))) (hc : ¬ (255 : Int32) < u0) :
    MetFree l (⟨"java/lang/String", "valueOf", "(C)Ljava/lang/String;"⟩ : MethodName) (head1 (Jvm.Cond.code (⟨"java/lang/String", "valueOf", "(C)Ljava/lang/String;"⟩ : MethodName) jdk_42_method_139_code 1 (some (.object "java/lang/String")) :: ws) ({ frames := 2, cells := 2, slots := 5, locals := 27 } : Room)) (fun a U => a = #[(.int u0)] ∧ Z.Warmed39 U.vm ∧ U.heap = h0) (fun _ _ _ _ _ => True) (fun _ U o U' => ∃ v L, o = .returned v ∧ QVal Z u0 G1 h0 n0 v U'.heap L ∧ FrameEnd U o U' L ({ frames := 2, cells := 2, slots := 5, locals := 27 } : Room).cells ({ frames := 2, cells := 2, slots := 5, locals := 27 } : Room).slots) := by
  refine MetFree.of_bodySF (plainFor_of_name pn_1) hisR ?_
  intro p e s m args below meth c s₁ Bd hml0 hP hK
  obtain ⟨rfl, hZ, hh⟩ := hP
  have hx := Bd.exec
  have hby := Bd.bytes
  have hml : c.maxLocals = 1 := hml0
  have hown : s.vm.findClass "java/lang/String" = some m.cls := findClass_of_methodNamed Bd.named
  have hnm := (name_of_methodNamed Bd.named Bd.method).1
  have X0 : Stand p l e ({ frames := 2, cells := 2, slots := 5, locals := 27 } : Room) s m #[(.int u0)] below meth c s₁ [] 0 0 := Stand.of_body Bd
  have e0 : s₁.heap = h0 := by rw [← hh, Bd.state]; rfl
  have N0 := Fr.nil n0
  have S0 : ∀ t, Steps p.tables e below (s₁.setTop (mkF m 0 #[iv u0] [])) t → Steps p.tables e below (s₁.setTop (entryFrame m #[(.int u0)] 1)) t := fun t k => castTop (ef_rmVal m u0) k
  have K0 : Keep h0 h0 [] := Keep.refl _ _
  obtain ⟨T1, X1, e1, st1⟩ := getS2 X0 hx hZ hown (host := "") (Or.inl (hw _ (List.mem_of_getElem? (i := 5) rfl))) Via.refl e0 (O2.ext hO.2) (g := (mkF m 0 #[iv u0] [])) rfl (hb hby d1_0)
  obtain ⟨_, _, ⟨T2, L2, k2, n2⟩, -, X2, ⟨Lc2, hQ2, l2, y2, z2⟩, st2⟩ := Jvm.LawKit.callS X1 hx (y := (⟨"java/lang/StringLatin1", "canEncode", "(C)Z"⟩ : MethodName)) hown (mvT hZ (hw _ (List.mem_of_getElem? (i := 6) rfl))) (mvT hZ (hw _ (List.mem_of_getElem? (i := 7) rfl))) (mvT hZ (hw _ (List.mem_of_getElem? (i := 8) rfl))) (mvT hZ (hw _ (List.mem_of_getElem? (i := 9) rfl))) (by decide) (backOf (W := 0) (rmCanE l Z a0 hw [] u0 h0 n0 Z0 hc) hZ (hw _ (List.mem_of_getElem? (i := 9) rfl)) (hw _ (List.mem_of_getElem? (i := 8) rfl)) (by decide) (by decide)) (g := (mkF m 7 #[iv u0] [(.int u0)])) rfl (by rw [hml]; rfl) (argsL := [(.int u0)]) (rest := []) (lenOf pd_0 rfl) rfl (by show 2 * 0 + _ ≤ _; exact Nat.le_of_eq rfl) (hb hby d1_7) (fun _ _ => ⟨rfl, e1, (by decide : 0 + 0 ≤ _), (by decide : 0 + 0 ≤ _)⟩)
  dsimp only [Pt.U, Pt.locs, Pt.cells, Pt.slots] at X2 l2 y2 z2 st2 hQ2
  subst y2 z2
  obtain ⟨rfl, Nq2, eq2⟩ := hQ2
  have N2 : Fr n0 L2 := by rw [l2]; exact Fr.app N0 Nq2
  obtain ⟨T3, h3, X3, e3, E3, A3, D3, -, st3⟩ := newO X2 hx hZ hown (hw _ (List.mem_of_getElem? (i := 10) rfl)) (hw _ (List.mem_of_getElem? (i := 11) rfl)) (hw _ (List.mem_of_getElem? (i := 3) rfl)) eq2 (g := (mkF m 13 #[iv u0] [])) rfl (hb hby d1_13) (by decide) (by decide)
  obtain ⟨b3, g3⟩ : ∃ z, z = h0.size := ⟨_, rfl⟩
  rw [← g3] at A3 D3 st3
  have ge_b3 : n0 ≤ b3 := Nat.le_trans Z0 (Nat.le_of_eq g3.symm)
  have F3_value : Fld Z h3 b3 "java/lang/String" "value" "[B" .null := D3 (Or.inr (hw _ (List.mem_of_getElem? (i := 24) rfl))) (ty := (.array .byte)) (by decide)
  have F3_coder : Fld Z h3 b3 "java/lang/String" "coder" "B" (.int (0 : Int32)) := D3 (Or.inr (hw _ (List.mem_of_getElem? (i := 26) rfl))) (ty := .byte) (by decide)
  have Z3 : n0 ≤ h3.size := Nat.le_trans Z0 E3.1
  have K3 : Keep h0 h3 [] := K0.ext E3
  have sz_b3 : h0.size ≤ b3 := Nat.le_trans K0.1 (Nat.le_of_eq g3.symm)
  obtain ⟨_, _, ⟨T4, L4, k4, n4⟩, -, X4, ⟨Lc4, hQ4, l4, y4, z4⟩, st4⟩ := Jvm.LawKit.callS X3 hx (y := (⟨"java/lang/StringLatin1", "toBytes", "(C)[B"⟩ : MethodName)) hown (mvT hZ (hw _ (List.mem_of_getElem? (i := 12) rfl))) (mvT hZ (hw _ (List.mem_of_getElem? (i := 13) rfl))) (mvT hZ (hw _ (List.mem_of_getElem? (i := 8) rfl))) (mvT hZ (hw _ (List.mem_of_getElem? (i := 14) rfl))) (by decide) (backOf (W := 2) (rmToB l Z a0 hw [] u0 h3 n0 Z3) hZ (hw _ (List.mem_of_getElem? (i := 14) rfl)) (hw _ (List.mem_of_getElem? (i := 8) rfl)) (by decide) (by decide)) (g := (mkF m 18 #[iv u0] [(.int u0), (.ref b3), (.ref b3)])) rfl (by rw [hml]; rfl) (argsL := [(.int u0)]) (rest := [(.ref b3), (.ref b3)]) (lenOf pd_1 rfl) rfl (by show 2 * 0 + _ ≤ _; exact Nat.le_of_eq rfl) (hb hby d1_18) (fun _ _ => ⟨rfl, e3, (by decide : 1 + 1 ≤ _), (by decide : 4 + 1 ≤ _)⟩)
  dsimp only [Pt.U, Pt.locs, Pt.cells, Pt.slots] at X4 l4 y4 z4 st4 hQ4
  subst y4 z4
  obtain ⟨by4, rfl, Nq4, Kq4, -, -⟩ := hQ4
  have N4 : Fr n0 L4 := by rw [l4]; exact Fr.app N2 Nq4
  have Z4 : n0 ≤ T4.heap.size := Nat.le_trans Z3 Kq4.1
  have K4 : Keep h0 T4.heap [] := K3.trans Kq4 all0
  have f5 := A3.keep Kq4
  have f6 := F3_value.keep Kq4 nin0
  have f7 := F3_coder.keep Kq4 nin0
  obtain ⟨_, _, ⟨T8, L8, k8, n8⟩, -, X8, ⟨Lc8, hQ8, l8, y8, z8⟩, st8⟩ := X4.specialBack hx (y := (⟨"java/lang/String", "<init>", "([BB)V"⟩ : MethodName)) rfl hown (mvT hZ (hw _ (List.mem_of_getElem? (i := 16) rfl))) (mvT hZ (hw _ (List.mem_of_getElem? (i := 17) rfl))) (mvT hZ (hw _ (List.mem_of_getElem? (i := 19) rfl))) (by decide) (backOf (W := 1) (rmStrI l Z a0 hw [] b3 by4 T4.heap n0 Z4 f5 f6 f7 ge_b3) hZ (hw _ (List.mem_of_getElem? (i := 19) rfl)) (hw _ (List.mem_of_getElem? (i := 3) rfl)) (by decide) (by decide)) (g := (mkF m 22 #[iv u0] [(.int (0 : Int32)), (.ref by4), (.ref b3), (.ref b3)])) rfl (by rw [hml]; rfl) (Steps.refl _) (a := b3) (argsL := [(.ref by4), (.int (0 : Int32))]) (rest := [(.ref b3)]) (lenOf pd_2 rfl) rfl (by show 2 * 0 + _ ≤ _; exact Nat.le_of_eq rfl) (hb hby d1_22) (fun _ _ => ⟨rfl, rfl, (by decide : 2 + 0 ≤ _), (by decide : 5 + 0 ≤ _)⟩)
  dsimp only [Pt.U, Pt.locs, Pt.cells, Pt.slots] at X8 l8 y8 z8 st8 hQ8
  subst y8 z8
  obtain ⟨rfl, Nq8, Kq8, Eq8⟩ := hQ8
  have N8 : Fr n0 L8 := by rw [l8]; exact Fr.app N4 Nq8
  have K8 : Keep h0 T8.heap [] := K4.trans Kq8 (allS (Or.inr sz_b3) all0)
  obtain ⟨fs, hr, hrun, hended, hW, hsame⟩ := X8.leave (v := some (.ref b3)) (fun h => by rw [Bd.returns] at h; cases h)
  refine ⟨_, _, S0 _ ?_, hrun, hended, _, _, rfl, ?_, ⟨_, rfl⟩, hW, hsame.mono (by decide) (by decide)⟩
  · skip
    show Steps p.tables e below (s₁.setTop (mkF m 0 #[iv u0] [])) _
    refine st1 _ ?_
    show Steps p.tables e below (T1.setTop (mkF m 3 #[iv u0] [(.int G1)])) _
    refine XS.ifNo X1.here hx rfl (hb hby d1_3) rfl ((if0 _ _).trans (feq P3).1) ?_
    show Steps p.tables e below (T1.setTop (mkF m 6 #[iv u0] [])) _
    refine XS.iloadN X1.here hx rfl (hb hby d1_6) rfl ?_
    show Steps p.tables e below (T1.setTop (mkF m 7 #[iv u0] [(.int u0)])) _
    refine st2 _ ?_
    show Steps p.tables e below (T2.setTop (mkF m 10 #[iv u0] [(.int (1 : Int32))])) _
    refine XS.ifNo X2.here hx rfl (hb hby d1_10) rfl ((if0 _ _).trans (feq (by decide : ¬ ((1 : Int32) = (0 : Int32)))).1) ?_
    show Steps p.tables e below (T2.setTop (mkF m 13 #[iv u0] [])) _
    refine st3 _ ?_
    show Steps p.tables e below (T3.setTop (mkF m 16 #[iv u0] [(.ref b3)])) _
    refine XS.dup X3.here hx rfl (hb hby d1_16) rfl rfl ?_
    show Steps p.tables e below (T3.setTop (mkF m 17 #[iv u0] [(.ref b3), (.ref b3)])) _
    refine XS.iloadN X3.here hx rfl (hb hby d1_17) rfl ?_
    show Steps p.tables e below (T3.setTop (mkF m 18 #[iv u0] [(.int u0), (.ref b3), (.ref b3)])) _
    refine st4 _ ?_
    show Steps p.tables e below (T4.setTop (mkF m 21 #[iv u0] [(.ref by4), (.ref b3), (.ref b3)])) _
    refine XS.iconst X4.here hx rfl (hb hby d1_21) ?_
    show Steps p.tables e below (T4.setTop (mkF m 22 #[iv u0] [(.int (0 : Int32)), (.ref by4), (.ref b3), (.ref b3)])) _
    refine st8.trans ?_
    show Steps p.tables e below (T8.setTop (mkF m 25 #[iv u0] [(.ref b3)])) _
    jvm_step X8.here [X8.here.top, hx, (hb hby d1_25), X8.method', Bd.returns, Value.isRef, FieldType.isReference]
    first | (intro acts; rw [hr _ acts rfl rfl rfl]) | rw [hr _ _ rfl rfl rfl]
    exact Steps.refl _
  · show QVal Z u0 G1 h0 n0 _ T8.heap _
    exact ⟨_, rfl, N8, K8, ge_b3, sz_b3, Eq8⟩
theorem d8_0 : decode jdk_31_method_10_code 0 = .ok (.aload_n 0, 1) := by decide +kernel
theorem d8_1 : decode jdk_31_method_10_code 1 = .ok (.ifnonnull 11, 3) := by decide +kernel
theorem d8_12 : decode jdk_31_method_10_code 12 = .ok (.aload_n 0, 1) := by decide +kernel
theorem d8_13 : decode jdk_31_method_10_code 13 = .ok (.areturn, 1) := by decide +kernel
theorem pn_2 : plainName "java/util/Objects" = true := by first | (simp [plainName, overriddenIn]; done) | decide +kernel
def QRnn (Z : State) (a0_ : Addr)  (h0 : Heap) (n0 : Nat) (v : Option Value) (h : Heap) (L : List Loc) : Prop := v = some (.ref a0_) ∧ Fr n0 L ∧ h = h0
theorem ef_rmRnn (m : MethodId) (a0_ : Addr) : entryFrame m #[(.ref a0_)] 1 = mkF m 0 #[rv a0_] [] := by first | (simp [entryFrame, mkF, argsToLocals, Value.category]; done) | rfl
set_option maxRecDepth 65536 in
set_option maxHeartbeats 40000000 in
theorem rmRnn (l : Launch) (Z : State) (a0 : Array Value) (hw : ∀ d ∈ tables_1, d.before a0 Z = true) (ws : List Jvm.Cond) (a0_ : Addr)  (h0 : Heap) (n0 : Nat) (Z0 : n0 ≤ h0.size) :
    MetFree l (⟨"java/util/Objects", "requireNonNull", "(Ljava/lang/Object;)Ljava/lang/Object;"⟩ : MethodName) (head1 (Jvm.Cond.code (⟨"java/util/Objects", "requireNonNull", "(Ljava/lang/Object;)Ljava/lang/Object;"⟩ : MethodName) jdk_31_method_10_code 1 (some (.object "java/lang/Object")) :: ws) ({ frames := 0, cells := 0, slots := 0, locals := 0 } : Room)) (fun a U => a = #[(.ref a0_)] ∧ Z.Warmed39 U.vm ∧ U.heap = h0) (fun _ _ _ _ _ => True) (fun _ U o U' => ∃ v L, o = .returned v ∧ QRnn Z a0_ h0 n0 v U'.heap L ∧ FrameEnd U o U' L ({ frames := 0, cells := 0, slots := 0, locals := 0 } : Room).cells ({ frames := 0, cells := 0, slots := 0, locals := 0 } : Room).slots) := by
  refine MetFree.of_bodySF (plainFor_of_name pn_2) hisR ?_
  intro p e s m args below meth c s₁ Bd hml0 hP hK
  obtain ⟨rfl, hZ, hh⟩ := hP
  have hx := Bd.exec
  have hby := Bd.bytes
  have hml : c.maxLocals = 1 := hml0
  have hown : s.vm.findClass "java/util/Objects" = some m.cls := findClass_of_methodNamed Bd.named
  have hnm := (name_of_methodNamed Bd.named Bd.method).1
  have X0 : Stand p l e ({ frames := 0, cells := 0, slots := 0, locals := 0 } : Room) s m #[(.ref a0_)] below meth c s₁ [] 0 0 := Stand.of_body Bd
  have e0 : s₁.heap = h0 := by rw [← hh, Bd.state]; rfl
  have N0 := Fr.nil n0
  have S0 : ∀ t, Steps p.tables e below (s₁.setTop (mkF m 0 #[rv a0_] [])) t → Steps p.tables e below (s₁.setTop (entryFrame m #[(.ref a0_)] 1)) t := fun t k => castTop (ef_rmRnn m a0_) k
  obtain ⟨fs, hr, hrun, hended, hW, hsame⟩ := X0.leave (v := some (.ref a0_)) (fun h => by rw [Bd.returns] at h; cases h)
  refine ⟨_, _, S0 _ ?_, hrun, hended, _, _, rfl, ?_, ⟨_, rfl⟩, hW, hsame.mono (by decide) (by decide)⟩
  · skip
    show Steps p.tables e below (s₁.setTop (mkF m 0 #[rv a0_] [])) _
    refine XS.aloadN X0.here hx rfl (hb hby d8_0) rfl rfl ?_
    show Steps p.tables e below (s₁.setTop (mkF m 1 #[rv a0_] [(.ref a0_)])) _
    refine XS.ifnonnullYes X0.here hx rfl (pc0 := 1) (pc' := 12) rfl (hb hby d8_1) rfl (by decide) (by decide) ?_
    show Steps p.tables e below (s₁.setTop (mkF m 12 #[rv a0_] [])) _
    refine XS.aloadN X0.here hx rfl (hb hby d8_12) rfl rfl ?_
    show Steps p.tables e below (s₁.setTop (mkF m 13 #[rv a0_] [(.ref a0_)])) _
    jvm_step X0.here [X0.here.top, hx, (hb hby d8_13), X0.method', Bd.returns, Value.isRef, FieldType.isReference]
    first | (intro acts; rw [hr _ acts rfl rfl rfl]) | rw [hr _ _ rfl rfl rfl]
    exact Steps.refl _
  · show QRnn Z a0_ h0 n0 _ s₁.heap _
    rw [e0]
    exact ⟨rfl, N0, rfl⟩
theorem d7_0 : decode jdk_30_method_1_code 0 = .ok (.aload_n 0, 1) := by decide +kernel
theorem d7_1 : decode jdk_30_method_1_code 1 = .ok (.invokespecial 1, 3) := by decide +kernel
theorem d7_4 : decode jdk_30_method_1_code 4 = .ok (.return_, 1) := by decide +kernel
theorem pn_3 : plainName "java/lang/Record" = true := by first | (simp [plainName, overriddenIn]; done) | decide +kernel
def QRec (Z : State) (a0_ : Addr)  (h0 : Heap) (n0 : Nat) (v : Option Value) (h : Heap) (L : List Loc) : Prop := v = none ∧ Fr n0 L ∧ h = h0
theorem ef_rmRec (m : MethodId) (a0_ : Addr) : entryFrame m #[(.ref a0_)] 1 = mkF m 0 #[rv a0_] [] := by first | (simp [entryFrame, mkF, argsToLocals, Value.category]; done) | rfl
set_option maxRecDepth 65536 in
set_option maxHeartbeats 40000000 in
theorem rmRec (l : Launch) (Z : State) (a0 : Array Value) (hw : ∀ d ∈ tables_1, d.before a0 Z = true) (ws : List Jvm.Cond) (a0_ : Addr)  (h0 : Heap) (n0 : Nat) (Z0 : n0 ≤ h0.size) :
    MetFree l (⟨"java/lang/Record", "<init>", "()V"⟩ : MethodName) (head1 (Jvm.Cond.code (⟨"java/lang/Record", "<init>", "()V"⟩ : MethodName) jdk_30_method_1_code 1 none :: ws) ({ frames := 1, cells := 0, slots := 0, locals := 12 } : Room)) (fun a U => a = #[(.ref a0_)] ∧ Z.Warmed39 U.vm ∧ U.heap = h0) (fun _ _ _ _ _ => True) (fun _ U o U' => ∃ v L, o = .returned v ∧ QRec Z a0_ h0 n0 v U'.heap L ∧ FrameEnd U o U' L ({ frames := 1, cells := 0, slots := 0, locals := 12 } : Room).cells ({ frames := 1, cells := 0, slots := 0, locals := 12 } : Room).slots) := by
  refine MetFree.of_bodySF (plainFor_of_name pn_3) hisR ?_
  intro p e s m args below meth c s₁ Bd hml0 hP hK
  obtain ⟨rfl, hZ, hh⟩ := hP
  have hx := Bd.exec
  have hby := Bd.bytes
  have hml : c.maxLocals = 1 := hml0
  have hown : s.vm.findClass "java/lang/Record" = some m.cls := findClass_of_methodNamed Bd.named
  have hnm := (name_of_methodNamed Bd.named Bd.method).1
  have X0 : Stand p l e ({ frames := 1, cells := 0, slots := 0, locals := 12 } : Room) s m #[(.ref a0_)] below meth c s₁ [] 0 0 := Stand.of_body Bd
  have e0 : s₁.heap = h0 := by rw [← hh, Bd.state]; rfl
  have N0 := Fr.nil n0
  have S0 : ∀ t, Steps p.tables e below (s₁.setTop (mkF m 0 #[rv a0_] [])) t → Steps p.tables e below (s₁.setTop (entryFrame m #[(.ref a0_)] 1)) t := fun t k => castTop (ef_rmRec m a0_) k
  obtain ⟨T1, X1, e1, st1⟩ := initO X0 hx hZ hown (hw _ (List.mem_of_getElem? (i := 45) rfl)) (hw _ (List.mem_of_getElem? (i := 21) rfl)) (hw _ (List.mem_of_getElem? (i := 22) rfl)) e0 (g := (mkF m 1 #[rv a0_] [(.ref a0_)])) rfl (by rw [hml]; rfl) rfl (hb hby d7_1) (by decide) (W := 0) (by show 2 * 0 + _ ≤ _; exact Nat.le_of_eq rfl) (by decide)
  obtain ⟨fs, hr, hrun, hended, hW, hsame⟩ := X1.leave (v := none) (fun _ => rfl)
  refine ⟨_, _, S0 _ ?_, hrun, hended, _, _, rfl, ?_, ⟨_, rfl⟩, hW, hsame.mono (by decide) (by decide)⟩
  · skip
    show Steps p.tables e below (s₁.setTop (mkF m 0 #[rv a0_] [])) _
    refine XS.aloadN X0.here hx rfl (hb hby d7_0) rfl rfl ?_
    show Steps p.tables e below (s₁.setTop (mkF m 1 #[rv a0_] [(.ref a0_)])) _
    refine st1 _ ?_
    show Steps p.tables e below (T1.setTop (mkF m 4 #[rv a0_] [])) _
    exact X1.returnOut hx Bd.returns (hb hby d7_4) hr
  · show QRec Z a0_ h0 n0 _ T1.heap _
    rw [e1]
    exact ⟨rfl, N0, rfl⟩
theorem d9_0 : decode prog_34_method_7_code 0 = .ok (.aload_n 0, 1) := by decide +kernel
theorem d9_1 : decode prog_34_method_7_code 1 = .ok (.getfield 48, 3) := by decide +kernel
theorem d9_4 : decode prog_34_method_7_code 4 = .ok (.areturn, 1) := by decide +kernel
theorem pn_4 : plainName "com/example/reroutine/reroutine/scenario/EventType" = true := by first | (simp [plainName, overriddenIn]; done) | decide +kernel
def QDet (Z : State) (a0_ : Addr) (dd : Addr) (h0 : Heap) (n0 : Nat) (v : Option Value) (h : Heap) (L : List Loc) : Prop := v = some (.ref dd) ∧ Fr n0 L ∧ h = h0
theorem ef_rmDet (m : MethodId) (a0_ : Addr) : entryFrame m #[(.ref a0_)] 1 = mkF m 0 #[rv a0_] [] := by first | (simp [entryFrame, mkF, argsToLocals, Value.category]; done) | rfl
set_option maxRecDepth 65536 in
set_option maxHeartbeats 40000000 in
theorem rmDet (l : Launch) (Z : State) (a0 : Array Value) (hw : ∀ d ∈ tables_1, d.before a0 Z = true) (ws : List Jvm.Cond) (a0_ : Addr) (dd : Addr) (h0 : Heap) (n0 : Nat) (Z0 : n0 ≤ h0.size) (F0 : Fld Z h0 a0_ "com/example/reroutine/reroutine/scenario/EventType" "detailAttribute" "Ljava/lang/String;" (.ref dd)) :
    MetFree l (⟨"com/example/reroutine/reroutine/scenario/EventType", "detailAttribute", "()Ljava/lang/String;"⟩ : MethodName) (head1 (Jvm.Cond.code (⟨"com/example/reroutine/reroutine/scenario/EventType", "detailAttribute", "()Ljava/lang/String;"⟩ : MethodName) prog_34_method_7_code 1 (some (.object "java/lang/String")) :: ws) ({ frames := 0, cells := 0, slots := 0, locals := 0 } : Room)) (fun a U => a = #[(.ref a0_)] ∧ Z.Warmed39 U.vm ∧ U.heap = h0) (fun _ _ _ _ _ => True) (fun _ U o U' => ∃ v L, o = .returned v ∧ QDet Z a0_ dd h0 n0 v U'.heap L ∧ FrameEnd U o U' L ({ frames := 0, cells := 0, slots := 0, locals := 0 } : Room).cells ({ frames := 0, cells := 0, slots := 0, locals := 0 } : Room).slots) := by
  refine MetFree.of_bodySF (plainFor_of_name pn_4) hisR ?_
  intro p e s m args below meth c s₁ Bd hml0 hP hK
  obtain ⟨rfl, hZ, hh⟩ := hP
  have hx := Bd.exec
  have hby := Bd.bytes
  have hml : c.maxLocals = 1 := hml0
  have hown : s.vm.findClass "com/example/reroutine/reroutine/scenario/EventType" = some m.cls := findClass_of_methodNamed Bd.named
  have hnm := (name_of_methodNamed Bd.named Bd.method).1
  have X0 : Stand p l e ({ frames := 0, cells := 0, slots := 0, locals := 0 } : Room) s m #[(.ref a0_)] below meth c s₁ [] 0 0 := Stand.of_body Bd
  have e0 : s₁.heap = h0 := by rw [← hh, Bd.state]; rfl
  have N0 := Fr.nil n0
  have S0 : ∀ t, Steps p.tables e below (s₁.setTop (mkF m 0 #[rv a0_] [])) t → Steps p.tables e below (s₁.setTop (entryFrame m #[(.ref a0_)] 1)) t := fun t k => castTop (ef_rmDet m a0_) k
  obtain ⟨T1, X1, e1, st1⟩ := getF X0 hx hZ hown (host := "") (Or.inl (hw _ (List.mem_of_getElem? (i := 55) rfl))) Via.refl e0 F0 (g := (mkF m 1 #[rv a0_] [(.ref a0_)])) rfl rfl (hb hby d9_1)
  obtain ⟨fs, hr, hrun, hended, hW, hsame⟩ := X1.leave (v := some (.ref dd)) (fun h => by rw [Bd.returns] at h; cases h)
  refine ⟨_, _, S0 _ ?_, hrun, hended, _, _, rfl, ?_, ⟨_, rfl⟩, hW, hsame.mono (by decide) (by decide)⟩
  · skip
    show Steps p.tables e below (s₁.setTop (mkF m 0 #[rv a0_] [])) _
    refine XS.aloadN X0.here hx rfl (hb hby d9_0) rfl rfl ?_
    show Steps p.tables e below (s₁.setTop (mkF m 1 #[rv a0_] [(.ref a0_)])) _
    refine st1 _ ?_
    show Steps p.tables e below (T1.setTop (mkF m 4 #[rv a0_] [(.ref dd)])) _
    jvm_step X1.here [X1.here.top, hx, (hb hby d9_4), X1.method', Bd.returns, Value.isRef, FieldType.isReference]
    first | (intro acts; rw [hr _ acts rfl rfl rfl]) | rw [hr _ _ rfl rfl rfl]
    exact Steps.refl _
  · show QDet Z a0_ dd h0 n0 _ T1.heap _
    rw [e1]
    exact ⟨rfl, N0, rfl⟩
theorem d6_0 : decode prog_33_method_1_code 0 = .ok (.aload_n 0, 1) := by decide +kernel
theorem d6_1 : decode prog_33_method_1_code 1 = .ok (.invokespecial 1, 3) := by decide +kernel
theorem pd_3 : parseMethodDescriptor "()V" = some ⟨[], none⟩ := by decide +kernel
theorem d6_4 : decode prog_33_method_1_code 4 = .ok (.aload_n 2, 1) := by decide +kernel
theorem d6_5 : decode prog_33_method_1_code 5 = .ok (.invokestatic 7, 3) := by decide +kernel
theorem pd_4 : parseMethodDescriptor "(Ljava/lang/Object;)Ljava/lang/Object;" = some ⟨[(.object "java/lang/Object")], some (.object "java/lang/Object")⟩ := by decide +kernel
theorem d6_8 : decode prog_33_method_1_code 8 = .ok (.pop, 1) := by decide +kernel
theorem d6_9 : decode prog_33_method_1_code 9 = .ok (.aload_n 3, 1) := by decide +kernel
theorem d6_10 : decode prog_33_method_1_code 10 = .ok (.invokestatic 7, 3) := by decide +kernel
theorem d6_13 : decode prog_33_method_1_code 13 = .ok (.pop, 1) := by decide +kernel
theorem d6_14 : decode prog_33_method_1_code 14 = .ok (.aload 4, 2) := by decide +kernel
theorem d6_16 : decode prog_33_method_1_code 16 = .ok (.invokestatic 7, 3) := by decide +kernel
theorem d6_19 : decode prog_33_method_1_code 19 = .ok (.pop, 1) := by decide +kernel
theorem d6_20 : decode prog_33_method_1_code 20 = .ok (.iload_n 1, 1) := by decide +kernel
theorem d6_21 : decode prog_33_method_1_code 21 = .ok (.ifCond .ge 17, 3) := by decide +kernel
theorem d6_38 : decode prog_33_method_1_code 38 = .ok (.aload 5, 2) := by decide +kernel
theorem d6_40 : decode prog_33_method_1_code 40 = .ok (.ifnonnull 7, 3) := by decide +kernel
theorem d6_47 : decode prog_33_method_1_code 47 = .ok (.iconst 0, 1) := by decide +kernel
theorem d6_48 : decode prog_33_method_1_code 48 = .ok (.aload_n 2, 1) := by decide +kernel
theorem d6_49 : decode prog_33_method_1_code 49 = .ok (.invokevirtual 22, 3) := by decide +kernel
theorem pd_5 : parseMethodDescriptor "()Ljava/lang/String;" = some ⟨[], some (.object "java/lang/String")⟩ := by decide +kernel
theorem d6_52 : decode prog_33_method_1_code 52 = .ok (.ifnonnull 7, 3) := by decide +kernel
theorem d6_59 : decode prog_33_method_1_code 59 = .ok (.iconst 0, 1) := by decide +kernel
theorem d6_60 : decode prog_33_method_1_code 60 = .ok (.if_icmp .eq 32, 3) := by decide +kernel
theorem d6_92 : decode prog_33_method_1_code 92 = .ok (.aload_n 0, 1) := by decide +kernel
theorem d6_93 : decode prog_33_method_1_code 93 = .ok (.iload_n 1, 1) := by decide +kernel
theorem d6_94 : decode prog_33_method_1_code 94 = .ok (.putfield 41, 3) := by decide +kernel
theorem d6_97 : decode prog_33_method_1_code 97 = .ok (.aload_n 0, 1) := by decide +kernel
theorem d6_98 : decode prog_33_method_1_code 98 = .ok (.aload_n 2, 1) := by decide +kernel
theorem d6_99 : decode prog_33_method_1_code 99 = .ok (.putfield 47, 3) := by decide +kernel
theorem d6_102 : decode prog_33_method_1_code 102 = .ok (.aload_n 0, 1) := by decide +kernel
theorem d6_103 : decode prog_33_method_1_code 103 = .ok (.aload_n 3, 1) := by decide +kernel
theorem d6_104 : decode prog_33_method_1_code 104 = .ok (.putfield 51, 3) := by decide +kernel
theorem d6_107 : decode prog_33_method_1_code 107 = .ok (.aload_n 0, 1) := by decide +kernel
theorem d6_108 : decode prog_33_method_1_code 108 = .ok (.aload 4, 2) := by decide +kernel
theorem d6_110 : decode prog_33_method_1_code 110 = .ok (.putfield 55, 3) := by decide +kernel
theorem d6_113 : decode prog_33_method_1_code 113 = .ok (.aload_n 0, 1) := by decide +kernel
theorem d6_114 : decode prog_33_method_1_code 114 = .ok (.aload 5, 2) := by decide +kernel
theorem d6_116 : decode prog_33_method_1_code 116 = .ok (.putfield 58, 3) := by decide +kernel
theorem d6_119 : decode prog_33_method_1_code 119 = .ok (.return_, 1) := by decide +kernel
theorem pn_5 : plainName "com/example/reroutine/reroutine/scenario/Event" = true := by first | (simp [plainName, overriddenIn]; done) | decide +kernel
def QEvI (Z : State) (a0_ : Addr) (u1 : Int32) (a2_ : Addr) (a3_ : Addr) (a4_ : Addr) (a5_ : Addr) (dd : Addr) (h0 : Heap) (n0 : Nat) (v : Option Value) (h : Heap) (L : List Loc) : Prop := v = none ∧ Fr n0 L ∧ Keep h0 h [a0_] ∧ Exa Z h a0_ "com/example/reroutine/reroutine/scenario/Event" ∧ Fld Z h a0_ "com/example/reroutine/reroutine/scenario/Event" "time" "I" (.int u1) ∧ Fld Z h a0_ "com/example/reroutine/reroutine/scenario/Event" "type" "Lcom/example/reroutine/reroutine/scenario/EventType;" (.ref a2_)
theorem ef_rmEvI (m : MethodId) (a0_ : Addr) (u1 : Int32) (a2_ : Addr) (a3_ : Addr) (a4_ : Addr) (a5_ : Addr) : entryFrame m #[(.ref a0_), (.int u1), (.ref a2_), (.ref a3_), (.ref a4_), (.ref a5_)] 6 = mkF m 0 #[rv a0_, iv u1, rv a2_, rv a3_, rv a4_, rv a5_] [] := by first | (simp [entryFrame, mkF, argsToLocals, Value.category]; done) | rfl
set_option maxRecDepth 65536 in
set_option maxHeartbeats 40000000 in
theorem rmEvI (l : Launch) (Z : State) (a0 : Array Value) (hw : ∀ d ∈ tables_1, d.before a0 Z = true) (ws : List Jvm.Cond) (a0_ : Addr) (u1 : Int32) (a2_ : Addr) (a3_ : Addr) (a4_ : Addr) (a5_ : Addr) (dd : Addr) (h0 : Heap) (n0 : Nat) (Z0 : n0 ≤ h0.size) (E1 : Exa Z h0 a0_ "com/example/reroutine/reroutine/scenario/Event") (Fi0 : Fld Z h0 a0_ "com/example/reroutine/reroutine/scenario/Event" "time" "I" (.int (0 : Int32))) (Fi1 : Fld Z h0 a0_ "com/example/reroutine/reroutine/scenario/Event" "type" "Lcom/example/reroutine/reroutine/scenario/EventType;" .null) (Fi2 : Fld Z h0 a0_ "com/example/reroutine/reroutine/scenario/Event" "agent" "Ljava/lang/String;" .null) (Fi3 : Fld Z h0 a0_ "com/example/reroutine/reroutine/scenario/Event" "link" "Ljava/lang/String;" .null) (Fi4 : Fld Z h0 a0_ "com/example/reroutine/reroutine/scenario/Event" "detail" "Ljava/lang/String;" .null) (g0 : n0 ≤ a0_) (E2 : Exa Z h0 a2_ "com/example/reroutine/reroutine/scenario/EventType") (F2 : Fld Z h0 a2_ "com/example/reroutine/reroutine/scenario/EventType" "detailAttribute" "Ljava/lang/String;" (.ref dd)) (hu : ¬ u1 < 0) :
    MetFree l (⟨"com/example/reroutine/reroutine/scenario/Event", "<init>", "(ILcom/example/reroutine/reroutine/scenario/EventType;Ljava/lang/String;Ljava/lang/String;Ljava/lang/String;)V"⟩ : MethodName) (head1 (Jvm.Cond.code (⟨"com/example/reroutine/reroutine/scenario/Event", "<init>", "(ILcom/example/reroutine/reroutine/scenario/EventType;Ljava/lang/String;Ljava/lang/String;Ljava/lang/String;)V"⟩ : MethodName) prog_33_method_1_code 6 none :: ws) ({ frames := 2, cells := 0, slots := 0, locals := 24 } : Room)) (fun a U => a = #[(.ref a0_), (.int u1), (.ref a2_), (.ref a3_), (.ref a4_), (.ref a5_)] ∧ Z.Warmed39 U.vm ∧ U.heap = h0) (fun _ _ _ _ _ => True) (fun _ U o U' => ∃ v L, o = .returned v ∧ QEvI Z a0_ u1 a2_ a3_ a4_ a5_ dd h0 n0 v U'.heap L ∧ FrameEnd U o U' L ({ frames := 2, cells := 0, slots := 0, locals := 24 } : Room).cells ({ frames := 2, cells := 0, slots := 0, locals := 24 } : Room).slots) := by
  refine MetFree.of_bodySF (plainFor_of_name pn_5) hisR ?_
  intro p e s m args below meth c s₁ Bd hml0 hP hK
  obtain ⟨rfl, hZ, hh⟩ := hP
  have hx := Bd.exec
  have hby := Bd.bytes
  have hml : c.maxLocals = 6 := hml0
  have hown : s.vm.findClass "com/example/reroutine/reroutine/scenario/Event" = some m.cls := findClass_of_methodNamed Bd.named
  have hnm := (name_of_methodNamed Bd.named Bd.method).1
  have X0 : Stand p l e ({ frames := 2, cells := 0, slots := 0, locals := 24 } : Room) s m #[(.ref a0_), (.int u1), (.ref a2_), (.ref a3_), (.ref a4_), (.ref a5_)] below meth c s₁ [] 0 0 := Stand.of_body Bd
  have e0 : s₁.heap = h0 := by rw [← hh, Bd.state]; rfl
  have N0 := Fr.nil n0
  have S0 : ∀ t, Steps p.tables e below (s₁.setTop (mkF m 0 #[rv a0_, iv u1, rv a2_, rv a3_, rv a4_, rv a5_] [])) t → Steps p.tables e below (s₁.setTop (entryFrame m #[(.ref a0_), (.int u1), (.ref a2_), (.ref a3_), (.ref a4_), (.ref a5_)] 6)) t := fun t k => castTop (ef_rmEvI m a0_ u1 a2_ a3_ a4_ a5_) k
  have K0 : Keep h0 h0 [a0_] := Keep.refl _ _
  obtain ⟨_, _, ⟨T1, L1, k1, n1⟩, -, X1, ⟨Lc1, hQ1, l1, y1, z1⟩, st1⟩ := X0.specialBack hx (y := (⟨"java/lang/Record", "<init>", "()V"⟩ : MethodName)) rfl hown (mvT hZ (hw _ (List.mem_of_getElem? (i := 40) rfl))) (mvT hZ (hw _ (List.mem_of_getElem? (i := 41) rfl))) (mvT hZ (hw _ (List.mem_of_getElem? (i := 44) rfl))) (by decide) (backOf (W := 0) (rmRec l Z a0 hw [] a0_ h0 n0 Z0) hZ (hw _ (List.mem_of_getElem? (i := 44) rfl)) (hw _ (List.mem_of_getElem? (i := 43) rfl)) (by decide) (by decide)) (g := (mkF m 1 #[rv a0_, iv u1, rv a2_, rv a3_, rv a4_, rv a5_] [(.ref a0_)])) rfl (by rw [hml]; rfl) (Steps.refl _) (a := a0_) (argsL := []) (rest := []) (lenOf pd_3 rfl) rfl (by show 2 * 0 + _ ≤ _; exact Nat.le_of_eq rfl) (hb hby d6_1) (fun _ _ => ⟨rfl, e0, (by decide : 0 + 0 ≤ _), (by decide : 0 + 0 ≤ _)⟩)
  dsimp only [Pt.U, Pt.locs, Pt.cells, Pt.slots] at X1 l1 y1 z1 st1 hQ1
  subst y1 z1
  obtain ⟨rfl, Nq1, eq1⟩ := hQ1
  have N1 : Fr n0 L1 := by rw [l1]; exact Fr.app N0 Nq1
  obtain ⟨_, _, ⟨T2, L2, k2, n2⟩, -, X2, ⟨Lc2, hQ2, l2, y2, z2⟩, st2⟩ := Jvm.LawKit.callS X1 hx (y := (⟨"java/util/Objects", "requireNonNull", "(Ljava/lang/Object;)Ljava/lang/Object;"⟩ : MethodName)) hown (mvT hZ (hw _ (List.mem_of_getElem? (i := 46) rfl))) (mvT hZ (hw _ (List.mem_of_getElem? (i := 47) rfl))) (mvT hZ (hw _ (List.mem_of_getElem? (i := 48) rfl))) (mvT hZ (hw _ (List.mem_of_getElem? (i := 49) rfl))) (by decide) (backOf (W := 0) (rmRnn l Z a0 hw [] a2_ h0 n0 Z0) hZ (hw _ (List.mem_of_getElem? (i := 49) rfl)) (hw _ (List.mem_of_getElem? (i := 48) rfl)) (by decide) (by decide)) (g := (mkF m 5 #[rv a0_, iv u1, rv a2_, rv a3_, rv a4_, rv a5_] [(.ref a2_)])) rfl (by rw [hml]; rfl) (argsL := [(.ref a2_)]) (rest := []) (lenOf pd_4 rfl) rfl (by show 2 * 0 + _ ≤ _; exact Nat.le_of_eq rfl) (hb hby d6_5) (fun _ _ => ⟨rfl, eq1, (by decide : 0 + 0 ≤ _), (by decide : 0 + 0 ≤ _)⟩)
  dsimp only [Pt.U, Pt.locs, Pt.cells, Pt.slots] at X2 l2 y2 z2 st2 hQ2
  subst y2 z2
  obtain ⟨rfl, Nq2, eq2⟩ := hQ2
  have N2 : Fr n0 L2 := by rw [l2]; exact Fr.app N1 Nq2
  obtain ⟨_, _, ⟨T3, L3, k3, n3⟩, -, X3, ⟨Lc3, hQ3, l3, y3, z3⟩, st3⟩ := Jvm.LawKit.callS X2 hx (y := (⟨"java/util/Objects", "requireNonNull", "(Ljava/lang/Object;)Ljava/lang/Object;"⟩ : MethodName)) hown (mvT hZ (hw _ (List.mem_of_getElem? (i := 46) rfl))) (mvT hZ (hw _ (List.mem_of_getElem? (i := 47) rfl))) (mvT hZ (hw _ (List.mem_of_getElem? (i := 48) rfl))) (mvT hZ (hw _ (List.mem_of_getElem? (i := 49) rfl))) (by decide) (backOf (W := 0) (rmRnn l Z a0 hw [] a3_ h0 n0 Z0) hZ (hw _ (List.mem_of_getElem? (i := 49) rfl)) (hw _ (List.mem_of_getElem? (i := 48) rfl)) (by decide) (by decide)) (g := (mkF m 10 #[rv a0_, iv u1, rv a2_, rv a3_, rv a4_, rv a5_] [(.ref a3_)])) rfl (by rw [hml]; rfl) (argsL := [(.ref a3_)]) (rest := []) (lenOf pd_4 rfl) rfl (by show 2 * 0 + _ ≤ _; exact Nat.le_of_eq rfl) (hb hby d6_10) (fun _ _ => ⟨rfl, eq2, (by decide : 0 + 0 ≤ _), (by decide : 0 + 0 ≤ _)⟩)
  dsimp only [Pt.U, Pt.locs, Pt.cells, Pt.slots] at X3 l3 y3 z3 st3 hQ3
  subst y3 z3
  obtain ⟨rfl, Nq3, eq3⟩ := hQ3
  have N3 : Fr n0 L3 := by rw [l3]; exact Fr.app N2 Nq3
  obtain ⟨_, _, ⟨T4, L4, k4, n4⟩, -, X4, ⟨Lc4, hQ4, l4, y4, z4⟩, st4⟩ := Jvm.LawKit.callS X3 hx (y := (⟨"java/util/Objects", "requireNonNull", "(Ljava/lang/Object;)Ljava/lang/Object;"⟩ : MethodName)) hown (mvT hZ (hw _ (List.mem_of_getElem? (i := 46) rfl))) (mvT hZ (hw _ (List.mem_of_getElem? (i := 47) rfl))) (mvT hZ (hw _ (List.mem_of_getElem? (i := 48) rfl))) (mvT hZ (hw _ (List.mem_of_getElem? (i := 49) rfl))) (by decide) (backOf (W := 0) (rmRnn l Z a0 hw [] a4_ h0 n0 Z0) hZ (hw _ (List.mem_of_getElem? (i := 49) rfl)) (hw _ (List.mem_of_getElem? (i := 48) rfl)) (by decide) (by decide)) (g := (mkF m 16 #[rv a0_, iv u1, rv a2_, rv a3_, rv a4_, rv a5_] [(.ref a4_)])) rfl (by rw [hml]; rfl) (argsL := [(.ref a4_)]) (rest := []) (lenOf pd_4 rfl) rfl (by show 2 * 0 + _ ≤ _; exact Nat.le_of_eq rfl) (hb hby d6_16) (fun _ _ => ⟨rfl, eq3, (by decide : 0 + 0 ≤ _), (by decide : 0 + 0 ≤ _)⟩)
  dsimp only [Pt.U, Pt.locs, Pt.cells, Pt.slots] at X4 l4 y4 z4 st4 hQ4
  subst y4 z4
  obtain ⟨rfl, Nq4, eq4⟩ := hQ4
  have N4 : Fr n0 L4 := by rw [l4]; exact Fr.app N3 Nq4
  obtain ⟨cq5, kq5, q5a, q5b, q5c⟩ := isOf hZ eq4 E2
  obtain ⟨_, _, ⟨T5, L5, k5, n5⟩, -, X5, ⟨Lc5, hQ5, l5, y5, z5⟩, st5⟩ := X4.virtualBack hx (y := (⟨"com/example/reroutine/reroutine/scenario/EventType", "detailAttribute", "()Ljava/lang/String;"⟩ : MethodName)) (z := (⟨"com/example/reroutine/reroutine/scenario/EventType", "detailAttribute", "()Ljava/lang/String;"⟩ : MethodName)) hown (mvT hZ (hw _ (List.mem_of_getElem? (i := 50) rfl))) (mvT hZ (hw _ (List.mem_of_getElem? (i := 51) rfl))) (notFace_of_selects (args := #[]) (mvT hZ (hw _ (List.mem_of_getElem? (i := 53) rfl)))) (mvT hZ (hw _ (List.mem_of_getElem? (i := 53) rfl))) (mvT hZ (hw _ (List.mem_of_getElem? (i := 52) rfl))) (by decide) (backOf (W := 1) (rmDet l Z a0 hw [] a2_ dd h0 n0 Z0 F2) hZ (hw _ (List.mem_of_getElem? (i := 54) rfl)) (hw _ (List.mem_of_getElem? (i := 31) rfl)) (by decide) (by decide)) q5a q5c (g := (mkF m 49 #[rv a0_, iv u1, rv a2_, rv a3_, rv a4_, rv a5_] [(.ref a2_), (.int (0 : Int32))])) rfl (by rw [hml]; rfl) (Steps.refl _) (argsL := []) (rest := [(.int (0 : Int32))]) (lenOf pd_5 rfl) rfl (by show 2 * 0 + _ ≤ _; exact Nat.le_of_eq rfl) (hb hby d6_49) (fun _ _ => ⟨rfl, eq4, (by decide : 0 + 0 ≤ _), (by decide : 0 + 0 ≤ _)⟩)
  dsimp only [Pt.U, Pt.locs, Pt.cells, Pt.slots] at X5 l5 y5 z5 st5 hQ5
  subst y5 z5
  obtain ⟨rfl, Nq5, eq5⟩ := hQ5
  have N5 : Fr n0 L5 := by rw [l5]; exact Fr.app N4 Nq5
  obtain ⟨T6, h6, X6, e6, W6, st6⟩ := putF X5 hx hZ hown (host := "") (Or.inl (hw _ (List.mem_of_getElem? (i := 57) rfl))) Via.refl eq5 Fi0 E1 (Or.inr ⟨(hw _ (List.mem_of_getElem? (i := 58) rfl)), rfl, hnm⟩) (hw _ (List.mem_of_getElem? (i := 28) rfl)) (ty := .int) (by decide) rfl rfl (g := (mkF m 94 #[rv a0_, iv u1, rv a2_, rv a3_, rv a4_, rv a5_] [(.int u1), (.ref a0_)])) rfl rfl (hb hby d6_94)
  have Fw6 := Fi0.same W6
  have f7 := Fi1.other W6 (Or.inr (slot_ne (Or.inr (hw _ (List.mem_of_getElem? (i := 60) rfl))) (Or.inr (hw _ (List.mem_of_getElem? (i := 58) rfl))) (by decide) (t := (.object "com/example/reroutine/reroutine/scenario/EventType")) (t' := .int) (by decide) (by decide)))
  have f8 := Fi2.other W6 (Or.inr (slot_ne (Or.inr (hw _ (List.mem_of_getElem? (i := 62) rfl))) (Or.inr (hw _ (List.mem_of_getElem? (i := 58) rfl))) (by decide) (t := (.object "java/lang/String")) (t' := .int) (by decide) (by decide)))
  have f9 := Fi3.other W6 (Or.inr (slot_ne (Or.inr (hw _ (List.mem_of_getElem? (i := 64) rfl))) (Or.inr (hw _ (List.mem_of_getElem? (i := 58) rfl))) (by decide) (t := (.object "java/lang/String")) (t' := .int) (by decide) (by decide)))
  have f10 := Fi4.other W6 (Or.inr (slot_ne (Or.inr (hw _ (List.mem_of_getElem? (i := 66) rfl))) (Or.inr (hw _ (List.mem_of_getElem? (i := 58) rfl))) (by decide) (t := (.object "java/lang/String")) (t' := .int) (by decide) (by decide)))
  have f11 := E1.wr W6
  have N6 := Fr.snoc X6 N5 g0
  have Z6 : n0 ≤ h6.size := Nat.le_trans Z0 (Keep.of_wr W6).1
  have K6 : Keep h0 h6 [a0_] := K0.wr W6 (Or.inl (List.mem_of_getElem? (i := 0) rfl))
  obtain ⟨T18, h18, X18, e18, W18, st18⟩ := putF X6 hx hZ hown (host := "") (Or.inl (hw _ (List.mem_of_getElem? (i := 59) rfl))) Via.refl e6 f7 f11 (Or.inr ⟨(hw _ (List.mem_of_getElem? (i := 60) rfl)), rfl, hnm⟩) (hw _ (List.mem_of_getElem? (i := 28) rfl)) (ty := (.object "com/example/reroutine/reroutine/scenario/EventType")) (by decide) rfl rfl (g := (mkF m 99 #[rv a0_, iv u1, rv a2_, rv a3_, rv a4_, rv a5_] [(.ref a2_), (.ref a0_)])) rfl rfl (hb hby d6_99)
  have Fw18 := f7.same W18
  have f19 := Fw6.other W18 (Or.inr (slot_ne (Or.inr (hw _ (List.mem_of_getElem? (i := 58) rfl))) (Or.inr (hw _ (List.mem_of_getElem? (i := 60) rfl))) (by decide) (t := .int) (t' := (.object "com/example/reroutine/reroutine/scenario/EventType")) (by decide) (by decide)))
  have f20 := f8.other W18 (Or.inr (slot_ne (Or.inr (hw _ (List.mem_of_getElem? (i := 62) rfl))) (Or.inr (hw _ (List.mem_of_getElem? (i := 60) rfl))) (by decide) (t := (.object "java/lang/String")) (t' := (.object "com/example/reroutine/reroutine/scenario/EventType")) (by decide) (by decide)))
  have f21 := f9.other W18 (Or.inr (slot_ne (Or.inr (hw _ (List.mem_of_getElem? (i := 64) rfl))) (Or.inr (hw _ (List.mem_of_getElem? (i := 60) rfl))) (by decide) (t := (.object "java/lang/String")) (t' := (.object "com/example/reroutine/reroutine/scenario/EventType")) (by decide) (by decide)))
  have f22 := f10.other W18 (Or.inr (slot_ne (Or.inr (hw _ (List.mem_of_getElem? (i := 66) rfl))) (Or.inr (hw _ (List.mem_of_getElem? (i := 60) rfl))) (by decide) (t := (.object "java/lang/String")) (t' := (.object "com/example/reroutine/reroutine/scenario/EventType")) (by decide) (by decide)))
  have f23 := f11.wr W18
  have N18 := Fr.snoc X18 N6 g0
  have Z18 : n0 ≤ h18.size := Nat.le_trans Z6 (Keep.of_wr W18).1
  have K18 : Keep h0 h18 [a0_] := K6.wr W18 (Or.inl (List.mem_of_getElem? (i := 0) rfl))
  obtain ⟨T30, h30, X30, e30, W30, st30⟩ := putF X18 hx hZ hown (host := "") (Or.inl (hw _ (List.mem_of_getElem? (i := 61) rfl))) Via.refl e18 f20 f23 (Or.inr ⟨(hw _ (List.mem_of_getElem? (i := 62) rfl)), rfl, hnm⟩) (hw _ (List.mem_of_getElem? (i := 28) rfl)) (ty := (.object "java/lang/String")) (by decide) rfl rfl (g := (mkF m 104 #[rv a0_, iv u1, rv a2_, rv a3_, rv a4_, rv a5_] [(.ref a3_), (.ref a0_)])) rfl rfl (hb hby d6_104)
  have Fw30 := f20.same W30
  have f31 := f19.other W30 (Or.inr (slot_ne (Or.inr (hw _ (List.mem_of_getElem? (i := 58) rfl))) (Or.inr (hw _ (List.mem_of_getElem? (i := 62) rfl))) (by decide) (t := .int) (t' := (.object "java/lang/String")) (by decide) (by decide)))
  have f32 := Fw18.other W30 (Or.inr (slot_ne (Or.inr (hw _ (List.mem_of_getElem? (i := 60) rfl))) (Or.inr (hw _ (List.mem_of_getElem? (i := 62) rfl))) (by decide) (t := (.object "com/example/reroutine/reroutine/scenario/EventType")) (t' := (.object "java/lang/String")) (by decide) (by decide)))
  have f33 := f21.other W30 (Or.inr (slot_ne (Or.inr (hw _ (List.mem_of_getElem? (i := 64) rfl))) (Or.inr (hw _ (List.mem_of_getElem? (i := 62) rfl))) (by decide) (t := (.object "java/lang/String")) (t' := (.object "java/lang/String")) (by decide) (by decide)))
  have f34 := f22.other W30 (Or.inr (slot_ne (Or.inr (hw _ (List.mem_of_getElem? (i := 66) rfl))) (Or.inr (hw _ (List.mem_of_getElem? (i := 62) rfl))) (by decide) (t := (.object "java/lang/String")) (t' := (.object "java/lang/String")) (by decide) (by decide)))
  have f35 := f23.wr W30
  have N30 := Fr.snoc X30 N18 g0
  have Z30 : n0 ≤ h30.size := Nat.le_trans Z18 (Keep.of_wr W30).1
  have K30 : Keep h0 h30 [a0_] := K18.wr W30 (Or.inl (List.mem_of_getElem? (i := 0) rfl))
  obtain ⟨T42, h42, X42, e42, W42, st42⟩ := putF X30 hx hZ hown (host := "") (Or.inl (hw _ (List.mem_of_getElem? (i := 63) rfl))) Via.refl e30 f33 f35 (Or.inr ⟨(hw _ (List.mem_of_getElem? (i := 64) rfl)), rfl, hnm⟩) (hw _ (List.mem_of_getElem? (i := 28) rfl)) (ty := (.object "java/lang/String")) (by decide) rfl rfl (g := (mkF m 110 #[rv a0_, iv u1, rv a2_, rv a3_, rv a4_, rv a5_] [(.ref a4_), (.ref a0_)])) rfl rfl (hb hby d6_110)
  have Fw42 := f33.same W42
  have f43 := f31.other W42 (Or.inr (slot_ne (Or.inr (hw _ (List.mem_of_getElem? (i := 58) rfl))) (Or.inr (hw _ (List.mem_of_getElem? (i := 64) rfl))) (by decide) (t := .int) (t' := (.object "java/lang/String")) (by decide) (by decide)))
  have f44 := f32.other W42 (Or.inr (slot_ne (Or.inr (hw _ (List.mem_of_getElem? (i := 60) rfl))) (Or.inr (hw _ (List.mem_of_getElem? (i := 64) rfl))) (by decide) (t := (.object "com/example/reroutine/reroutine/scenario/EventType")) (t' := (.object "java/lang/String")) (by decide) (by decide)))
  have f45 := Fw30.other W42 (Or.inr (slot_ne (Or.inr (hw _ (List.mem_of_getElem? (i := 62) rfl))) (Or.inr (hw _ (List.mem_of_getElem? (i := 64) rfl))) (by decide) (t := (.object "java/lang/String")) (t' := (.object "java/lang/String")) (by decide) (by decide)))
  have f46 := f34.other W42 (Or.inr (slot_ne (Or.inr (hw _ (List.mem_of_getElem? (i := 66) rfl))) (Or.inr (hw _ (List.mem_of_getElem? (i := 64) rfl))) (by decide) (t := (.object "java/lang/String")) (t' := (.object "java/lang/String")) (by decide) (by decide)))
  have f47 := f35.wr W42
  have N42 := Fr.snoc X42 N30 g0
  have Z42 : n0 ≤ h42.size := Nat.le_trans Z30 (Keep.of_wr W42).1
  have K42 : Keep h0 h42 [a0_] := K30.wr W42 (Or.inl (List.mem_of_getElem? (i := 0) rfl))
  obtain ⟨T54, h54, X54, e54, W54, st54⟩ := putF X42 hx hZ hown (host := "") (Or.inl (hw _ (List.mem_of_getElem? (i := 65) rfl))) Via.refl e42 f46 f47 (Or.inr ⟨(hw _ (List.mem_of_getElem? (i := 66) rfl)), rfl, hnm⟩) (hw _ (List.mem_of_getElem? (i := 28) rfl)) (ty := (.object "java/lang/String")) (by decide) rfl rfl (g := (mkF m 116 #[rv a0_, iv u1, rv a2_, rv a3_, rv a4_, rv a5_] [(.ref a5_), (.ref a0_)])) rfl rfl (hb hby d6_116)
  have Fw54 := f46.same W54
  have f55 := f43.other W54 (Or.inr (slot_ne (Or.inr (hw _ (List.mem_of_getElem? (i := 58) rfl))) (Or.inr (hw _ (List.mem_of_getElem? (i := 66) rfl))) (by decide) (t := .int) (t' := (.object "java/lang/String")) (by decide) (by decide)))
  have f56 := f44.other W54 (Or.inr (slot_ne (Or.inr (hw _ (List.mem_of_getElem? (i := 60) rfl))) (Or.inr (hw _ (List.mem_of_getElem? (i := 66) rfl))) (by decide) (t := (.object "com/example/reroutine/reroutine/scenario/EventType")) (t' := (.object "java/lang/String")) (by decide) (by decide)))
  have f57 := f45.other W54 (Or.inr (slot_ne (Or.inr (hw _ (List.mem_of_getElem? (i := 62) rfl))) (Or.inr (hw _ (List.mem_of_getElem? (i := 66) rfl))) (by decide) (t := (.object "java/lang/String")) (t' := (.object "java/lang/String")) (by decide) (by decide)))
  have f58 := Fw42.other W54 (Or.inr (slot_ne (Or.inr (hw _ (List.mem_of_getElem? (i := 64) rfl))) (Or.inr (hw _ (List.mem_of_getElem? (i := 66) rfl))) (by decide) (t := (.object "java/lang/String")) (t' := (.object "java/lang/String")) (by decide) (by decide)))
  have f59 := f47.wr W54
  have N54 := Fr.snoc X54 N42 g0
  have Z54 : n0 ≤ h54.size := Nat.le_trans Z42 (Keep.of_wr W54).1
  have K54 : Keep h0 h54 [a0_] := K42.wr W54 (Or.inl (List.mem_of_getElem? (i := 0) rfl))
  obtain ⟨fs, hr, hrun, hended, hW, hsame⟩ := X54.leave (v := none) (fun _ => rfl)
  refine ⟨_, _, S0 _ ?_, hrun, hended, _, _, rfl, ?_, ⟨_, rfl⟩, hW, hsame.mono (by decide) (by decide)⟩
  · skip
    show Steps p.tables e below (s₁.setTop (mkF m 0 #[rv a0_, iv u1, rv a2_, rv a3_, rv a4_, rv a5_] [])) _
    refine XS.aloadN X0.here hx rfl (hb hby d6_0) rfl rfl ?_
    show Steps p.tables e below (s₁.setTop (mkF m 1 #[rv a0_, iv u1, rv a2_, rv a3_, rv a4_, rv a5_] [(.ref a0_)])) _
    refine st1.trans ?_
    show Steps p.tables e below (T1.setTop (mkF m 4 #[rv a0_, iv u1, rv a2_, rv a3_, rv a4_, rv a5_] [])) _
    refine XS.aloadN X1.here hx rfl (hb hby d6_4) rfl rfl ?_
    show Steps p.tables e below (T1.setTop (mkF m 5 #[rv a0_, iv u1, rv a2_, rv a3_, rv a4_, rv a5_] [(.ref a2_)])) _
    refine st2 _ ?_
    show Steps p.tables e below (T2.setTop (mkF m 8 #[rv a0_, iv u1, rv a2_, rv a3_, rv a4_, rv a5_] [(.ref a2_)])) _
    refine XS.pop X2.here hx rfl (hb hby d6_8) rfl rfl ?_
    show Steps p.tables e below (T2.setTop (mkF m 9 #[rv a0_, iv u1, rv a2_, rv a3_, rv a4_, rv a5_] [])) _
    refine XS.aloadN X2.here hx rfl (hb hby d6_9) rfl rfl ?_
    show Steps p.tables e below (T2.setTop (mkF m 10 #[rv a0_, iv u1, rv a2_, rv a3_, rv a4_, rv a5_] [(.ref a3_)])) _
    refine st3 _ ?_
    show Steps p.tables e below (T3.setTop (mkF m 13 #[rv a0_, iv u1, rv a2_, rv a3_, rv a4_, rv a5_] [(.ref a3_)])) _
    refine XS.pop X3.here hx rfl (hb hby d6_13) rfl rfl ?_
    show Steps p.tables e below (T3.setTop (mkF m 14 #[rv a0_, iv u1, rv a2_, rv a3_, rv a4_, rv a5_] [])) _
    refine XS.aload X3.here hx rfl (hb hby d6_14) rfl rfl ?_
    show Steps p.tables e below (T3.setTop (mkF m 16 #[rv a0_, iv u1, rv a2_, rv a3_, rv a4_, rv a5_] [(.ref a4_)])) _
    refine st4 _ ?_
    show Steps p.tables e below (T4.setTop (mkF m 19 #[rv a0_, iv u1, rv a2_, rv a3_, rv a4_, rv a5_] [(.ref a4_)])) _
    refine XS.pop X4.here hx rfl (hb hby d6_19) rfl rfl ?_
    show Steps p.tables e below (T4.setTop (mkF m 20 #[rv a0_, iv u1, rv a2_, rv a3_, rv a4_, rv a5_] [])) _
    refine XS.iloadN X4.here hx rfl (hb hby d6_20) rfl ?_
    show Steps p.tables e below (T4.setTop (mkF m 21 #[rv a0_, iv u1, rv a2_, rv a3_, rv a4_, rv a5_] [(.int u1)])) _
    refine XS.ifYes X4.here hx rfl (pc0 := 21) (pc' := 38) rfl (hb hby d6_21) rfl ((if0 _ _).trans (flt hu).2.1) (by decide) (by decide) ?_
    show Steps p.tables e below (T4.setTop (mkF m 38 #[rv a0_, iv u1, rv a2_, rv a3_, rv a4_, rv a5_] [])) _
    refine XS.aload X4.here hx rfl (hb hby d6_38) rfl rfl ?_
    show Steps p.tables e below (T4.setTop (mkF m 40 #[rv a0_, iv u1, rv a2_, rv a3_, rv a4_, rv a5_] [(.ref a5_)])) _
    refine XS.ifnonnullYes X4.here hx rfl (pc0 := 40) (pc' := 47) rfl (hb hby d6_40) rfl (by decide) (by decide) ?_
    show Steps p.tables e below (T4.setTop (mkF m 47 #[rv a0_, iv u1, rv a2_, rv a3_, rv a4_, rv a5_] [])) _
    refine XS.iconst X4.here hx rfl (hb hby d6_47) ?_
    show Steps p.tables e below (T4.setTop (mkF m 48 #[rv a0_, iv u1, rv a2_, rv a3_, rv a4_, rv a5_] [(.int (0 : Int32))])) _
    refine XS.aloadN X4.here hx rfl (hb hby d6_48) rfl rfl ?_
    show Steps p.tables e below (T4.setTop (mkF m 49 #[rv a0_, iv u1, rv a2_, rv a3_, rv a4_, rv a5_] [(.ref a2_), (.int (0 : Int32))])) _
    refine st5.trans ?_
    show Steps p.tables e below (T5.setTop (mkF m 52 #[rv a0_, iv u1, rv a2_, rv a3_, rv a4_, rv a5_] [(.ref dd), (.int (0 : Int32))])) _
    refine XS.ifnonnullYes X5.here hx rfl (pc0 := 52) (pc' := 59) rfl (hb hby d6_52) rfl (by decide) (by decide) ?_
    show Steps p.tables e below (T5.setTop (mkF m 59 #[rv a0_, iv u1, rv a2_, rv a3_, rv a4_, rv a5_] [(.int (0 : Int32))])) _
    refine XS.iconst X5.here hx rfl (hb hby d6_59) ?_
    show Steps p.tables e below (T5.setTop (mkF m 60 #[rv a0_, iv u1, rv a2_, rv a3_, rv a4_, rv a5_] [(.int (0 : Int32)), (.int (0 : Int32))])) _
    refine XS.icmpYes X5.here hx rfl (pc0 := 60) (pc' := 92) rfl (hb hby d6_60) rfl (teq (by decide : (0 : Int32) = (0 : Int32))).1 (by decide) (by decide) ?_
    show Steps p.tables e below (T5.setTop (mkF m 92 #[rv a0_, iv u1, rv a2_, rv a3_, rv a4_, rv a5_] [])) _
    refine XS.aloadN X5.here hx rfl (hb hby d6_92) rfl rfl ?_
    show Steps p.tables e below (T5.setTop (mkF m 93 #[rv a0_, iv u1, rv a2_, rv a3_, rv a4_, rv a5_] [(.ref a0_)])) _
    refine XS.iloadN X5.here hx rfl (hb hby d6_93) rfl ?_
    show Steps p.tables e below (T5.setTop (mkF m 94 #[rv a0_, iv u1, rv a2_, rv a3_, rv a4_, rv a5_] [(.int u1), (.ref a0_)])) _
    refine st6 _ ?_
    show Steps p.tables e below (T6.setTop (mkF m 97 #[rv a0_, iv u1, rv a2_, rv a3_, rv a4_, rv a5_] [])) _
    refine XS.aloadN X6.here hx rfl (hb hby d6_97) rfl rfl ?_
    show Steps p.tables e below (T6.setTop (mkF m 98 #[rv a0_, iv u1, rv a2_, rv a3_, rv a4_, rv a5_] [(.ref a0_)])) _
    refine XS.aloadN X6.here hx rfl (hb hby d6_98) rfl rfl ?_
    show Steps p.tables e below (T6.setTop (mkF m 99 #[rv a0_, iv u1, rv a2_, rv a3_, rv a4_, rv a5_] [(.ref a2_), (.ref a0_)])) _
    refine st18 _ ?_
    show Steps p.tables e below (T18.setTop (mkF m 102 #[rv a0_, iv u1, rv a2_, rv a3_, rv a4_, rv a5_] [])) _
    refine XS.aloadN X18.here hx rfl (hb hby d6_102) rfl rfl ?_
    show Steps p.tables e below (T18.setTop (mkF m 103 #[rv a0_, iv u1, rv a2_, rv a3_, rv a4_, rv a5_] [(.ref a0_)])) _
    refine XS.aloadN X18.here hx rfl (hb hby d6_103) rfl rfl ?_
    show Steps p.tables e below (T18.setTop (mkF m 104 #[rv a0_, iv u1, rv a2_, rv a3_, rv a4_, rv a5_] [(.ref a3_), (.ref a0_)])) _
    refine st30 _ ?_
    show Steps p.tables e below (T30.setTop (mkF m 107 #[rv a0_, iv u1, rv a2_, rv a3_, rv a4_, rv a5_] [])) _
    refine XS.aloadN X30.here hx rfl (hb hby d6_107) rfl rfl ?_
    show Steps p.tables e below (T30.setTop (mkF m 108 #[rv a0_, iv u1, rv a2_, rv a3_, rv a4_, rv a5_] [(.ref a0_)])) _
    refine XS.aload X30.here hx rfl (hb hby d6_108) rfl rfl ?_
    show Steps p.tables e below (T30.setTop (mkF m 110 #[rv a0_, iv u1, rv a2_, rv a3_, rv a4_, rv a5_] [(.ref a4_), (.ref a0_)])) _
    refine st42 _ ?_
    show Steps p.tables e below (T42.setTop (mkF m 113 #[rv a0_, iv u1, rv a2_, rv a3_, rv a4_, rv a5_] [])) _
    refine XS.aloadN X42.here hx rfl (hb hby d6_113) rfl rfl ?_
    show Steps p.tables e below (T42.setTop (mkF m 114 #[rv a0_, iv u1, rv a2_, rv a3_, rv a4_, rv a5_] [(.ref a0_)])) _
    refine XS.aload X42.here hx rfl (hb hby d6_114) rfl rfl ?_
    show Steps p.tables e below (T42.setTop (mkF m 116 #[rv a0_, iv u1, rv a2_, rv a3_, rv a4_, rv a5_] [(.ref a5_), (.ref a0_)])) _
    refine st54 _ ?_
    show Steps p.tables e below (T54.setTop (mkF m 119 #[rv a0_, iv u1, rv a2_, rv a3_, rv a4_, rv a5_] [])) _
    exact X54.returnOut hx Bd.returns (hb hby d6_119) hr
  · show QEvI Z a0_ u1 a2_ a3_ a4_ a5_ dd h0 n0 _ T54.heap _
    rw [e54]
    exact ⟨rfl, N54, K54, f59, f55, f56⟩
theorem d13_0 : decode prog_33_method_12_code 0 = .ok (.aload_n 0, 1) := by decide +kernel
theorem d13_1 : decode prog_33_method_12_code 1 = .ok (.getfield 47, 3) := by decide +kernel
theorem d13_4 : decode prog_33_method_12_code 4 = .ok (.areturn, 1) := by decide +kernel
def QGtype (Z : State) (a0_ : Addr) (tt : Addr) (h0 : Heap) (n0 : Nat) (v : Option Value) (h : Heap) (L : List Loc) : Prop := v = some (.ref tt) ∧ Fr n0 L ∧ h = h0
theorem ef_rmGtype (m : MethodId) (a0_ : Addr) : entryFrame m #[(.ref a0_)] 1 = mkF m 0 #[rv a0_] [] := by first | (simp [entryFrame, mkF, argsToLocals, Value.category]; done) | rfl
set_option maxRecDepth 65536 in
set_option maxHeartbeats 40000000 in
theorem rmGtype (l : Launch) (Z : State) (a0 : Array Value) (hw : ∀ d ∈ tables_1, d.before a0 Z = true) (ws : List Jvm.Cond) (a0_ : Addr) (tt : Addr) (h0 : Heap) (n0 : Nat) (Z0 : n0 ≤ h0.size) (F0 : Fld Z h0 a0_ "com/example/reroutine/reroutine/scenario/Event" "type" "Lcom/example/reroutine/reroutine/scenario/EventType;" (.ref tt)) :
    MetFree l (⟨"com/example/reroutine/reroutine/scenario/Event", "type", "()Lcom/example/reroutine/reroutine/scenario/EventType;"⟩ : MethodName) (head1 (Jvm.Cond.code (⟨"com/example/reroutine/reroutine/scenario/Event", "type", "()Lcom/example/reroutine/reroutine/scenario/EventType;"⟩ : MethodName) prog_33_method_12_code 1 (some (.object "com/example/reroutine/reroutine/scenario/EventType")) :: ws) ({ frames := 0, cells := 0, slots := 0, locals := 0 } : Room)) (fun a U => a = #[(.ref a0_)] ∧ Z.Warmed39 U.vm ∧ U.heap = h0) (fun _ _ _ _ _ => True) (fun _ U o U' => ∃ v L, o = .returned v ∧ QGtype Z a0_ tt h0 n0 v U'.heap L ∧ FrameEnd U o U' L ({ frames := 0, cells := 0, slots := 0, locals := 0 } : Room).cells ({ frames := 0, cells := 0, slots := 0, locals := 0 } : Room).slots) := by
  refine MetFree.of_bodySF (plainFor_of_name pn_5) hisR ?_
  intro p e s m args below meth c s₁ Bd hml0 hP hK
  obtain ⟨rfl, hZ, hh⟩ := hP
  have hx := Bd.exec
  have hby := Bd.bytes
  have hml : c.maxLocals = 1 := hml0
  have hown : s.vm.findClass "com/example/reroutine/reroutine/scenario/Event" = some m.cls := findClass_of_methodNamed Bd.named
  have hnm := (name_of_methodNamed Bd.named Bd.method).1
  have X0 : Stand p l e ({ frames := 0, cells := 0, slots := 0, locals := 0 } : Room) s m #[(.ref a0_)] below meth c s₁ [] 0 0 := Stand.of_body Bd
  have e0 : s₁.heap = h0 := by rw [← hh, Bd.state]; rfl
  have N0 := Fr.nil n0
  have S0 : ∀ t, Steps p.tables e below (s₁.setTop (mkF m 0 #[rv a0_] [])) t → Steps p.tables e below (s₁.setTop (entryFrame m #[(.ref a0_)] 1)) t := fun t k => castTop (ef_rmGtype m a0_) k
  obtain ⟨T1, X1, e1, st1⟩ := getF X0 hx hZ hown (host := "") (Or.inl (hw _ (List.mem_of_getElem? (i := 59) rfl))) Via.refl e0 F0 (g := (mkF m 1 #[rv a0_] [(.ref a0_)])) rfl rfl (hb hby d13_1)
  obtain ⟨fs, hr, hrun, hended, hW, hsame⟩ := X1.leave (v := some (.ref tt)) (fun h => by rw [Bd.returns] at h; cases h)
  refine ⟨_, _, S0 _ ?_, hrun, hended, _, _, rfl, ?_, ⟨_, rfl⟩, hW, hsame.mono (by decide) (by decide)⟩
  · skip
    show Steps p.tables e below (s₁.setTop (mkF m 0 #[rv a0_] [])) _
    refine XS.aloadN X0.here hx rfl (hb hby d13_0) rfl rfl ?_
    show Steps p.tables e below (s₁.setTop (mkF m 1 #[rv a0_] [(.ref a0_)])) _
    refine st1 _ ?_
    show Steps p.tables e below (T1.setTop (mkF m 4 #[rv a0_] [(.ref tt)])) _
    jvm_step X1.here [X1.here.top, hx, (hb hby d13_4), X1.method', Bd.returns, Value.isRef, FieldType.isReference]
    first | (intro acts; rw [hr _ acts rfl rfl rfl]) | rw [hr _ _ rfl rfl rfl]
    exact Steps.refl _
  · show QGtype Z a0_ tt h0 n0 _ T1.heap _
    rw [e1]
    exact ⟨rfl, N0, rfl⟩
theorem d14_0 : decode prog_33_method_11_code 0 = .ok (.aload_n 0, 1) := by decide +kernel
theorem d14_1 : decode prog_33_method_11_code 1 = .ok (.getfield 41, 3) := by decide +kernel
theorem d14_4 : decode prog_33_method_11_code 4 = .ok (.ireturn, 1) := by decide +kernel
def QGtime (Z : State) (a0_ : Addr) (tm : Int32) (h0 : Heap) (n0 : Nat) (v : Option Value) (h : Heap) (L : List Loc) : Prop := v = some (.int tm) ∧ Fr n0 L ∧ h = h0
theorem ef_rmGtime (m : MethodId) (a0_ : Addr) : entryFrame m #[(.ref a0_)] 1 = mkF m 0 #[rv a0_] [] := by first | (simp [entryFrame, mkF, argsToLocals, Value.category]; done) | rfl
set_option maxRecDepth 65536 in
set_option maxHeartbeats 40000000 in
theorem rmGtime (l : Launch) (Z : State) (a0 : Array Value) (hw : ∀ d ∈ tables_1, d.before a0 Z = true) (ws : List Jvm.Cond) (a0_ : Addr) (tm : Int32) (h0 : Heap) (n0 : Nat) (Z0 : n0 ≤ h0.size) (F0 : Fld Z h0 a0_ "com/example/reroutine/reroutine/scenario/Event" "time" "I" (.int tm)) :
    MetFree l (⟨"com/example/reroutine/reroutine/scenario/Event", "time", "()I"⟩ : MethodName) (head1 (Jvm.Cond.code (⟨"com/example/reroutine/reroutine/scenario/Event", "time", "()I"⟩ : MethodName) prog_33_method_11_code 1 (some .int) :: ws) ({ frames := 0, cells := 0, slots := 0, locals := 0 } : Room)) (fun a U => a = #[(.ref a0_)] ∧ Z.Warmed39 U.vm ∧ U.heap = h0) (fun _ _ _ _ _ => True) (fun _ U o U' => ∃ v L, o = .returned v ∧ QGtime Z a0_ tm h0 n0 v U'.heap L ∧ FrameEnd U o U' L ({ frames := 0, cells := 0, slots := 0, locals := 0 } : Room).cells ({ frames := 0, cells := 0, slots := 0, locals := 0 } : Room).slots) := by
  refine MetFree.of_bodySF (plainFor_of_name pn_5) hisR ?_
  intro p e s m args below meth c s₁ Bd hml0 hP hK
  obtain ⟨rfl, hZ, hh⟩ := hP
  have hx := Bd.exec
  have hby := Bd.bytes
  have hml : c.maxLocals = 1 := hml0
  have hown : s.vm.findClass "com/example/reroutine/reroutine/scenario/Event" = some m.cls := findClass_of_methodNamed Bd.named
  have hnm := (name_of_methodNamed Bd.named Bd.method).1
  have X0 : Stand p l e ({ frames := 0, cells := 0, slots := 0, locals := 0 } : Room) s m #[(.ref a0_)] below meth c s₁ [] 0 0 := Stand.of_body Bd
  have e0 : s₁.heap = h0 := by rw [← hh, Bd.state]; rfl
  have N0 := Fr.nil n0
  have S0 : ∀ t, Steps p.tables e below (s₁.setTop (mkF m 0 #[rv a0_] [])) t → Steps p.tables e below (s₁.setTop (entryFrame m #[(.ref a0_)] 1)) t := fun t k => castTop (ef_rmGtime m a0_) k
  obtain ⟨T1, X1, e1, st1⟩ := getF X0 hx hZ hown (host := "") (Or.inl (hw _ (List.mem_of_getElem? (i := 57) rfl))) Via.refl e0 F0 (g := (mkF m 1 #[rv a0_] [(.ref a0_)])) rfl rfl (hb hby d14_1)
  obtain ⟨fs, hr, hrun, hended, hW, hsame⟩ := X1.leave (v := some (.int tm)) (fun h => by rw [Bd.returns] at h; cases h)
  refine ⟨_, _, S0 _ ?_, hrun, hended, _, _, rfl, ?_, ⟨_, rfl⟩, hW, hsame.mono (by decide) (by decide)⟩
  · skip
    show Steps p.tables e below (s₁.setTop (mkF m 0 #[rv a0_] [])) _
    refine XS.aloadN X0.here hx rfl (hb hby d14_0) rfl rfl ?_
    show Steps p.tables e below (s₁.setTop (mkF m 1 #[rv a0_] [(.ref a0_)])) _
    refine st1 _ ?_
    show Steps p.tables e below (T1.setTop (mkF m 4 #[rv a0_] [(.int tm)])) _
    exact retI X1 hx Bd.returns (hb hby d14_4) hr
  · show QGtime Z a0_ tm h0 n0 _ T1.heap _
    rw [e1]
    exact ⟨rfl, N0, rfl⟩
theorem d10_0 : decode prog_12_method_1_code 0 = .ok (.aload_n 0, 1) := by decide +kernel
theorem d10_1 : decode prog_12_method_1_code 1 = .ok (.invokespecial 1, 3) := by decide +kernel
theorem d10_4 : decode prog_12_method_1_code 4 = .ok (.aload_n 0, 1) := by decide +kernel
theorem d10_5 : decode prog_12_method_1_code 5 = .ok (.getstatic 7, 3) := by decide +kernel
theorem d10_8 : decode prog_12_method_1_code 8 = .ok (.arraylength, 1) := by decide +kernel
theorem d10_9 : decode prog_12_method_1_code 9 = .ok (.newarray .int, 2) := by decide +kernel
theorem d10_11 : decode prog_12_method_1_code 11 = .ok (.putfield 13, 3) := by decide +kernel
theorem d10_14 : decode prog_12_method_1_code 14 = .ok (.aload_n 0, 1) := by decide +kernel
theorem d10_15 : decode prog_12_method_1_code 15 = .ok (.aload_n 1, 1) := by decide +kernel
theorem d10_16 : decode prog_12_method_1_code 16 = .ok (.invokestatic 17, 3) := by decide +kernel
theorem d10_19 : decode prog_12_method_1_code 19 = .ok (.checkcast 23, 3) := by decide +kernel
theorem d10_22 : decode prog_12_method_1_code 22 = .ok (.putfield 25, 3) := by decide +kernel
theorem d10_25 : decode prog_12_method_1_code 25 = .ok (.return_, 1) := by decide +kernel
theorem pn_6 : plainName "com/example/reroutine/reroutine/replanning/ExecutedDay" = true := by first | (simp [plainName, overriddenIn]; done) | decide +kernel
def QDayI (Z : State) (a0_ : Addr) (a1_ : Addr) (t0 t1 t2 t3 d0 d1 d2 d3 oa : Addr) (oc : Cell) (h0 : Heap) (n0 : Nat) (v : Option Value) (h : Heap) (L : List Loc) : Prop := v = none ∧ Fr n0 L ∧ Keep h0 h [a0_] ∧ own_ED Z h n0 a0_ (0 : Int32) (4 : Int32)
theorem ef_rmDayI (m : MethodId) (a0_ : Addr) (a1_ : Addr) : entryFrame m #[(.ref a0_), (.ref a1_)] 2 = mkF m 0 #[rv a0_, rv a1_] [] := by first | (simp [entryFrame, mkF, argsToLocals, Value.category]; done) | rfl
set_option maxRecDepth 65536 in
set_option maxHeartbeats 40000000 in
theorem rmDayI (l : Launch) (Z : State) (a0 : Array Value) (hw : ∀ d ∈ tables_1, d.before a0 Z = true) (ws : List Jvm.Cond) (a0_ : Addr) (a1_ : Addr) (t0 t1 t2 t3 d0 d1 d2 d3 oa : Addr) (oc : Cell) (h0 : Heap) (n0 : Nat) (Z0 : n0 ≤ h0.size) (hO : Old Z n0 h0) (hst : own_St Z t0 t1 t2 t3 d0 d1 d2 d3 oa oc) (E1 : Exa Z h0 a0_ "com/example/reroutine/reroutine/replanning/ExecutedDay") (F1 : Fld Z h0 a0_ "com/example/reroutine/reroutine/replanning/ExecutedDay" "times" "[I" .null) (F2 : Fld Z h0 a0_ "com/example/reroutine/reroutine/replanning/ExecutedDay" "person" "Ljava/lang/String;" .null) (F3 : Fld Z h0 a0_ "com/example/reroutine/reroutine/replanning/ExecutedDay" "size" "I" (.int (0 : Int32))) (g0 : n0 ≤ a0_) (E2 : Exa Z h0 a1_ "java/lang/String") :
    MetFree l (⟨"com/example/reroutine/reroutine/replanning/ExecutedDay", "<init>", "(Ljava/lang/String;)V"⟩ : MethodName) (head1 (Jvm.Cond.code (⟨"com/example/reroutine/reroutine/replanning/ExecutedDay", "<init>", "(Ljava/lang/String;)V"⟩ : MethodName) prog_12_method_1_code 2 none :: ws) ({ frames := 1, cells := 1, slots := 4, locals := 13 } : Room)) (fun a U => a = #[(.ref a0_), (.ref a1_)] ∧ Z.Warmed39 U.vm ∧ U.heap = h0) (fun _ _ _ _ _ => True) (fun _ U o U' => ∃ v L, o = .returned v ∧ QDayI Z a0_ a1_ t0 t1 t2 t3 d0 d1 d2 d3 oa oc h0 n0 v U'.heap L ∧ FrameEnd U o U' L ({ frames := 1, cells := 1, slots := 4, locals := 13 } : Room).cells ({ frames := 1, cells := 1, slots := 4, locals := 13 } : Room).slots) := by
  refine MetFree.of_bodySF (plainFor_of_name pn_6) hisR ?_
  intro p e s m args below meth c s₁ Bd hml0 hP hK
  obtain ⟨rfl, hZ, hh⟩ := hP
  have hx := Bd.exec
  have hby := Bd.bytes
  have hml : c.maxLocals = 2 := hml0
  have hown : s.vm.findClass "com/example/reroutine/reroutine/replanning/ExecutedDay" = some m.cls := findClass_of_methodNamed Bd.named
  have hnm := (name_of_methodNamed Bd.named Bd.method).1
  have X0 : Stand p l e ({ frames := 1, cells := 1, slots := 4, locals := 13 } : Room) s m #[(.ref a0_), (.ref a1_)] below meth c s₁ [] 0 0 := Stand.of_body Bd
  have e0 : s₁.heap = h0 := by rw [← hh, Bd.state]; rfl
  have N0 := Fr.nil n0
  have S0 : ∀ t, Steps p.tables e below (s₁.setTop (mkF m 0 #[rv a0_, rv a1_] [])) t → Steps p.tables e below (s₁.setTop (entryFrame m #[(.ref a0_), (.ref a1_)] 2)) t := fun t k => castTop (ef_rmDayI m a0_ a1_) k
  obtain ⟨⟨hs0, hx0, hd0⟩, ⟨hs1, hx1, hd1⟩, ⟨hs2, hx2, hd2⟩, ⟨hs3, hx3, hd3⟩, hso, hao, hsz, hq0, hq1, hq2, hq3⟩ := id hst
  have K0 : Keep h0 h0 [a0_] := Keep.refl _ _
  obtain ⟨T1, X1, e1, st1⟩ := initO X0 hx hZ hown (hw _ (List.mem_of_getElem? (i := 80) rfl)) (hw _ (List.mem_of_getElem? (i := 21) rfl)) (hw _ (List.mem_of_getElem? (i := 22) rfl)) e0 (g := (mkF m 1 #[rv a0_, rv a1_] [(.ref a0_)])) rfl (by rw [hml]; rfl) rfl (hb hby d10_1) (by decide) (W := 0) (by show 2 * 0 + _ ≤ _; exact Nat.le_of_eq rfl) (by decide)
  obtain ⟨T2, X2, e2, st2⟩ := getS2 X1 hx hZ hown (host := "") (Or.inl (hw _ (List.mem_of_getElem? (i := 81) rfl))) Via.refl e1 (hso.ext hO.2) (g := (mkF m 5 #[rv a0_, rv a1_] [(.ref a0_)])) rfl (hb hby d10_5)
  obtain ⟨T3, h3, k3, X3, e3, E3, A3, st3⟩ := newP X2 hx hZ (hw _ (List.mem_of_getElem? (i := 83) rfl)) e2 (g := (mkF m 9 #[rv a0_, rv a1_] [(.int (4 : Int32)), (.ref a0_)])) rfl (hb hby d10_9) rfl (by decide) (cap := 4) (by decide) (by decide) (by decide) (by decide)
  obtain ⟨b3, g3⟩ : ∃ z, z = h0.size := ⟨_, rfl⟩
  rw [← g3] at A3 st3
  have ge_b3 : n0 ≤ b3 := Nat.le_trans Z0 (Nat.le_of_eq g3.symm)
  have ne_a0__b3 : a0_ ≠ b3 := Nat.ne_of_lt (Nat.lt_of_lt_of_le (E1).lt (Nat.le_of_eq g3.symm))
  have ne_a1__b3 : a1_ ≠ b3 := Nat.ne_of_lt (Nat.lt_of_lt_of_le (E2).lt (Nat.le_of_eq g3.symm))
  have Od4 := hO.ext E3
  have f5 := E1.ext E3
  have f6 := F1.ext E3
  have f7 := F2.ext E3
  have f8 := F3.ext E3
  have f9 := E2.ext E3
  have V3 : Arv Z h3 b3 k3 .int (4 : Int32) [(.int (0 : Int32)), (.int (0 : Int32)), (.int (0 : Int32)), (.int (0 : Int32))] (.int (0 : Int32)) := (Arv.new A3 (by decide)).pad (pad_rep [] (.int (0 : Int32)) 4)
  have Z3 : n0 ≤ h3.size := Nat.le_trans Z0 E3.1
  have K3 : Keep h0 h3 [a0_] := K0.ext E3
  have sz_b3 : h0.size ≤ b3 := Nat.le_trans K0.1 (Nat.le_of_eq g3.symm)
  obtain ⟨T10, h10, X10, e10, W10, st10⟩ := putF X3 hx hZ hown (host := "") (Or.inl (hw _ (List.mem_of_getElem? (i := 84) rfl))) Via.refl e3 f6 f5 (Or.inl (hw _ (List.mem_of_getElem? (i := 85) rfl))) (hw _ (List.mem_of_getElem? (i := 75) rfl)) (ty := (.array .int)) (by decide) rfl rfl (g := (mkF m 11 #[rv a0_, rv a1_] [(.ref b3), (.ref a0_)])) rfl rfl (hb hby d10_11)
  have Fw10 := f6.same W10
  have f11 := f7.other W10 (Or.inr (slot_ne (Or.inr (hw _ (List.mem_of_getElem? (i := 89) rfl))) (Or.inl (hw _ (List.mem_of_getElem? (i := 85) rfl))) (by decide) (t := (.object "java/lang/String")) (t' := (.array .int)) (by decide) (by decide)))
  have f12 := f8.other W10 (Or.inr (slot_ne (Or.inl (hw _ (List.mem_of_getElem? (i := 96) rfl))) (Or.inl (hw _ (List.mem_of_getElem? (i := 85) rfl))) (by decide) (t := .int) (t' := (.array .int)) (by decide) (by decide)))
  have f13 := f5.wr W10
  have Od14 := Od4.wr W10 g0
  have f19 := f9.wr W10
  have f20 := V3.other W10 (Ne.symm ne_a0__b3)
  have N10 := Fr.snoc X10 N0 g0
  have Z10 : n0 ≤ h10.size := Nat.le_trans Z3 (Keep.of_wr W10).1
  have K10 : Keep h0 h10 [a0_] := K3.wr W10 (Or.inl (List.mem_of_getElem? (i := 0) rfl))
  obtain ⟨_, _, ⟨T21, L21, k21, n21⟩, -, X21, ⟨Lc21, hQ21, l21, y21, z21⟩, st21⟩ := Jvm.LawKit.callS X10 hx (y := (⟨"java/util/Objects", "requireNonNull", "(Ljava/lang/Object;)Ljava/lang/Object;"⟩ : MethodName)) hown (mvT hZ (hw _ (List.mem_of_getElem? (i := 86) rfl))) (mvT hZ (hw _ (List.mem_of_getElem? (i := 47) rfl))) (mvT hZ (hw _ (List.mem_of_getElem? (i := 48) rfl))) (mvT hZ (hw _ (List.mem_of_getElem? (i := 49) rfl))) (by decide) (backOf (W := 1) (rmRnn l Z a0 hw [] a1_ h10 n0 Z10) hZ (hw _ (List.mem_of_getElem? (i := 49) rfl)) (hw _ (List.mem_of_getElem? (i := 48) rfl)) (by decide) (by decide)) (g := (mkF m 16 #[rv a0_, rv a1_] [(.ref a1_), (.ref a0_)])) rfl (by rw [hml]; rfl) (argsL := [(.ref a1_)]) (rest := [(.ref a0_)]) (lenOf pd_4 rfl) rfl (by show 2 * 0 + _ ≤ _; exact Nat.le_of_eq rfl) (hb hby d10_16) (fun _ _ => ⟨rfl, e10, (by decide : 1 + 0 ≤ _), (by decide : 4 + 0 ≤ _)⟩)
  dsimp only [Pt.U, Pt.locs, Pt.cells, Pt.slots] at X21 l21 y21 z21 st21 hQ21
  subst y21 z21
  obtain ⟨rfl, Nq21, eq21⟩ := hQ21
  have N21 : Fr n0 L21 := by rw [l21]; exact Fr.app N10 Nq21
  obtain ⟨T22, X22, e22, st22⟩ := castY X21 hx hZ hown (hw _ (List.mem_of_getElem? (i := 87) rfl)) eq21 (Ins.self f19) (g := (mkF m 19 #[rv a0_, rv a1_] [(.ref a1_), (.ref a0_)])) rfl rfl (hb hby d10_19)
  obtain ⟨T23, h23, X23, e23, W23, st23⟩ := putF X22 hx hZ hown (host := "") (Or.inl (hw _ (List.mem_of_getElem? (i := 88) rfl))) Via.refl e22 f11 f13 (Or.inr ⟨(hw _ (List.mem_of_getElem? (i := 89) rfl)), rfl, hnm⟩) (hw _ (List.mem_of_getElem? (i := 75) rfl)) (ty := (.object "java/lang/String")) (by decide) rfl rfl (g := (mkF m 22 #[rv a0_, rv a1_] [(.ref a1_), (.ref a0_)])) rfl rfl (hb hby d10_22)
  have Fw23 := f11.same W23
  have f24 := Fw10.other W23 (Or.inr (slot_ne (Or.inl (hw _ (List.mem_of_getElem? (i := 85) rfl))) (Or.inr (hw _ (List.mem_of_getElem? (i := 89) rfl))) (by decide) (t := (.array .int)) (t' := (.object "java/lang/String")) (by decide) (by decide)))
  have f25 := f12.other W23 (Or.inr (slot_ne (Or.inl (hw _ (List.mem_of_getElem? (i := 96) rfl))) (Or.inr (hw _ (List.mem_of_getElem? (i := 89) rfl))) (by decide) (t := .int) (t' := (.object "java/lang/String")) (by decide) (by decide)))
  have f26 := f13.wr W23
  have Od27 := Od14.wr W23 g0
  have f32 := f19.wr W23
  have f33 := f20.other W23 (Ne.symm ne_a0__b3)
  have N23 := Fr.snoc X23 N21 g0
  have Z23 : n0 ≤ h23.size := Nat.le_trans Z10 (Keep.of_wr W23).1
  have K23 : Keep h0 h23 [a0_] := K10.wr W23 (Or.inl (List.mem_of_getElem? (i := 0) rfl))
  obtain ⟨fs, hr, hrun, hended, hW, hsame⟩ := X23.leave (v := none) (fun _ => rfl)
  refine ⟨_, _, S0 _ ?_, hrun, hended, _, _, rfl, ?_, ⟨_, rfl⟩, hW, hsame.mono (by decide) (by decide)⟩
  · skip
    show Steps p.tables e below (s₁.setTop (mkF m 0 #[rv a0_, rv a1_] [])) _
    refine XS.aloadN X0.here hx rfl (hb hby d10_0) rfl rfl ?_
    show Steps p.tables e below (s₁.setTop (mkF m 1 #[rv a0_, rv a1_] [(.ref a0_)])) _
    refine st1 _ ?_
    show Steps p.tables e below (T1.setTop (mkF m 4 #[rv a0_, rv a1_] [])) _
    refine XS.aloadN X1.here hx rfl (hb hby d10_4) rfl rfl ?_
    show Steps p.tables e below (T1.setTop (mkF m 5 #[rv a0_, rv a1_] [(.ref a0_)])) _
    refine st2 _ ?_
    show Steps p.tables e below (T2.setTop (mkF m 8 #[rv a0_, rv a1_] [(.ref oa), (.ref a0_)])) _
    refine X2.arraylength hx (by rw [e2]; exact (hao.ext hO.2).1) (State.isArrayOf_alike hZ.alike hao.2.1) (g := (mkF m 8 #[rv a0_, rv a1_] [(.ref oa), (.ref a0_)])) rfl rfl (hb hby d10_8) _ ?_
    rw [len_of hsz (by decide)]
    show Steps p.tables e below (T2.setTop (mkF m 9 #[rv a0_, rv a1_] [(.int (4 : Int32)), (.ref a0_)])) _
    refine st3 _ ?_
    show Steps p.tables e below (T3.setTop (mkF m 11 #[rv a0_, rv a1_] [(.ref b3), (.ref a0_)])) _
    refine st10 _ ?_
    show Steps p.tables e below (T10.setTop (mkF m 14 #[rv a0_, rv a1_] [])) _
    refine XS.aloadN X10.here hx rfl (hb hby d10_14) rfl rfl ?_
    show Steps p.tables e below (T10.setTop (mkF m 15 #[rv a0_, rv a1_] [(.ref a0_)])) _
    refine XS.aloadN X10.here hx rfl (hb hby d10_15) rfl rfl ?_
    show Steps p.tables e below (T10.setTop (mkF m 16 #[rv a0_, rv a1_] [(.ref a1_), (.ref a0_)])) _
    refine st21 _ ?_
    show Steps p.tables e below (T21.setTop (mkF m 19 #[rv a0_, rv a1_] [(.ref a1_), (.ref a0_)])) _
    refine st22 _ ?_
    show Steps p.tables e below (T22.setTop (mkF m 22 #[rv a0_, rv a1_] [(.ref a1_), (.ref a0_)])) _
    refine st23 _ ?_
    show Steps p.tables e below (T23.setTop (mkF m 25 #[rv a0_, rv a1_] [])) _
    exact X23.returnOut hx Bd.returns (hb hby d10_25) hr
  · show QDayI Z a0_ a1_ t0 t1 t2 t3 d0 d1 d2 d3 oa oc h0 n0 _ T23.heap _
    rw [e23]
    exact ⟨rfl, N23, K23, ⟨f26, f25, b3, _, _, ge_b3, ne_a0__b3, f24, f33, by decide⟩⟩
theorem d16_0 : decode jdk_29_method_69_code 0 = .ok (.iload_n 0, 1) := by decide +kernel
theorem d16_1 : decode jdk_29_method_69_code 1 = .ok (.iload_n 1, 1) := by decide +kernel
theorem d16_2 : decode jdk_29_method_69_code 2 = .ok (.if_icmp .gt 7, 3) := by decide +kernel
theorem d16_5 : decode jdk_29_method_69_code 5 = .ok (.iload_n 0, 1) := by decide +kernel
theorem d16_6 : decode jdk_29_method_69_code 6 = .ok (.goto 4, 3) := by decide +kernel
theorem d16_10 : decode jdk_29_method_69_code 10 = .ok (.ireturn, 1) := by decide +kernel
def QMin (Z : State)   (h0 : Heap) (n0 : Nat) (v : Option Value) (h : Heap) (L : List Loc) : Prop := v = some (.int (4 : Int32)) ∧ Fr n0 L ∧ h = h0
theorem ef_rmMin (m : MethodId)  : entryFrame m #[(.int (4 : Int32)), (.int (8 : Int32))] 2 = mkF m 0 #[iv (4 : Int32), iv (8 : Int32)] [] := by first | (simp [entryFrame, mkF, argsToLocals, Value.category]; done) | rfl
set_option maxRecDepth 65536 in
set_option maxHeartbeats 40000000 in
theorem rmMin (l : Launch) (Z : State) (a0 : Array Value) (hw : ∀ d ∈ tables_1, d.before a0 Z = true) (ws : List Jvm.Cond)   (h0 : Heap) (n0 : Nat) (Z0 : n0 ≤ h0.size) :
    MetFree l (⟨"java/lang/Math", "min", "(II)I"⟩ : MethodName) (head1 (Jvm.Cond.code (⟨"java/lang/Math", "min", "(II)I"⟩ : MethodName) jdk_29_method_69_code 2 (some .int) :: ws) ({ frames := 0, cells := 0, slots := 0, locals := 0 } : Room)) (fun a U => a = #[(.int (4 : Int32)), (.int (8 : Int32))] ∧ Z.Warmed39 U.vm ∧ U.heap = h0) (fun _ _ _ _ _ => True) (fun _ U o U' => ∃ v L, o = .returned v ∧ QMin Z h0 n0 v U'.heap L ∧ FrameEnd U o U' L ({ frames := 0, cells := 0, slots := 0, locals := 0 } : Room).cells ({ frames := 0, cells := 0, slots := 0, locals := 0 } : Room).slots) := by
  refine MetFree.of_bodySF (Jvm.Free.JP.mathPlain rfl (by decide +kernel)) hisR ?_
  intro p e s m args below meth c s₁ Bd hml0 hP hK
  obtain ⟨rfl, hZ, hh⟩ := hP
  have hx := Bd.exec
  have hby := Bd.bytes
  have hml : c.maxLocals = 2 := hml0
  have hown : s.vm.findClass "java/lang/Math" = some m.cls := findClass_of_methodNamed Bd.named
  have hnm := (name_of_methodNamed Bd.named Bd.method).1
  have X0 : Stand p l e ({ frames := 0, cells := 0, slots := 0, locals := 0 } : Room) s m #[(.int (4 : Int32)), (.int (8 : Int32))] below meth c s₁ [] 0 0 := Stand.of_body Bd
  have e0 : s₁.heap = h0 := by rw [← hh, Bd.state]; rfl
  have N0 := Fr.nil n0
  have S0 : ∀ t, Steps p.tables e below (s₁.setTop (mkF m 0 #[iv (4 : Int32), iv (8 : Int32)] [])) t → Steps p.tables e below (s₁.setTop (entryFrame m #[(.int (4 : Int32)), (.int (8 : Int32))] 2)) t := fun t k => castTop (ef_rmMin m ) k
  obtain ⟨fs, hr, hrun, hended, hW, hsame⟩ := X0.leave (v := some (.int (4 : Int32))) (fun h => by rw [Bd.returns] at h; cases h)
  refine ⟨_, _, S0 _ ?_, hrun, hended, _, _, rfl, ?_, ⟨_, rfl⟩, hW, hsame.mono (by decide) (by decide)⟩
  · skip
    show Steps p.tables e below (s₁.setTop (mkF m 0 #[iv (4 : Int32), iv (8 : Int32)] [])) _
    refine XS.iloadN X0.here hx rfl (hb hby d16_0) rfl ?_
    show Steps p.tables e below (s₁.setTop (mkF m 1 #[iv (4 : Int32), iv (8 : Int32)] [(.int (4 : Int32))])) _
    refine XS.iloadN X0.here hx rfl (hb hby d16_1) rfl ?_
    show Steps p.tables e below (s₁.setTop (mkF m 2 #[iv (4 : Int32), iv (8 : Int32)] [(.int (8 : Int32)), (.int (4 : Int32))])) _
    refine XS.icmpNo X0.here hx rfl (hb hby d16_2) rfl (flt (by decide : ¬ ((8 : Int32) < (4 : Int32)))).2.2.1 ?_
    show Steps p.tables e below (s₁.setTop (mkF m 5 #[iv (4 : Int32), iv (8 : Int32)] [])) _
    refine XS.iloadN X0.here hx rfl (hb hby d16_5) rfl ?_
    show Steps p.tables e below (s₁.setTop (mkF m 6 #[iv (4 : Int32), iv (8 : Int32)] [(.int (4 : Int32))])) _
    refine XS.goto X0.here hx rfl (pc0 := 6) (pc' := 10) rfl (hb hby d16_6) (by decide) (by decide) ?_
    show Steps p.tables e below (s₁.setTop (mkF m 10 #[iv (4 : Int32), iv (8 : Int32)] [(.int (4 : Int32))])) _
    exact retI X0 hx Bd.returns (hb hby d16_10) hr
  · show QMin Z h0 n0 _ s₁.heap _
    rw [e0]
    exact ⟨rfl, N0, rfl⟩
theorem d15_0 : decode jdk_65_method_123_code 0 = .ok (.iload_n 1, 1) := by decide +kernel
theorem d15_1 : decode jdk_65_method_123_code 1 = .ok (.aload_n 0, 1) := by decide +kernel
theorem d15_2 : decode jdk_65_method_123_code 2 = .ok (.arraylength, 1) := by decide +kernel
theorem d15_3 : decode jdk_65_method_123_code 3 = .ok (.if_icmp .ne 11, 3) := by decide +kernel
theorem d15_14 : decode jdk_65_method_123_code 14 = .ok (.iload_n 1, 1) := by decide +kernel
theorem d15_15 : decode jdk_65_method_123_code 15 = .ok (.newarray .int, 2) := by decide +kernel
theorem d15_17 : decode jdk_65_method_123_code 17 = .ok (.astore_n 2, 1) := by decide +kernel
theorem d15_18 : decode jdk_65_method_123_code 18 = .ok (.aload_n 0, 1) := by decide +kernel
theorem d15_19 : decode jdk_65_method_123_code 19 = .ok (.iconst 0, 1) := by decide +kernel
theorem d15_20 : decode jdk_65_method_123_code 20 = .ok (.aload_n 2, 1) := by decide +kernel
theorem d15_21 : decode jdk_65_method_123_code 21 = .ok (.iconst 0, 1) := by decide +kernel
theorem d15_22 : decode jdk_65_method_123_code 22 = .ok (.aload_n 0, 1) := by decide +kernel
theorem d15_23 : decode jdk_65_method_123_code 23 = .ok (.arraylength, 1) := by decide +kernel
theorem d15_24 : decode jdk_65_method_123_code 24 = .ok (.iload_n 1, 1) := by decide +kernel
theorem d15_25 : decode jdk_65_method_123_code 25 = .ok (.invokestatic 304, 3) := by decide +kernel
theorem pd_6 : parseMethodDescriptor "(II)I" = some ⟨[.int, .int], some .int⟩ := by decide +kernel
theorem d15_28 : decode jdk_65_method_123_code 28 = .ok (.invokestatic 150, 3) := by decide +kernel
theorem d15_31 : decode jdk_65_method_123_code 31 = .ok (.aload_n 2, 1) := by decide +kernel
theorem d15_32 : decode jdk_65_method_123_code 32 = .ok (.areturn, 1) := by decide +kernel
theorem pn_7 : plainName "java/util/Arrays" = true := by first | (simp [plainName, overriddenIn]; done) | decide +kernel
def QCopy (Z : State) (a0_ : Addr) (kk : ClassId) (vs : List Value) (h0 : Heap) (n0 : Nat) (v : Option Value) (h : Heap) (L : List Loc) : Prop := ∃ (b : Addr) (kb : ClassId) (ws : List Value), v = some (.ref b) ∧ Fr n0 L ∧ Keep h0 h [] ∧ n0 ≤ b ∧ h0.size ≤ b ∧ Arv Z h b kb .int (8 : Int32) ws (.int (0 : Int32)) ∧ ws.length = 8
theorem ef_rmCopy (m : MethodId) (a0_ : Addr) : entryFrame m #[(.ref a0_), (.int (8 : Int32))] 3 = mkF m 0 #[rv a0_, iv (8 : Int32), .unset] [] := by first | (simp [entryFrame, mkF, argsToLocals, Value.category]; done) | rfl
set_option maxRecDepth 65536 in
set_option maxHeartbeats 40000000 in
theorem rmCopy (l : Launch) (Z : State) (a0 : Array Value) (hw : ∀ d ∈ tables_1, d.before a0 Z = true) (ws : List Jvm.Cond) (a0_ : Addr) (kk : ClassId) (vs : List Value) (h0 : Heap) (n0 : Nat) (Z0 : n0 ≤ h0.size) (V0 : Arv Z h0 a0_ kk .int (4 : Int32) vs (.int (0 : Int32))) :
    MetFree l (⟨"java/util/Arrays", "copyOf", "([II)[I"⟩ : MethodName) (head1 (Jvm.Cond.code (⟨"java/util/Arrays", "copyOf", "([II)[I"⟩ : MethodName) jdk_65_method_123_code 3 (some (.array .int)) :: ws) ({ frames := 1, cells := 1, slots := 8, locals := 40 } : Room)) (fun a U => a = #[(.ref a0_), (.int (8 : Int32))] ∧ Z.Warmed39 U.vm ∧ U.heap = h0) (fun _ _ _ _ _ => True) (fun _ U o U' => ∃ v L, o = .returned v ∧ QCopy Z a0_ kk vs h0 n0 v U'.heap L ∧ FrameEnd U o U' L ({ frames := 1, cells := 1, slots := 8, locals := 40 } : Room).cells ({ frames := 1, cells := 1, slots := 8, locals := 40 } : Room).slots) := by
  refine MetFree.of_bodySF (plainFor_of_name pn_7) hisR ?_
  intro p e s m args below meth c s₁ Bd hml0 hP hK
  obtain ⟨rfl, hZ, hh⟩ := hP
  have hx := Bd.exec
  have hby := Bd.bytes
  have hml : c.maxLocals = 3 := hml0
  have hown : s.vm.findClass "java/util/Arrays" = some m.cls := findClass_of_methodNamed Bd.named
  have hnm := (name_of_methodNamed Bd.named Bd.method).1
  have X0 : Stand p l e ({ frames := 1, cells := 1, slots := 8, locals := 40 } : Room) s m #[(.ref a0_), (.int (8 : Int32))] below meth c s₁ [] 0 0 := Stand.of_body Bd
  have e0 : s₁.heap = h0 := by rw [← hh, Bd.state]; rfl
  have N0 := Fr.nil n0
  have S0 : ∀ t, Steps p.tables e below (s₁.setTop (mkF m 0 #[rv a0_, iv (8 : Int32), .unset] [])) t → Steps p.tables e below (s₁.setTop (entryFrame m #[(.ref a0_), (.int (8 : Int32))] 3)) t := fun t k => castTop (ef_rmCopy m a0_) k
  have K0 : Keep h0 h0 [] := Keep.refl _ _
  obtain ⟨cl1, Ar1, qa1, Sa1, Na1, Ha1, Ga1⟩ := id V0
  obtain ⟨T2, h2, k2, X2, e2, E2, A2, st2⟩ := newP X0 hx hZ (hw _ (List.mem_of_getElem? (i := 83) rfl)) e0 (g := (mkF m 15 #[rv a0_, iv (8 : Int32), .unset] [(.int (8 : Int32))])) rfl (hb hby d15_15) rfl (by decide) (cap := 8) (by decide) (by decide) (by decide) (by decide)
  obtain ⟨b2, g2⟩ : ∃ z, z = h0.size := ⟨_, rfl⟩
  rw [← g2] at A2 st2
  have ge_b2 : n0 ≤ b2 := Nat.le_trans Z0 (Nat.le_of_eq g2.symm)
  have ne_a0__b2 : a0_ ≠ b2 := Nat.ne_of_lt (Nat.lt_of_lt_of_le (V0).lt (Nat.le_of_eq g2.symm))
  have f3 := V0.ext E2
  have V2 : Arv Z h2 b2 k2 .int (8 : Int32) [(.int (0 : Int32)), (.int (0 : Int32)), (.int (0 : Int32)), (.int (0 : Int32)), (.int (0 : Int32)), (.int (0 : Int32)), (.int (0 : Int32)), (.int (0 : Int32))] (.int (0 : Int32)) := (Arv.new A2 (by decide)).pad (pad_rep [] (.int (0 : Int32)) 8)
  have Z2 : n0 ≤ h2.size := Nat.le_trans Z0 E2.1
  have K2 : Keep h0 h2 [] := K0.ext E2
  have sz_b2 : h0.size ≤ b2 := Nat.le_trans K0.1 (Nat.le_of_eq g2.symm)
  obtain ⟨cl4, Ar4, qa4, Sa4, Na4, Ha4, Ga4⟩ := id f3
  obtain ⟨_, _, ⟨T5, L5, k5, n5⟩, -, X5, ⟨Lc5, hQ5, l5, y5, z5⟩, st5⟩ := Jvm.LawKit.callS X2 hx (y := (⟨"java/lang/Math", "min", "(II)I"⟩ : MethodName)) hown (mvT hZ (hw _ (List.mem_of_getElem? (i := 116) rfl))) (mvT hZ (hw _ (List.mem_of_getElem? (i := 117) rfl))) (mvT hZ (hw _ (List.mem_of_getElem? (i := 118) rfl))) (mvT hZ (hw _ (List.mem_of_getElem? (i := 119) rfl))) (by decide) (backOf (W := 4) (rmMin l Z a0 hw [] h2 n0 Z2) hZ (hw _ (List.mem_of_getElem? (i := 119) rfl)) (hw _ (List.mem_of_getElem? (i := 118) rfl)) (by decide) (by decide)) (g := (mkF m 25 #[rv a0_, iv (8 : Int32), rv b2] [(.int (8 : Int32)), (.int (4 : Int32)), (.int (0 : Int32)), (.ref b2), (.int (0 : Int32)), (.ref a0_)])) rfl (by rw [hml]; rfl) (argsL := [(.int (4 : Int32)), (.int (8 : Int32))]) (rest := [(.int (0 : Int32)), (.ref b2), (.int (0 : Int32)), (.ref a0_)]) (lenOf pd_6 rfl) rfl (by show 2 * 0 + _ ≤ _; exact Nat.le_of_eq rfl) (hb hby d15_25) (fun _ _ => ⟨rfl, e2, (by decide : 1 + 0 ≤ _), (by decide : 8 + 0 ≤ _)⟩)
  dsimp only [Pt.U, Pt.locs, Pt.cells, Pt.slots] at X5 l5 y5 z5 st5 hQ5
  subst y5 z5
  obtain ⟨rfl, Nq5, eq5⟩ := hQ5
  have N5 : Fr n0 L5 := by rw [l5]; exact Fr.app N0 Nq5
  obtain ⟨T6, h6, Lx6, X6, e6, N6, Kx6, V6, st6⟩ := cpA X5 hx hZ hown (hw _ (List.mem_of_getElem? (i := 120) rfl)) (hw _ (List.mem_of_getElem? (i := 123) rfl)) (hw _ (List.mem_of_getElem? (i := 121) rfl)) (hw _ (List.mem_of_getElem? (i := 122) rfl)) eq5 f3 V2 (Or.inl ⟨rfl, rfl⟩) (by decide) (by decide) (by decide) (by decide) (by decide) rfl (by decide) N5 ge_b2 (g := (mkF m 28 #[rv a0_, iv (8 : Int32), rv b2] [(.int (4 : Int32)), (.int (0 : Int32)), (.ref b2), (.int (0 : Int32)), (.ref a0_)])) rfl (by rw [hml]; rfl) rfl (hb hby d15_28) (by decide) (W := 0) (by show 2 * 0 + _ ≤ _; exact Nat.le_of_eq rfl) (by decide)
  have K6 : Keep h0 h6 [] := K2.trans Kx6 (allS (Or.inr sz_b2) all0)
  obtain ⟨fs, hr, hrun, hended, hW, hsame⟩ := X6.leave (v := some (.ref b2)) (fun h => by rw [Bd.returns] at h; cases h)
  refine ⟨_, _, S0 _ ?_, hrun, hended, _, _, rfl, ?_, ⟨_, rfl⟩, hW, hsame.mono (by decide) (by decide)⟩
  · skip
    show Steps p.tables e below (s₁.setTop (mkF m 0 #[rv a0_, iv (8 : Int32), .unset] [])) _
    refine XS.iloadN X0.here hx rfl (hb hby d15_0) rfl ?_
    show Steps p.tables e below (s₁.setTop (mkF m 1 #[rv a0_, iv (8 : Int32), .unset] [(.int (8 : Int32))])) _
    refine XS.aloadN X0.here hx rfl (hb hby d15_1) rfl rfl ?_
    show Steps p.tables e below (s₁.setTop (mkF m 2 #[rv a0_, iv (8 : Int32), .unset] [(.ref a0_), (.int (8 : Int32))])) _
    refine X0.arraylength hx (by rw [e0]; exact Ar1.1) (State.isArrayOf_alike hZ.alike Ar1.2.1) (g := (mkF m 2 #[rv a0_, iv (8 : Int32), .unset] [(.ref a0_), (.int (8 : Int32))])) rfl rfl (hb hby d15_2) _ ?_
    rw [len_of Sa1 Na1]
    show Steps p.tables e below (s₁.setTop (mkF m 3 #[rv a0_, iv (8 : Int32), .unset] [(.int (4 : Int32)), (.int (8 : Int32))])) _
    refine XS.icmpYes X0.here hx rfl (pc0 := 3) (pc' := 14) rfl (hb hby d15_3) rfl (feq (by decide : ¬ ((8 : Int32) = (4 : Int32)))).2 (by decide) (by decide) ?_
    show Steps p.tables e below (s₁.setTop (mkF m 14 #[rv a0_, iv (8 : Int32), .unset] [])) _
    refine XS.iloadN X0.here hx rfl (hb hby d15_14) rfl ?_
    show Steps p.tables e below (s₁.setTop (mkF m 15 #[rv a0_, iv (8 : Int32), .unset] [(.int (8 : Int32))])) _
    refine st2 _ ?_
    show Steps p.tables e below (T2.setTop (mkF m 17 #[rv a0_, iv (8 : Int32), .unset] [(.ref b2)])) _
    refine XS.astoreN X2.here hx rfl (hb hby d15_17) rfl rfl (l' := #[rv a0_, iv (8 : Int32), rv b2]) rfl ?_
    show Steps p.tables e below (T2.setTop (mkF m 18 #[rv a0_, iv (8 : Int32), rv b2] [])) _
    refine XS.aloadN X2.here hx rfl (hb hby d15_18) rfl rfl ?_
    show Steps p.tables e below (T2.setTop (mkF m 19 #[rv a0_, iv (8 : Int32), rv b2] [(.ref a0_)])) _
    refine XS.iconst X2.here hx rfl (hb hby d15_19) ?_
    show Steps p.tables e below (T2.setTop (mkF m 20 #[rv a0_, iv (8 : Int32), rv b2] [(.int (0 : Int32)), (.ref a0_)])) _
    refine XS.aloadN X2.here hx rfl (hb hby d15_20) rfl rfl ?_
    show Steps p.tables e below (T2.setTop (mkF m 21 #[rv a0_, iv (8 : Int32), rv b2] [(.ref b2), (.int (0 : Int32)), (.ref a0_)])) _
    refine XS.iconst X2.here hx rfl (hb hby d15_21) ?_
    show Steps p.tables e below (T2.setTop (mkF m 22 #[rv a0_, iv (8 : Int32), rv b2] [(.int (0 : Int32)), (.ref b2), (.int (0 : Int32)), (.ref a0_)])) _
    refine XS.aloadN X2.here hx rfl (hb hby d15_22) rfl rfl ?_
    show Steps p.tables e below (T2.setTop (mkF m 23 #[rv a0_, iv (8 : Int32), rv b2] [(.ref a0_), (.int (0 : Int32)), (.ref b2), (.int (0 : Int32)), (.ref a0_)])) _
    refine X2.arraylength hx (by rw [e2]; exact Ar4.1) (State.isArrayOf_alike hZ.alike Ar4.2.1) (g := (mkF m 23 #[rv a0_, iv (8 : Int32), rv b2] [(.ref a0_), (.int (0 : Int32)), (.ref b2), (.int (0 : Int32)), (.ref a0_)])) rfl rfl (hb hby d15_23) _ ?_
    rw [len_of Sa4 Na4]
    show Steps p.tables e below (T2.setTop (mkF m 24 #[rv a0_, iv (8 : Int32), rv b2] [(.int (4 : Int32)), (.int (0 : Int32)), (.ref b2), (.int (0 : Int32)), (.ref a0_)])) _
    refine XS.iloadN X2.here hx rfl (hb hby d15_24) rfl ?_
    show Steps p.tables e below (T2.setTop (mkF m 25 #[rv a0_, iv (8 : Int32), rv b2] [(.int (8 : Int32)), (.int (4 : Int32)), (.int (0 : Int32)), (.ref b2), (.int (0 : Int32)), (.ref a0_)])) _
    refine st5 _ ?_
    show Steps p.tables e below (T5.setTop (mkF m 28 #[rv a0_, iv (8 : Int32), rv b2] [(.int (4 : Int32)), (.int (0 : Int32)), (.ref b2), (.int (0 : Int32)), (.ref a0_)])) _
    refine st6 _ ?_
    show Steps p.tables e below (T6.setTop (mkF m 31 #[rv a0_, iv (8 : Int32), rv b2] [])) _
    refine XS.aloadN X6.here hx rfl (hb hby d15_31) rfl rfl ?_
    show Steps p.tables e below (T6.setTop (mkF m 32 #[rv a0_, iv (8 : Int32), rv b2] [(.ref b2)])) _
    jvm_step X6.here [X6.here.top, hx, (hb hby d15_32), X6.method', Bd.returns, Value.isRef, FieldType.isReference]
    first | (intro acts; rw [hr _ acts rfl rfl rfl]) | rw [hr _ _ rfl rfl rfl]
    exact Steps.refl _
  · show QCopy Z a0_ kk vs h0 n0 _ T6.heap _
    rw [e6]
    exact ⟨b2, _, _, rfl, N6, K6, ge_b2, sz_b2, V6, by simp⟩
theorem d12_0 : decode prog_12_method_2_code 0 = .ok (.getstatic 7, 3) := by decide +kernel
theorem d12_3 : decode prog_12_method_2_code 3 = .ok (.aload_n 0, 1) := by decide +kernel
theorem d12_4 : decode prog_12_method_2_code 4 = .ok (.getfield 29, 3) := by decide +kernel
theorem d12_7 : decode prog_12_method_2_code 7 = .ok (.getstatic 7, 3) := by decide +kernel
theorem d12_10 : decode prog_12_method_2_code 10 = .ok (.arraylength, 1) := by decide +kernel
theorem d12_11 : decode prog_12_method_2_code 11 = .ok (.irem, 1) := by decide +kernel
theorem d12_12 : decode prog_12_method_2_code 12 = .ok (.aaload, 1) := by decide +kernel
theorem d12_13 : decode prog_12_method_2_code 13 = .ok (.astore_n 2, 1) := by decide +kernel
theorem d12_14 : decode prog_12_method_2_code 14 = .ok (.aload_n 1, 1) := by decide +kernel
theorem d12_15 : decode prog_12_method_2_code 15 = .ok (.invokevirtual 33, 3) := by decide +kernel
theorem pd_7 : parseMethodDescriptor "()Lcom/example/reroutine/reroutine/scenario/EventType;" = some ⟨[], some (.object "com/example/reroutine/reroutine/scenario/EventType")⟩ := by decide +kernel
theorem d12_18 : decode prog_12_method_2_code 18 = .ok (.aload_n 2, 1) := by decide +kernel
theorem d12_19 : decode prog_12_method_2_code 19 = .ok (.if_acmp .eq 38, 3) := by decide +kernel
theorem d12_57 : decode prog_12_method_2_code 57 = .ok (.aload_n 0, 1) := by decide +kernel
theorem d12_58 : decode prog_12_method_2_code 58 = .ok (.getfield 29, 3) := by decide +kernel
theorem d12_61 : decode prog_12_method_2_code 61 = .ok (.aload_n 0, 1) := by decide +kernel
theorem d12_62 : decode prog_12_method_2_code 62 = .ok (.getfield 13, 3) := by decide +kernel
theorem d12_65 : decode prog_12_method_2_code 65 = .ok (.arraylength, 1) := by decide +kernel
theorem d12_66 : decode prog_12_method_2_code 66 = .ok (.if_icmp .ne 20, 3) := by decide +kernel
theorem d12_86 : decode prog_12_method_2_code 86 = .ok (.aload_n 0, 1) := by decide +kernel
theorem d12_87 : decode prog_12_method_2_code 87 = .ok (.getfield 13, 3) := by decide +kernel
theorem d12_90 : decode prog_12_method_2_code 90 = .ok (.aload_n 0, 1) := by decide +kernel
theorem d12_91 : decode prog_12_method_2_code 91 = .ok (.dup, 1) := by decide +kernel
theorem d12_92 : decode prog_12_method_2_code 92 = .ok (.getfield 29, 3) := by decide +kernel
theorem d12_95 : decode prog_12_method_2_code 95 = .ok (.dup_x1, 1) := by decide +kernel
theorem d12_96 : decode prog_12_method_2_code 96 = .ok (.iconst 1, 1) := by decide +kernel
theorem d12_97 : decode prog_12_method_2_code 97 = .ok (.iadd, 1) := by decide +kernel
theorem d12_98 : decode prog_12_method_2_code 98 = .ok (.putfield 29, 3) := by decide +kernel
theorem d12_101 : decode prog_12_method_2_code 101 = .ok (.aload_n 1, 1) := by decide +kernel
theorem d12_102 : decode prog_12_method_2_code 102 = .ok (.invokevirtual 47, 3) := by decide +kernel
theorem pd_8 : parseMethodDescriptor "()I" = some ⟨[], some .int⟩ := by decide +kernel
theorem d12_105 : decode prog_12_method_2_code 105 = .ok (.iastore, 1) := by decide +kernel
theorem d12_106 : decode prog_12_method_2_code 106 = .ok (.return_, 1) := by decide +kernel
def QAdd0 (Z : State) (a0_ : Addr) (a1_ : Addr) (t0 t1 t2 t3 d0 d1 d2 d3 oa : Addr) (oc : Cell) (tm : Int32) (h0 : Heap) (n0 : Nat) (v : Option Value) (h : Heap) (L : List Loc) : Prop := v = none ∧ Fr n0 L ∧ (∃ (ar : Addr) (cl : Cell) (ty : FieldType), Keep h0 h [a0_, ar] ∧ n0 ≤ ar ∧ Arr Z h0 ar cl ty) ∧ own_ED Z h n0 a0_ (1 : Int32) (4 : Int32)
theorem ef_rmAdd0 (m : MethodId) (a0_ : Addr) (a1_ : Addr) : entryFrame m #[(.ref a0_), (.ref a1_)] 3 = mkF m 0 #[rv a0_, rv a1_, .unset] [] := by first | (simp [entryFrame, mkF, argsToLocals, Value.category]; done) | rfl
set_option maxRecDepth 65536 in
set_option maxHeartbeats 40000000 in
theorem rmAdd0 (l : Launch) (Z : State) (a0 : Array Value) (hw : ∀ d ∈ tables_1, d.before a0 Z = true) (ws : List Jvm.Cond) (a0_ : Addr) (a1_ : Addr) (t0 t1 t2 t3 d0 d1 d2 d3 oa : Addr) (oc : Cell) (tm : Int32) (h0 : Heap) (n0 : Nat) (Z0 : n0 ≤ h0.size) (hO : Old Z n0 h0) (hst : own_St Z t0 t1 t2 t3 d0 d1 d2 d3 oa oc) (B0 : own_ED Z h0 n0 a0_ (0 : Int32) (4 : Int32)) (g0 : n0 ≤ a0_) (nev : a0_ ≠ a1_) (E1 : Exa Z h0 a1_ "com/example/reroutine/reroutine/scenario/Event") (Fm : Fld Z h0 a1_ "com/example/reroutine/reroutine/scenario/Event" "time" "I" (.int tm)) (Ft : Fld Z h0 a1_ "com/example/reroutine/reroutine/scenario/Event" "type" "Lcom/example/reroutine/reroutine/scenario/EventType;" (.ref t0)) :
    MetFree l (⟨"com/example/reroutine/reroutine/replanning/ExecutedDay", "add", "(Lcom/example/reroutine/reroutine/scenario/Event;)V"⟩ : MethodName) (head1 (Jvm.Cond.code (⟨"com/example/reroutine/reroutine/replanning/ExecutedDay", "add", "(Lcom/example/reroutine/reroutine/scenario/Event;)V"⟩ : MethodName) prog_12_method_2_code 3 none :: ws) ({ frames := 1, cells := 0, slots := 0, locals := 16 } : Room)) (fun a U => a = #[(.ref a0_), (.ref a1_)] ∧ Z.Warmed39 U.vm ∧ U.heap = h0) (fun _ _ _ _ _ => True) (fun _ U o U' => ∃ v L, o = .returned v ∧ QAdd0 Z a0_ a1_ t0 t1 t2 t3 d0 d1 d2 d3 oa oc tm h0 n0 v U'.heap L ∧ FrameEnd U o U' L ({ frames := 1, cells := 0, slots := 0, locals := 16 } : Room).cells ({ frames := 1, cells := 0, slots := 0, locals := 16 } : Room).slots) := by
  refine MetFree.of_bodySF (plainFor_of_name pn_6) hisR ?_
  intro p e s m args below meth c s₁ Bd hml0 hP hK
  obtain ⟨rfl, hZ, hh⟩ := hP
  have hx := Bd.exec
  have hby := Bd.bytes
  have hml : c.maxLocals = 3 := hml0
  have hown : s.vm.findClass "com/example/reroutine/reroutine/replanning/ExecutedDay" = some m.cls := findClass_of_methodNamed Bd.named
  have hnm := (name_of_methodNamed Bd.named Bd.method).1
  have X0 : Stand p l e ({ frames := 1, cells := 0, slots := 0, locals := 16 } : Room) s m #[(.ref a0_), (.ref a1_)] below meth c s₁ [] 0 0 := Stand.of_body Bd
  have e0 : s₁.heap = h0 := by rw [← hh, Bd.state]; rfl
  have N0 := Fr.nil n0
  have S0 : ∀ t, Steps p.tables e below (s₁.setTop (mkF m 0 #[rv a0_, rv a1_, .unset] [])) t → Steps p.tables e below (s₁.setTop (entryFrame m #[(.ref a0_), (.ref a1_)] 3)) t := fun t k => castTop (ef_rmAdd0 m a0_ a1_) k
  obtain ⟨⟨hs0, hx0, hd0⟩, ⟨hs1, hx1, hd1⟩, ⟨hs2, hx2, hd2⟩, ⟨hs3, hx3, hd3⟩, hso, hao, hsz, hq0, hq1, hq2, hq3⟩ := id hst
  obtain ⟨oE, oS, ar, kk, vs, gar, nea, oF, V0, hlen⟩ := id B0
  obtain ⟨clA, ArA, -⟩ := id V0
  have K0 : Keep h0 h0 [a0_, ar] := Keep.refl _ _
  obtain ⟨T1, X1, e1, st1⟩ := getS2 X0 hx hZ hown (host := "") (Or.inl (hw _ (List.mem_of_getElem? (i := 81) rfl))) Via.refl e0 (hso.ext hO.2) (g := (mkF m 0 #[rv a0_, rv a1_, .unset] [])) rfl (hb hby d12_0)
  obtain ⟨T2, X2, e2, st2⟩ := getF X1 hx hZ hown (host := "") (Or.inl (hw _ (List.mem_of_getElem? (i := 95) rfl))) Via.refl e1 oS (g := (mkF m 4 #[rv a0_, rv a1_, .unset] [(.ref a0_), (.ref oa)])) rfl rfl (hb hby d12_4)
  obtain ⟨T3, X3, e3, st3⟩ := getS2 X2 hx hZ hown (host := "") (Or.inl (hw _ (List.mem_of_getElem? (i := 81) rfl))) Via.refl e2 (hso.ext hO.2) (g := (mkF m 7 #[rv a0_, rv a1_, .unset] [(.int (0 : Int32)), (.ref oa)])) rfl (hb hby d12_7)
  obtain ⟨cq4, kq4, q4a, q4b, q4c⟩ := isOf hZ e3 E1
  obtain ⟨_, _, ⟨T4, L4, k4, n4⟩, -, X4, ⟨Lc4, hQ4, l4, y4, z4⟩, st4⟩ := X3.virtualBack hx (y := (⟨"com/example/reroutine/reroutine/scenario/Event", "type", "()Lcom/example/reroutine/reroutine/scenario/EventType;"⟩ : MethodName)) (z := (⟨"com/example/reroutine/reroutine/scenario/Event", "type", "()Lcom/example/reroutine/reroutine/scenario/EventType;"⟩ : MethodName)) hown (mvT hZ (hw _ (List.mem_of_getElem? (i := 102) rfl))) (mvT hZ (hw _ (List.mem_of_getElem? (i := 103) rfl))) (notFace_of_selects (args := #[]) (mvT hZ (hw _ (List.mem_of_getElem? (i := 105) rfl)))) (mvT hZ (hw _ (List.mem_of_getElem? (i := 105) rfl))) (mvT hZ (hw _ (List.mem_of_getElem? (i := 104) rfl))) (by decide) (backOf (W := 0) (rmGtype l Z a0 hw [] a1_ t0 h0 n0 Z0 Ft) hZ (hw _ (List.mem_of_getElem? (i := 106) rfl)) (hw _ (List.mem_of_getElem? (i := 29) rfl)) (by decide) (by decide)) q4a q4c (g := (mkF m 15 #[rv a0_, rv a1_, rv t0] [(.ref a1_)])) rfl (by rw [hml]; rfl) (Steps.refl _) (argsL := []) (rest := []) (lenOf pd_7 rfl) rfl (by show 2 * 0 + _ ≤ _; exact Nat.le_of_eq rfl) (hb hby d12_15) (fun _ _ => ⟨rfl, e3, (by decide : 0 + 0 ≤ _), (by decide : 0 + 0 ≤ _)⟩)
  dsimp only [Pt.U, Pt.locs, Pt.cells, Pt.slots] at X4 l4 y4 z4 st4 hQ4
  subst y4 z4
  obtain ⟨rfl, Nq4, eq4⟩ := hQ4
  have N4 : Fr n0 L4 := by rw [l4]; exact Fr.app N0 Nq4
  obtain ⟨T5, X5, e5, st5⟩ := getF X4 hx hZ hown (host := "") (Or.inl (hw _ (List.mem_of_getElem? (i := 95) rfl))) Via.refl eq4 oS (g := (mkF m 58 #[rv a0_, rv a1_, rv t0] [(.ref a0_)])) rfl rfl (hb hby d12_58)
  obtain ⟨T6, X6, e6, st6⟩ := getF X5 hx hZ hown (host := "") (Or.inl (hw _ (List.mem_of_getElem? (i := 84) rfl))) Via.refl e5 oF (g := (mkF m 62 #[rv a0_, rv a1_, rv t0] [(.ref a0_), (.int (0 : Int32))])) rfl rfl (hb hby d12_62)
  obtain ⟨cl7, Ar7, qa7, Sa7, Na7, Ha7, Ga7⟩ := id V0
  obtain ⟨T8, X8, e8, st8⟩ := getF X6 hx hZ hown (host := "") (Or.inl (hw _ (List.mem_of_getElem? (i := 84) rfl))) Via.refl e6 oF (g := (mkF m 87 #[rv a0_, rv a1_, rv t0] [(.ref a0_)])) rfl rfl (hb hby d12_87)
  obtain ⟨T9, X9, e9, st9⟩ := getF X8 hx hZ hown (host := "") (Or.inl (hw _ (List.mem_of_getElem? (i := 95) rfl))) Via.refl e8 oS (g := (mkF m 92 #[rv a0_, rv a1_, rv t0] [(.ref a0_), (.ref a0_), (.ref ar)])) rfl rfl (hb hby d12_92)
  obtain ⟨T10, h10, X10, e10, W10, st10⟩ := putF X9 hx hZ hown (host := "") (Or.inl (hw _ (List.mem_of_getElem? (i := 95) rfl))) Via.refl e9 oS oE (Or.inl (hw _ (List.mem_of_getElem? (i := 96) rfl))) (hw _ (List.mem_of_getElem? (i := 75) rfl)) (ty := .int) (by decide) rfl rfl (g := (mkF m 98 #[rv a0_, rv a1_, rv t0] [(.int (1 : Int32)), (.ref a0_), (.int (0 : Int32)), (.ref ar)])) rfl rfl (hb hby d12_98)
  have Fw10 := oS.same W10
  have f11 := oF.other W10 (Or.inr (slot_ne (Or.inl (hw _ (List.mem_of_getElem? (i := 85) rfl))) (Or.inl (hw _ (List.mem_of_getElem? (i := 96) rfl))) (by decide) (t := (.array .int)) (t' := .int) (by decide) (by decide)))
  have f12 := oE.wr W10
  have Od13 := hO.wr W10 g0
  have f17 := V0.other W10 (Ne.symm nea)
  have f18 := E1.wr W10
  have f19 := Fm.other W10 (Or.inl (Ne.symm nev))
  have f20 := Ft.other W10 (Or.inl (Ne.symm nev))
  have N10 := Fr.snoc X10 N4 g0
  have Z10 : n0 ≤ h10.size := Nat.le_trans Z0 (Keep.of_wr W10).1
  have K10 : Keep h0 h10 [a0_, ar] := K0.wr W10 (Or.inl (List.mem_of_getElem? (i := 0) rfl))
  obtain ⟨cq21, kq21, q21a, q21b, q21c⟩ := isOf hZ e10 f18
  obtain ⟨_, _, ⟨T21, L21, k21, n21⟩, -, X21, ⟨Lc21, hQ21, l21, y21, z21⟩, st21⟩ := X10.virtualBack hx (y := (⟨"com/example/reroutine/reroutine/scenario/Event", "time", "()I"⟩ : MethodName)) (z := (⟨"com/example/reroutine/reroutine/scenario/Event", "time", "()I"⟩ : MethodName)) hown (mvT hZ (hw _ (List.mem_of_getElem? (i := 107) rfl))) (mvT hZ (hw _ (List.mem_of_getElem? (i := 108) rfl))) (notFace_of_selects (args := #[]) (mvT hZ (hw _ (List.mem_of_getElem? (i := 110) rfl)))) (mvT hZ (hw _ (List.mem_of_getElem? (i := 110) rfl))) (mvT hZ (hw _ (List.mem_of_getElem? (i := 109) rfl))) (by decide) (backOf (W := 2) (rmGtime l Z a0 hw [] a1_ tm h10 n0 Z10 f19) hZ (hw _ (List.mem_of_getElem? (i := 111) rfl)) (hw _ (List.mem_of_getElem? (i := 29) rfl)) (by decide) (by decide)) q21a q21c (g := (mkF m 102 #[rv a0_, rv a1_, rv t0] [(.ref a1_), (.int (0 : Int32)), (.ref ar)])) rfl (by rw [hml]; rfl) (Steps.refl _) (argsL := []) (rest := [(.int (0 : Int32)), (.ref ar)]) (lenOf pd_8 rfl) rfl (by show 2 * 0 + _ ≤ _; exact Nat.le_of_eq rfl) (hb hby d12_102) (fun _ _ => ⟨rfl, e10, (by decide : 0 + 0 ≤ _), (by decide : 0 + 0 ≤ _)⟩)
  dsimp only [Pt.U, Pt.locs, Pt.cells, Pt.slots] at X21 l21 y21 z21 st21 hQ21
  subst y21 z21
  obtain ⟨rfl, Nq21, eq21⟩ := hQ21
  have N21 : Fr n0 L21 := by rw [l21]; exact Fr.app N10 Nq21
  obtain ⟨cl22, Ar22, qa22, Sa22, Na22, Ha22, Ga22⟩ := id f17
  have hin22 : ¬ ((0 : Int32) < 0 ∨ cl22.slots.size ≤ ((0 : Int32)).toNatClampNeg) := inb_of Sa22 ⟨by decide, by decide⟩
  obtain ⟨T23, h23, X23, e23, W23, st23⟩ := stI X21 hx hZ eq21 Ar22 (j := (0 : Int32)) hin22 (g := (mkF m 105 #[rv a0_, rv a1_, rv t0] [(.int tm), (.int (0 : Int32)), (.ref ar)])) rfl rfl (hb hby d12_105)
  have V23 := Arv.set Ar22 qa22 Sa22 Na22 Ha22 Ga22 rfl W23 0 rfl (by rw [hlen]; decide)
  have N23 := Fr.snoc X23 N21 gar
  have Z23 : n0 ≤ h23.size := Nat.le_trans Z10 (Keep.of_wr W23).1
  have Od24 := Od13.wr W23 gar
  have f25 := f12.wr W23
  have f26 := Fw10.other W23 (Or.inl nea)
  have f27 := f11.other W23 (Or.inl nea)
  have K23 : Keep h0 h23 [a0_, ar] := K10.wr W23 (Or.inl (List.mem_of_getElem? (i := 1) rfl))
  obtain ⟨fs, hr, hrun, hended, hW, hsame⟩ := X23.leave (v := none) (fun _ => rfl)
  refine ⟨_, _, S0 _ ?_, hrun, hended, _, _, rfl, ?_, ⟨_, rfl⟩, hW, hsame.mono (by decide) (by decide)⟩
  · skip
    show Steps p.tables e below (s₁.setTop (mkF m 0 #[rv a0_, rv a1_, .unset] [])) _
    refine st1 _ ?_
    show Steps p.tables e below (T1.setTop (mkF m 3 #[rv a0_, rv a1_, .unset] [(.ref oa)])) _
    refine XS.aloadN X1.here hx rfl (hb hby d12_3) rfl rfl ?_
    show Steps p.tables e below (T1.setTop (mkF m 4 #[rv a0_, rv a1_, .unset] [(.ref a0_), (.ref oa)])) _
    refine st2 _ ?_
    show Steps p.tables e below (T2.setTop (mkF m 7 #[rv a0_, rv a1_, .unset] [(.int (0 : Int32)), (.ref oa)])) _
    refine st3 _ ?_
    show Steps p.tables e below (T3.setTop (mkF m 10 #[rv a0_, rv a1_, .unset] [(.ref oa), (.int (0 : Int32)), (.ref oa)])) _
    refine X3.arraylength hx (by rw [e3]; exact (hao.ext hO.2).1) (State.isArrayOf_alike hZ.alike hao.2.1) (g := (mkF m 10 #[rv a0_, rv a1_, .unset] [(.ref oa), (.int (0 : Int32)), (.ref oa)])) rfl rfl (hb hby d12_10) _ ?_
    rw [len_of hsz (by decide)]
    show Steps p.tables e below (T3.setTop (mkF m 11 #[rv a0_, rv a1_, .unset] [(.int (4 : Int32)), (.int (0 : Int32)), (.ref oa)])) _
    refine iremM X3 hx rfl (hb hby d12_11) rfl (by decide) ?_
    show Steps p.tables e below (T3.setTop (mkF m 12 #[rv a0_, rv a1_, .unset] [(.int (0 : Int32)), (.ref oa)])) _
    refine X3.aaload hx (j := (0 : Int32)) (v := (.ref t0)) (by rw [e3]; exact (hao.ext hO.2).1) (State.isArrayOf_alike hZ.alike hao.2.1) rfl hao.2.2 (inb_of hsz ⟨by decide, by decide⟩) hq0 (g := (mkF m 12 #[rv a0_, rv a1_, .unset] [(.int (0 : Int32)), (.ref oa)])) rfl rfl (hb hby d12_12) _ ?_
    show Steps p.tables e below (T3.setTop (mkF m 13 #[rv a0_, rv a1_, .unset] [(.ref t0)])) _
    refine XS.astoreN X3.here hx rfl (hb hby d12_13) rfl rfl (l' := #[rv a0_, rv a1_, rv t0]) rfl ?_
    show Steps p.tables e below (T3.setTop (mkF m 14 #[rv a0_, rv a1_, rv t0] [])) _
    refine XS.aloadN X3.here hx rfl (hb hby d12_14) rfl rfl ?_
    show Steps p.tables e below (T3.setTop (mkF m 15 #[rv a0_, rv a1_, rv t0] [(.ref a1_)])) _
    refine st4.trans ?_
    show Steps p.tables e below (T4.setTop (mkF m 18 #[rv a0_, rv a1_, rv t0] [(.ref t0)])) _
    refine XS.aloadN X4.here hx rfl (hb hby d12_18) rfl rfl ?_
    show Steps p.tables e below (T4.setTop (mkF m 19 #[rv a0_, rv a1_, rv t0] [(.ref t0), (.ref t0)])) _
    refine Jvm.RoadKit.acmp (g := (mkF m 19 #[rv a0_, rv a1_, rv t0] [(.ref t0), (.ref t0)])) X4 hx rfl rfl rfl (pc0 := 19) (pc' := 57) (same := true) rfl (hb hby d12_19) rfl (decide_eq_true rfl) (by decide) (by decide) ?_
    show Steps p.tables e below (T4.setTop (mkF m 57 #[rv a0_, rv a1_, rv t0] [])) _
    refine XS.aloadN X4.here hx rfl (hb hby d12_57) rfl rfl ?_
    show Steps p.tables e below (T4.setTop (mkF m 58 #[rv a0_, rv a1_, rv t0] [(.ref a0_)])) _
    refine st5 _ ?_
    show Steps p.tables e below (T5.setTop (mkF m 61 #[rv a0_, rv a1_, rv t0] [(.int (0 : Int32))])) _
    refine XS.aloadN X5.here hx rfl (hb hby d12_61) rfl rfl ?_
    show Steps p.tables e below (T5.setTop (mkF m 62 #[rv a0_, rv a1_, rv t0] [(.ref a0_), (.int (0 : Int32))])) _
    refine st6 _ ?_
    show Steps p.tables e below (T6.setTop (mkF m 65 #[rv a0_, rv a1_, rv t0] [(.ref ar), (.int (0 : Int32))])) _
    refine X6.arraylength hx (by rw [e6]; exact Ar7.1) (State.isArrayOf_alike hZ.alike Ar7.2.1) (g := (mkF m 65 #[rv a0_, rv a1_, rv t0] [(.ref ar), (.int (0 : Int32))])) rfl rfl (hb hby d12_65) _ ?_
    rw [len_of Sa7 Na7]
    show Steps p.tables e below (T6.setTop (mkF m 66 #[rv a0_, rv a1_, rv t0] [(.int (4 : Int32)), (.int (0 : Int32))])) _
    refine XS.icmpYes X6.here hx rfl (pc0 := 66) (pc' := 86) rfl (hb hby d12_66) rfl (feq (by decide : ¬ ((0 : Int32) = (4 : Int32)))).2 (by decide) (by decide) ?_
    show Steps p.tables e below (T6.setTop (mkF m 86 #[rv a0_, rv a1_, rv t0] [])) _
    refine XS.aloadN X6.here hx rfl (hb hby d12_86) rfl rfl ?_
    show Steps p.tables e below (T6.setTop (mkF m 87 #[rv a0_, rv a1_, rv t0] [(.ref a0_)])) _
    refine st8 _ ?_
    show Steps p.tables e below (T8.setTop (mkF m 90 #[rv a0_, rv a1_, rv t0] [(.ref ar)])) _
    refine XS.aloadN X8.here hx rfl (hb hby d12_90) rfl rfl ?_
    show Steps p.tables e below (T8.setTop (mkF m 91 #[rv a0_, rv a1_, rv t0] [(.ref a0_), (.ref ar)])) _
    refine XS.dup X8.here hx rfl (hb hby d12_91) rfl rfl ?_
    show Steps p.tables e below (T8.setTop (mkF m 92 #[rv a0_, rv a1_, rv t0] [(.ref a0_), (.ref a0_), (.ref ar)])) _
    refine st9 _ ?_
    show Steps p.tables e below (T9.setTop (mkF m 95 #[rv a0_, rv a1_, rv t0] [(.int (0 : Int32)), (.ref a0_), (.ref ar)])) _
    refine XS.dupX1 X9.here hx rfl (hb hby d12_95) rfl rfl rfl ?_
    show Steps p.tables e below (T9.setTop (mkF m 96 #[rv a0_, rv a1_, rv t0] [(.int (0 : Int32)), (.ref a0_), (.int (0 : Int32)), (.ref ar)])) _
    refine XS.iconst X9.here hx rfl (hb hby d12_96) ?_
    show Steps p.tables e below (T9.setTop (mkF m 97 #[rv a0_, rv a1_, rv t0] [(.int (1 : Int32)), (.int (0 : Int32)), (.ref a0_), (.int (0 : Int32)), (.ref ar)])) _
    refine XS.iadd X9.here hx rfl (hb hby d12_97) rfl ?_
    show Steps p.tables e below (T9.setTop (mkF m 98 #[rv a0_, rv a1_, rv t0] [(.int (1 : Int32)), (.ref a0_), (.int (0 : Int32)), (.ref ar)])) _
    refine st10 _ ?_
    show Steps p.tables e below (T10.setTop (mkF m 101 #[rv a0_, rv a1_, rv t0] [(.int (0 : Int32)), (.ref ar)])) _
    refine XS.aloadN X10.here hx rfl (hb hby d12_101) rfl rfl ?_
    show Steps p.tables e below (T10.setTop (mkF m 102 #[rv a0_, rv a1_, rv t0] [(.ref a1_), (.int (0 : Int32)), (.ref ar)])) _
    refine st21.trans ?_
    show Steps p.tables e below (T21.setTop (mkF m 105 #[rv a0_, rv a1_, rv t0] [(.int tm), (.int (0 : Int32)), (.ref ar)])) _
    refine st23 _ ?_
    show Steps p.tables e below (T23.setTop (mkF m 106 #[rv a0_, rv a1_, rv t0] [])) _
    exact X23.returnOut hx Bd.returns (hb hby d12_106) hr
  · show QAdd0 Z a0_ a1_ t0 t1 t2 t3 d0 d1 d2 d3 oa oc tm h0 n0 _ T23.heap _
    rw [e23]
    exact ⟨rfl, N23, ⟨_, _, _, K23, gar, ArA⟩, ⟨f25, f26, ar, _, _, gar, nea, f27, V23, by rw [List.length_set, hlen]; try rfl⟩⟩
def QAdd1 (Z : State) (a0_ : Addr) (a1_ : Addr) (t0 t1 t2 t3 d0 d1 d2 d3 oa : Addr) (oc : Cell) (tm : Int32) (h0 : Heap) (n0 : Nat) (v : Option Value) (h : Heap) (L : List Loc) : Prop := v = none ∧ Fr n0 L ∧ (∃ (ar : Addr) (cl : Cell) (ty : FieldType), Keep h0 h [a0_, ar] ∧ n0 ≤ ar ∧ Arr Z h0 ar cl ty) ∧ own_ED Z h n0 a0_ (2 : Int32) (4 : Int32)
theorem ef_rmAdd1 (m : MethodId) (a0_ : Addr) (a1_ : Addr) : entryFrame m #[(.ref a0_), (.ref a1_)] 3 = mkF m 0 #[rv a0_, rv a1_, .unset] [] := by first | (simp [entryFrame, mkF, argsToLocals, Value.category]; done) | rfl
set_option maxRecDepth 65536 in
set_option maxHeartbeats 40000000 in
theorem rmAdd1 (l : Launch) (Z : State) (a0 : Array Value) (hw : ∀ d ∈ tables_1, d.before a0 Z = true) (ws : List Jvm.Cond) (a0_ : Addr) (a1_ : Addr) (t0 t1 t2 t3 d0 d1 d2 d3 oa : Addr) (oc : Cell) (tm : Int32) (h0 : Heap) (n0 : Nat) (Z0 : n0 ≤ h0.size) (hO : Old Z n0 h0) (hst : own_St Z t0 t1 t2 t3 d0 d1 d2 d3 oa oc) (B0 : own_ED Z h0 n0 a0_ (1 : Int32) (4 : Int32)) (g0 : n0 ≤ a0_) (nev : a0_ ≠ a1_) (E1 : Exa Z h0 a1_ "com/example/reroutine/reroutine/scenario/Event") (Fm : Fld Z h0 a1_ "com/example/reroutine/reroutine/scenario/Event" "time" "I" (.int tm)) (Ft : Fld Z h0 a1_ "com/example/reroutine/reroutine/scenario/Event" "type" "Lcom/example/reroutine/reroutine/scenario/EventType;" (.ref t1)) :
    MetFree l (⟨"com/example/reroutine/reroutine/replanning/ExecutedDay", "add", "(Lcom/example/reroutine/reroutine/scenario/Event;)V"⟩ : MethodName) (head1 (Jvm.Cond.code (⟨"com/example/reroutine/reroutine/replanning/ExecutedDay", "add", "(Lcom/example/reroutine/reroutine/scenario/Event;)V"⟩ : MethodName) prog_12_method_2_code 3 none :: ws) ({ frames := 1, cells := 0, slots := 0, locals := 16 } : Room)) (fun a U => a = #[(.ref a0_), (.ref a1_)] ∧ Z.Warmed39 U.vm ∧ U.heap = h0) (fun _ _ _ _ _ => True) (fun _ U o U' => ∃ v L, o = .returned v ∧ QAdd1 Z a0_ a1_ t0 t1 t2 t3 d0 d1 d2 d3 oa oc tm h0 n0 v U'.heap L ∧ FrameEnd U o U' L ({ frames := 1, cells := 0, slots := 0, locals := 16 } : Room).cells ({ frames := 1, cells := 0, slots := 0, locals := 16 } : Room).slots) := by
  refine MetFree.of_bodySF (plainFor_of_name pn_6) hisR ?_
  intro p e s m args below meth c s₁ Bd hml0 hP hK
  obtain ⟨rfl, hZ, hh⟩ := hP
  have hx := Bd.exec
  have hby := Bd.bytes
  have hml : c.maxLocals = 3 := hml0
  have hown : s.vm.findClass "com/example/reroutine/reroutine/replanning/ExecutedDay" = some m.cls := findClass_of_methodNamed Bd.named
  have hnm := (name_of_methodNamed Bd.named Bd.method).1
  have X0 : Stand p l e ({ frames := 1, cells := 0, slots := 0, locals := 16 } : Room) s m #[(.ref a0_), (.ref a1_)] below meth c s₁ [] 0 0 := Stand.of_body Bd
  have e0 : s₁.heap = h0 := by rw [← hh, Bd.state]; rfl
  have N0 := Fr.nil n0
  have S0 : ∀ t, Steps p.tables e below (s₁.setTop (mkF m 0 #[rv a0_, rv a1_, .unset] [])) t → Steps p.tables e below (s₁.setTop (entryFrame m #[(.ref a0_), (.ref a1_)] 3)) t := fun t k => castTop (ef_rmAdd1 m a0_ a1_) k
  obtain ⟨⟨hs0, hx0, hd0⟩, ⟨hs1, hx1, hd1⟩, ⟨hs2, hx2, hd2⟩, ⟨hs3, hx3, hd3⟩, hso, hao, hsz, hq0, hq1, hq2, hq3⟩ := id hst
  obtain ⟨oE, oS, ar, kk, vs, gar, nea, oF, V0, hlen⟩ := id B0
  obtain ⟨clA, ArA, -⟩ := id V0
  have K0 : Keep h0 h0 [a0_, ar] := Keep.refl _ _
  obtain ⟨T1, X1, e1, st1⟩ := getS2 X0 hx hZ hown (host := "") (Or.inl (hw _ (List.mem_of_getElem? (i := 81) rfl))) Via.refl e0 (hso.ext hO.2) (g := (mkF m 0 #[rv a0_, rv a1_, .unset] [])) rfl (hb hby d12_0)
  obtain ⟨T2, X2, e2, st2⟩ := getF X1 hx hZ hown (host := "") (Or.inl (hw _ (List.mem_of_getElem? (i := 95) rfl))) Via.refl e1 oS (g := (mkF m 4 #[rv a0_, rv a1_, .unset] [(.ref a0_), (.ref oa)])) rfl rfl (hb hby d12_4)
  obtain ⟨T3, X3, e3, st3⟩ := getS2 X2 hx hZ hown (host := "") (Or.inl (hw _ (List.mem_of_getElem? (i := 81) rfl))) Via.refl e2 (hso.ext hO.2) (g := (mkF m 7 #[rv a0_, rv a1_, .unset] [(.int (1 : Int32)), (.ref oa)])) rfl (hb hby d12_7)
  obtain ⟨cq4, kq4, q4a, q4b, q4c⟩ := isOf hZ e3 E1
  obtain ⟨_, _, ⟨T4, L4, k4, n4⟩, -, X4, ⟨Lc4, hQ4, l4, y4, z4⟩, st4⟩ := X3.virtualBack hx (y := (⟨"com/example/reroutine/reroutine/scenario/Event", "type", "()Lcom/example/reroutine/reroutine/scenario/EventType;"⟩ : MethodName)) (z := (⟨"com/example/reroutine/reroutine/scenario/Event", "type", "()Lcom/example/reroutine/reroutine/scenario/EventType;"⟩ : MethodName)) hown (mvT hZ (hw _ (List.mem_of_getElem? (i := 102) rfl))) (mvT hZ (hw _ (List.mem_of_getElem? (i := 103) rfl))) (notFace_of_selects (args := #[]) (mvT hZ (hw _ (List.mem_of_getElem? (i := 105) rfl)))) (mvT hZ (hw _ (List.mem_of_getElem? (i := 105) rfl))) (mvT hZ (hw _ (List.mem_of_getElem? (i := 104) rfl))) (by decide) (backOf (W := 0) (rmGtype l Z a0 hw [] a1_ t1 h0 n0 Z0 Ft) hZ (hw _ (List.mem_of_getElem? (i := 106) rfl)) (hw _ (List.mem_of_getElem? (i := 29) rfl)) (by decide) (by decide)) q4a q4c (g := (mkF m 15 #[rv a0_, rv a1_, rv t1] [(.ref a1_)])) rfl (by rw [hml]; rfl) (Steps.refl _) (argsL := []) (rest := []) (lenOf pd_7 rfl) rfl (by show 2 * 0 + _ ≤ _; exact Nat.le_of_eq rfl) (hb hby d12_15) (fun _ _ => ⟨rfl, e3, (by decide : 0 + 0 ≤ _), (by decide : 0 + 0 ≤ _)⟩)
  dsimp only [Pt.U, Pt.locs, Pt.cells, Pt.slots] at X4 l4 y4 z4 st4 hQ4
  subst y4 z4
  obtain ⟨rfl, Nq4, eq4⟩ := hQ4
  have N4 : Fr n0 L4 := by rw [l4]; exact Fr.app N0 Nq4
  obtain ⟨T5, X5, e5, st5⟩ := getF X4 hx hZ hown (host := "") (Or.inl (hw _ (List.mem_of_getElem? (i := 95) rfl))) Via.refl eq4 oS (g := (mkF m 58 #[rv a0_, rv a1_, rv t1] [(.ref a0_)])) rfl rfl (hb hby d12_58)
  obtain ⟨T6, X6, e6, st6⟩ := getF X5 hx hZ hown (host := "") (Or.inl (hw _ (List.mem_of_getElem? (i := 84) rfl))) Via.refl e5 oF (g := (mkF m 62 #[rv a0_, rv a1_, rv t1] [(.ref a0_), (.int (1 : Int32))])) rfl rfl (hb hby d12_62)
  obtain ⟨cl7, Ar7, qa7, Sa7, Na7, Ha7, Ga7⟩ := id V0
  obtain ⟨T8, X8, e8, st8⟩ := getF X6 hx hZ hown (host := "") (Or.inl (hw _ (List.mem_of_getElem? (i := 84) rfl))) Via.refl e6 oF (g := (mkF m 87 #[rv a0_, rv a1_, rv t1] [(.ref a0_)])) rfl rfl (hb hby d12_87)
  obtain ⟨T9, X9, e9, st9⟩ := getF X8 hx hZ hown (host := "") (Or.inl (hw _ (List.mem_of_getElem? (i := 95) rfl))) Via.refl e8 oS (g := (mkF m 92 #[rv a0_, rv a1_, rv t1] [(.ref a0_), (.ref a0_), (.ref ar)])) rfl rfl (hb hby d12_92)
  obtain ⟨T10, h10, X10, e10, W10, st10⟩ := putF X9 hx hZ hown (host := "") (Or.inl (hw _ (List.mem_of_getElem? (i := 95) rfl))) Via.refl e9 oS oE (Or.inl (hw _ (List.mem_of_getElem? (i := 96) rfl))) (hw _ (List.mem_of_getElem? (i := 75) rfl)) (ty := .int) (by decide) rfl rfl (g := (mkF m 98 #[rv a0_, rv a1_, rv t1] [(.int (2 : Int32)), (.ref a0_), (.int (1 : Int32)), (.ref ar)])) rfl rfl (hb hby d12_98)
  have Fw10 := oS.same W10
  have f11 := oF.other W10 (Or.inr (slot_ne (Or.inl (hw _ (List.mem_of_getElem? (i := 85) rfl))) (Or.inl (hw _ (List.mem_of_getElem? (i := 96) rfl))) (by decide) (t := (.array .int)) (t' := .int) (by decide) (by decide)))
  have f12 := oE.wr W10
  have Od13 := hO.wr W10 g0
  have f17 := V0.other W10 (Ne.symm nea)
  have f18 := E1.wr W10
  have f19 := Fm.other W10 (Or.inl (Ne.symm nev))
  have f20 := Ft.other W10 (Or.inl (Ne.symm nev))
  have N10 := Fr.snoc X10 N4 g0
  have Z10 : n0 ≤ h10.size := Nat.le_trans Z0 (Keep.of_wr W10).1
  have K10 : Keep h0 h10 [a0_, ar] := K0.wr W10 (Or.inl (List.mem_of_getElem? (i := 0) rfl))
  obtain ⟨cq21, kq21, q21a, q21b, q21c⟩ := isOf hZ e10 f18
  obtain ⟨_, _, ⟨T21, L21, k21, n21⟩, -, X21, ⟨Lc21, hQ21, l21, y21, z21⟩, st21⟩ := X10.virtualBack hx (y := (⟨"com/example/reroutine/reroutine/scenario/Event", "time", "()I"⟩ : MethodName)) (z := (⟨"com/example/reroutine/reroutine/scenario/Event", "time", "()I"⟩ : MethodName)) hown (mvT hZ (hw _ (List.mem_of_getElem? (i := 107) rfl))) (mvT hZ (hw _ (List.mem_of_getElem? (i := 108) rfl))) (notFace_of_selects (args := #[]) (mvT hZ (hw _ (List.mem_of_getElem? (i := 110) rfl)))) (mvT hZ (hw _ (List.mem_of_getElem? (i := 110) rfl))) (mvT hZ (hw _ (List.mem_of_getElem? (i := 109) rfl))) (by decide) (backOf (W := 2) (rmGtime l Z a0 hw [] a1_ tm h10 n0 Z10 f19) hZ (hw _ (List.mem_of_getElem? (i := 111) rfl)) (hw _ (List.mem_of_getElem? (i := 29) rfl)) (by decide) (by decide)) q21a q21c (g := (mkF m 102 #[rv a0_, rv a1_, rv t1] [(.ref a1_), (.int (1 : Int32)), (.ref ar)])) rfl (by rw [hml]; rfl) (Steps.refl _) (argsL := []) (rest := [(.int (1 : Int32)), (.ref ar)]) (lenOf pd_8 rfl) rfl (by show 2 * 0 + _ ≤ _; exact Nat.le_of_eq rfl) (hb hby d12_102) (fun _ _ => ⟨rfl, e10, (by decide : 0 + 0 ≤ _), (by decide : 0 + 0 ≤ _)⟩)
  dsimp only [Pt.U, Pt.locs, Pt.cells, Pt.slots] at X21 l21 y21 z21 st21 hQ21
  subst y21 z21
  obtain ⟨rfl, Nq21, eq21⟩ := hQ21
  have N21 : Fr n0 L21 := by rw [l21]; exact Fr.app N10 Nq21
  obtain ⟨cl22, Ar22, qa22, Sa22, Na22, Ha22, Ga22⟩ := id f17
  have hin22 : ¬ ((1 : Int32) < 0 ∨ cl22.slots.size ≤ ((1 : Int32)).toNatClampNeg) := inb_of Sa22 ⟨by decide, by decide⟩
  obtain ⟨T23, h23, X23, e23, W23, st23⟩ := stI X21 hx hZ eq21 Ar22 (j := (1 : Int32)) hin22 (g := (mkF m 105 #[rv a0_, rv a1_, rv t1] [(.int tm), (.int (1 : Int32)), (.ref ar)])) rfl rfl (hb hby d12_105)
  have V23 := Arv.set Ar22 qa22 Sa22 Na22 Ha22 Ga22 rfl W23 1 rfl (by rw [hlen]; decide)
  have N23 := Fr.snoc X23 N21 gar
  have Z23 : n0 ≤ h23.size := Nat.le_trans Z10 (Keep.of_wr W23).1
  have Od24 := Od13.wr W23 gar
  have f25 := f12.wr W23
  have f26 := Fw10.other W23 (Or.inl nea)
  have f27 := f11.other W23 (Or.inl nea)
  have K23 : Keep h0 h23 [a0_, ar] := K10.wr W23 (Or.inl (List.mem_of_getElem? (i := 1) rfl))
  obtain ⟨fs, hr, hrun, hended, hW, hsame⟩ := X23.leave (v := none) (fun _ => rfl)
  refine ⟨_, _, S0 _ ?_, hrun, hended, _, _, rfl, ?_, ⟨_, rfl⟩, hW, hsame.mono (by decide) (by decide)⟩
  · skip
    show Steps p.tables e below (s₁.setTop (mkF m 0 #[rv a0_, rv a1_, .unset] [])) _
    refine st1 _ ?_
    show Steps p.tables e below (T1.setTop (mkF m 3 #[rv a0_, rv a1_, .unset] [(.ref oa)])) _
    refine XS.aloadN X1.here hx rfl (hb hby d12_3) rfl rfl ?_
    show Steps p.tables e below (T1.setTop (mkF m 4 #[rv a0_, rv a1_, .unset] [(.ref a0_), (.ref oa)])) _
    refine st2 _ ?_
    show Steps p.tables e below (T2.setTop (mkF m 7 #[rv a0_, rv a1_, .unset] [(.int (1 : Int32)), (.ref oa)])) _
    refine st3 _ ?_
    show Steps p.tables e below (T3.setTop (mkF m 10 #[rv a0_, rv a1_, .unset] [(.ref oa), (.int (1 : Int32)), (.ref oa)])) _
    refine X3.arraylength hx (by rw [e3]; exact (hao.ext hO.2).1) (State.isArrayOf_alike hZ.alike hao.2.1) (g := (mkF m 10 #[rv a0_, rv a1_, .unset] [(.ref oa), (.int (1 : Int32)), (.ref oa)])) rfl rfl (hb hby d12_10) _ ?_
    rw [len_of hsz (by decide)]
    show Steps p.tables e below (T3.setTop (mkF m 11 #[rv a0_, rv a1_, .unset] [(.int (4 : Int32)), (.int (1 : Int32)), (.ref oa)])) _
    refine iremM X3 hx rfl (hb hby d12_11) rfl (by decide) ?_
    show Steps p.tables e below (T3.setTop (mkF m 12 #[rv a0_, rv a1_, .unset] [(.int (1 : Int32)), (.ref oa)])) _
    refine X3.aaload hx (j := (1 : Int32)) (v := (.ref t1)) (by rw [e3]; exact (hao.ext hO.2).1) (State.isArrayOf_alike hZ.alike hao.2.1) rfl hao.2.2 (inb_of hsz ⟨by decide, by decide⟩) hq1 (g := (mkF m 12 #[rv a0_, rv a1_, .unset] [(.int (1 : Int32)), (.ref oa)])) rfl rfl (hb hby d12_12) _ ?_
    show Steps p.tables e below (T3.setTop (mkF m 13 #[rv a0_, rv a1_, .unset] [(.ref t1)])) _
    refine XS.astoreN X3.here hx rfl (hb hby d12_13) rfl rfl (l' := #[rv a0_, rv a1_, rv t1]) rfl ?_
    show Steps p.tables e below (T3.setTop (mkF m 14 #[rv a0_, rv a1_, rv t1] [])) _
    refine XS.aloadN X3.here hx rfl (hb hby d12_14) rfl rfl ?_
    show Steps p.tables e below (T3.setTop (mkF m 15 #[rv a0_, rv a1_, rv t1] [(.ref a1_)])) _
    refine st4.trans ?_
    show Steps p.tables e below (T4.setTop (mkF m 18 #[rv a0_, rv a1_, rv t1] [(.ref t1)])) _
    refine XS.aloadN X4.here hx rfl (hb hby d12_18) rfl rfl ?_
    show Steps p.tables e below (T4.setTop (mkF m 19 #[rv a0_, rv a1_, rv t1] [(.ref t1), (.ref t1)])) _
    refine Jvm.RoadKit.acmp (g := (mkF m 19 #[rv a0_, rv a1_, rv t1] [(.ref t1), (.ref t1)])) X4 hx rfl rfl rfl (pc0 := 19) (pc' := 57) (same := true) rfl (hb hby d12_19) rfl (decide_eq_true rfl) (by decide) (by decide) ?_
    show Steps p.tables e below (T4.setTop (mkF m 57 #[rv a0_, rv a1_, rv t1] [])) _
    refine XS.aloadN X4.here hx rfl (hb hby d12_57) rfl rfl ?_
    show Steps p.tables e below (T4.setTop (mkF m 58 #[rv a0_, rv a1_, rv t1] [(.ref a0_)])) _
    refine st5 _ ?_
    show Steps p.tables e below (T5.setTop (mkF m 61 #[rv a0_, rv a1_, rv t1] [(.int (1 : Int32))])) _
    refine XS.aloadN X5.here hx rfl (hb hby d12_61) rfl rfl ?_
    show Steps p.tables e below (T5.setTop (mkF m 62 #[rv a0_, rv a1_, rv t1] [(.ref a0_), (.int (1 : Int32))])) _
    refine st6 _ ?_
    show Steps p.tables e below (T6.setTop (mkF m 65 #[rv a0_, rv a1_, rv t1] [(.ref ar), (.int (1 : Int32))])) _
    refine X6.arraylength hx (by rw [e6]; exact Ar7.1) (State.isArrayOf_alike hZ.alike Ar7.2.1) (g := (mkF m 65 #[rv a0_, rv a1_, rv t1] [(.ref ar), (.int (1 : Int32))])) rfl rfl (hb hby d12_65) _ ?_
    rw [len_of Sa7 Na7]
    show Steps p.tables e below (T6.setTop (mkF m 66 #[rv a0_, rv a1_, rv t1] [(.int (4 : Int32)), (.int (1 : Int32))])) _
    refine XS.icmpYes X6.here hx rfl (pc0 := 66) (pc' := 86) rfl (hb hby d12_66) rfl (feq (by decide : ¬ ((1 : Int32) = (4 : Int32)))).2 (by decide) (by decide) ?_
    show Steps p.tables e below (T6.setTop (mkF m 86 #[rv a0_, rv a1_, rv t1] [])) _
    refine XS.aloadN X6.here hx rfl (hb hby d12_86) rfl rfl ?_
    show Steps p.tables e below (T6.setTop (mkF m 87 #[rv a0_, rv a1_, rv t1] [(.ref a0_)])) _
    refine st8 _ ?_
    show Steps p.tables e below (T8.setTop (mkF m 90 #[rv a0_, rv a1_, rv t1] [(.ref ar)])) _
    refine XS.aloadN X8.here hx rfl (hb hby d12_90) rfl rfl ?_
    show Steps p.tables e below (T8.setTop (mkF m 91 #[rv a0_, rv a1_, rv t1] [(.ref a0_), (.ref ar)])) _
    refine XS.dup X8.here hx rfl (hb hby d12_91) rfl rfl ?_
    show Steps p.tables e below (T8.setTop (mkF m 92 #[rv a0_, rv a1_, rv t1] [(.ref a0_), (.ref a0_), (.ref ar)])) _
    refine st9 _ ?_
    show Steps p.tables e below (T9.setTop (mkF m 95 #[rv a0_, rv a1_, rv t1] [(.int (1 : Int32)), (.ref a0_), (.ref ar)])) _
    refine XS.dupX1 X9.here hx rfl (hb hby d12_95) rfl rfl rfl ?_
    show Steps p.tables e below (T9.setTop (mkF m 96 #[rv a0_, rv a1_, rv t1] [(.int (1 : Int32)), (.ref a0_), (.int (1 : Int32)), (.ref ar)])) _
    refine XS.iconst X9.here hx rfl (hb hby d12_96) ?_
    show Steps p.tables e below (T9.setTop (mkF m 97 #[rv a0_, rv a1_, rv t1] [(.int (1 : Int32)), (.int (1 : Int32)), (.ref a0_), (.int (1 : Int32)), (.ref ar)])) _
    refine XS.iadd X9.here hx rfl (hb hby d12_97) rfl ?_
    show Steps p.tables e below (T9.setTop (mkF m 98 #[rv a0_, rv a1_, rv t1] [(.int (2 : Int32)), (.ref a0_), (.int (1 : Int32)), (.ref ar)])) _
    refine st10 _ ?_
    show Steps p.tables e below (T10.setTop (mkF m 101 #[rv a0_, rv a1_, rv t1] [(.int (1 : Int32)), (.ref ar)])) _
    refine XS.aloadN X10.here hx rfl (hb hby d12_101) rfl rfl ?_
    show Steps p.tables e below (T10.setTop (mkF m 102 #[rv a0_, rv a1_, rv t1] [(.ref a1_), (.int (1 : Int32)), (.ref ar)])) _
    refine st21.trans ?_
    show Steps p.tables e below (T21.setTop (mkF m 105 #[rv a0_, rv a1_, rv t1] [(.int tm), (.int (1 : Int32)), (.ref ar)])) _
    refine st23 _ ?_
    show Steps p.tables e below (T23.setTop (mkF m 106 #[rv a0_, rv a1_, rv t1] [])) _
    exact X23.returnOut hx Bd.returns (hb hby d12_106) hr
  · show QAdd1 Z a0_ a1_ t0 t1 t2 t3 d0 d1 d2 d3 oa oc tm h0 n0 _ T23.heap _
    rw [e23]
    exact ⟨rfl, N23, ⟨_, _, _, K23, gar, ArA⟩, ⟨f25, f26, ar, _, _, gar, nea, f27, V23, by rw [List.length_set, hlen]; try rfl⟩⟩
def QAdd2 (Z : State) (a0_ : Addr) (a1_ : Addr) (t0 t1 t2 t3 d0 d1 d2 d3 oa : Addr) (oc : Cell) (tm : Int32) (h0 : Heap) (n0 : Nat) (v : Option Value) (h : Heap) (L : List Loc) : Prop := v = none ∧ Fr n0 L ∧ (∃ (ar : Addr) (cl : Cell) (ty : FieldType), Keep h0 h [a0_, ar] ∧ n0 ≤ ar ∧ Arr Z h0 ar cl ty) ∧ own_ED Z h n0 a0_ (3 : Int32) (4 : Int32)
theorem ef_rmAdd2 (m : MethodId) (a0_ : Addr) (a1_ : Addr) : entryFrame m #[(.ref a0_), (.ref a1_)] 3 = mkF m 0 #[rv a0_, rv a1_, .unset] [] := by first | (simp [entryFrame, mkF, argsToLocals, Value.category]; done) | rfl
set_option maxRecDepth 65536 in
set_option maxHeartbeats 40000000 in
theorem rmAdd2 (l : Launch) (Z : State) (a0 : Array Value) (hw : ∀ d ∈ tables_1, d.before a0 Z = true) (ws : List Jvm.Cond) (a0_ : Addr) (a1_ : Addr) (t0 t1 t2 t3 d0 d1 d2 d3 oa : Addr) (oc : Cell) (tm : Int32) (h0 : Heap) (n0 : Nat) (Z0 : n0 ≤ h0.size) (hO : Old Z n0 h0) (hst : own_St Z t0 t1 t2 t3 d0 d1 d2 d3 oa oc) (B0 : own_ED Z h0 n0 a0_ (2 : Int32) (4 : Int32)) (g0 : n0 ≤ a0_) (nev : a0_ ≠ a1_) (E1 : Exa Z h0 a1_ "com/example/reroutine/reroutine/scenario/Event") (Fm : Fld Z h0 a1_ "com/example/reroutine/reroutine/scenario/Event" "time" "I" (.int tm)) (Ft : Fld Z h0 a1_ "com/example/reroutine/reroutine/scenario/Event" "type" "Lcom/example/reroutine/reroutine/scenario/EventType;" (.ref t2)) :
    MetFree l (⟨"com/example/reroutine/reroutine/replanning/ExecutedDay", "add", "(Lcom/example/reroutine/reroutine/scenario/Event;)V"⟩ : MethodName) (head1 (Jvm.Cond.code (⟨"com/example/reroutine/reroutine/replanning/ExecutedDay", "add", "(Lcom/example/reroutine/reroutine/scenario/Event;)V"⟩ : MethodName) prog_12_method_2_code 3 none :: ws) ({ frames := 1, cells := 0, slots := 0, locals := 16 } : Room)) (fun a U => a = #[(.ref a0_), (.ref a1_)] ∧ Z.Warmed39 U.vm ∧ U.heap = h0) (fun _ _ _ _ _ => True) (fun _ U o U' => ∃ v L, o = .returned v ∧ QAdd2 Z a0_ a1_ t0 t1 t2 t3 d0 d1 d2 d3 oa oc tm h0 n0 v U'.heap L ∧ FrameEnd U o U' L ({ frames := 1, cells := 0, slots := 0, locals := 16 } : Room).cells ({ frames := 1, cells := 0, slots := 0, locals := 16 } : Room).slots) := by
  refine MetFree.of_bodySF (plainFor_of_name pn_6) hisR ?_
  intro p e s m args below meth c s₁ Bd hml0 hP hK
  obtain ⟨rfl, hZ, hh⟩ := hP
  have hx := Bd.exec
  have hby := Bd.bytes
  have hml : c.maxLocals = 3 := hml0
  have hown : s.vm.findClass "com/example/reroutine/reroutine/replanning/ExecutedDay" = some m.cls := findClass_of_methodNamed Bd.named
  have hnm := (name_of_methodNamed Bd.named Bd.method).1
  have X0 : Stand p l e ({ frames := 1, cells := 0, slots := 0, locals := 16 } : Room) s m #[(.ref a0_), (.ref a1_)] below meth c s₁ [] 0 0 := Stand.of_body Bd
  have e0 : s₁.heap = h0 := by rw [← hh, Bd.state]; rfl
  have N0 := Fr.nil n0
  have S0 : ∀ t, Steps p.tables e below (s₁.setTop (mkF m 0 #[rv a0_, rv a1_, .unset] [])) t → Steps p.tables e below (s₁.setTop (entryFrame m #[(.ref a0_), (.ref a1_)] 3)) t := fun t k => castTop (ef_rmAdd2 m a0_ a1_) k
  obtain ⟨⟨hs0, hx0, hd0⟩, ⟨hs1, hx1, hd1⟩, ⟨hs2, hx2, hd2⟩, ⟨hs3, hx3, hd3⟩, hso, hao, hsz, hq0, hq1, hq2, hq3⟩ := id hst
  obtain ⟨oE, oS, ar, kk, vs, gar, nea, oF, V0, hlen⟩ := id B0
  obtain ⟨clA, ArA, -⟩ := id V0
  have K0 : Keep h0 h0 [a0_, ar] := Keep.refl _ _
  obtain ⟨T1, X1, e1, st1⟩ := getS2 X0 hx hZ hown (host := "") (Or.inl (hw _ (List.mem_of_getElem? (i := 81) rfl))) Via.refl e0 (hso.ext hO.2) (g := (mkF m 0 #[rv a0_, rv a1_, .unset] [])) rfl (hb hby d12_0)
  obtain ⟨T2, X2, e2, st2⟩ := getF X1 hx hZ hown (host := "") (Or.inl (hw _ (List.mem_of_getElem? (i := 95) rfl))) Via.refl e1 oS (g := (mkF m 4 #[rv a0_, rv a1_, .unset] [(.ref a0_), (.ref oa)])) rfl rfl (hb hby d12_4)
  obtain ⟨T3, X3, e3, st3⟩ := getS2 X2 hx hZ hown (host := "") (Or.inl (hw _ (List.mem_of_getElem? (i := 81) rfl))) Via.refl e2 (hso.ext hO.2) (g := (mkF m 7 #[rv a0_, rv a1_, .unset] [(.int (2 : Int32)), (.ref oa)])) rfl (hb hby d12_7)
  obtain ⟨cq4, kq4, q4a, q4b, q4c⟩ := isOf hZ e3 E1
  obtain ⟨_, _, ⟨T4, L4, k4, n4⟩, -, X4, ⟨Lc4, hQ4, l4, y4, z4⟩, st4⟩ := X3.virtualBack hx (y := (⟨"com/example/reroutine/reroutine/scenario/Event", "type", "()Lcom/example/reroutine/reroutine/scenario/EventType;"⟩ : MethodName)) (z := (⟨"com/example/reroutine/reroutine/scenario/Event", "type", "()Lcom/example/reroutine/reroutine/scenario/EventType;"⟩ : MethodName)) hown (mvT hZ (hw _ (List.mem_of_getElem? (i := 102) rfl))) (mvT hZ (hw _ (List.mem_of_getElem? (i := 103) rfl))) (notFace_of_selects (args := #[]) (mvT hZ (hw _ (List.mem_of_getElem? (i := 105) rfl)))) (mvT hZ (hw _ (List.mem_of_getElem? (i := 105) rfl))) (mvT hZ (hw _ (List.mem_of_getElem? (i := 104) rfl))) (by decide) (backOf (W := 0) (rmGtype l Z a0 hw [] a1_ t2 h0 n0 Z0 Ft) hZ (hw _ (List.mem_of_getElem? (i := 106) rfl)) (hw _ (List.mem_of_getElem? (i := 29) rfl)) (by decide) (by decide)) q4a q4c (g := (mkF m 15 #[rv a0_, rv a1_, rv t2] [(.ref a1_)])) rfl (by rw [hml]; rfl) (Steps.refl _) (argsL := []) (rest := []) (lenOf pd_7 rfl) rfl (by show 2 * 0 + _ ≤ _; exact Nat.le_of_eq rfl) (hb hby d12_15) (fun _ _ => ⟨rfl, e3, (by decide : 0 + 0 ≤ _), (by decide : 0 + 0 ≤ _)⟩)
  dsimp only [Pt.U, Pt.locs, Pt.cells, Pt.slots] at X4 l4 y4 z4 st4 hQ4
  subst y4 z4
  obtain ⟨rfl, Nq4, eq4⟩ := hQ4
  have N4 : Fr n0 L4 := by rw [l4]; exact Fr.app N0 Nq4
  obtain ⟨T5, X5, e5, st5⟩ := getF X4 hx hZ hown (host := "") (Or.inl (hw _ (List.mem_of_getElem? (i := 95) rfl))) Via.refl eq4 oS (g := (mkF m 58 #[rv a0_, rv a1_, rv t2] [(.ref a0_)])) rfl rfl (hb hby d12_58)
  obtain ⟨T6, X6, e6, st6⟩ := getF X5 hx hZ hown (host := "") (Or.inl (hw _ (List.mem_of_getElem? (i := 84) rfl))) Via.refl e5 oF (g := (mkF m 62 #[rv a0_, rv a1_, rv t2] [(.ref a0_), (.int (2 : Int32))])) rfl rfl (hb hby d12_62)
  obtain ⟨cl7, Ar7, qa7, Sa7, Na7, Ha7, Ga7⟩ := id V0
  obtain ⟨T8, X8, e8, st8⟩ := getF X6 hx hZ hown (host := "") (Or.inl (hw _ (List.mem_of_getElem? (i := 84) rfl))) Via.refl e6 oF (g := (mkF m 87 #[rv a0_, rv a1_, rv t2] [(.ref a0_)])) rfl rfl (hb hby d12_87)
  obtain ⟨T9, X9, e9, st9⟩ := getF X8 hx hZ hown (host := "") (Or.inl (hw _ (List.mem_of_getElem? (i := 95) rfl))) Via.refl e8 oS (g := (mkF m 92 #[rv a0_, rv a1_, rv t2] [(.ref a0_), (.ref a0_), (.ref ar)])) rfl rfl (hb hby d12_92)
  obtain ⟨T10, h10, X10, e10, W10, st10⟩ := putF X9 hx hZ hown (host := "") (Or.inl (hw _ (List.mem_of_getElem? (i := 95) rfl))) Via.refl e9 oS oE (Or.inl (hw _ (List.mem_of_getElem? (i := 96) rfl))) (hw _ (List.mem_of_getElem? (i := 75) rfl)) (ty := .int) (by decide) rfl rfl (g := (mkF m 98 #[rv a0_, rv a1_, rv t2] [(.int (3 : Int32)), (.ref a0_), (.int (2 : Int32)), (.ref ar)])) rfl rfl (hb hby d12_98)
  have Fw10 := oS.same W10
  have f11 := oF.other W10 (Or.inr (slot_ne (Or.inl (hw _ (List.mem_of_getElem? (i := 85) rfl))) (Or.inl (hw _ (List.mem_of_getElem? (i := 96) rfl))) (by decide) (t := (.array .int)) (t' := .int) (by decide) (by decide)))
  have f12 := oE.wr W10
  have Od13 := hO.wr W10 g0
  have f17 := V0.other W10 (Ne.symm nea)
  have f18 := E1.wr W10
  have f19 := Fm.other W10 (Or.inl (Ne.symm nev))
  have f20 := Ft.other W10 (Or.inl (Ne.symm nev))
  have N10 := Fr.snoc X10 N4 g0
  have Z10 : n0 ≤ h10.size := Nat.le_trans Z0 (Keep.of_wr W10).1
  have K10 : Keep h0 h10 [a0_, ar] := K0.wr W10 (Or.inl (List.mem_of_getElem? (i := 0) rfl))
  obtain ⟨cq21, kq21, q21a, q21b, q21c⟩ := isOf hZ e10 f18
  obtain ⟨_, _, ⟨T21, L21, k21, n21⟩, -, X21, ⟨Lc21, hQ21, l21, y21, z21⟩, st21⟩ := X10.virtualBack hx (y := (⟨"com/example/reroutine/reroutine/scenario/Event", "time", "()I"⟩ : MethodName)) (z := (⟨"com/example/reroutine/reroutine/scenario/Event", "time", "()I"⟩ : MethodName)) hown (mvT hZ (hw _ (List.mem_of_getElem? (i := 107) rfl))) (mvT hZ (hw _ (List.mem_of_getElem? (i := 108) rfl))) (notFace_of_selects (args := #[]) (mvT hZ (hw _ (List.mem_of_getElem? (i := 110) rfl)))) (mvT hZ (hw _ (List.mem_of_getElem? (i := 110) rfl))) (mvT hZ (hw _ (List.mem_of_getElem? (i := 109) rfl))) (by decide) (backOf (W := 2) (rmGtime l Z a0 hw [] a1_ tm h10 n0 Z10 f19) hZ (hw _ (List.mem_of_getElem? (i := 111) rfl)) (hw _ (List.mem_of_getElem? (i := 29) rfl)) (by decide) (by decide)) q21a q21c (g := (mkF m 102 #[rv a0_, rv a1_, rv t2] [(.ref a1_), (.int (2 : Int32)), (.ref ar)])) rfl (by rw [hml]; rfl) (Steps.refl _) (argsL := []) (rest := [(.int (2 : Int32)), (.ref ar)]) (lenOf pd_8 rfl) rfl (by show 2 * 0 + _ ≤ _; exact Nat.le_of_eq rfl) (hb hby d12_102) (fun _ _ => ⟨rfl, e10, (by decide : 0 + 0 ≤ _), (by decide : 0 + 0 ≤ _)⟩)
  dsimp only [Pt.U, Pt.locs, Pt.cells, Pt.slots] at X21 l21 y21 z21 st21 hQ21
  subst y21 z21
  obtain ⟨rfl, Nq21, eq21⟩ := hQ21
  have N21 : Fr n0 L21 := by rw [l21]; exact Fr.app N10 Nq21
  obtain ⟨cl22, Ar22, qa22, Sa22, Na22, Ha22, Ga22⟩ := id f17
  have hin22 : ¬ ((2 : Int32) < 0 ∨ cl22.slots.size ≤ ((2 : Int32)).toNatClampNeg) := inb_of Sa22 ⟨by decide, by decide⟩
  obtain ⟨T23, h23, X23, e23, W23, st23⟩ := stI X21 hx hZ eq21 Ar22 (j := (2 : Int32)) hin22 (g := (mkF m 105 #[rv a0_, rv a1_, rv t2] [(.int tm), (.int (2 : Int32)), (.ref ar)])) rfl rfl (hb hby d12_105)
  have V23 := Arv.set Ar22 qa22 Sa22 Na22 Ha22 Ga22 rfl W23 2 rfl (by rw [hlen]; decide)
  have N23 := Fr.snoc X23 N21 gar
  have Z23 : n0 ≤ h23.size := Nat.le_trans Z10 (Keep.of_wr W23).1
  have Od24 := Od13.wr W23 gar
  have f25 := f12.wr W23
  have f26 := Fw10.other W23 (Or.inl nea)
  have f27 := f11.other W23 (Or.inl nea)
  have K23 : Keep h0 h23 [a0_, ar] := K10.wr W23 (Or.inl (List.mem_of_getElem? (i := 1) rfl))
  obtain ⟨fs, hr, hrun, hended, hW, hsame⟩ := X23.leave (v := none) (fun _ => rfl)
  refine ⟨_, _, S0 _ ?_, hrun, hended, _, _, rfl, ?_, ⟨_, rfl⟩, hW, hsame.mono (by decide) (by decide)⟩
  · skip
    show Steps p.tables e below (s₁.setTop (mkF m 0 #[rv a0_, rv a1_, .unset] [])) _
    refine st1 _ ?_
    show Steps p.tables e below (T1.setTop (mkF m 3 #[rv a0_, rv a1_, .unset] [(.ref oa)])) _
    refine XS.aloadN X1.here hx rfl (hb hby d12_3) rfl rfl ?_
    show Steps p.tables e below (T1.setTop (mkF m 4 #[rv a0_, rv a1_, .unset] [(.ref a0_), (.ref oa)])) _
    refine st2 _ ?_
    show Steps p.tables e below (T2.setTop (mkF m 7 #[rv a0_, rv a1_, .unset] [(.int (2 : Int32)), (.ref oa)])) _
    refine st3 _ ?_
    show Steps p.tables e below (T3.setTop (mkF m 10 #[rv a0_, rv a1_, .unset] [(.ref oa), (.int (2 : Int32)), (.ref oa)])) _
    refine X3.arraylength hx (by rw [e3]; exact (hao.ext hO.2).1) (State.isArrayOf_alike hZ.alike hao.2.1) (g := (mkF m 10 #[rv a0_, rv a1_, .unset] [(.ref oa), (.int (2 : Int32)), (.ref oa)])) rfl rfl (hb hby d12_10) _ ?_
    rw [len_of hsz (by decide)]
    show Steps p.tables e below (T3.setTop (mkF m 11 #[rv a0_, rv a1_, .unset] [(.int (4 : Int32)), (.int (2 : Int32)), (.ref oa)])) _
    refine iremM X3 hx rfl (hb hby d12_11) rfl (by decide) ?_
    show Steps p.tables e below (T3.setTop (mkF m 12 #[rv a0_, rv a1_, .unset] [(.int (2 : Int32)), (.ref oa)])) _
    refine X3.aaload hx (j := (2 : Int32)) (v := (.ref t2)) (by rw [e3]; exact (hao.ext hO.2).1) (State.isArrayOf_alike hZ.alike hao.2.1) rfl hao.2.2 (inb_of hsz ⟨by decide, by decide⟩) hq2 (g := (mkF m 12 #[rv a0_, rv a1_, .unset] [(.int (2 : Int32)), (.ref oa)])) rfl rfl (hb hby d12_12) _ ?_
    show Steps p.tables e below (T3.setTop (mkF m 13 #[rv a0_, rv a1_, .unset] [(.ref t2)])) _
    refine XS.astoreN X3.here hx rfl (hb hby d12_13) rfl rfl (l' := #[rv a0_, rv a1_, rv t2]) rfl ?_
    show Steps p.tables e below (T3.setTop (mkF m 14 #[rv a0_, rv a1_, rv t2] [])) _
    refine XS.aloadN X3.here hx rfl (hb hby d12_14) rfl rfl ?_
    show Steps p.tables e below (T3.setTop (mkF m 15 #[rv a0_, rv a1_, rv t2] [(.ref a1_)])) _
    refine st4.trans ?_
    show Steps p.tables e below (T4.setTop (mkF m 18 #[rv a0_, rv a1_, rv t2] [(.ref t2)])) _
    refine XS.aloadN X4.here hx rfl (hb hby d12_18) rfl rfl ?_
    show Steps p.tables e below (T4.setTop (mkF m 19 #[rv a0_, rv a1_, rv t2] [(.ref t2), (.ref t2)])) _
    refine Jvm.RoadKit.acmp (g := (mkF m 19 #[rv a0_, rv a1_, rv t2] [(.ref t2), (.ref t2)])) X4 hx rfl rfl rfl (pc0 := 19) (pc' := 57) (same := true) rfl (hb hby d12_19) rfl (decide_eq_true rfl) (by decide) (by decide) ?_
    show Steps p.tables e below (T4.setTop (mkF m 57 #[rv a0_, rv a1_, rv t2] [])) _
    refine XS.aloadN X4.here hx rfl (hb hby d12_57) rfl rfl ?_
    show Steps p.tables e below (T4.setTop (mkF m 58 #[rv a0_, rv a1_, rv t2] [(.ref a0_)])) _
    refine st5 _ ?_
    show Steps p.tables e below (T5.setTop (mkF m 61 #[rv a0_, rv a1_, rv t2] [(.int (2 : Int32))])) _
    refine XS.aloadN X5.here hx rfl (hb hby d12_61) rfl rfl ?_
    show Steps p.tables e below (T5.setTop (mkF m 62 #[rv a0_, rv a1_, rv t2] [(.ref a0_), (.int (2 : Int32))])) _
    refine st6 _ ?_
    show Steps p.tables e below (T6.setTop (mkF m 65 #[rv a0_, rv a1_, rv t2] [(.ref ar), (.int (2 : Int32))])) _
    refine X6.arraylength hx (by rw [e6]; exact Ar7.1) (State.isArrayOf_alike hZ.alike Ar7.2.1) (g := (mkF m 65 #[rv a0_, rv a1_, rv t2] [(.ref ar), (.int (2 : Int32))])) rfl rfl (hb hby d12_65) _ ?_
    rw [len_of Sa7 Na7]
    show Steps p.tables e below (T6.setTop (mkF m 66 #[rv a0_, rv a1_, rv t2] [(.int (4 : Int32)), (.int (2 : Int32))])) _
    refine XS.icmpYes X6.here hx rfl (pc0 := 66) (pc' := 86) rfl (hb hby d12_66) rfl (feq (by decide : ¬ ((2 : Int32) = (4 : Int32)))).2 (by decide) (by decide) ?_
    show Steps p.tables e below (T6.setTop (mkF m 86 #[rv a0_, rv a1_, rv t2] [])) _
    refine XS.aloadN X6.here hx rfl (hb hby d12_86) rfl rfl ?_
    show Steps p.tables e below (T6.setTop (mkF m 87 #[rv a0_, rv a1_, rv t2] [(.ref a0_)])) _
    refine st8 _ ?_
    show Steps p.tables e below (T8.setTop (mkF m 90 #[rv a0_, rv a1_, rv t2] [(.ref ar)])) _
    refine XS.aloadN X8.here hx rfl (hb hby d12_90) rfl rfl ?_
    show Steps p.tables e below (T8.setTop (mkF m 91 #[rv a0_, rv a1_, rv t2] [(.ref a0_), (.ref ar)])) _
    refine XS.dup X8.here hx rfl (hb hby d12_91) rfl rfl ?_
    show Steps p.tables e below (T8.setTop (mkF m 92 #[rv a0_, rv a1_, rv t2] [(.ref a0_), (.ref a0_), (.ref ar)])) _
    refine st9 _ ?_
    show Steps p.tables e below (T9.setTop (mkF m 95 #[rv a0_, rv a1_, rv t2] [(.int (2 : Int32)), (.ref a0_), (.ref ar)])) _
    refine XS.dupX1 X9.here hx rfl (hb hby d12_95) rfl rfl rfl ?_
    show Steps p.tables e below (T9.setTop (mkF m 96 #[rv a0_, rv a1_, rv t2] [(.int (2 : Int32)), (.ref a0_), (.int (2 : Int32)), (.ref ar)])) _
    refine XS.iconst X9.here hx rfl (hb hby d12_96) ?_
    show Steps p.tables e below (T9.setTop (mkF m 97 #[rv a0_, rv a1_, rv t2] [(.int (1 : Int32)), (.int (2 : Int32)), (.ref a0_), (.int (2 : Int32)), (.ref ar)])) _
    refine XS.iadd X9.here hx rfl (hb hby d12_97) rfl ?_
    show Steps p.tables e below (T9.setTop (mkF m 98 #[rv a0_, rv a1_, rv t2] [(.int (3 : Int32)), (.ref a0_), (.int (2 : Int32)), (.ref ar)])) _
    refine st10 _ ?_
    show Steps p.tables e below (T10.setTop (mkF m 101 #[rv a0_, rv a1_, rv t2] [(.int (2 : Int32)), (.ref ar)])) _
    refine XS.aloadN X10.here hx rfl (hb hby d12_101) rfl rfl ?_
    show Steps p.tables e below (T10.setTop (mkF m 102 #[rv a0_, rv a1_, rv t2] [(.ref a1_), (.int (2 : Int32)), (.ref ar)])) _
    refine st21.trans ?_
    show Steps p.tables e below (T21.setTop (mkF m 105 #[rv a0_, rv a1_, rv t2] [(.int tm), (.int (2 : Int32)), (.ref ar)])) _
    refine st23 _ ?_
    show Steps p.tables e below (T23.setTop (mkF m 106 #[rv a0_, rv a1_, rv t2] [])) _
    exact X23.returnOut hx Bd.returns (hb hby d12_106) hr
  · show QAdd2 Z a0_ a1_ t0 t1 t2 t3 d0 d1 d2 d3 oa oc tm h0 n0 _ T23.heap _
    rw [e23]
    exact ⟨rfl, N23, ⟨_, _, _, K23, gar, ArA⟩, ⟨f25, f26, ar, _, _, gar, nea, f27, V23, by rw [List.length_set, hlen]; try rfl⟩⟩
def QAdd3 (Z : State) (a0_ : Addr) (a1_ : Addr) (t0 t1 t2 t3 d0 d1 d2 d3 oa : Addr) (oc : Cell) (tm : Int32) (h0 : Heap) (n0 : Nat) (v : Option Value) (h : Heap) (L : List Loc) : Prop := v = none ∧ Fr n0 L ∧ (∃ (ar : Addr) (cl : Cell) (ty : FieldType), Keep h0 h [a0_, ar] ∧ n0 ≤ ar ∧ Arr Z h0 ar cl ty) ∧ own_ED Z h n0 a0_ (4 : Int32) (4 : Int32)
theorem ef_rmAdd3 (m : MethodId) (a0_ : Addr) (a1_ : Addr) : entryFrame m #[(.ref a0_), (.ref a1_)] 3 = mkF m 0 #[rv a0_, rv a1_, .unset] [] := by first | (simp [entryFrame, mkF, argsToLocals, Value.category]; done) | rfl
set_option maxRecDepth 65536 in
set_option maxHeartbeats 40000000 in
theorem rmAdd3 (l : Launch) (Z : State) (a0 : Array Value) (hw : ∀ d ∈ tables_1, d.before a0 Z = true) (ws : List Jvm.Cond) (a0_ : Addr) (a1_ : Addr) (t0 t1 t2 t3 d0 d1 d2 d3 oa : Addr) (oc : Cell) (tm : Int32) (h0 : Heap) (n0 : Nat) (Z0 : n0 ≤ h0.size) (hO : Old Z n0 h0) (hst : own_St Z t0 t1 t2 t3 d0 d1 d2 d3 oa oc) (B0 : own_ED Z h0 n0 a0_ (3 : Int32) (4 : Int32)) (g0 : n0 ≤ a0_) (nev : a0_ ≠ a1_) (E1 : Exa Z h0 a1_ "com/example/reroutine/reroutine/scenario/Event") (Fm : Fld Z h0 a1_ "com/example/reroutine/reroutine/scenario/Event" "time" "I" (.int tm)) (Ft : Fld Z h0 a1_ "com/example/reroutine/reroutine/scenario/Event" "type" "Lcom/example/reroutine/reroutine/scenario/EventType;" (.ref t3)) :
    MetFree l (⟨"com/example/reroutine/reroutine/replanning/ExecutedDay", "add", "(Lcom/example/reroutine/reroutine/scenario/Event;)V"⟩ : MethodName) (head1 (Jvm.Cond.code (⟨"com/example/reroutine/reroutine/replanning/ExecutedDay", "add", "(Lcom/example/reroutine/reroutine/scenario/Event;)V"⟩ : MethodName) prog_12_method_2_code 3 none :: ws) ({ frames := 1, cells := 0, slots := 0, locals := 16 } : Room)) (fun a U => a = #[(.ref a0_), (.ref a1_)] ∧ Z.Warmed39 U.vm ∧ U.heap = h0) (fun _ _ _ _ _ => True) (fun _ U o U' => ∃ v L, o = .returned v ∧ QAdd3 Z a0_ a1_ t0 t1 t2 t3 d0 d1 d2 d3 oa oc tm h0 n0 v U'.heap L ∧ FrameEnd U o U' L ({ frames := 1, cells := 0, slots := 0, locals := 16 } : Room).cells ({ frames := 1, cells := 0, slots := 0, locals := 16 } : Room).slots) := by
  refine MetFree.of_bodySF (plainFor_of_name pn_6) hisR ?_
  intro p e s m args below meth c s₁ Bd hml0 hP hK
  obtain ⟨rfl, hZ, hh⟩ := hP
  have hx := Bd.exec
  have hby := Bd.bytes
  have hml : c.maxLocals = 3 := hml0
  have hown : s.vm.findClass "com/example/reroutine/reroutine/replanning/ExecutedDay" = some m.cls := findClass_of_methodNamed Bd.named
  have hnm := (name_of_methodNamed Bd.named Bd.method).1
  have X0 : Stand p l e ({ frames := 1, cells := 0, slots := 0, locals := 16 } : Room) s m #[(.ref a0_), (.ref a1_)] below meth c s₁ [] 0 0 := Stand.of_body Bd
  have e0 : s₁.heap = h0 := by rw [← hh, Bd.state]; rfl
  have N0 := Fr.nil n0
  have S0 : ∀ t, Steps p.tables e below (s₁.setTop (mkF m 0 #[rv a0_, rv a1_, .unset] [])) t → Steps p.tables e below (s₁.setTop (entryFrame m #[(.ref a0_), (.ref a1_)] 3)) t := fun t k => castTop (ef_rmAdd3 m a0_ a1_) k
  obtain ⟨⟨hs0, hx0, hd0⟩, ⟨hs1, hx1, hd1⟩, ⟨hs2, hx2, hd2⟩, ⟨hs3, hx3, hd3⟩, hso, hao, hsz, hq0, hq1, hq2, hq3⟩ := id hst
  obtain ⟨oE, oS, ar, kk, vs, gar, nea, oF, V0, hlen⟩ := id B0
  obtain ⟨clA, ArA, -⟩ := id V0
  have K0 : Keep h0 h0 [a0_, ar] := Keep.refl _ _
  obtain ⟨T1, X1, e1, st1⟩ := getS2 X0 hx hZ hown (host := "") (Or.inl (hw _ (List.mem_of_getElem? (i := 81) rfl))) Via.refl e0 (hso.ext hO.2) (g := (mkF m 0 #[rv a0_, rv a1_, .unset] [])) rfl (hb hby d12_0)
  obtain ⟨T2, X2, e2, st2⟩ := getF X1 hx hZ hown (host := "") (Or.inl (hw _ (List.mem_of_getElem? (i := 95) rfl))) Via.refl e1 oS (g := (mkF m 4 #[rv a0_, rv a1_, .unset] [(.ref a0_), (.ref oa)])) rfl rfl (hb hby d12_4)
  obtain ⟨T3, X3, e3, st3⟩ := getS2 X2 hx hZ hown (host := "") (Or.inl (hw _ (List.mem_of_getElem? (i := 81) rfl))) Via.refl e2 (hso.ext hO.2) (g := (mkF m 7 #[rv a0_, rv a1_, .unset] [(.int (3 : Int32)), (.ref oa)])) rfl (hb hby d12_7)
  obtain ⟨cq4, kq4, q4a, q4b, q4c⟩ := isOf hZ e3 E1
  obtain ⟨_, _, ⟨T4, L4, k4, n4⟩, -, X4, ⟨Lc4, hQ4, l4, y4, z4⟩, st4⟩ := X3.virtualBack hx (y := (⟨"com/example/reroutine/reroutine/scenario/Event", "type", "()Lcom/example/reroutine/reroutine/scenario/EventType;"⟩ : MethodName)) (z := (⟨"com/example/reroutine/reroutine/scenario/Event", "type", "()Lcom/example/reroutine/reroutine/scenario/EventType;"⟩ : MethodName)) hown (mvT hZ (hw _ (List.mem_of_getElem? (i := 102) rfl))) (mvT hZ (hw _ (List.mem_of_getElem? (i := 103) rfl))) (notFace_of_selects (args := #[]) (mvT hZ (hw _ (List.mem_of_getElem? (i := 105) rfl)))) (mvT hZ (hw _ (List.mem_of_getElem? (i := 105) rfl))) (mvT hZ (hw _ (List.mem_of_getElem? (i := 104) rfl))) (by decide) (backOf (W := 0) (rmGtype l Z a0 hw [] a1_ t3 h0 n0 Z0 Ft) hZ (hw _ (List.mem_of_getElem? (i := 106) rfl)) (hw _ (List.mem_of_getElem? (i := 29) rfl)) (by decide) (by decide)) q4a q4c (g := (mkF m 15 #[rv a0_, rv a1_, rv t3] [(.ref a1_)])) rfl (by rw [hml]; rfl) (Steps.refl _) (argsL := []) (rest := []) (lenOf pd_7 rfl) rfl (by show 2 * 0 + _ ≤ _; exact Nat.le_of_eq rfl) (hb hby d12_15) (fun _ _ => ⟨rfl, e3, (by decide : 0 + 0 ≤ _), (by decide : 0 + 0 ≤ _)⟩)
  dsimp only [Pt.U, Pt.locs, Pt.cells, Pt.slots] at X4 l4 y4 z4 st4 hQ4
  subst y4 z4
  obtain ⟨rfl, Nq4, eq4⟩ := hQ4
  have N4 : Fr n0 L4 := by rw [l4]; exact Fr.app N0 Nq4
  obtain ⟨T5, X5, e5, st5⟩ := getF X4 hx hZ hown (host := "") (Or.inl (hw _ (List.mem_of_getElem? (i := 95) rfl))) Via.refl eq4 oS (g := (mkF m 58 #[rv a0_, rv a1_, rv t3] [(.ref a0_)])) rfl rfl (hb hby d12_58)
  obtain ⟨T6, X6, e6, st6⟩ := getF X5 hx hZ hown (host := "") (Or.inl (hw _ (List.mem_of_getElem? (i := 84) rfl))) Via.refl e5 oF (g := (mkF m 62 #[rv a0_, rv a1_, rv t3] [(.ref a0_), (.int (3 : Int32))])) rfl rfl (hb hby d12_62)
  obtain ⟨cl7, Ar7, qa7, Sa7, Na7, Ha7, Ga7⟩ := id V0
  obtain ⟨T8, X8, e8, st8⟩ := getF X6 hx hZ hown (host := "") (Or.inl (hw _ (List.mem_of_getElem? (i := 84) rfl))) Via.refl e6 oF (g := (mkF m 87 #[rv a0_, rv a1_, rv t3] [(.ref a0_)])) rfl rfl (hb hby d12_87)
  obtain ⟨T9, X9, e9, st9⟩ := getF X8 hx hZ hown (host := "") (Or.inl (hw _ (List.mem_of_getElem? (i := 95) rfl))) Via.refl e8 oS (g := (mkF m 92 #[rv a0_, rv a1_, rv t3] [(.ref a0_), (.ref a0_), (.ref ar)])) rfl rfl (hb hby d12_92)
  obtain ⟨T10, h10, X10, e10, W10, st10⟩ := putF X9 hx hZ hown (host := "") (Or.inl (hw _ (List.mem_of_getElem? (i := 95) rfl))) Via.refl e9 oS oE (Or.inl (hw _ (List.mem_of_getElem? (i := 96) rfl))) (hw _ (List.mem_of_getElem? (i := 75) rfl)) (ty := .int) (by decide) rfl rfl (g := (mkF m 98 #[rv a0_, rv a1_, rv t3] [(.int (4 : Int32)), (.ref a0_), (.int (3 : Int32)), (.ref ar)])) rfl rfl (hb hby d12_98)
  have Fw10 := oS.same W10
  have f11 := oF.other W10 (Or.inr (slot_ne (Or.inl (hw _ (List.mem_of_getElem? (i := 85) rfl))) (Or.inl (hw _ (List.mem_of_getElem? (i := 96) rfl))) (by decide) (t := (.array .int)) (t' := .int) (by decide) (by decide)))
  have f12 := oE.wr W10
  have Od13 := hO.wr W10 g0
  have f17 := V0.other W10 (Ne.symm nea)
  have f18 := E1.wr W10
  have f19 := Fm.other W10 (Or.inl (Ne.symm nev))
  have f20 := Ft.other W10 (Or.inl (Ne.symm nev))
  have N10 := Fr.snoc X10 N4 g0
  have Z10 : n0 ≤ h10.size := Nat.le_trans Z0 (Keep.of_wr W10).1
  have K10 : Keep h0 h10 [a0_, ar] := K0.wr W10 (Or.inl (List.mem_of_getElem? (i := 0) rfl))
  obtain ⟨cq21, kq21, q21a, q21b, q21c⟩ := isOf hZ e10 f18
  obtain ⟨_, _, ⟨T21, L21, k21, n21⟩, -, X21, ⟨Lc21, hQ21, l21, y21, z21⟩, st21⟩ := X10.virtualBack hx (y := (⟨"com/example/reroutine/reroutine/scenario/Event", "time", "()I"⟩ : MethodName)) (z := (⟨"com/example/reroutine/reroutine/scenario/Event", "time", "()I"⟩ : MethodName)) hown (mvT hZ (hw _ (List.mem_of_getElem? (i := 107) rfl))) (mvT hZ (hw _ (List.mem_of_getElem? (i := 108) rfl))) (notFace_of_selects (args := #[]) (mvT hZ (hw _ (List.mem_of_getElem? (i := 110) rfl)))) (mvT hZ (hw _ (List.mem_of_getElem? (i := 110) rfl))) (mvT hZ (hw _ (List.mem_of_getElem? (i := 109) rfl))) (by decide) (backOf (W := 2) (rmGtime l Z a0 hw [] a1_ tm h10 n0 Z10 f19) hZ (hw _ (List.mem_of_getElem? (i := 111) rfl)) (hw _ (List.mem_of_getElem? (i := 29) rfl)) (by decide) (by decide)) q21a q21c (g := (mkF m 102 #[rv a0_, rv a1_, rv t3] [(.ref a1_), (.int (3 : Int32)), (.ref ar)])) rfl (by rw [hml]; rfl) (Steps.refl _) (argsL := []) (rest := [(.int (3 : Int32)), (.ref ar)]) (lenOf pd_8 rfl) rfl (by show 2 * 0 + _ ≤ _; exact Nat.le_of_eq rfl) (hb hby d12_102) (fun _ _ => ⟨rfl, e10, (by decide : 0 + 0 ≤ _), (by decide : 0 + 0 ≤ _)⟩)
  dsimp only [Pt.U, Pt.locs, Pt.cells, Pt.slots] at X21 l21 y21 z21 st21 hQ21
  subst y21 z21
  obtain ⟨rfl, Nq21, eq21⟩ := hQ21
  have N21 : Fr n0 L21 := by rw [l21]; exact Fr.app N10 Nq21
  obtain ⟨cl22, Ar22, qa22, Sa22, Na22, Ha22, Ga22⟩ := id f17
  have hin22 : ¬ ((3 : Int32) < 0 ∨ cl22.slots.size ≤ ((3 : Int32)).toNatClampNeg) := inb_of Sa22 ⟨by decide, by decide⟩
  obtain ⟨T23, h23, X23, e23, W23, st23⟩ := stI X21 hx hZ eq21 Ar22 (j := (3 : Int32)) hin22 (g := (mkF m 105 #[rv a0_, rv a1_, rv t3] [(.int tm), (.int (3 : Int32)), (.ref ar)])) rfl rfl (hb hby d12_105)
  have V23 := Arv.set Ar22 qa22 Sa22 Na22 Ha22 Ga22 rfl W23 3 rfl (by rw [hlen]; decide)
  have N23 := Fr.snoc X23 N21 gar
  have Z23 : n0 ≤ h23.size := Nat.le_trans Z10 (Keep.of_wr W23).1
  have Od24 := Od13.wr W23 gar
  have f25 := f12.wr W23
  have f26 := Fw10.other W23 (Or.inl nea)
  have f27 := f11.other W23 (Or.inl nea)
  have K23 : Keep h0 h23 [a0_, ar] := K10.wr W23 (Or.inl (List.mem_of_getElem? (i := 1) rfl))
  obtain ⟨fs, hr, hrun, hended, hW, hsame⟩ := X23.leave (v := none) (fun _ => rfl)
  refine ⟨_, _, S0 _ ?_, hrun, hended, _, _, rfl, ?_, ⟨_, rfl⟩, hW, hsame.mono (by decide) (by decide)⟩
  · skip
    show Steps p.tables e below (s₁.setTop (mkF m 0 #[rv a0_, rv a1_, .unset] [])) _
    refine st1 _ ?_
    show Steps p.tables e below (T1.setTop (mkF m 3 #[rv a0_, rv a1_, .unset] [(.ref oa)])) _
    refine XS.aloadN X1.here hx rfl (hb hby d12_3) rfl rfl ?_
    show Steps p.tables e below (T1.setTop (mkF m 4 #[rv a0_, rv a1_, .unset] [(.ref a0_), (.ref oa)])) _
    refine st2 _ ?_
    show Steps p.tables e below (T2.setTop (mkF m 7 #[rv a0_, rv a1_, .unset] [(.int (3 : Int32)), (.ref oa)])) _
    refine st3 _ ?_
    show Steps p.tables e below (T3.setTop (mkF m 10 #[rv a0_, rv a1_, .unset] [(.ref oa), (.int (3 : Int32)), (.ref oa)])) _
    refine X3.arraylength hx (by rw [e3]; exact (hao.ext hO.2).1) (State.isArrayOf_alike hZ.alike hao.2.1) (g := (mkF m 10 #[rv a0_, rv a1_, .unset] [(.ref oa), (.int (3 : Int32)), (.ref oa)])) rfl rfl (hb hby d12_10) _ ?_
    rw [len_of hsz (by decide)]
    show Steps p.tables e below (T3.setTop (mkF m 11 #[rv a0_, rv a1_, .unset] [(.int (4 : Int32)), (.int (3 : Int32)), (.ref oa)])) _
    refine iremM X3 hx rfl (hb hby d12_11) rfl (by decide) ?_
    show Steps p.tables e below (T3.setTop (mkF m 12 #[rv a0_, rv a1_, .unset] [(.int (3 : Int32)), (.ref oa)])) _
    refine X3.aaload hx (j := (3 : Int32)) (v := (.ref t3)) (by rw [e3]; exact (hao.ext hO.2).1) (State.isArrayOf_alike hZ.alike hao.2.1) rfl hao.2.2 (inb_of hsz ⟨by decide, by decide⟩) hq3 (g := (mkF m 12 #[rv a0_, rv a1_, .unset] [(.int (3 : Int32)), (.ref oa)])) rfl rfl (hb hby d12_12) _ ?_
    show Steps p.tables e below (T3.setTop (mkF m 13 #[rv a0_, rv a1_, .unset] [(.ref t3)])) _
    refine XS.astoreN X3.here hx rfl (hb hby d12_13) rfl rfl (l' := #[rv a0_, rv a1_, rv t3]) rfl ?_
    show Steps p.tables e below (T3.setTop (mkF m 14 #[rv a0_, rv a1_, rv t3] [])) _
    refine XS.aloadN X3.here hx rfl (hb hby d12_14) rfl rfl ?_
    show Steps p.tables e below (T3.setTop (mkF m 15 #[rv a0_, rv a1_, rv t3] [(.ref a1_)])) _
    refine st4.trans ?_
    show Steps p.tables e below (T4.setTop (mkF m 18 #[rv a0_, rv a1_, rv t3] [(.ref t3)])) _
    refine XS.aloadN X4.here hx rfl (hb hby d12_18) rfl rfl ?_
    show Steps p.tables e below (T4.setTop (mkF m 19 #[rv a0_, rv a1_, rv t3] [(.ref t3), (.ref t3)])) _
    refine Jvm.RoadKit.acmp (g := (mkF m 19 #[rv a0_, rv a1_, rv t3] [(.ref t3), (.ref t3)])) X4 hx rfl rfl rfl (pc0 := 19) (pc' := 57) (same := true) rfl (hb hby d12_19) rfl (decide_eq_true rfl) (by decide) (by decide) ?_
    show Steps p.tables e below (T4.setTop (mkF m 57 #[rv a0_, rv a1_, rv t3] [])) _
    refine XS.aloadN X4.here hx rfl (hb hby d12_57) rfl rfl ?_
    show Steps p.tables e below (T4.setTop (mkF m 58 #[rv a0_, rv a1_, rv t3] [(.ref a0_)])) _
    refine st5 _ ?_
    show Steps p.tables e below (T5.setTop (mkF m 61 #[rv a0_, rv a1_, rv t3] [(.int (3 : Int32))])) _
    refine XS.aloadN X5.here hx rfl (hb hby d12_61) rfl rfl ?_
    show Steps p.tables e below (T5.setTop (mkF m 62 #[rv a0_, rv a1_, rv t3] [(.ref a0_), (.int (3 : Int32))])) _
    refine st6 _ ?_
    show Steps p.tables e below (T6.setTop (mkF m 65 #[rv a0_, rv a1_, rv t3] [(.ref ar), (.int (3 : Int32))])) _
    refine X6.arraylength hx (by rw [e6]; exact Ar7.1) (State.isArrayOf_alike hZ.alike Ar7.2.1) (g := (mkF m 65 #[rv a0_, rv a1_, rv t3] [(.ref ar), (.int (3 : Int32))])) rfl rfl (hb hby d12_65) _ ?_
    rw [len_of Sa7 Na7]
    show Steps p.tables e below (T6.setTop (mkF m 66 #[rv a0_, rv a1_, rv t3] [(.int (4 : Int32)), (.int (3 : Int32))])) _
    refine XS.icmpYes X6.here hx rfl (pc0 := 66) (pc' := 86) rfl (hb hby d12_66) rfl (feq (by decide : ¬ ((3 : Int32) = (4 : Int32)))).2 (by decide) (by decide) ?_
    show Steps p.tables e below (T6.setTop (mkF m 86 #[rv a0_, rv a1_, rv t3] [])) _
    refine XS.aloadN X6.here hx rfl (hb hby d12_86) rfl rfl ?_
    show Steps p.tables e below (T6.setTop (mkF m 87 #[rv a0_, rv a1_, rv t3] [(.ref a0_)])) _
    refine st8 _ ?_
    show Steps p.tables e below (T8.setTop (mkF m 90 #[rv a0_, rv a1_, rv t3] [(.ref ar)])) _
    refine XS.aloadN X8.here hx rfl (hb hby d12_90) rfl rfl ?_
    show Steps p.tables e below (T8.setTop (mkF m 91 #[rv a0_, rv a1_, rv t3] [(.ref a0_), (.ref ar)])) _
    refine XS.dup X8.here hx rfl (hb hby d12_91) rfl rfl ?_
    show Steps p.tables e below (T8.setTop (mkF m 92 #[rv a0_, rv a1_, rv t3] [(.ref a0_), (.ref a0_), (.ref ar)])) _
    refine st9 _ ?_
    show Steps p.tables e below (T9.setTop (mkF m 95 #[rv a0_, rv a1_, rv t3] [(.int (3 : Int32)), (.ref a0_), (.ref ar)])) _
    refine XS.dupX1 X9.here hx rfl (hb hby d12_95) rfl rfl rfl ?_
    show Steps p.tables e below (T9.setTop (mkF m 96 #[rv a0_, rv a1_, rv t3] [(.int (3 : Int32)), (.ref a0_), (.int (3 : Int32)), (.ref ar)])) _
    refine XS.iconst X9.here hx rfl (hb hby d12_96) ?_
    show Steps p.tables e below (T9.setTop (mkF m 97 #[rv a0_, rv a1_, rv t3] [(.int (1 : Int32)), (.int (3 : Int32)), (.ref a0_), (.int (3 : Int32)), (.ref ar)])) _
    refine XS.iadd X9.here hx rfl (hb hby d12_97) rfl ?_
    show Steps p.tables e below (T9.setTop (mkF m 98 #[rv a0_, rv a1_, rv t3] [(.int (4 : Int32)), (.ref a0_), (.int (3 : Int32)), (.ref ar)])) _
    refine st10 _ ?_
    show Steps p.tables e below (T10.setTop (mkF m 101 #[rv a0_, rv a1_, rv t3] [(.int (3 : Int32)), (.ref ar)])) _
    refine XS.aloadN X10.here hx rfl (hb hby d12_101) rfl rfl ?_
    show Steps p.tables e below (T10.setTop (mkF m 102 #[rv a0_, rv a1_, rv t3] [(.ref a1_), (.int (3 : Int32)), (.ref ar)])) _
    refine st21.trans ?_
    show Steps p.tables e below (T21.setTop (mkF m 105 #[rv a0_, rv a1_, rv t3] [(.int tm), (.int (3 : Int32)), (.ref ar)])) _
    refine st23 _ ?_
    show Steps p.tables e below (T23.setTop (mkF m 106 #[rv a0_, rv a1_, rv t3] [])) _
    exact X23.returnOut hx Bd.returns (hb hby d12_106) hr
  · show QAdd3 Z a0_ a1_ t0 t1 t2 t3 d0 d1 d2 d3 oa oc tm h0 n0 _ T23.heap _
    rw [e23]
    exact ⟨rfl, N23, ⟨_, _, _, K23, gar, ArA⟩, ⟨f25, f26, ar, _, _, gar, nea, f27, V23, by rw [List.length_set, hlen]; try rfl⟩⟩
theorem d12_69 : decode prog_12_method_2_code 69 = .ok (.aload_n 0, 1) := by decide +kernel
theorem d12_70 : decode prog_12_method_2_code 70 = .ok (.aload_n 0, 1) := by decide +kernel
theorem d12_71 : decode prog_12_method_2_code 71 = .ok (.getfield 13, 3) := by decide +kernel
theorem d12_74 : decode prog_12_method_2_code 74 = .ok (.iconst 2, 1) := by decide +kernel
theorem d12_75 : decode prog_12_method_2_code 75 = .ok (.aload_n 0, 1) := by decide +kernel
theorem d12_76 : decode prog_12_method_2_code 76 = .ok (.getfield 29, 3) := by decide +kernel
theorem d12_79 : decode prog_12_method_2_code 79 = .ok (.imul, 1) := by decide +kernel
theorem d12_80 : decode prog_12_method_2_code 80 = .ok (.invokestatic 64, 3) := by decide +kernel
theorem pd_9 : parseMethodDescriptor "([II)[I" = some ⟨[(.array .int), .int], some (.array .int)⟩ := by decide +kernel
theorem d12_83 : decode prog_12_method_2_code 83 = .ok (.putfield 13, 3) := by decide +kernel
def QAdd4 (Z : State) (a0_ : Addr) (a1_ : Addr) (t0 t1 t2 t3 d0 d1 d2 d3 oa : Addr) (oc : Cell) (tm : Int32) (h0 : Heap) (n0 : Nat) (v : Option Value) (h : Heap) (L : List Loc) : Prop := v = none ∧ Fr n0 L ∧ (∃ (ar : Addr) (cl : Cell) (ty : FieldType), Keep h0 h [a0_, ar] ∧ n0 ≤ ar ∧ Arr Z h0 ar cl ty) ∧ own_ED Z h n0 a0_ (5 : Int32) (8 : Int32)
theorem ef_rmAdd4 (m : MethodId) (a0_ : Addr) (a1_ : Addr) : entryFrame m #[(.ref a0_), (.ref a1_)] 3 = mkF m 0 #[rv a0_, rv a1_, .unset] [] := by first | (simp [entryFrame, mkF, argsToLocals, Value.category]; done) | rfl
set_option maxRecDepth 65536 in
set_option maxHeartbeats 40000000 in
theorem rmAdd4 (l : Launch) (Z : State) (a0 : Array Value) (hw : ∀ d ∈ tables_1, d.before a0 Z = true) (ws : List Jvm.Cond) (a0_ : Addr) (a1_ : Addr) (t0 t1 t2 t3 d0 d1 d2 d3 oa : Addr) (oc : Cell) (tm : Int32) (h0 : Heap) (n0 : Nat) (Z0 : n0 ≤ h0.size) (hO : Old Z n0 h0) (hst : own_St Z t0 t1 t2 t3 d0 d1 d2 d3 oa oc) (B0 : own_ED Z h0 n0 a0_ (4 : Int32) (4 : Int32)) (g0 : n0 ≤ a0_) (nev : a0_ ≠ a1_) (E1 : Exa Z h0 a1_ "com/example/reroutine/reroutine/scenario/Event") (Fm : Fld Z h0 a1_ "com/example/reroutine/reroutine/scenario/Event" "time" "I" (.int tm)) (Ft : Fld Z h0 a1_ "com/example/reroutine/reroutine/scenario/Event" "type" "Lcom/example/reroutine/reroutine/scenario/EventType;" (.ref t0)) :
    MetFree l (⟨"com/example/reroutine/reroutine/replanning/ExecutedDay", "add", "(Lcom/example/reroutine/reroutine/scenario/Event;)V"⟩ : MethodName) (head1 (Jvm.Cond.code (⟨"com/example/reroutine/reroutine/replanning/ExecutedDay", "add", "(Lcom/example/reroutine/reroutine/scenario/Event;)V"⟩ : MethodName) prog_12_method_2_code 3 none :: ws) ({ frames := 2, cells := 1, slots := 8, locals := 57 } : Room)) (fun a U => a = #[(.ref a0_), (.ref a1_)] ∧ Z.Warmed39 U.vm ∧ U.heap = h0) (fun _ _ _ _ _ => True) (fun _ U o U' => ∃ v L, o = .returned v ∧ QAdd4 Z a0_ a1_ t0 t1 t2 t3 d0 d1 d2 d3 oa oc tm h0 n0 v U'.heap L ∧ FrameEnd U o U' L ({ frames := 2, cells := 1, slots := 8, locals := 57 } : Room).cells ({ frames := 2, cells := 1, slots := 8, locals := 57 } : Room).slots) := by
  refine MetFree.of_bodySF (plainFor_of_name pn_6) hisR ?_
  intro p e s m args below meth c s₁ Bd hml0 hP hK
  obtain ⟨rfl, hZ, hh⟩ := hP
  have hx := Bd.exec
  have hby := Bd.bytes
  have hml : c.maxLocals = 3 := hml0
  have hown : s.vm.findClass "com/example/reroutine/reroutine/replanning/ExecutedDay" = some m.cls := findClass_of_methodNamed Bd.named
  have hnm := (name_of_methodNamed Bd.named Bd.method).1
  have X0 : Stand p l e ({ frames := 2, cells := 1, slots := 8, locals := 57 } : Room) s m #[(.ref a0_), (.ref a1_)] below meth c s₁ [] 0 0 := Stand.of_body Bd
  have e0 : s₁.heap = h0 := by rw [← hh, Bd.state]; rfl
  have N0 := Fr.nil n0
  have S0 : ∀ t, Steps p.tables e below (s₁.setTop (mkF m 0 #[rv a0_, rv a1_, .unset] [])) t → Steps p.tables e below (s₁.setTop (entryFrame m #[(.ref a0_), (.ref a1_)] 3)) t := fun t k => castTop (ef_rmAdd4 m a0_ a1_) k
  obtain ⟨⟨hs0, hx0, hd0⟩, ⟨hs1, hx1, hd1⟩, ⟨hs2, hx2, hd2⟩, ⟨hs3, hx3, hd3⟩, hso, hao, hsz, hq0, hq1, hq2, hq3⟩ := id hst
  obtain ⟨oE, oS, ar, kk, vs, gar, nea, oF, V0, hlen⟩ := id B0
  obtain ⟨clA, ArA, -⟩ := id V0
  have K0 : Keep h0 h0 [a0_, ar] := Keep.refl _ _
  obtain ⟨T1, X1, e1, st1⟩ := getS2 X0 hx hZ hown (host := "") (Or.inl (hw _ (List.mem_of_getElem? (i := 81) rfl))) Via.refl e0 (hso.ext hO.2) (g := (mkF m 0 #[rv a0_, rv a1_, .unset] [])) rfl (hb hby d12_0)
  obtain ⟨T2, X2, e2, st2⟩ := getF X1 hx hZ hown (host := "") (Or.inl (hw _ (List.mem_of_getElem? (i := 95) rfl))) Via.refl e1 oS (g := (mkF m 4 #[rv a0_, rv a1_, .unset] [(.ref a0_), (.ref oa)])) rfl rfl (hb hby d12_4)
  obtain ⟨T3, X3, e3, st3⟩ := getS2 X2 hx hZ hown (host := "") (Or.inl (hw _ (List.mem_of_getElem? (i := 81) rfl))) Via.refl e2 (hso.ext hO.2) (g := (mkF m 7 #[rv a0_, rv a1_, .unset] [(.int (4 : Int32)), (.ref oa)])) rfl (hb hby d12_7)
  obtain ⟨cq4, kq4, q4a, q4b, q4c⟩ := isOf hZ e3 E1
  obtain ⟨_, _, ⟨T4, L4, k4, n4⟩, -, X4, ⟨Lc4, hQ4, l4, y4, z4⟩, st4⟩ := X3.virtualBack hx (y := (⟨"com/example/reroutine/reroutine/scenario/Event", "type", "()Lcom/example/reroutine/reroutine/scenario/EventType;"⟩ : MethodName)) (z := (⟨"com/example/reroutine/reroutine/scenario/Event", "type", "()Lcom/example/reroutine/reroutine/scenario/EventType;"⟩ : MethodName)) hown (mvT hZ (hw _ (List.mem_of_getElem? (i := 102) rfl))) (mvT hZ (hw _ (List.mem_of_getElem? (i := 103) rfl))) (notFace_of_selects (args := #[]) (mvT hZ (hw _ (List.mem_of_getElem? (i := 105) rfl)))) (mvT hZ (hw _ (List.mem_of_getElem? (i := 105) rfl))) (mvT hZ (hw _ (List.mem_of_getElem? (i := 104) rfl))) (by decide) (backOf (W := 0) (rmGtype l Z a0 hw [] a1_ t0 h0 n0 Z0 Ft) hZ (hw _ (List.mem_of_getElem? (i := 106) rfl)) (hw _ (List.mem_of_getElem? (i := 29) rfl)) (by decide) (by decide)) q4a q4c (g := (mkF m 15 #[rv a0_, rv a1_, rv t0] [(.ref a1_)])) rfl (by rw [hml]; rfl) (Steps.refl _) (argsL := []) (rest := []) (lenOf pd_7 rfl) rfl (by show 2 * 0 + _ ≤ _; exact Nat.le_of_eq rfl) (hb hby d12_15) (fun _ _ => ⟨rfl, e3, (by decide : 0 + 0 ≤ _), (by decide : 0 + 0 ≤ _)⟩)
  dsimp only [Pt.U, Pt.locs, Pt.cells, Pt.slots] at X4 l4 y4 z4 st4 hQ4
  subst y4 z4
  obtain ⟨rfl, Nq4, eq4⟩ := hQ4
  have N4 : Fr n0 L4 := by rw [l4]; exact Fr.app N0 Nq4
  obtain ⟨T5, X5, e5, st5⟩ := getF X4 hx hZ hown (host := "") (Or.inl (hw _ (List.mem_of_getElem? (i := 95) rfl))) Via.refl eq4 oS (g := (mkF m 58 #[rv a0_, rv a1_, rv t0] [(.ref a0_)])) rfl rfl (hb hby d12_58)
  obtain ⟨T6, X6, e6, st6⟩ := getF X5 hx hZ hown (host := "") (Or.inl (hw _ (List.mem_of_getElem? (i := 84) rfl))) Via.refl e5 oF (g := (mkF m 62 #[rv a0_, rv a1_, rv t0] [(.ref a0_), (.int (4 : Int32))])) rfl rfl (hb hby d12_62)
  obtain ⟨cl7, Ar7, qa7, Sa7, Na7, Ha7, Ga7⟩ := id V0
  obtain ⟨T8, X8, e8, st8⟩ := getF X6 hx hZ hown (host := "") (Or.inl (hw _ (List.mem_of_getElem? (i := 84) rfl))) Via.refl e6 oF (g := (mkF m 71 #[rv a0_, rv a1_, rv t0] [(.ref a0_), (.ref a0_)])) rfl rfl (hb hby d12_71)
  obtain ⟨T9, X9, e9, st9⟩ := getF X8 hx hZ hown (host := "") (Or.inl (hw _ (List.mem_of_getElem? (i := 95) rfl))) Via.refl e8 oS (g := (mkF m 76 #[rv a0_, rv a1_, rv t0] [(.ref a0_), (.int (2 : Int32)), (.ref ar), (.ref a0_)])) rfl rfl (hb hby d12_76)
  obtain ⟨_, _, ⟨T10, L10, k10, n10⟩, -, X10, ⟨Lc10, hQ10, l10, y10, z10⟩, st10⟩ := Jvm.LawKit.callS X9 hx (y := (⟨"java/util/Arrays", "copyOf", "([II)[I"⟩ : MethodName)) hown (mvT hZ (hw _ (List.mem_of_getElem? (i := 112) rfl))) (mvT hZ (hw _ (List.mem_of_getElem? (i := 113) rfl))) (mvT hZ (hw _ (List.mem_of_getElem? (i := 114) rfl))) (mvT hZ (hw _ (List.mem_of_getElem? (i := 115) rfl))) (by decide) (backOf (W := 1) (rmCopy l Z a0 hw [] ar kk vs h0 n0 Z0 V0) hZ (hw _ (List.mem_of_getElem? (i := 115) rfl)) (hw _ (List.mem_of_getElem? (i := 114) rfl)) (by decide) (by decide)) (g := (mkF m 80 #[rv a0_, rv a1_, rv t0] [(.int (8 : Int32)), (.ref ar), (.ref a0_)])) rfl (by rw [hml]; rfl) (argsL := [(.ref ar), (.int (8 : Int32))]) (rest := [(.ref a0_)]) (lenOf pd_9 rfl) rfl (by show 2 * 0 + _ ≤ _; exact Nat.le_of_eq rfl) (hb hby d12_80) (fun _ _ => ⟨rfl, e9, (by decide : 0 + 1 ≤ _), (by decide : 0 + 8 ≤ _)⟩)
  dsimp only [Pt.U, Pt.locs, Pt.cells, Pt.slots] at X10 l10 y10 z10 st10 hQ10
  subst y10 z10
  obtain ⟨nb10, kb10, wq10, rfl, Nq10, Kq10, geq10, szq10, Vq10, hlq10⟩ := hQ10
  have N10 : Fr n0 L10 := by rw [l10]; exact Fr.app N4 Nq10
  have Z10 : n0 ≤ T10.heap.size := Nat.le_trans Z0 Kq10.1
  have K10 : Keep h0 T10.heap [a0_, ar] := K0.trans Kq10 all0
  have sz_nb10 : h0.size ≤ nb10 := Nat.le_trans K0.1 szq10
  have ne_a0__nb10 : a0_ ≠ nb10 := Nat.ne_of_lt (Nat.lt_of_lt_of_le (oE).lt szq10)
  have ne_a1__nb10 : a1_ ≠ nb10 := Nat.ne_of_lt (Nat.lt_of_lt_of_le (E1).lt szq10)
  have ne_ar_nb10 : ar ≠ nb10 := Nat.ne_of_lt (Nat.lt_of_lt_of_le (V0).lt szq10)
  have Od11 := hO.keep Kq10 all0
  have f12 := oE.keep Kq10
  have f13 := oS.keep Kq10 nin0
  have f14 := oF.keep Kq10 nin0
  have f15 := E1.keep Kq10
  have f16 := Fm.keep Kq10 nin0
  have f17 := Ft.keep Kq10 nin0
  obtain ⟨T18, h18, X18, e18, W18, st18⟩ := putF X10 hx hZ hown (host := "") (Or.inl (hw _ (List.mem_of_getElem? (i := 84) rfl))) Via.refl rfl f14 f12 (Or.inl (hw _ (List.mem_of_getElem? (i := 85) rfl))) (hw _ (List.mem_of_getElem? (i := 75) rfl)) (ty := (.array .int)) (by decide) rfl rfl (g := (mkF m 83 #[rv a0_, rv a1_, rv t0] [(.ref nb10), (.ref a0_)])) rfl rfl (hb hby d12_83)
  have Fw18 := f14.same W18
  have f19 := f13.other W18 (Or.inr (slot_ne (Or.inl (hw _ (List.mem_of_getElem? (i := 96) rfl))) (Or.inl (hw _ (List.mem_of_getElem? (i := 85) rfl))) (by decide) (t := .int) (t' := (.array .int)) (by decide) (by decide)))
  have f20 := f12.wr W18
  have Od21 := Od11.wr W18 g0
  have f25 := f15.wr W18
  have f26 := f16.other W18 (Or.inl (Ne.symm nev))
  have f27 := f17.other W18 (Or.inl (Ne.symm nev))
  have f28 := Vq10.other W18 (Ne.symm ne_a0__nb10)
  have N18 := Fr.snoc X18 N10 g0
  have Z18 : n0 ≤ h18.size := Nat.le_trans Z10 (Keep.of_wr W18).1
  have K18 : Keep h0 h18 [a0_, ar] := K10.wr W18 (Or.inl (List.mem_of_getElem? (i := 0) rfl))
  obtain ⟨T29, X29, e29, st29⟩ := getF X18 hx hZ hown (host := "") (Or.inl (hw _ (List.mem_of_getElem? (i := 84) rfl))) Via.refl e18 Fw18 (g := (mkF m 87 #[rv a0_, rv a1_, rv t0] [(.ref a0_)])) rfl rfl (hb hby d12_87)
  obtain ⟨T30, X30, e30, st30⟩ := getF X29 hx hZ hown (host := "") (Or.inl (hw _ (List.mem_of_getElem? (i := 95) rfl))) Via.refl e29 f19 (g := (mkF m 92 #[rv a0_, rv a1_, rv t0] [(.ref a0_), (.ref a0_), (.ref nb10)])) rfl rfl (hb hby d12_92)
  obtain ⟨T31, h31, X31, e31, W31, st31⟩ := putF X30 hx hZ hown (host := "") (Or.inl (hw _ (List.mem_of_getElem? (i := 95) rfl))) Via.refl e30 f19 f20 (Or.inl (hw _ (List.mem_of_getElem? (i := 96) rfl))) (hw _ (List.mem_of_getElem? (i := 75) rfl)) (ty := .int) (by decide) rfl rfl (g := (mkF m 98 #[rv a0_, rv a1_, rv t0] [(.int (5 : Int32)), (.ref a0_), (.int (4 : Int32)), (.ref nb10)])) rfl rfl (hb hby d12_98)
  have Fw31 := f19.same W31
  have f32 := Fw18.other W31 (Or.inr (slot_ne (Or.inl (hw _ (List.mem_of_getElem? (i := 85) rfl))) (Or.inl (hw _ (List.mem_of_getElem? (i := 96) rfl))) (by decide) (t := (.array .int)) (t' := .int) (by decide) (by decide)))
  have f33 := f20.wr W31
  have Od34 := Od21.wr W31 g0
  have f38 := f25.wr W31
  have f39 := f26.other W31 (Or.inl (Ne.symm nev))
  have f40 := f27.other W31 (Or.inl (Ne.symm nev))
  have f41 := f28.other W31 (Ne.symm ne_a0__nb10)
  have N31 := Fr.snoc X31 N18 g0
  have Z31 : n0 ≤ h31.size := Nat.le_trans Z18 (Keep.of_wr W31).1
  have K31 : Keep h0 h31 [a0_, ar] := K18.wr W31 (Or.inl (List.mem_of_getElem? (i := 0) rfl))
  obtain ⟨cq42, kq42, q42a, q42b, q42c⟩ := isOf hZ e31 f38
  obtain ⟨_, _, ⟨T42, L42, k42, n42⟩, -, X42, ⟨Lc42, hQ42, l42, y42, z42⟩, st42⟩ := X31.virtualBack hx (y := (⟨"com/example/reroutine/reroutine/scenario/Event", "time", "()I"⟩ : MethodName)) (z := (⟨"com/example/reroutine/reroutine/scenario/Event", "time", "()I"⟩ : MethodName)) hown (mvT hZ (hw _ (List.mem_of_getElem? (i := 107) rfl))) (mvT hZ (hw _ (List.mem_of_getElem? (i := 108) rfl))) (notFace_of_selects (args := #[]) (mvT hZ (hw _ (List.mem_of_getElem? (i := 110) rfl)))) (mvT hZ (hw _ (List.mem_of_getElem? (i := 110) rfl))) (mvT hZ (hw _ (List.mem_of_getElem? (i := 109) rfl))) (by decide) (backOf (W := 2) (rmGtime l Z a0 hw [] a1_ tm h31 n0 Z31 f39) hZ (hw _ (List.mem_of_getElem? (i := 111) rfl)) (hw _ (List.mem_of_getElem? (i := 29) rfl)) (by decide) (by decide)) q42a q42c (g := (mkF m 102 #[rv a0_, rv a1_, rv t0] [(.ref a1_), (.int (4 : Int32)), (.ref nb10)])) rfl (by rw [hml]; rfl) (Steps.refl _) (argsL := []) (rest := [(.int (4 : Int32)), (.ref nb10)]) (lenOf pd_8 rfl) rfl (by show 2 * 0 + _ ≤ _; exact Nat.le_of_eq rfl) (hb hby d12_102) (fun _ _ => ⟨rfl, e31, (by decide : 1 + 0 ≤ _), (by decide : 8 + 0 ≤ _)⟩)
  dsimp only [Pt.U, Pt.locs, Pt.cells, Pt.slots] at X42 l42 y42 z42 st42 hQ42
  subst y42 z42
  obtain ⟨rfl, Nq42, eq42⟩ := hQ42
  have N42 : Fr n0 L42 := by rw [l42]; exact Fr.app N31 Nq42
  obtain ⟨cl43, Ar43, qa43, Sa43, Na43, Ha43, Ga43⟩ := id f41
  have hin43 : ¬ ((4 : Int32) < 0 ∨ cl43.slots.size ≤ ((4 : Int32)).toNatClampNeg) := inb_of Sa43 ⟨by decide, by decide⟩
  obtain ⟨T44, h44, X44, e44, W44, st44⟩ := stI X42 hx hZ eq42 Ar43 (j := (4 : Int32)) hin43 (g := (mkF m 105 #[rv a0_, rv a1_, rv t0] [(.int tm), (.int (4 : Int32)), (.ref nb10)])) rfl rfl (hb hby d12_105)
  have V44 := Arv.set Ar43 qa43 Sa43 Na43 Ha43 Ga43 rfl W44 4 rfl (by rw [hlq10]; decide)
  have N44 := Fr.snoc X44 N42 geq10
  have Z44 : n0 ≤ h44.size := Nat.le_trans Z31 (Keep.of_wr W44).1
  have Od45 := Od34.wr W44 geq10
  have f46 := f33.wr W44
  have f47 := Fw31.other W44 (Or.inl ne_a0__nb10)
  have f48 := f32.other W44 (Or.inl ne_a0__nb10)
  have K44 : Keep h0 h44 [a0_, ar] := K31.wr W44 (Or.inr sz_nb10)
  obtain ⟨fs, hr, hrun, hended, hW, hsame⟩ := X44.leave (v := none) (fun _ => rfl)
  refine ⟨_, _, S0 _ ?_, hrun, hended, _, _, rfl, ?_, ⟨_, rfl⟩, hW, hsame.mono (by decide) (by decide)⟩
  · skip
    show Steps p.tables e below (s₁.setTop (mkF m 0 #[rv a0_, rv a1_, .unset] [])) _
    refine st1 _ ?_
    show Steps p.tables e below (T1.setTop (mkF m 3 #[rv a0_, rv a1_, .unset] [(.ref oa)])) _
    refine XS.aloadN X1.here hx rfl (hb hby d12_3) rfl rfl ?_
    show Steps p.tables e below (T1.setTop (mkF m 4 #[rv a0_, rv a1_, .unset] [(.ref a0_), (.ref oa)])) _
    refine st2 _ ?_
    show Steps p.tables e below (T2.setTop (mkF m 7 #[rv a0_, rv a1_, .unset] [(.int (4 : Int32)), (.ref oa)])) _
    refine st3 _ ?_
    show Steps p.tables e below (T3.setTop (mkF m 10 #[rv a0_, rv a1_, .unset] [(.ref oa), (.int (4 : Int32)), (.ref oa)])) _
    refine X3.arraylength hx (by rw [e3]; exact (hao.ext hO.2).1) (State.isArrayOf_alike hZ.alike hao.2.1) (g := (mkF m 10 #[rv a0_, rv a1_, .unset] [(.ref oa), (.int (4 : Int32)), (.ref oa)])) rfl rfl (hb hby d12_10) _ ?_
    rw [len_of hsz (by decide)]
    show Steps p.tables e below (T3.setTop (mkF m 11 #[rv a0_, rv a1_, .unset] [(.int (4 : Int32)), (.int (4 : Int32)), (.ref oa)])) _
    refine iremM X3 hx rfl (hb hby d12_11) rfl (by decide) ?_
    show Steps p.tables e below (T3.setTop (mkF m 12 #[rv a0_, rv a1_, .unset] [(.int (0 : Int32)), (.ref oa)])) _
    refine X3.aaload hx (j := (0 : Int32)) (v := (.ref t0)) (by rw [e3]; exact (hao.ext hO.2).1) (State.isArrayOf_alike hZ.alike hao.2.1) rfl hao.2.2 (inb_of hsz ⟨by decide, by decide⟩) hq0 (g := (mkF m 12 #[rv a0_, rv a1_, .unset] [(.int (0 : Int32)), (.ref oa)])) rfl rfl (hb hby d12_12) _ ?_
    show Steps p.tables e below (T3.setTop (mkF m 13 #[rv a0_, rv a1_, .unset] [(.ref t0)])) _
    refine XS.astoreN X3.here hx rfl (hb hby d12_13) rfl rfl (l' := #[rv a0_, rv a1_, rv t0]) rfl ?_
    show Steps p.tables e below (T3.setTop (mkF m 14 #[rv a0_, rv a1_, rv t0] [])) _
    refine XS.aloadN X3.here hx rfl (hb hby d12_14) rfl rfl ?_
    show Steps p.tables e below (T3.setTop (mkF m 15 #[rv a0_, rv a1_, rv t0] [(.ref a1_)])) _
    refine st4.trans ?_
    show Steps p.tables e below (T4.setTop (mkF m 18 #[rv a0_, rv a1_, rv t0] [(.ref t0)])) _
    refine XS.aloadN X4.here hx rfl (hb hby d12_18) rfl rfl ?_
    show Steps p.tables e below (T4.setTop (mkF m 19 #[rv a0_, rv a1_, rv t0] [(.ref t0), (.ref t0)])) _
    refine Jvm.RoadKit.acmp (g := (mkF m 19 #[rv a0_, rv a1_, rv t0] [(.ref t0), (.ref t0)])) X4 hx rfl rfl rfl (pc0 := 19) (pc' := 57) (same := true) rfl (hb hby d12_19) rfl (decide_eq_true rfl) (by decide) (by decide) ?_
    show Steps p.tables e below (T4.setTop (mkF m 57 #[rv a0_, rv a1_, rv t0] [])) _
    refine XS.aloadN X4.here hx rfl (hb hby d12_57) rfl rfl ?_
    show Steps p.tables e below (T4.setTop (mkF m 58 #[rv a0_, rv a1_, rv t0] [(.ref a0_)])) _
    refine st5 _ ?_
    show Steps p.tables e below (T5.setTop (mkF m 61 #[rv a0_, rv a1_, rv t0] [(.int (4 : Int32))])) _
    refine XS.aloadN X5.here hx rfl (hb hby d12_61) rfl rfl ?_
    show Steps p.tables e below (T5.setTop (mkF m 62 #[rv a0_, rv a1_, rv t0] [(.ref a0_), (.int (4 : Int32))])) _
    refine st6 _ ?_
    show Steps p.tables e below (T6.setTop (mkF m 65 #[rv a0_, rv a1_, rv t0] [(.ref ar), (.int (4 : Int32))])) _
    refine X6.arraylength hx (by rw [e6]; exact Ar7.1) (State.isArrayOf_alike hZ.alike Ar7.2.1) (g := (mkF m 65 #[rv a0_, rv a1_, rv t0] [(.ref ar), (.int (4 : Int32))])) rfl rfl (hb hby d12_65) _ ?_
    rw [len_of Sa7 Na7]
    show Steps p.tables e below (T6.setTop (mkF m 66 #[rv a0_, rv a1_, rv t0] [(.int (4 : Int32)), (.int (4 : Int32))])) _
    refine XS.icmpNo X6.here hx rfl (hb hby d12_66) rfl (teq (by decide : (4 : Int32) = (4 : Int32))).2 ?_
    show Steps p.tables e below (T6.setTop (mkF m 69 #[rv a0_, rv a1_, rv t0] [])) _
    refine XS.aloadN X6.here hx rfl (hb hby d12_69) rfl rfl ?_
    show Steps p.tables e below (T6.setTop (mkF m 70 #[rv a0_, rv a1_, rv t0] [(.ref a0_)])) _
    refine XS.aloadN X6.here hx rfl (hb hby d12_70) rfl rfl ?_
    show Steps p.tables e below (T6.setTop (mkF m 71 #[rv a0_, rv a1_, rv t0] [(.ref a0_), (.ref a0_)])) _
    refine st8 _ ?_
    show Steps p.tables e below (T8.setTop (mkF m 74 #[rv a0_, rv a1_, rv t0] [(.ref ar), (.ref a0_)])) _
    refine XS.iconst X8.here hx rfl (hb hby d12_74) ?_
    show Steps p.tables e below (T8.setTop (mkF m 75 #[rv a0_, rv a1_, rv t0] [(.int (2 : Int32)), (.ref ar), (.ref a0_)])) _
    refine XS.aloadN X8.here hx rfl (hb hby d12_75) rfl rfl ?_
    show Steps p.tables e below (T8.setTop (mkF m 76 #[rv a0_, rv a1_, rv t0] [(.ref a0_), (.int (2 : Int32)), (.ref ar), (.ref a0_)])) _
    refine st9 _ ?_
    show Steps p.tables e below (T9.setTop (mkF m 79 #[rv a0_, rv a1_, rv t0] [(.int (4 : Int32)), (.int (2 : Int32)), (.ref ar), (.ref a0_)])) _
    refine XS.imul X9.here hx rfl (hb hby d12_79) rfl ?_
    show Steps p.tables e below (T9.setTop (mkF m 80 #[rv a0_, rv a1_, rv t0] [(.int (8 : Int32)), (.ref ar), (.ref a0_)])) _
    refine st10 _ ?_
    show Steps p.tables e below (T10.setTop (mkF m 83 #[rv a0_, rv a1_, rv t0] [(.ref nb10), (.ref a0_)])) _
    refine st18 _ ?_
    show Steps p.tables e below (T18.setTop (mkF m 86 #[rv a0_, rv a1_, rv t0] [])) _
    refine XS.aloadN X18.here hx rfl (hb hby d12_86) rfl rfl ?_
    show Steps p.tables e below (T18.setTop (mkF m 87 #[rv a0_, rv a1_, rv t0] [(.ref a0_)])) _
    refine st29 _ ?_
    show Steps p.tables e below (T29.setTop (mkF m 90 #[rv a0_, rv a1_, rv t0] [(.ref nb10)])) _
    refine XS.aloadN X29.here hx rfl (hb hby d12_90) rfl rfl ?_
    show Steps p.tables e below (T29.setTop (mkF m 91 #[rv a0_, rv a1_, rv t0] [(.ref a0_), (.ref nb10)])) _
    refine XS.dup X29.here hx rfl (hb hby d12_91) rfl rfl ?_
    show Steps p.tables e below (T29.setTop (mkF m 92 #[rv a0_, rv a1_, rv t0] [(.ref a0_), (.ref a0_), (.ref nb10)])) _
    refine st30 _ ?_
    show Steps p.tables e below (T30.setTop (mkF m 95 #[rv a0_, rv a1_, rv t0] [(.int (4 : Int32)), (.ref a0_), (.ref nb10)])) _
    refine XS.dupX1 X30.here hx rfl (hb hby d12_95) rfl rfl rfl ?_
    show Steps p.tables e below (T30.setTop (mkF m 96 #[rv a0_, rv a1_, rv t0] [(.int (4 : Int32)), (.ref a0_), (.int (4 : Int32)), (.ref nb10)])) _
    refine XS.iconst X30.here hx rfl (hb hby d12_96) ?_
    show Steps p.tables e below (T30.setTop (mkF m 97 #[rv a0_, rv a1_, rv t0] [(.int (1 : Int32)), (.int (4 : Int32)), (.ref a0_), (.int (4 : Int32)), (.ref nb10)])) _
    refine XS.iadd X30.here hx rfl (hb hby d12_97) rfl ?_
    show Steps p.tables e below (T30.setTop (mkF m 98 #[rv a0_, rv a1_, rv t0] [(.int (5 : Int32)), (.ref a0_), (.int (4 : Int32)), (.ref nb10)])) _
    refine st31 _ ?_
    show Steps p.tables e below (T31.setTop (mkF m 101 #[rv a0_, rv a1_, rv t0] [(.int (4 : Int32)), (.ref nb10)])) _
    refine XS.aloadN X31.here hx rfl (hb hby d12_101) rfl rfl ?_
    show Steps p.tables e below (T31.setTop (mkF m 102 #[rv a0_, rv a1_, rv t0] [(.ref a1_), (.int (4 : Int32)), (.ref nb10)])) _
    refine st42.trans ?_
    show Steps p.tables e below (T42.setTop (mkF m 105 #[rv a0_, rv a1_, rv t0] [(.int tm), (.int (4 : Int32)), (.ref nb10)])) _
    refine st44 _ ?_
    show Steps p.tables e below (T44.setTop (mkF m 106 #[rv a0_, rv a1_, rv t0] [])) _
    exact X44.returnOut hx Bd.returns (hb hby d12_106) hr
  · show QAdd4 Z a0_ a1_ t0 t1 t2 t3 d0 d1 d2 d3 oa oc tm h0 n0 _ T44.heap _
    rw [e44]
    exact ⟨rfl, N44, ⟨_, _, _, K44, gar, ArA⟩, ⟨f46, f47, nb10, _, _, geq10, ne_a0__nb10, f48, V44, by rw [List.length_set, hlq10]; try rfl⟩⟩
def QAdd5 (Z : State) (a0_ : Addr) (a1_ : Addr) (t0 t1 t2 t3 d0 d1 d2 d3 oa : Addr) (oc : Cell) (tm : Int32) (h0 : Heap) (n0 : Nat) (v : Option Value) (h : Heap) (L : List Loc) : Prop := v = none ∧ Fr n0 L ∧ (∃ (ar : Addr) (cl : Cell) (ty : FieldType), Keep h0 h [a0_, ar] ∧ n0 ≤ ar ∧ Arr Z h0 ar cl ty) ∧ own_ED Z h n0 a0_ (6 : Int32) (8 : Int32)
theorem ef_rmAdd5 (m : MethodId) (a0_ : Addr) (a1_ : Addr) : entryFrame m #[(.ref a0_), (.ref a1_)] 3 = mkF m 0 #[rv a0_, rv a1_, .unset] [] := by first | (simp [entryFrame, mkF, argsToLocals, Value.category]; done) | rfl
set_option maxRecDepth 65536 in
set_option maxHeartbeats 40000000 in
theorem rmAdd5 (l : Launch) (Z : State) (a0 : Array Value) (hw : ∀ d ∈ tables_1, d.before a0 Z = true) (ws : List Jvm.Cond) (a0_ : Addr) (a1_ : Addr) (t0 t1 t2 t3 d0 d1 d2 d3 oa : Addr) (oc : Cell) (tm : Int32) (h0 : Heap) (n0 : Nat) (Z0 : n0 ≤ h0.size) (hO : Old Z n0 h0) (hst : own_St Z t0 t1 t2 t3 d0 d1 d2 d3 oa oc) (B0 : own_ED Z h0 n0 a0_ (5 : Int32) (8 : Int32)) (g0 : n0 ≤ a0_) (nev : a0_ ≠ a1_) (E1 : Exa Z h0 a1_ "com/example/reroutine/reroutine/scenario/Event") (Fm : Fld Z h0 a1_ "com/example/reroutine/reroutine/scenario/Event" "time" "I" (.int tm)) (Ft : Fld Z h0 a1_ "com/example/reroutine/reroutine/scenario/Event" "type" "Lcom/example/reroutine/reroutine/scenario/EventType;" (.ref t1)) :
    MetFree l (⟨"com/example/reroutine/reroutine/replanning/ExecutedDay", "add", "(Lcom/example/reroutine/reroutine/scenario/Event;)V"⟩ : MethodName) (head1 (Jvm.Cond.code (⟨"com/example/reroutine/reroutine/replanning/ExecutedDay", "add", "(Lcom/example/reroutine/reroutine/scenario/Event;)V"⟩ : MethodName) prog_12_method_2_code 3 none :: ws) ({ frames := 1, cells := 0, slots := 0, locals := 16 } : Room)) (fun a U => a = #[(.ref a0_), (.ref a1_)] ∧ Z.Warmed39 U.vm ∧ U.heap = h0) (fun _ _ _ _ _ => True) (fun _ U o U' => ∃ v L, o = .returned v ∧ QAdd5 Z a0_ a1_ t0 t1 t2 t3 d0 d1 d2 d3 oa oc tm h0 n0 v U'.heap L ∧ FrameEnd U o U' L ({ frames := 1, cells := 0, slots := 0, locals := 16 } : Room).cells ({ frames := 1, cells := 0, slots := 0, locals := 16 } : Room).slots) := by
  refine MetFree.of_bodySF (plainFor_of_name pn_6) hisR ?_
  intro p e s m args below meth c s₁ Bd hml0 hP hK
  obtain ⟨rfl, hZ, hh⟩ := hP
  have hx := Bd.exec
  have hby := Bd.bytes
  have hml : c.maxLocals = 3 := hml0
  have hown : s.vm.findClass "com/example/reroutine/reroutine/replanning/ExecutedDay" = some m.cls := findClass_of_methodNamed Bd.named
  have hnm := (name_of_methodNamed Bd.named Bd.method).1
  have X0 : Stand p l e ({ frames := 1, cells := 0, slots := 0, locals := 16 } : Room) s m #[(.ref a0_), (.ref a1_)] below meth c s₁ [] 0 0 := Stand.of_body Bd
  have e0 : s₁.heap = h0 := by rw [← hh, Bd.state]; rfl
  have N0 := Fr.nil n0
  have S0 : ∀ t, Steps p.tables e below (s₁.setTop (mkF m 0 #[rv a0_, rv a1_, .unset] [])) t → Steps p.tables e below (s₁.setTop (entryFrame m #[(.ref a0_), (.ref a1_)] 3)) t := fun t k => castTop (ef_rmAdd5 m a0_ a1_) k
  obtain ⟨⟨hs0, hx0, hd0⟩, ⟨hs1, hx1, hd1⟩, ⟨hs2, hx2, hd2⟩, ⟨hs3, hx3, hd3⟩, hso, hao, hsz, hq0, hq1, hq2, hq3⟩ := id hst
  obtain ⟨oE, oS, ar, kk, vs, gar, nea, oF, V0, hlen⟩ := id B0
  obtain ⟨clA, ArA, -⟩ := id V0
  have K0 : Keep h0 h0 [a0_, ar] := Keep.refl _ _
  obtain ⟨T1, X1, e1, st1⟩ := getS2 X0 hx hZ hown (host := "") (Or.inl (hw _ (List.mem_of_getElem? (i := 81) rfl))) Via.refl e0 (hso.ext hO.2) (g := (mkF m 0 #[rv a0_, rv a1_, .unset] [])) rfl (hb hby d12_0)
  obtain ⟨T2, X2, e2, st2⟩ := getF X1 hx hZ hown (host := "") (Or.inl (hw _ (List.mem_of_getElem? (i := 95) rfl))) Via.refl e1 oS (g := (mkF m 4 #[rv a0_, rv a1_, .unset] [(.ref a0_), (.ref oa)])) rfl rfl (hb hby d12_4)
  obtain ⟨T3, X3, e3, st3⟩ := getS2 X2 hx hZ hown (host := "") (Or.inl (hw _ (List.mem_of_getElem? (i := 81) rfl))) Via.refl e2 (hso.ext hO.2) (g := (mkF m 7 #[rv a0_, rv a1_, .unset] [(.int (5 : Int32)), (.ref oa)])) rfl (hb hby d12_7)
  obtain ⟨cq4, kq4, q4a, q4b, q4c⟩ := isOf hZ e3 E1
  obtain ⟨_, _, ⟨T4, L4, k4, n4⟩, -, X4, ⟨Lc4, hQ4, l4, y4, z4⟩, st4⟩ := X3.virtualBack hx (y := (⟨"com/example/reroutine/reroutine/scenario/Event", "type", "()Lcom/example/reroutine/reroutine/scenario/EventType;"⟩ : MethodName)) (z := (⟨"com/example/reroutine/reroutine/scenario/Event", "type", "()Lcom/example/reroutine/reroutine/scenario/EventType;"⟩ : MethodName)) hown (mvT hZ (hw _ (List.mem_of_getElem? (i := 102) rfl))) (mvT hZ (hw _ (List.mem_of_getElem? (i := 103) rfl))) (notFace_of_selects (args := #[]) (mvT hZ (hw _ (List.mem_of_getElem? (i := 105) rfl)))) (mvT hZ (hw _ (List.mem_of_getElem? (i := 105) rfl))) (mvT hZ (hw _ (List.mem_of_getElem? (i := 104) rfl))) (by decide) (backOf (W := 0) (rmGtype l Z a0 hw [] a1_ t1 h0 n0 Z0 Ft) hZ (hw _ (List.mem_of_getElem? (i := 106) rfl)) (hw _ (List.mem_of_getElem? (i := 29) rfl)) (by decide) (by decide)) q4a q4c (g := (mkF m 15 #[rv a0_, rv a1_, rv t1] [(.ref a1_)])) rfl (by rw [hml]; rfl) (Steps.refl _) (argsL := []) (rest := []) (lenOf pd_7 rfl) rfl (by show 2 * 0 + _ ≤ _; exact Nat.le_of_eq rfl) (hb hby d12_15) (fun _ _ => ⟨rfl, e3, (by decide : 0 + 0 ≤ _), (by decide : 0 + 0 ≤ _)⟩)
  dsimp only [Pt.U, Pt.locs, Pt.cells, Pt.slots] at X4 l4 y4 z4 st4 hQ4
  subst y4 z4
  obtain ⟨rfl, Nq4, eq4⟩ := hQ4
  have N4 : Fr n0 L4 := by rw [l4]; exact Fr.app N0 Nq4
  obtain ⟨T5, X5, e5, st5⟩ := getF X4 hx hZ hown (host := "") (Or.inl (hw _ (List.mem_of_getElem? (i := 95) rfl))) Via.refl eq4 oS (g := (mkF m 58 #[rv a0_, rv a1_, rv t1] [(.ref a0_)])) rfl rfl (hb hby d12_58)
  obtain ⟨T6, X6, e6, st6⟩ := getF X5 hx hZ hown (host := "") (Or.inl (hw _ (List.mem_of_getElem? (i := 84) rfl))) Via.refl e5 oF (g := (mkF m 62 #[rv a0_, rv a1_, rv t1] [(.ref a0_), (.int (5 : Int32))])) rfl rfl (hb hby d12_62)
  obtain ⟨cl7, Ar7, qa7, Sa7, Na7, Ha7, Ga7⟩ := id V0
  obtain ⟨T8, X8, e8, st8⟩ := getF X6 hx hZ hown (host := "") (Or.inl (hw _ (List.mem_of_getElem? (i := 84) rfl))) Via.refl e6 oF (g := (mkF m 87 #[rv a0_, rv a1_, rv t1] [(.ref a0_)])) rfl rfl (hb hby d12_87)
  obtain ⟨T9, X9, e9, st9⟩ := getF X8 hx hZ hown (host := "") (Or.inl (hw _ (List.mem_of_getElem? (i := 95) rfl))) Via.refl e8 oS (g := (mkF m 92 #[rv a0_, rv a1_, rv t1] [(.ref a0_), (.ref a0_), (.ref ar)])) rfl rfl (hb hby d12_92)
  obtain ⟨T10, h10, X10, e10, W10, st10⟩ := putF X9 hx hZ hown (host := "") (Or.inl (hw _ (List.mem_of_getElem? (i := 95) rfl))) Via.refl e9 oS oE (Or.inl (hw _ (List.mem_of_getElem? (i := 96) rfl))) (hw _ (List.mem_of_getElem? (i := 75) rfl)) (ty := .int) (by decide) rfl rfl (g := (mkF m 98 #[rv a0_, rv a1_, rv t1] [(.int (6 : Int32)), (.ref a0_), (.int (5 : Int32)), (.ref ar)])) rfl rfl (hb hby d12_98)
  have Fw10 := oS.same W10
  have f11 := oF.other W10 (Or.inr (slot_ne (Or.inl (hw _ (List.mem_of_getElem? (i := 85) rfl))) (Or.inl (hw _ (List.mem_of_getElem? (i := 96) rfl))) (by decide) (t := (.array .int)) (t' := .int) (by decide) (by decide)))
  have f12 := oE.wr W10
  have Od13 := hO.wr W10 g0
  have f17 := V0.other W10 (Ne.symm nea)
  have f18 := E1.wr W10
  have f19 := Fm.other W10 (Or.inl (Ne.symm nev))
  have f20 := Ft.other W10 (Or.inl (Ne.symm nev))
  have N10 := Fr.snoc X10 N4 g0
  have Z10 : n0 ≤ h10.size := Nat.le_trans Z0 (Keep.of_wr W10).1
  have K10 : Keep h0 h10 [a0_, ar] := K0.wr W10 (Or.inl (List.mem_of_getElem? (i := 0) rfl))
  obtain ⟨cq21, kq21, q21a, q21b, q21c⟩ := isOf hZ e10 f18
  obtain ⟨_, _, ⟨T21, L21, k21, n21⟩, -, X21, ⟨Lc21, hQ21, l21, y21, z21⟩, st21⟩ := X10.virtualBack hx (y := (⟨"com/example/reroutine/reroutine/scenario/Event", "time", "()I"⟩ : MethodName)) (z := (⟨"com/example/reroutine/reroutine/scenario/Event", "time", "()I"⟩ : MethodName)) hown (mvT hZ (hw _ (List.mem_of_getElem? (i := 107) rfl))) (mvT hZ (hw _ (List.mem_of_getElem? (i := 108) rfl))) (notFace_of_selects (args := #[]) (mvT hZ (hw _ (List.mem_of_getElem? (i := 110) rfl)))) (mvT hZ (hw _ (List.mem_of_getElem? (i := 110) rfl))) (mvT hZ (hw _ (List.mem_of_getElem? (i := 109) rfl))) (by decide) (backOf (W := 2) (rmGtime l Z a0 hw [] a1_ tm h10 n0 Z10 f19) hZ (hw _ (List.mem_of_getElem? (i := 111) rfl)) (hw _ (List.mem_of_getElem? (i := 29) rfl)) (by decide) (by decide)) q21a q21c (g := (mkF m 102 #[rv a0_, rv a1_, rv t1] [(.ref a1_), (.int (5 : Int32)), (.ref ar)])) rfl (by rw [hml]; rfl) (Steps.refl _) (argsL := []) (rest := [(.int (5 : Int32)), (.ref ar)]) (lenOf pd_8 rfl) rfl (by show 2 * 0 + _ ≤ _; exact Nat.le_of_eq rfl) (hb hby d12_102) (fun _ _ => ⟨rfl, e10, (by decide : 0 + 0 ≤ _), (by decide : 0 + 0 ≤ _)⟩)
  dsimp only [Pt.U, Pt.locs, Pt.cells, Pt.slots] at X21 l21 y21 z21 st21 hQ21
  subst y21 z21
  obtain ⟨rfl, Nq21, eq21⟩ := hQ21
  have N21 : Fr n0 L21 := by rw [l21]; exact Fr.app N10 Nq21
  obtain ⟨cl22, Ar22, qa22, Sa22, Na22, Ha22, Ga22⟩ := id f17
  have hin22 : ¬ ((5 : Int32) < 0 ∨ cl22.slots.size ≤ ((5 : Int32)).toNatClampNeg) := inb_of Sa22 ⟨by decide, by decide⟩
  obtain ⟨T23, h23, X23, e23, W23, st23⟩ := stI X21 hx hZ eq21 Ar22 (j := (5 : Int32)) hin22 (g := (mkF m 105 #[rv a0_, rv a1_, rv t1] [(.int tm), (.int (5 : Int32)), (.ref ar)])) rfl rfl (hb hby d12_105)
  have V23 := Arv.set Ar22 qa22 Sa22 Na22 Ha22 Ga22 rfl W23 5 rfl (by rw [hlen]; decide)
  have N23 := Fr.snoc X23 N21 gar
  have Z23 : n0 ≤ h23.size := Nat.le_trans Z10 (Keep.of_wr W23).1
  have Od24 := Od13.wr W23 gar
  have f25 := f12.wr W23
  have f26 := Fw10.other W23 (Or.inl nea)
  have f27 := f11.other W23 (Or.inl nea)
  have K23 : Keep h0 h23 [a0_, ar] := K10.wr W23 (Or.inl (List.mem_of_getElem? (i := 1) rfl))
  obtain ⟨fs, hr, hrun, hended, hW, hsame⟩ := X23.leave (v := none) (fun _ => rfl)
  refine ⟨_, _, S0 _ ?_, hrun, hended, _, _, rfl, ?_, ⟨_, rfl⟩, hW, hsame.mono (by decide) (by decide)⟩
  · skip
    show Steps p.tables e below (s₁.setTop (mkF m 0 #[rv a0_, rv a1_, .unset] [])) _
    refine st1 _ ?_
    show Steps p.tables e below (T1.setTop (mkF m 3 #[rv a0_, rv a1_, .unset] [(.ref oa)])) _
    refine XS.aloadN X1.here hx rfl (hb hby d12_3) rfl rfl ?_
    show Steps p.tables e below (T1.setTop (mkF m 4 #[rv a0_, rv a1_, .unset] [(.ref a0_), (.ref oa)])) _
    refine st2 _ ?_
    show Steps p.tables e below (T2.setTop (mkF m 7 #[rv a0_, rv a1_, .unset] [(.int (5 : Int32)), (.ref oa)])) _
    refine st3 _ ?_
    show Steps p.tables e below (T3.setTop (mkF m 10 #[rv a0_, rv a1_, .unset] [(.ref oa), (.int (5 : Int32)), (.ref oa)])) _
    refine X3.arraylength hx (by rw [e3]; exact (hao.ext hO.2).1) (State.isArrayOf_alike hZ.alike hao.2.1) (g := (mkF m 10 #[rv a0_, rv a1_, .unset] [(.ref oa), (.int (5 : Int32)), (.ref oa)])) rfl rfl (hb hby d12_10) _ ?_
    rw [len_of hsz (by decide)]
    show Steps p.tables e below (T3.setTop (mkF m 11 #[rv a0_, rv a1_, .unset] [(.int (4 : Int32)), (.int (5 : Int32)), (.ref oa)])) _
    refine iremM X3 hx rfl (hb hby d12_11) rfl (by decide) ?_
    show Steps p.tables e below (T3.setTop (mkF m 12 #[rv a0_, rv a1_, .unset] [(.int (1 : Int32)), (.ref oa)])) _
    refine X3.aaload hx (j := (1 : Int32)) (v := (.ref t1)) (by rw [e3]; exact (hao.ext hO.2).1) (State.isArrayOf_alike hZ.alike hao.2.1) rfl hao.2.2 (inb_of hsz ⟨by decide, by decide⟩) hq1 (g := (mkF m 12 #[rv a0_, rv a1_, .unset] [(.int (1 : Int32)), (.ref oa)])) rfl rfl (hb hby d12_12) _ ?_
    show Steps p.tables e below (T3.setTop (mkF m 13 #[rv a0_, rv a1_, .unset] [(.ref t1)])) _
    refine XS.astoreN X3.here hx rfl (hb hby d12_13) rfl rfl (l' := #[rv a0_, rv a1_, rv t1]) rfl ?_
    show Steps p.tables e below (T3.setTop (mkF m 14 #[rv a0_, rv a1_, rv t1] [])) _
    refine XS.aloadN X3.here hx rfl (hb hby d12_14) rfl rfl ?_
    show Steps p.tables e below (T3.setTop (mkF m 15 #[rv a0_, rv a1_, rv t1] [(.ref a1_)])) _
    refine st4.trans ?_
    show Steps p.tables e below (T4.setTop (mkF m 18 #[rv a0_, rv a1_, rv t1] [(.ref t1)])) _
    refine XS.aloadN X4.here hx rfl (hb hby d12_18) rfl rfl ?_
    show Steps p.tables e below (T4.setTop (mkF m 19 #[rv a0_, rv a1_, rv t1] [(.ref t1), (.ref t1)])) _
    refine Jvm.RoadKit.acmp (g := (mkF m 19 #[rv a0_, rv a1_, rv t1] [(.ref t1), (.ref t1)])) X4 hx rfl rfl rfl (pc0 := 19) (pc' := 57) (same := true) rfl (hb hby d12_19) rfl (decide_eq_true rfl) (by decide) (by decide) ?_
    show Steps p.tables e below (T4.setTop (mkF m 57 #[rv a0_, rv a1_, rv t1] [])) _
    refine XS.aloadN X4.here hx rfl (hb hby d12_57) rfl rfl ?_
    show Steps p.tables e below (T4.setTop (mkF m 58 #[rv a0_, rv a1_, rv t1] [(.ref a0_)])) _
    refine st5 _ ?_
    show Steps p.tables e below (T5.setTop (mkF m 61 #[rv a0_, rv a1_, rv t1] [(.int (5 : Int32))])) _
    refine XS.aloadN X5.here hx rfl (hb hby d12_61) rfl rfl ?_
    show Steps p.tables e below (T5.setTop (mkF m 62 #[rv a0_, rv a1_, rv t1] [(.ref a0_), (.int (5 : Int32))])) _
    refine st6 _ ?_
    show Steps p.tables e below (T6.setTop (mkF m 65 #[rv a0_, rv a1_, rv t1] [(.ref ar), (.int (5 : Int32))])) _
    refine X6.arraylength hx (by rw [e6]; exact Ar7.1) (State.isArrayOf_alike hZ.alike Ar7.2.1) (g := (mkF m 65 #[rv a0_, rv a1_, rv t1] [(.ref ar), (.int (5 : Int32))])) rfl rfl (hb hby d12_65) _ ?_
    rw [len_of Sa7 Na7]
    show Steps p.tables e below (T6.setTop (mkF m 66 #[rv a0_, rv a1_, rv t1] [(.int (8 : Int32)), (.int (5 : Int32))])) _
    refine XS.icmpYes X6.here hx rfl (pc0 := 66) (pc' := 86) rfl (hb hby d12_66) rfl (feq (by decide : ¬ ((5 : Int32) = (8 : Int32)))).2 (by decide) (by decide) ?_
    show Steps p.tables e below (T6.setTop (mkF m 86 #[rv a0_, rv a1_, rv t1] [])) _
    refine XS.aloadN X6.here hx rfl (hb hby d12_86) rfl rfl ?_
    show Steps p.tables e below (T6.setTop (mkF m 87 #[rv a0_, rv a1_, rv t1] [(.ref a0_)])) _
    refine st8 _ ?_
    show Steps p.tables e below (T8.setTop (mkF m 90 #[rv a0_, rv a1_, rv t1] [(.ref ar)])) _
    refine XS.aloadN X8.here hx rfl (hb hby d12_90) rfl rfl ?_
    show Steps p.tables e below (T8.setTop (mkF m 91 #[rv a0_, rv a1_, rv t1] [(.ref a0_), (.ref ar)])) _
    refine XS.dup X8.here hx rfl (hb hby d12_91) rfl rfl ?_
    show Steps p.tables e below (T8.setTop (mkF m 92 #[rv a0_, rv a1_, rv t1] [(.ref a0_), (.ref a0_), (.ref ar)])) _
    refine st9 _ ?_
    show Steps p.tables e below (T9.setTop (mkF m 95 #[rv a0_, rv a1_, rv t1] [(.int (5 : Int32)), (.ref a0_), (.ref ar)])) _
    refine XS.dupX1 X9.here hx rfl (hb hby d12_95) rfl rfl rfl ?_
    show Steps p.tables e below (T9.setTop (mkF m 96 #[rv a0_, rv a1_, rv t1] [(.int (5 : Int32)), (.ref a0_), (.int (5 : Int32)), (.ref ar)])) _
    refine XS.iconst X9.here hx rfl (hb hby d12_96) ?_
    show Steps p.tables e below (T9.setTop (mkF m 97 #[rv a0_, rv a1_, rv t1] [(.int (1 : Int32)), (.int (5 : Int32)), (.ref a0_), (.int (5 : Int32)), (.ref ar)])) _
    refine XS.iadd X9.here hx rfl (hb hby d12_97) rfl ?_
    show Steps p.tables e below (T9.setTop (mkF m 98 #[rv a0_, rv a1_, rv t1] [(.int (6 : Int32)), (.ref a0_), (.int (5 : Int32)), (.ref ar)])) _
    refine st10 _ ?_
    show Steps p.tables e below (T10.setTop (mkF m 101 #[rv a0_, rv a1_, rv t1] [(.int (5 : Int32)), (.ref ar)])) _
    refine XS.aloadN X10.here hx rfl (hb hby d12_101) rfl rfl ?_
    show Steps p.tables e below (T10.setTop (mkF m 102 #[rv a0_, rv a1_, rv t1] [(.ref a1_), (.int (5 : Int32)), (.ref ar)])) _
    refine st21.trans ?_
    show Steps p.tables e below (T21.setTop (mkF m 105 #[rv a0_, rv a1_, rv t1] [(.int tm), (.int (5 : Int32)), (.ref ar)])) _
    refine st23 _ ?_
    show Steps p.tables e below (T23.setTop (mkF m 106 #[rv a0_, rv a1_, rv t1] [])) _
    exact X23.returnOut hx Bd.returns (hb hby d12_106) hr
  · show QAdd5 Z a0_ a1_ t0 t1 t2 t3 d0 d1 d2 d3 oa oc tm h0 n0 _ T23.heap _
    rw [e23]
    exact ⟨rfl, N23, ⟨_, _, _, K23, gar, ArA⟩, ⟨f25, f26, ar, _, _, gar, nea, f27, V23, by rw [List.length_set, hlen]; try rfl⟩⟩
def QAdd6 (Z : State) (a0_ : Addr) (a1_ : Addr) (t0 t1 t2 t3 d0 d1 d2 d3 oa : Addr) (oc : Cell) (tm : Int32) (h0 : Heap) (n0 : Nat) (v : Option Value) (h : Heap) (L : List Loc) : Prop := v = none ∧ Fr n0 L ∧ (∃ (ar : Addr) (cl : Cell) (ty : FieldType), Keep h0 h [a0_, ar] ∧ n0 ≤ ar ∧ Arr Z h0 ar cl ty) ∧ own_ED Z h n0 a0_ (7 : Int32) (8 : Int32)
theorem ef_rmAdd6 (m : MethodId) (a0_ : Addr) (a1_ : Addr) : entryFrame m #[(.ref a0_), (.ref a1_)] 3 = mkF m 0 #[rv a0_, rv a1_, .unset] [] := by first | (simp [entryFrame, mkF, argsToLocals, Value.category]; done) | rfl
set_option maxRecDepth 65536 in
set_option maxHeartbeats 40000000 in
theorem rmAdd6 (l : Launch) (Z : State) (a0 : Array Value) (hw : ∀ d ∈ tables_1, d.before a0 Z = true) (ws : List Jvm.Cond) (a0_ : Addr) (a1_ : Addr) (t0 t1 t2 t3 d0 d1 d2 d3 oa : Addr) (oc : Cell) (tm : Int32) (h0 : Heap) (n0 : Nat) (Z0 : n0 ≤ h0.size) (hO : Old Z n0 h0) (hst : own_St Z t0 t1 t2 t3 d0 d1 d2 d3 oa oc) (B0 : own_ED Z h0 n0 a0_ (6 : Int32) (8 : Int32)) (g0 : n0 ≤ a0_) (nev : a0_ ≠ a1_) (E1 : Exa Z h0 a1_ "com/example/reroutine/reroutine/scenario/Event") (Fm : Fld Z h0 a1_ "com/example/reroutine/reroutine/scenario/Event" "time" "I" (.int tm)) (Ft : Fld Z h0 a1_ "com/example/reroutine/reroutine/scenario/Event" "type" "Lcom/example/reroutine/reroutine/scenario/EventType;" (.ref t2)) :
    MetFree l (⟨"com/example/reroutine/reroutine/replanning/ExecutedDay", "add", "(Lcom/example/reroutine/reroutine/scenario/Event;)V"⟩ : MethodName) (head1 (Jvm.Cond.code (⟨"com/example/reroutine/reroutine/replanning/ExecutedDay", "add", "(Lcom/example/reroutine/reroutine/scenario/Event;)V"⟩ : MethodName) prog_12_method_2_code 3 none :: ws) ({ frames := 1, cells := 0, slots := 0, locals := 16 } : Room)) (fun a U => a = #[(.ref a0_), (.ref a1_)] ∧ Z.Warmed39 U.vm ∧ U.heap = h0) (fun _ _ _ _ _ => True) (fun _ U o U' => ∃ v L, o = .returned v ∧ QAdd6 Z a0_ a1_ t0 t1 t2 t3 d0 d1 d2 d3 oa oc tm h0 n0 v U'.heap L ∧ FrameEnd U o U' L ({ frames := 1, cells := 0, slots := 0, locals := 16 } : Room).cells ({ frames := 1, cells := 0, slots := 0, locals := 16 } : Room).slots) := by
  refine MetFree.of_bodySF (plainFor_of_name pn_6) hisR ?_
  intro p e s m args below meth c s₁ Bd hml0 hP hK
  obtain ⟨rfl, hZ, hh⟩ := hP
  have hx := Bd.exec
  have hby := Bd.bytes
  have hml : c.maxLocals = 3 := hml0
  have hown : s.vm.findClass "com/example/reroutine/reroutine/replanning/ExecutedDay" = some m.cls := findClass_of_methodNamed Bd.named
  have hnm := (name_of_methodNamed Bd.named Bd.method).1
  have X0 : Stand p l e ({ frames := 1, cells := 0, slots := 0, locals := 16 } : Room) s m #[(.ref a0_), (.ref a1_)] below meth c s₁ [] 0 0 := Stand.of_body Bd
  have e0 : s₁.heap = h0 := by rw [← hh, Bd.state]; rfl
  have N0 := Fr.nil n0
  have S0 : ∀ t, Steps p.tables e below (s₁.setTop (mkF m 0 #[rv a0_, rv a1_, .unset] [])) t → Steps p.tables e below (s₁.setTop (entryFrame m #[(.ref a0_), (.ref a1_)] 3)) t := fun t k => castTop (ef_rmAdd6 m a0_ a1_) k
  obtain ⟨⟨hs0, hx0, hd0⟩, ⟨hs1, hx1, hd1⟩, ⟨hs2, hx2, hd2⟩, ⟨hs3, hx3, hd3⟩, hso, hao, hsz, hq0, hq1, hq2, hq3⟩ := id hst
  obtain ⟨oE, oS, ar, kk, vs, gar, nea, oF, V0, hlen⟩ := id B0
  obtain ⟨clA, ArA, -⟩ := id V0
  have K0 : Keep h0 h0 [a0_, ar] := Keep.refl _ _
  obtain ⟨T1, X1, e1, st1⟩ := getS2 X0 hx hZ hown (host := "") (Or.inl (hw _ (List.mem_of_getElem? (i := 81) rfl))) Via.refl e0 (hso.ext hO.2) (g := (mkF m 0 #[rv a0_, rv a1_, .unset] [])) rfl (hb hby d12_0)
  obtain ⟨T2, X2, e2, st2⟩ := getF X1 hx hZ hown (host := "") (Or.inl (hw _ (List.mem_of_getElem? (i := 95) rfl))) Via.refl e1 oS (g := (mkF m 4 #[rv a0_, rv a1_, .unset] [(.ref a0_), (.ref oa)])) rfl rfl (hb hby d12_4)
  obtain ⟨T3, X3, e3, st3⟩ := getS2 X2 hx hZ hown (host := "") (Or.inl (hw _ (List.mem_of_getElem? (i := 81) rfl))) Via.refl e2 (hso.ext hO.2) (g := (mkF m 7 #[rv a0_, rv a1_, .unset] [(.int (6 : Int32)), (.ref oa)])) rfl (hb hby d12_7)
  obtain ⟨cq4, kq4, q4a, q4b, q4c⟩ := isOf hZ e3 E1
  obtain ⟨_, _, ⟨T4, L4, k4, n4⟩, -, X4, ⟨Lc4, hQ4, l4, y4, z4⟩, st4⟩ := X3.virtualBack hx (y := (⟨"com/example/reroutine/reroutine/scenario/Event", "type", "()Lcom/example/reroutine/reroutine/scenario/EventType;"⟩ : MethodName)) (z := (⟨"com/example/reroutine/reroutine/scenario/Event", "type", "()Lcom/example/reroutine/reroutine/scenario/EventType;"⟩ : MethodName)) hown (mvT hZ (hw _ (List.mem_of_getElem? (i := 102) rfl))) (mvT hZ (hw _ (List.mem_of_getElem? (i := 103) rfl))) (notFace_of_selects (args := #[]) (mvT hZ (hw _ (List.mem_of_getElem? (i := 105) rfl)))) (mvT hZ (hw _ (List.mem_of_getElem? (i := 105) rfl))) (mvT hZ (hw _ (List.mem_of_getElem? (i := 104) rfl))) (by decide) (backOf (W := 0) (rmGtype l Z a0 hw [] a1_ t2 h0 n0 Z0 Ft) hZ (hw _ (List.mem_of_getElem? (i := 106) rfl)) (hw _ (List.mem_of_getElem? (i := 29) rfl)) (by decide) (by decide)) q4a q4c (g := (mkF m 15 #[rv a0_, rv a1_, rv t2] [(.ref a1_)])) rfl (by rw [hml]; rfl) (Steps.refl _) (argsL := []) (rest := []) (lenOf pd_7 rfl) rfl (by show 2 * 0 + _ ≤ _; exact Nat.le_of_eq rfl) (hb hby d12_15) (fun _ _ => ⟨rfl, e3, (by decide : 0 + 0 ≤ _), (by decide : 0 + 0 ≤ _)⟩)
  dsimp only [Pt.U, Pt.locs, Pt.cells, Pt.slots] at X4 l4 y4 z4 st4 hQ4
  subst y4 z4
  obtain ⟨rfl, Nq4, eq4⟩ := hQ4
  have N4 : Fr n0 L4 := by rw [l4]; exact Fr.app N0 Nq4
  obtain ⟨T5, X5, e5, st5⟩ := getF X4 hx hZ hown (host := "") (Or.inl (hw _ (List.mem_of_getElem? (i := 95) rfl))) Via.refl eq4 oS (g := (mkF m 58 #[rv a0_, rv a1_, rv t2] [(.ref a0_)])) rfl rfl (hb hby d12_58)
  obtain ⟨T6, X6, e6, st6⟩ := getF X5 hx hZ hown (host := "") (Or.inl (hw _ (List.mem_of_getElem? (i := 84) rfl))) Via.refl e5 oF (g := (mkF m 62 #[rv a0_, rv a1_, rv t2] [(.ref a0_), (.int (6 : Int32))])) rfl rfl (hb hby d12_62)
  obtain ⟨cl7, Ar7, qa7, Sa7, Na7, Ha7, Ga7⟩ := id V0
  obtain ⟨T8, X8, e8, st8⟩ := getF X6 hx hZ hown (host := "") (Or.inl (hw _ (List.mem_of_getElem? (i := 84) rfl))) Via.refl e6 oF (g := (mkF m 87 #[rv a0_, rv a1_, rv t2] [(.ref a0_)])) rfl rfl (hb hby d12_87)
  obtain ⟨T9, X9, e9, st9⟩ := getF X8 hx hZ hown (host := "") (Or.inl (hw _ (List.mem_of_getElem? (i := 95) rfl))) Via.refl e8 oS (g := (mkF m 92 #[rv a0_, rv a1_, rv t2] [(.ref a0_), (.ref a0_), (.ref ar)])) rfl rfl (hb hby d12_92)
  obtain ⟨T10, h10, X10, e10, W10, st10⟩ := putF X9 hx hZ hown (host := "") (Or.inl (hw _ (List.mem_of_getElem? (i := 95) rfl))) Via.refl e9 oS oE (Or.inl (hw _ (List.mem_of_getElem? (i := 96) rfl))) (hw _ (List.mem_of_getElem? (i := 75) rfl)) (ty := .int) (by decide) rfl rfl (g := (mkF m 98 #[rv a0_, rv a1_, rv t2] [(.int (7 : Int32)), (.ref a0_), (.int (6 : Int32)), (.ref ar)])) rfl rfl (hb hby d12_98)
  have Fw10 := oS.same W10
  have f11 := oF.other W10 (Or.inr (slot_ne (Or.inl (hw _ (List.mem_of_getElem? (i := 85) rfl))) (Or.inl (hw _ (List.mem_of_getElem? (i := 96) rfl))) (by decide) (t := (.array .int)) (t' := .int) (by decide) (by decide)))
  have f12 := oE.wr W10
  have Od13 := hO.wr W10 g0
  have f17 := V0.other W10 (Ne.symm nea)
  have f18 := E1.wr W10
  have f19 := Fm.other W10 (Or.inl (Ne.symm nev))
  have f20 := Ft.other W10 (Or.inl (Ne.symm nev))
  have N10 := Fr.snoc X10 N4 g0
  have Z10 : n0 ≤ h10.size := Nat.le_trans Z0 (Keep.of_wr W10).1
  have K10 : Keep h0 h10 [a0_, ar] := K0.wr W10 (Or.inl (List.mem_of_getElem? (i := 0) rfl))
  obtain ⟨cq21, kq21, q21a, q21b, q21c⟩ := isOf hZ e10 f18
  obtain ⟨_, _, ⟨T21, L21, k21, n21⟩, -, X21, ⟨Lc21, hQ21, l21, y21, z21⟩, st21⟩ := X10.virtualBack hx (y := (⟨"com/example/reroutine/reroutine/scenario/Event", "time", "()I"⟩ : MethodName)) (z := (⟨"com/example/reroutine/reroutine/scenario/Event", "time", "()I"⟩ : MethodName)) hown (mvT hZ (hw _ (List.mem_of_getElem? (i := 107) rfl))) (mvT hZ (hw _ (List.mem_of_getElem? (i := 108) rfl))) (notFace_of_selects (args := #[]) (mvT hZ (hw _ (List.mem_of_getElem? (i := 110) rfl)))) (mvT hZ (hw _ (List.mem_of_getElem? (i := 110) rfl))) (mvT hZ (hw _ (List.mem_of_getElem? (i := 109) rfl))) (by decide) (backOf (W := 2) (rmGtime l Z a0 hw [] a1_ tm h10 n0 Z10 f19) hZ (hw _ (List.mem_of_getElem? (i := 111) rfl)) (hw _ (List.mem_of_getElem? (i := 29) rfl)) (by decide) (by decide)) q21a q21c (g := (mkF m 102 #[rv a0_, rv a1_, rv t2] [(.ref a1_), (.int (6 : Int32)), (.ref ar)])) rfl (by rw [hml]; rfl) (Steps.refl _) (argsL := []) (rest := [(.int (6 : Int32)), (.ref ar)]) (lenOf pd_8 rfl) rfl (by show 2 * 0 + _ ≤ _; exact Nat.le_of_eq rfl) (hb hby d12_102) (fun _ _ => ⟨rfl, e10, (by decide : 0 + 0 ≤ _), (by decide : 0 + 0 ≤ _)⟩)
  dsimp only [Pt.U, Pt.locs, Pt.cells, Pt.slots] at X21 l21 y21 z21 st21 hQ21
  subst y21 z21
  obtain ⟨rfl, Nq21, eq21⟩ := hQ21
  have N21 : Fr n0 L21 := by rw [l21]; exact Fr.app N10 Nq21
  obtain ⟨cl22, Ar22, qa22, Sa22, Na22, Ha22, Ga22⟩ := id f17
  have hin22 : ¬ ((6 : Int32) < 0 ∨ cl22.slots.size ≤ ((6 : Int32)).toNatClampNeg) := inb_of Sa22 ⟨by decide, by decide⟩
  obtain ⟨T23, h23, X23, e23, W23, st23⟩ := stI X21 hx hZ eq21 Ar22 (j := (6 : Int32)) hin22 (g := (mkF m 105 #[rv a0_, rv a1_, rv t2] [(.int tm), (.int (6 : Int32)), (.ref ar)])) rfl rfl (hb hby d12_105)
  have V23 := Arv.set Ar22 qa22 Sa22 Na22 Ha22 Ga22 rfl W23 6 rfl (by rw [hlen]; decide)
  have N23 := Fr.snoc X23 N21 gar
  have Z23 : n0 ≤ h23.size := Nat.le_trans Z10 (Keep.of_wr W23).1
  have Od24 := Od13.wr W23 gar
  have f25 := f12.wr W23
  have f26 := Fw10.other W23 (Or.inl nea)
  have f27 := f11.other W23 (Or.inl nea)
  have K23 : Keep h0 h23 [a0_, ar] := K10.wr W23 (Or.inl (List.mem_of_getElem? (i := 1) rfl))
  obtain ⟨fs, hr, hrun, hended, hW, hsame⟩ := X23.leave (v := none) (fun _ => rfl)
  refine ⟨_, _, S0 _ ?_, hrun, hended, _, _, rfl, ?_, ⟨_, rfl⟩, hW, hsame.mono (by decide) (by decide)⟩
  · skip
    show Steps p.tables e below (s₁.setTop (mkF m 0 #[rv a0_, rv a1_, .unset] [])) _
    refine st1 _ ?_
    show Steps p.tables e below (T1.setTop (mkF m 3 #[rv a0_, rv a1_, .unset] [(.ref oa)])) _
    refine XS.aloadN X1.here hx rfl (hb hby d12_3) rfl rfl ?_
    show Steps p.tables e below (T1.setTop (mkF m 4 #[rv a0_, rv a1_, .unset] [(.ref a0_), (.ref oa)])) _
    refine st2 _ ?_
    show Steps p.tables e below (T2.setTop (mkF m 7 #[rv a0_, rv a1_, .unset] [(.int (6 : Int32)), (.ref oa)])) _
    refine st3 _ ?_
    show Steps p.tables e below (T3.setTop (mkF m 10 #[rv a0_, rv a1_, .unset] [(.ref oa), (.int (6 : Int32)), (.ref oa)])) _
    refine X3.arraylength hx (by rw [e3]; exact (hao.ext hO.2).1) (State.isArrayOf_alike hZ.alike hao.2.1) (g := (mkF m 10 #[rv a0_, rv a1_, .unset] [(.ref oa), (.int (6 : Int32)), (.ref oa)])) rfl rfl (hb hby d12_10) _ ?_
    rw [len_of hsz (by decide)]
    show Steps p.tables e below (T3.setTop (mkF m 11 #[rv a0_, rv a1_, .unset] [(.int (4 : Int32)), (.int (6 : Int32)), (.ref oa)])) _
    refine iremM X3 hx rfl (hb hby d12_11) rfl (by decide) ?_
    show Steps p.tables e below (T3.setTop (mkF m 12 #[rv a0_, rv a1_, .unset] [(.int (2 : Int32)), (.ref oa)])) _
    refine X3.aaload hx (j := (2 : Int32)) (v := (.ref t2)) (by rw [e3]; exact (hao.ext hO.2).1) (State.isArrayOf_alike hZ.alike hao.2.1) rfl hao.2.2 (inb_of hsz ⟨by decide, by decide⟩) hq2 (g := (mkF m 12 #[rv a0_, rv a1_, .unset] [(.int (2 : Int32)), (.ref oa)])) rfl rfl (hb hby d12_12) _ ?_
    show Steps p.tables e below (T3.setTop (mkF m 13 #[rv a0_, rv a1_, .unset] [(.ref t2)])) _
    refine XS.astoreN X3.here hx rfl (hb hby d12_13) rfl rfl (l' := #[rv a0_, rv a1_, rv t2]) rfl ?_
    show Steps p.tables e below (T3.setTop (mkF m 14 #[rv a0_, rv a1_, rv t2] [])) _
    refine XS.aloadN X3.here hx rfl (hb hby d12_14) rfl rfl ?_
    show Steps p.tables e below (T3.setTop (mkF m 15 #[rv a0_, rv a1_, rv t2] [(.ref a1_)])) _
    refine st4.trans ?_
    show Steps p.tables e below (T4.setTop (mkF m 18 #[rv a0_, rv a1_, rv t2] [(.ref t2)])) _
    refine XS.aloadN X4.here hx rfl (hb hby d12_18) rfl rfl ?_
    show Steps p.tables e below (T4.setTop (mkF m 19 #[rv a0_, rv a1_, rv t2] [(.ref t2), (.ref t2)])) _
    refine Jvm.RoadKit.acmp (g := (mkF m 19 #[rv a0_, rv a1_, rv t2] [(.ref t2), (.ref t2)])) X4 hx rfl rfl rfl (pc0 := 19) (pc' := 57) (same := true) rfl (hb hby d12_19) rfl (decide_eq_true rfl) (by decide) (by decide) ?_
    show Steps p.tables e below (T4.setTop (mkF m 57 #[rv a0_, rv a1_, rv t2] [])) _
    refine XS.aloadN X4.here hx rfl (hb hby d12_57) rfl rfl ?_
    show Steps p.tables e below (T4.setTop (mkF m 58 #[rv a0_, rv a1_, rv t2] [(.ref a0_)])) _
    refine st5 _ ?_
    show Steps p.tables e below (T5.setTop (mkF m 61 #[rv a0_, rv a1_, rv t2] [(.int (6 : Int32))])) _
    refine XS.aloadN X5.here hx rfl (hb hby d12_61) rfl rfl ?_
    show Steps p.tables e below (T5.setTop (mkF m 62 #[rv a0_, rv a1_, rv t2] [(.ref a0_), (.int (6 : Int32))])) _
    refine st6 _ ?_
    show Steps p.tables e below (T6.setTop (mkF m 65 #[rv a0_, rv a1_, rv t2] [(.ref ar), (.int (6 : Int32))])) _
    refine X6.arraylength hx (by rw [e6]; exact Ar7.1) (State.isArrayOf_alike hZ.alike Ar7.2.1) (g := (mkF m 65 #[rv a0_, rv a1_, rv t2] [(.ref ar), (.int (6 : Int32))])) rfl rfl (hb hby d12_65) _ ?_
    rw [len_of Sa7 Na7]
    show Steps p.tables e below (T6.setTop (mkF m 66 #[rv a0_, rv a1_, rv t2] [(.int (8 : Int32)), (.int (6 : Int32))])) _
    refine XS.icmpYes X6.here hx rfl (pc0 := 66) (pc' := 86) rfl (hb hby d12_66) rfl (feq (by decide : ¬ ((6 : Int32) = (8 : Int32)))).2 (by decide) (by decide) ?_
    show Steps p.tables e below (T6.setTop (mkF m 86 #[rv a0_, rv a1_, rv t2] [])) _
    refine XS.aloadN X6.here hx rfl (hb hby d12_86) rfl rfl ?_
    show Steps p.tables e below (T6.setTop (mkF m 87 #[rv a0_, rv a1_, rv t2] [(.ref a0_)])) _
    refine st8 _ ?_
    show Steps p.tables e below (T8.setTop (mkF m 90 #[rv a0_, rv a1_, rv t2] [(.ref ar)])) _
    refine XS.aloadN X8.here hx rfl (hb hby d12_90) rfl rfl ?_
    show Steps p.tables e below (T8.setTop (mkF m 91 #[rv a0_, rv a1_, rv t2] [(.ref a0_), (.ref ar)])) _
    refine XS.dup X8.here hx rfl (hb hby d12_91) rfl rfl ?_
    show Steps p.tables e below (T8.setTop (mkF m 92 #[rv a0_, rv a1_, rv t2] [(.ref a0_), (.ref a0_), (.ref ar)])) _
    refine st9 _ ?_
    show Steps p.tables e below (T9.setTop (mkF m 95 #[rv a0_, rv a1_, rv t2] [(.int (6 : Int32)), (.ref a0_), (.ref ar)])) _
    refine XS.dupX1 X9.here hx rfl (hb hby d12_95) rfl rfl rfl ?_
    show Steps p.tables e below (T9.setTop (mkF m 96 #[rv a0_, rv a1_, rv t2] [(.int (6 : Int32)), (.ref a0_), (.int (6 : Int32)), (.ref ar)])) _
    refine XS.iconst X9.here hx rfl (hb hby d12_96) ?_
    show Steps p.tables e below (T9.setTop (mkF m 97 #[rv a0_, rv a1_, rv t2] [(.int (1 : Int32)), (.int (6 : Int32)), (.ref a0_), (.int (6 : Int32)), (.ref ar)])) _
    refine XS.iadd X9.here hx rfl (hb hby d12_97) rfl ?_
    show Steps p.tables e below (T9.setTop (mkF m 98 #[rv a0_, rv a1_, rv t2] [(.int (7 : Int32)), (.ref a0_), (.int (6 : Int32)), (.ref ar)])) _
    refine st10 _ ?_
    show Steps p.tables e below (T10.setTop (mkF m 101 #[rv a0_, rv a1_, rv t2] [(.int (6 : Int32)), (.ref ar)])) _
    refine XS.aloadN X10.here hx rfl (hb hby d12_101) rfl rfl ?_
    show Steps p.tables e below (T10.setTop (mkF m 102 #[rv a0_, rv a1_, rv t2] [(.ref a1_), (.int (6 : Int32)), (.ref ar)])) _
    refine st21.trans ?_
    show Steps p.tables e below (T21.setTop (mkF m 105 #[rv a0_, rv a1_, rv t2] [(.int tm), (.int (6 : Int32)), (.ref ar)])) _
    refine st23 _ ?_
    show Steps p.tables e below (T23.setTop (mkF m 106 #[rv a0_, rv a1_, rv t2] [])) _
    exact X23.returnOut hx Bd.returns (hb hby d12_106) hr
  · show QAdd6 Z a0_ a1_ t0 t1 t2 t3 d0 d1 d2 d3 oa oc tm h0 n0 _ T23.heap _
    rw [e23]
    exact ⟨rfl, N23, ⟨_, _, _, K23, gar, ArA⟩, ⟨f25, f26, ar, _, _, gar, nea, f27, V23, by rw [List.length_set, hlen]; try rfl⟩⟩
theorem d11_0 : decode prog_12_method_7_code 0 = .ok (.aload_n 0, 1) := by decide +kernel
theorem d11_1 : decode prog_12_method_7_code 1 = .ok (.getfield 29, 3) := by decide +kernel
theorem d11_4 : decode prog_12_method_7_code 4 = .ok (.iconst 1, 1) := by decide +kernel
theorem d11_5 : decode prog_12_method_7_code 5 = .ok (.iadd, 1) := by decide +kernel
theorem d11_6 : decode prog_12_method_7_code 6 = .ok (.getstatic 7, 3) := by decide +kernel
theorem d11_9 : decode prog_12_method_7_code 9 = .ok (.arraylength, 1) := by decide +kernel
theorem d11_10 : decode prog_12_method_7_code 10 = .ok (.idiv, 1) := by decide +kernel
theorem d11_11 : decode prog_12_method_7_code 11 = .ok (.ireturn, 1) := by decide +kernel
def QQ0 (Z : State) (a0_ : Addr) (t0 t1 t2 t3 d0 d1 d2 d3 oa : Addr) (oc : Cell) (h0 : Heap) (n0 : Nat) (v : Option Value) (h : Heap) (L : List Loc) : Prop := v = some (.int (0 : Int32)) ∧ Fr n0 L ∧ h = h0
theorem ef_rmQ0 (m : MethodId) (a0_ : Addr) : entryFrame m #[(.ref a0_)] 1 = mkF m 0 #[rv a0_] [] := by first | (simp [entryFrame, mkF, argsToLocals, Value.category]; done) | rfl
set_option maxRecDepth 65536 in
set_option maxHeartbeats 40000000 in
theorem rmQ0 (l : Launch) (Z : State) (a0 : Array Value) (hw : ∀ d ∈ tables_1, d.before a0 Z = true) (ws : List Jvm.Cond) (a0_ : Addr) (t0 t1 t2 t3 d0 d1 d2 d3 oa : Addr) (oc : Cell) (h0 : Heap) (n0 : Nat) (Z0 : n0 ≤ h0.size) (hO : Old Z n0 h0) (hst : own_St Z t0 t1 t2 t3 d0 d1 d2 d3 oa oc) (F0 : Fld Z h0 a0_ "com/example/reroutine/reroutine/replanning/ExecutedDay" "size" "I" (.int (0 : Int32))) :
    MetFree l (⟨"com/example/reroutine/reroutine/replanning/ExecutedDay", "legsArrived", "()I"⟩ : MethodName) (head1 (Jvm.Cond.code (⟨"com/example/reroutine/reroutine/replanning/ExecutedDay", "legsArrived", "()I"⟩ : MethodName) prog_12_method_7_code 1 (some .int) :: ws) ({ frames := 0, cells := 0, slots := 0, locals := 0 } : Room)) (fun a U => a = #[(.ref a0_)] ∧ Z.Warmed39 U.vm ∧ U.heap = h0) (fun _ _ _ _ _ => True) (fun _ U o U' => ∃ v L, o = .returned v ∧ QQ0 Z a0_ t0 t1 t2 t3 d0 d1 d2 d3 oa oc h0 n0 v U'.heap L ∧ FrameEnd U o U' L ({ frames := 0, cells := 0, slots := 0, locals := 0 } : Room).cells ({ frames := 0, cells := 0, slots := 0, locals := 0 } : Room).slots) := by
  refine MetFree.of_bodySF (plainFor_of_name pn_6) hisR ?_
  intro p e s m args below meth c s₁ Bd hml0 hP hK
  obtain ⟨rfl, hZ, hh⟩ := hP
  have hx := Bd.exec
  have hby := Bd.bytes
  have hml : c.maxLocals = 1 := hml0
  have hown : s.vm.findClass "com/example/reroutine/reroutine/replanning/ExecutedDay" = some m.cls := findClass_of_methodNamed Bd.named
  have hnm := (name_of_methodNamed Bd.named Bd.method).1
  have X0 : Stand p l e ({ frames := 0, cells := 0, slots := 0, locals := 0 } : Room) s m #[(.ref a0_)] below meth c s₁ [] 0 0 := Stand.of_body Bd
  have e0 : s₁.heap = h0 := by rw [← hh, Bd.state]; rfl
  have N0 := Fr.nil n0
  have S0 : ∀ t, Steps p.tables e below (s₁.setTop (mkF m 0 #[rv a0_] [])) t → Steps p.tables e below (s₁.setTop (entryFrame m #[(.ref a0_)] 1)) t := fun t k => castTop (ef_rmQ0 m a0_) k
  obtain ⟨⟨hs0, hx0, hd0⟩, ⟨hs1, hx1, hd1⟩, ⟨hs2, hx2, hd2⟩, ⟨hs3, hx3, hd3⟩, hso, hao, hsz, hq0, hq1, hq2, hq3⟩ := id hst
  obtain ⟨T1, X1, e1, st1⟩ := getF X0 hx hZ hown (host := "") (Or.inl (hw _ (List.mem_of_getElem? (i := 95) rfl))) Via.refl e0 F0 (g := (mkF m 1 #[rv a0_] [(.ref a0_)])) rfl rfl (hb hby d11_1)
  obtain ⟨T2, X2, e2, st2⟩ := getS2 X1 hx hZ hown (host := "") (Or.inl (hw _ (List.mem_of_getElem? (i := 81) rfl))) Via.refl e1 (hso.ext hO.2) (g := (mkF m 6 #[rv a0_] [(.int (1 : Int32))])) rfl (hb hby d11_6)
  obtain ⟨fs, hr, hrun, hended, hW, hsame⟩ := X2.leave (v := some (.int (0 : Int32))) (fun h => by rw [Bd.returns] at h; cases h)
  refine ⟨_, _, S0 _ ?_, hrun, hended, _, _, rfl, ?_, ⟨_, rfl⟩, hW, hsame.mono (by decide) (by decide)⟩
  · skip
    show Steps p.tables e below (s₁.setTop (mkF m 0 #[rv a0_] [])) _
    refine XS.aloadN X0.here hx rfl (hb hby d11_0) rfl rfl ?_
    show Steps p.tables e below (s₁.setTop (mkF m 1 #[rv a0_] [(.ref a0_)])) _
    refine st1 _ ?_
    show Steps p.tables e below (T1.setTop (mkF m 4 #[rv a0_] [(.int (0 : Int32))])) _
    refine XS.iconst X1.here hx rfl (hb hby d11_4) ?_
    show Steps p.tables e below (T1.setTop (mkF m 5 #[rv a0_] [(.int (1 : Int32)), (.int (0 : Int32))])) _
    refine XS.iadd X1.here hx rfl (hb hby d11_5) rfl ?_
    show Steps p.tables e below (T1.setTop (mkF m 6 #[rv a0_] [(.int (1 : Int32))])) _
    refine st2 _ ?_
    show Steps p.tables e below (T2.setTop (mkF m 9 #[rv a0_] [(.ref oa), (.int (1 : Int32))])) _
    refine X2.arraylength hx (by rw [e2]; exact (hao.ext hO.2).1) (State.isArrayOf_alike hZ.alike hao.2.1) (g := (mkF m 9 #[rv a0_] [(.ref oa), (.int (1 : Int32))])) rfl rfl (hb hby d11_9) _ ?_
    rw [len_of hsz (by decide)]
    show Steps p.tables e below (T2.setTop (mkF m 10 #[rv a0_] [(.int (4 : Int32)), (.int (1 : Int32))])) _
    refine XS.idiv X2.here hx rfl (hb hby d11_10) rfl (by decide) ?_
    show Steps p.tables e below (T2.setTop (mkF m 11 #[rv a0_] [(.int (0 : Int32))])) _
    exact retI X2 hx Bd.returns (hb hby d11_11) hr
  · show QQ0 Z a0_ t0 t1 t2 t3 d0 d1 d2 d3 oa oc h0 n0 _ T2.heap _
    rw [e2]
    exact ⟨rfl, N0, rfl⟩
def QQ1 (Z : State) (a0_ : Addr) (t0 t1 t2 t3 d0 d1 d2 d3 oa : Addr) (oc : Cell) (h0 : Heap) (n0 : Nat) (v : Option Value) (h : Heap) (L : List Loc) : Prop := v = some (.int (0 : Int32)) ∧ Fr n0 L ∧ h = h0
theorem ef_rmQ1 (m : MethodId) (a0_ : Addr) : entryFrame m #[(.ref a0_)] 1 = mkF m 0 #[rv a0_] [] := by first | (simp [entryFrame, mkF, argsToLocals, Value.category]; done) | rfl
set_option maxRecDepth 65536 in
set_option maxHeartbeats 40000000 in
theorem rmQ1 (l : Launch) (Z : State) (a0 : Array Value) (hw : ∀ d ∈ tables_1, d.before a0 Z = true) (ws : List Jvm.Cond) (a0_ : Addr) (t0 t1 t2 t3 d0 d1 d2 d3 oa : Addr) (oc : Cell) (h0 : Heap) (n0 : Nat) (Z0 : n0 ≤ h0.size) (hO : Old Z n0 h0) (hst : own_St Z t0 t1 t2 t3 d0 d1 d2 d3 oa oc) (F0 : Fld Z h0 a0_ "com/example/reroutine/reroutine/replanning/ExecutedDay" "size" "I" (.int (1 : Int32))) :
    MetFree l (⟨"com/example/reroutine/reroutine/replanning/ExecutedDay", "legsArrived", "()I"⟩ : MethodName) (head1 (Jvm.Cond.code (⟨"com/example/reroutine/reroutine/replanning/ExecutedDay", "legsArrived", "()I"⟩ : MethodName) prog_12_method_7_code 1 (some .int) :: ws) ({ frames := 0, cells := 0, slots := 0, locals := 0 } : Room)) (fun a U => a = #[(.ref a0_)] ∧ Z.Warmed39 U.vm ∧ U.heap = h0) (fun _ _ _ _ _ => True) (fun _ U o U' => ∃ v L, o = .returned v ∧ QQ1 Z a0_ t0 t1 t2 t3 d0 d1 d2 d3 oa oc h0 n0 v U'.heap L ∧ FrameEnd U o U' L ({ frames := 0, cells := 0, slots := 0, locals := 0 } : Room).cells ({ frames := 0, cells := 0, slots := 0, locals := 0 } : Room).slots) := by
  refine MetFree.of_bodySF (plainFor_of_name pn_6) hisR ?_
  intro p e s m args below meth c s₁ Bd hml0 hP hK
  obtain ⟨rfl, hZ, hh⟩ := hP
  have hx := Bd.exec
  have hby := Bd.bytes
  have hml : c.maxLocals = 1 := hml0
  have hown : s.vm.findClass "com/example/reroutine/reroutine/replanning/ExecutedDay" = some m.cls := findClass_of_methodNamed Bd.named
  have hnm := (name_of_methodNamed Bd.named Bd.method).1
  have X0 : Stand p l e ({ frames := 0, cells := 0, slots := 0, locals := 0 } : Room) s m #[(.ref a0_)] below meth c s₁ [] 0 0 := Stand.of_body Bd
  have e0 : s₁.heap = h0 := by rw [← hh, Bd.state]; rfl
  have N0 := Fr.nil n0
  have S0 : ∀ t, Steps p.tables e below (s₁.setTop (mkF m 0 #[rv a0_] [])) t → Steps p.tables e below (s₁.setTop (entryFrame m #[(.ref a0_)] 1)) t := fun t k => castTop (ef_rmQ1 m a0_) k
  obtain ⟨⟨hs0, hx0, hd0⟩, ⟨hs1, hx1, hd1⟩, ⟨hs2, hx2, hd2⟩, ⟨hs3, hx3, hd3⟩, hso, hao, hsz, hq0, hq1, hq2, hq3⟩ := id hst
  obtain ⟨T1, X1, e1, st1⟩ := getF X0 hx hZ hown (host := "") (Or.inl (hw _ (List.mem_of_getElem? (i := 95) rfl))) Via.refl e0 F0 (g := (mkF m 1 #[rv a0_] [(.ref a0_)])) rfl rfl (hb hby d11_1)
  obtain ⟨T2, X2, e2, st2⟩ := getS2 X1 hx hZ hown (host := "") (Or.inl (hw _ (List.mem_of_getElem? (i := 81) rfl))) Via.refl e1 (hso.ext hO.2) (g := (mkF m 6 #[rv a0_] [(.int (2 : Int32))])) rfl (hb hby d11_6)
  obtain ⟨fs, hr, hrun, hended, hW, hsame⟩ := X2.leave (v := some (.int (0 : Int32))) (fun h => by rw [Bd.returns] at h; cases h)
  refine ⟨_, _, S0 _ ?_, hrun, hended, _, _, rfl, ?_, ⟨_, rfl⟩, hW, hsame.mono (by decide) (by decide)⟩
  · skip
    show Steps p.tables e below (s₁.setTop (mkF m 0 #[rv a0_] [])) _
    refine XS.aloadN X0.here hx rfl (hb hby d11_0) rfl rfl ?_
    show Steps p.tables e below (s₁.setTop (mkF m 1 #[rv a0_] [(.ref a0_)])) _
    refine st1 _ ?_
    show Steps p.tables e below (T1.setTop (mkF m 4 #[rv a0_] [(.int (1 : Int32))])) _
    refine XS.iconst X1.here hx rfl (hb hby d11_4) ?_
    show Steps p.tables e below (T1.setTop (mkF m 5 #[rv a0_] [(.int (1 : Int32)), (.int (1 : Int32))])) _
    refine XS.iadd X1.here hx rfl (hb hby d11_5) rfl ?_
    show Steps p.tables e below (T1.setTop (mkF m 6 #[rv a0_] [(.int (2 : Int32))])) _
    refine st2 _ ?_
    show Steps p.tables e below (T2.setTop (mkF m 9 #[rv a0_] [(.ref oa), (.int (2 : Int32))])) _
    refine X2.arraylength hx (by rw [e2]; exact (hao.ext hO.2).1) (State.isArrayOf_alike hZ.alike hao.2.1) (g := (mkF m 9 #[rv a0_] [(.ref oa), (.int (2 : Int32))])) rfl rfl (hb hby d11_9) _ ?_
    rw [len_of hsz (by decide)]
    show Steps p.tables e below (T2.setTop (mkF m 10 #[rv a0_] [(.int (4 : Int32)), (.int (2 : Int32))])) _
    refine XS.idiv X2.here hx rfl (hb hby d11_10) rfl (by decide) ?_
    show Steps p.tables e below (T2.setTop (mkF m 11 #[rv a0_] [(.int (0 : Int32))])) _
    exact retI X2 hx Bd.returns (hb hby d11_11) hr
  · show QQ1 Z a0_ t0 t1 t2 t3 d0 d1 d2 d3 oa oc h0 n0 _ T2.heap _
    rw [e2]
    exact ⟨rfl, N0, rfl⟩
def QQ2 (Z : State) (a0_ : Addr) (t0 t1 t2 t3 d0 d1 d2 d3 oa : Addr) (oc : Cell) (h0 : Heap) (n0 : Nat) (v : Option Value) (h : Heap) (L : List Loc) : Prop := v = some (.int (0 : Int32)) ∧ Fr n0 L ∧ h = h0
theorem ef_rmQ2 (m : MethodId) (a0_ : Addr) : entryFrame m #[(.ref a0_)] 1 = mkF m 0 #[rv a0_] [] := by first | (simp [entryFrame, mkF, argsToLocals, Value.category]; done) | rfl
set_option maxRecDepth 65536 in
set_option maxHeartbeats 40000000 in
theorem rmQ2 (l : Launch) (Z : State) (a0 : Array Value) (hw : ∀ d ∈ tables_1, d.before a0 Z = true) (ws : List Jvm.Cond) (a0_ : Addr) (t0 t1 t2 t3 d0 d1 d2 d3 oa : Addr) (oc : Cell) (h0 : Heap) (n0 : Nat) (Z0 : n0 ≤ h0.size) (hO : Old Z n0 h0) (hst : own_St Z t0 t1 t2 t3 d0 d1 d2 d3 oa oc) (F0 : Fld Z h0 a0_ "com/example/reroutine/reroutine/replanning/ExecutedDay" "size" "I" (.int (2 : Int32))) :
    MetFree l (⟨"com/example/reroutine/reroutine/replanning/ExecutedDay", "legsArrived", "()I"⟩ : MethodName) (head1 (Jvm.Cond.code (⟨"com/example/reroutine/reroutine/replanning/ExecutedDay", "legsArrived", "()I"⟩ : MethodName) prog_12_method_7_code 1 (some .int) :: ws) ({ frames := 0, cells := 0, slots := 0, locals := 0 } : Room)) (fun a U => a = #[(.ref a0_)] ∧ Z.Warmed39 U.vm ∧ U.heap = h0) (fun _ _ _ _ _ => True) (fun _ U o U' => ∃ v L, o = .returned v ∧ QQ2 Z a0_ t0 t1 t2 t3 d0 d1 d2 d3 oa oc h0 n0 v U'.heap L ∧ FrameEnd U o U' L ({ frames := 0, cells := 0, slots := 0, locals := 0 } : Room).cells ({ frames := 0, cells := 0, slots := 0, locals := 0 } : Room).slots) := by
  refine MetFree.of_bodySF (plainFor_of_name pn_6) hisR ?_
  intro p e s m args below meth c s₁ Bd hml0 hP hK
  obtain ⟨rfl, hZ, hh⟩ := hP
  have hx := Bd.exec
  have hby := Bd.bytes
  have hml : c.maxLocals = 1 := hml0
  have hown : s.vm.findClass "com/example/reroutine/reroutine/replanning/ExecutedDay" = some m.cls := findClass_of_methodNamed Bd.named
  have hnm := (name_of_methodNamed Bd.named Bd.method).1
  have X0 : Stand p l e ({ frames := 0, cells := 0, slots := 0, locals := 0 } : Room) s m #[(.ref a0_)] below meth c s₁ [] 0 0 := Stand.of_body Bd
  have e0 : s₁.heap = h0 := by rw [← hh, Bd.state]; rfl
  have N0 := Fr.nil n0
  have S0 : ∀ t, Steps p.tables e below (s₁.setTop (mkF m 0 #[rv a0_] [])) t → Steps p.tables e below (s₁.setTop (entryFrame m #[(.ref a0_)] 1)) t := fun t k => castTop (ef_rmQ2 m a0_) k
  obtain ⟨⟨hs0, hx0, hd0⟩, ⟨hs1, hx1, hd1⟩, ⟨hs2, hx2, hd2⟩, ⟨hs3, hx3, hd3⟩, hso, hao, hsz, hq0, hq1, hq2, hq3⟩ := id hst
  obtain ⟨T1, X1, e1, st1⟩ := getF X0 hx hZ hown (host := "") (Or.inl (hw _ (List.mem_of_getElem? (i := 95) rfl))) Via.refl e0 F0 (g := (mkF m 1 #[rv a0_] [(.ref a0_)])) rfl rfl (hb hby d11_1)
  obtain ⟨T2, X2, e2, st2⟩ := getS2 X1 hx hZ hown (host := "") (Or.inl (hw _ (List.mem_of_getElem? (i := 81) rfl))) Via.refl e1 (hso.ext hO.2) (g := (mkF m 6 #[rv a0_] [(.int (3 : Int32))])) rfl (hb hby d11_6)
  obtain ⟨fs, hr, hrun, hended, hW, hsame⟩ := X2.leave (v := some (.int (0 : Int32))) (fun h => by rw [Bd.returns] at h; cases h)
  refine ⟨_, _, S0 _ ?_, hrun, hended, _, _, rfl, ?_, ⟨_, rfl⟩, hW, hsame.mono (by decide) (by decide)⟩
  · skip
    show Steps p.tables e below (s₁.setTop (mkF m 0 #[rv a0_] [])) _
    refine XS.aloadN X0.here hx rfl (hb hby d11_0) rfl rfl ?_
    show Steps p.tables e below (s₁.setTop (mkF m 1 #[rv a0_] [(.ref a0_)])) _
    refine st1 _ ?_
    show Steps p.tables e below (T1.setTop (mkF m 4 #[rv a0_] [(.int (2 : Int32))])) _
    refine XS.iconst X1.here hx rfl (hb hby d11_4) ?_
    show Steps p.tables e below (T1.setTop (mkF m 5 #[rv a0_] [(.int (1 : Int32)), (.int (2 : Int32))])) _
    refine XS.iadd X1.here hx rfl (hb hby d11_5) rfl ?_
    show Steps p.tables e below (T1.setTop (mkF m 6 #[rv a0_] [(.int (3 : Int32))])) _
    refine st2 _ ?_
    show Steps p.tables e below (T2.setTop (mkF m 9 #[rv a0_] [(.ref oa), (.int (3 : Int32))])) _
    refine X2.arraylength hx (by rw [e2]; exact (hao.ext hO.2).1) (State.isArrayOf_alike hZ.alike hao.2.1) (g := (mkF m 9 #[rv a0_] [(.ref oa), (.int (3 : Int32))])) rfl rfl (hb hby d11_9) _ ?_
    rw [len_of hsz (by decide)]
    show Steps p.tables e below (T2.setTop (mkF m 10 #[rv a0_] [(.int (4 : Int32)), (.int (3 : Int32))])) _
    refine XS.idiv X2.here hx rfl (hb hby d11_10) rfl (by decide) ?_
    show Steps p.tables e below (T2.setTop (mkF m 11 #[rv a0_] [(.int (0 : Int32))])) _
    exact retI X2 hx Bd.returns (hb hby d11_11) hr
  · show QQ2 Z a0_ t0 t1 t2 t3 d0 d1 d2 d3 oa oc h0 n0 _ T2.heap _
    rw [e2]
    exact ⟨rfl, N0, rfl⟩
def QQ3 (Z : State) (a0_ : Addr) (t0 t1 t2 t3 d0 d1 d2 d3 oa : Addr) (oc : Cell) (h0 : Heap) (n0 : Nat) (v : Option Value) (h : Heap) (L : List Loc) : Prop := v = some (.int (1 : Int32)) ∧ Fr n0 L ∧ h = h0
theorem ef_rmQ3 (m : MethodId) (a0_ : Addr) : entryFrame m #[(.ref a0_)] 1 = mkF m 0 #[rv a0_] [] := by first | (simp [entryFrame, mkF, argsToLocals, Value.category]; done) | rfl
set_option maxRecDepth 65536 in
set_option maxHeartbeats 40000000 in
theorem rmQ3 (l : Launch) (Z : State) (a0 : Array Value) (hw : ∀ d ∈ tables_1, d.before a0 Z = true) (ws : List Jvm.Cond) (a0_ : Addr) (t0 t1 t2 t3 d0 d1 d2 d3 oa : Addr) (oc : Cell) (h0 : Heap) (n0 : Nat) (Z0 : n0 ≤ h0.size) (hO : Old Z n0 h0) (hst : own_St Z t0 t1 t2 t3 d0 d1 d2 d3 oa oc) (F0 : Fld Z h0 a0_ "com/example/reroutine/reroutine/replanning/ExecutedDay" "size" "I" (.int (3 : Int32))) :
    MetFree l (⟨"com/example/reroutine/reroutine/replanning/ExecutedDay", "legsArrived", "()I"⟩ : MethodName) (head1 (Jvm.Cond.code (⟨"com/example/reroutine/reroutine/replanning/ExecutedDay", "legsArrived", "()I"⟩ : MethodName) prog_12_method_7_code 1 (some .int) :: ws) ({ frames := 0, cells := 0, slots := 0, locals := 0 } : Room)) (fun a U => a = #[(.ref a0_)] ∧ Z.Warmed39 U.vm ∧ U.heap = h0) (fun _ _ _ _ _ => True) (fun _ U o U' => ∃ v L, o = .returned v ∧ QQ3 Z a0_ t0 t1 t2 t3 d0 d1 d2 d3 oa oc h0 n0 v U'.heap L ∧ FrameEnd U o U' L ({ frames := 0, cells := 0, slots := 0, locals := 0 } : Room).cells ({ frames := 0, cells := 0, slots := 0, locals := 0 } : Room).slots) := by
  refine MetFree.of_bodySF (plainFor_of_name pn_6) hisR ?_
  intro p e s m args below meth c s₁ Bd hml0 hP hK
  obtain ⟨rfl, hZ, hh⟩ := hP
  have hx := Bd.exec
  have hby := Bd.bytes
  have hml : c.maxLocals = 1 := hml0
  have hown : s.vm.findClass "com/example/reroutine/reroutine/replanning/ExecutedDay" = some m.cls := findClass_of_methodNamed Bd.named
  have hnm := (name_of_methodNamed Bd.named Bd.method).1
  have X0 : Stand p l e ({ frames := 0, cells := 0, slots := 0, locals := 0 } : Room) s m #[(.ref a0_)] below meth c s₁ [] 0 0 := Stand.of_body Bd
  have e0 : s₁.heap = h0 := by rw [← hh, Bd.state]; rfl
  have N0 := Fr.nil n0
  have S0 : ∀ t, Steps p.tables e below (s₁.setTop (mkF m 0 #[rv a0_] [])) t → Steps p.tables e below (s₁.setTop (entryFrame m #[(.ref a0_)] 1)) t := fun t k => castTop (ef_rmQ3 m a0_) k
  obtain ⟨⟨hs0, hx0, hd0⟩, ⟨hs1, hx1, hd1⟩, ⟨hs2, hx2, hd2⟩, ⟨hs3, hx3, hd3⟩, hso, hao, hsz, hq0, hq1, hq2, hq3⟩ := id hst
  obtain ⟨T1, X1, e1, st1⟩ := getF X0 hx hZ hown (host := "") (Or.inl (hw _ (List.mem_of_getElem? (i := 95) rfl))) Via.refl e0 F0 (g := (mkF m 1 #[rv a0_] [(.ref a0_)])) rfl rfl (hb hby d11_1)
  obtain ⟨T2, X2, e2, st2⟩ := getS2 X1 hx hZ hown (host := "") (Or.inl (hw _ (List.mem_of_getElem? (i := 81) rfl))) Via.refl e1 (hso.ext hO.2) (g := (mkF m 6 #[rv a0_] [(.int (4 : Int32))])) rfl (hb hby d11_6)
  obtain ⟨fs, hr, hrun, hended, hW, hsame⟩ := X2.leave (v := some (.int (1 : Int32))) (fun h => by rw [Bd.returns] at h; cases h)
  refine ⟨_, _, S0 _ ?_, hrun, hended, _, _, rfl, ?_, ⟨_, rfl⟩, hW, hsame.mono (by decide) (by decide)⟩
  · skip
    show Steps p.tables e below (s₁.setTop (mkF m 0 #[rv a0_] [])) _
    refine XS.aloadN X0.here hx rfl (hb hby d11_0) rfl rfl ?_
    show Steps p.tables e below (s₁.setTop (mkF m 1 #[rv a0_] [(.ref a0_)])) _
    refine st1 _ ?_
    show Steps p.tables e below (T1.setTop (mkF m 4 #[rv a0_] [(.int (3 : Int32))])) _
    refine XS.iconst X1.here hx rfl (hb hby d11_4) ?_
    show Steps p.tables e below (T1.setTop (mkF m 5 #[rv a0_] [(.int (1 : Int32)), (.int (3 : Int32))])) _
    refine XS.iadd X1.here hx rfl (hb hby d11_5) rfl ?_
    show Steps p.tables e below (T1.setTop (mkF m 6 #[rv a0_] [(.int (4 : Int32))])) _
    refine st2 _ ?_
    show Steps p.tables e below (T2.setTop (mkF m 9 #[rv a0_] [(.ref oa), (.int (4 : Int32))])) _
    refine X2.arraylength hx (by rw [e2]; exact (hao.ext hO.2).1) (State.isArrayOf_alike hZ.alike hao.2.1) (g := (mkF m 9 #[rv a0_] [(.ref oa), (.int (4 : Int32))])) rfl rfl (hb hby d11_9) _ ?_
    rw [len_of hsz (by decide)]
    show Steps p.tables e below (T2.setTop (mkF m 10 #[rv a0_] [(.int (4 : Int32)), (.int (4 : Int32))])) _
    refine XS.idiv X2.here hx rfl (hb hby d11_10) rfl (by decide) ?_
    show Steps p.tables e below (T2.setTop (mkF m 11 #[rv a0_] [(.int (1 : Int32))])) _
    exact retI X2 hx Bd.returns (hb hby d11_11) hr
  · show QQ3 Z a0_ t0 t1 t2 t3 d0 d1 d2 d3 oa oc h0 n0 _ T2.heap _
    rw [e2]
    exact ⟨rfl, N0, rfl⟩
def QQ4 (Z : State) (a0_ : Addr) (t0 t1 t2 t3 d0 d1 d2 d3 oa : Addr) (oc : Cell) (h0 : Heap) (n0 : Nat) (v : Option Value) (h : Heap) (L : List Loc) : Prop := v = some (.int (1 : Int32)) ∧ Fr n0 L ∧ h = h0
theorem ef_rmQ4 (m : MethodId) (a0_ : Addr) : entryFrame m #[(.ref a0_)] 1 = mkF m 0 #[rv a0_] [] := by first | (simp [entryFrame, mkF, argsToLocals, Value.category]; done) | rfl
set_option maxRecDepth 65536 in
set_option maxHeartbeats 40000000 in
theorem rmQ4 (l : Launch) (Z : State) (a0 : Array Value) (hw : ∀ d ∈ tables_1, d.before a0 Z = true) (ws : List Jvm.Cond) (a0_ : Addr) (t0 t1 t2 t3 d0 d1 d2 d3 oa : Addr) (oc : Cell) (h0 : Heap) (n0 : Nat) (Z0 : n0 ≤ h0.size) (hO : Old Z n0 h0) (hst : own_St Z t0 t1 t2 t3 d0 d1 d2 d3 oa oc) (F0 : Fld Z h0 a0_ "com/example/reroutine/reroutine/replanning/ExecutedDay" "size" "I" (.int (4 : Int32))) :
    MetFree l (⟨"com/example/reroutine/reroutine/replanning/ExecutedDay", "legsArrived", "()I"⟩ : MethodName) (head1 (Jvm.Cond.code (⟨"com/example/reroutine/reroutine/replanning/ExecutedDay", "legsArrived", "()I"⟩ : MethodName) prog_12_method_7_code 1 (some .int) :: ws) ({ frames := 0, cells := 0, slots := 0, locals := 0 } : Room)) (fun a U => a = #[(.ref a0_)] ∧ Z.Warmed39 U.vm ∧ U.heap = h0) (fun _ _ _ _ _ => True) (fun _ U o U' => ∃ v L, o = .returned v ∧ QQ4 Z a0_ t0 t1 t2 t3 d0 d1 d2 d3 oa oc h0 n0 v U'.heap L ∧ FrameEnd U o U' L ({ frames := 0, cells := 0, slots := 0, locals := 0 } : Room).cells ({ frames := 0, cells := 0, slots := 0, locals := 0 } : Room).slots) := by
  refine MetFree.of_bodySF (plainFor_of_name pn_6) hisR ?_
  intro p e s m args below meth c s₁ Bd hml0 hP hK
  obtain ⟨rfl, hZ, hh⟩ := hP
  have hx := Bd.exec
  have hby := Bd.bytes
  have hml : c.maxLocals = 1 := hml0
  have hown : s.vm.findClass "com/example/reroutine/reroutine/replanning/ExecutedDay" = some m.cls := findClass_of_methodNamed Bd.named
  have hnm := (name_of_methodNamed Bd.named Bd.method).1
  have X0 : Stand p l e ({ frames := 0, cells := 0, slots := 0, locals := 0 } : Room) s m #[(.ref a0_)] below meth c s₁ [] 0 0 := Stand.of_body Bd
  have e0 : s₁.heap = h0 := by rw [← hh, Bd.state]; rfl
  have N0 := Fr.nil n0
  have S0 : ∀ t, Steps p.tables e below (s₁.setTop (mkF m 0 #[rv a0_] [])) t → Steps p.tables e below (s₁.setTop (entryFrame m #[(.ref a0_)] 1)) t := fun t k => castTop (ef_rmQ4 m a0_) k
  obtain ⟨⟨hs0, hx0, hd0⟩, ⟨hs1, hx1, hd1⟩, ⟨hs2, hx2, hd2⟩, ⟨hs3, hx3, hd3⟩, hso, hao, hsz, hq0, hq1, hq2, hq3⟩ := id hst
  obtain ⟨T1, X1, e1, st1⟩ := getF X0 hx hZ hown (host := "") (Or.inl (hw _ (List.mem_of_getElem? (i := 95) rfl))) Via.refl e0 F0 (g := (mkF m 1 #[rv a0_] [(.ref a0_)])) rfl rfl (hb hby d11_1)
  obtain ⟨T2, X2, e2, st2⟩ := getS2 X1 hx hZ hown (host := "") (Or.inl (hw _ (List.mem_of_getElem? (i := 81) rfl))) Via.refl e1 (hso.ext hO.2) (g := (mkF m 6 #[rv a0_] [(.int (5 : Int32))])) rfl (hb hby d11_6)
  obtain ⟨fs, hr, hrun, hended, hW, hsame⟩ := X2.leave (v := some (.int (1 : Int32))) (fun h => by rw [Bd.returns] at h; cases h)
  refine ⟨_, _, S0 _ ?_, hrun, hended, _, _, rfl, ?_, ⟨_, rfl⟩, hW, hsame.mono (by decide) (by decide)⟩
  · skip
    show Steps p.tables e below (s₁.setTop (mkF m 0 #[rv a0_] [])) _
    refine XS.aloadN X0.here hx rfl (hb hby d11_0) rfl rfl ?_
    show Steps p.tables e below (s₁.setTop (mkF m 1 #[rv a0_] [(.ref a0_)])) _
    refine st1 _ ?_
    show Steps p.tables e below (T1.setTop (mkF m 4 #[rv a0_] [(.int (4 : Int32))])) _
    refine XS.iconst X1.here hx rfl (hb hby d11_4) ?_
    show Steps p.tables e below (T1.setTop (mkF m 5 #[rv a0_] [(.int (1 : Int32)), (.int (4 : Int32))])) _
    refine XS.iadd X1.here hx rfl (hb hby d11_5) rfl ?_
    show Steps p.tables e below (T1.setTop (mkF m 6 #[rv a0_] [(.int (5 : Int32))])) _
    refine st2 _ ?_
    show Steps p.tables e below (T2.setTop (mkF m 9 #[rv a0_] [(.ref oa), (.int (5 : Int32))])) _
    refine X2.arraylength hx (by rw [e2]; exact (hao.ext hO.2).1) (State.isArrayOf_alike hZ.alike hao.2.1) (g := (mkF m 9 #[rv a0_] [(.ref oa), (.int (5 : Int32))])) rfl rfl (hb hby d11_9) _ ?_
    rw [len_of hsz (by decide)]
    show Steps p.tables e below (T2.setTop (mkF m 10 #[rv a0_] [(.int (4 : Int32)), (.int (5 : Int32))])) _
    refine XS.idiv X2.here hx rfl (hb hby d11_10) rfl (by decide) ?_
    show Steps p.tables e below (T2.setTop (mkF m 11 #[rv a0_] [(.int (1 : Int32))])) _
    exact retI X2 hx Bd.returns (hb hby d11_11) hr
  · show QQ4 Z a0_ t0 t1 t2 t3 d0 d1 d2 d3 oa oc h0 n0 _ T2.heap _
    rw [e2]
    exact ⟨rfl, N0, rfl⟩
def QQ5 (Z : State) (a0_ : Addr) (t0 t1 t2 t3 d0 d1 d2 d3 oa : Addr) (oc : Cell) (h0 : Heap) (n0 : Nat) (v : Option Value) (h : Heap) (L : List Loc) : Prop := v = some (.int (1 : Int32)) ∧ Fr n0 L ∧ h = h0
theorem ef_rmQ5 (m : MethodId) (a0_ : Addr) : entryFrame m #[(.ref a0_)] 1 = mkF m 0 #[rv a0_] [] := by first | (simp [entryFrame, mkF, argsToLocals, Value.category]; done) | rfl
set_option maxRecDepth 65536 in
set_option maxHeartbeats 40000000 in
theorem rmQ5 (l : Launch) (Z : State) (a0 : Array Value) (hw : ∀ d ∈ tables_1, d.before a0 Z = true) (ws : List Jvm.Cond) (a0_ : Addr) (t0 t1 t2 t3 d0 d1 d2 d3 oa : Addr) (oc : Cell) (h0 : Heap) (n0 : Nat) (Z0 : n0 ≤ h0.size) (hO : Old Z n0 h0) (hst : own_St Z t0 t1 t2 t3 d0 d1 d2 d3 oa oc) (F0 : Fld Z h0 a0_ "com/example/reroutine/reroutine/replanning/ExecutedDay" "size" "I" (.int (5 : Int32))) :
    MetFree l (⟨"com/example/reroutine/reroutine/replanning/ExecutedDay", "legsArrived", "()I"⟩ : MethodName) (head1 (Jvm.Cond.code (⟨"com/example/reroutine/reroutine/replanning/ExecutedDay", "legsArrived", "()I"⟩ : MethodName) prog_12_method_7_code 1 (some .int) :: ws) ({ frames := 0, cells := 0, slots := 0, locals := 0 } : Room)) (fun a U => a = #[(.ref a0_)] ∧ Z.Warmed39 U.vm ∧ U.heap = h0) (fun _ _ _ _ _ => True) (fun _ U o U' => ∃ v L, o = .returned v ∧ QQ5 Z a0_ t0 t1 t2 t3 d0 d1 d2 d3 oa oc h0 n0 v U'.heap L ∧ FrameEnd U o U' L ({ frames := 0, cells := 0, slots := 0, locals := 0 } : Room).cells ({ frames := 0, cells := 0, slots := 0, locals := 0 } : Room).slots) := by
  refine MetFree.of_bodySF (plainFor_of_name pn_6) hisR ?_
  intro p e s m args below meth c s₁ Bd hml0 hP hK
  obtain ⟨rfl, hZ, hh⟩ := hP
  have hx := Bd.exec
  have hby := Bd.bytes
  have hml : c.maxLocals = 1 := hml0
  have hown : s.vm.findClass "com/example/reroutine/reroutine/replanning/ExecutedDay" = some m.cls := findClass_of_methodNamed Bd.named
  have hnm := (name_of_methodNamed Bd.named Bd.method).1
  have X0 : Stand p l e ({ frames := 0, cells := 0, slots := 0, locals := 0 } : Room) s m #[(.ref a0_)] below meth c s₁ [] 0 0 := Stand.of_body Bd
  have e0 : s₁.heap = h0 := by rw [← hh, Bd.state]; rfl
  have N0 := Fr.nil n0
  have S0 : ∀ t, Steps p.tables e below (s₁.setTop (mkF m 0 #[rv a0_] [])) t → Steps p.tables e below (s₁.setTop (entryFrame m #[(.ref a0_)] 1)) t := fun t k => castTop (ef_rmQ5 m a0_) k
  obtain ⟨⟨hs0, hx0, hd0⟩, ⟨hs1, hx1, hd1⟩, ⟨hs2, hx2, hd2⟩, ⟨hs3, hx3, hd3⟩, hso, hao, hsz, hq0, hq1, hq2, hq3⟩ := id hst
  obtain ⟨T1, X1, e1, st1⟩ := getF X0 hx hZ hown (host := "") (Or.inl (hw _ (List.mem_of_getElem? (i := 95) rfl))) Via.refl e0 F0 (g := (mkF m 1 #[rv a0_] [(.ref a0_)])) rfl rfl (hb hby d11_1)
  obtain ⟨T2, X2, e2, st2⟩ := getS2 X1 hx hZ hown (host := "") (Or.inl (hw _ (List.mem_of_getElem? (i := 81) rfl))) Via.refl e1 (hso.ext hO.2) (g := (mkF m 6 #[rv a0_] [(.int (6 : Int32))])) rfl (hb hby d11_6)
  obtain ⟨fs, hr, hrun, hended, hW, hsame⟩ := X2.leave (v := some (.int (1 : Int32))) (fun h => by rw [Bd.returns] at h; cases h)
  refine ⟨_, _, S0 _ ?_, hrun, hended, _, _, rfl, ?_, ⟨_, rfl⟩, hW, hsame.mono (by decide) (by decide)⟩
  · skip
    show Steps p.tables e below (s₁.setTop (mkF m 0 #[rv a0_] [])) _
    refine XS.aloadN X0.here hx rfl (hb hby d11_0) rfl rfl ?_
    show Steps p.tables e below (s₁.setTop (mkF m 1 #[rv a0_] [(.ref a0_)])) _
    refine st1 _ ?_
    show Steps p.tables e below (T1.setTop (mkF m 4 #[rv a0_] [(.int (5 : Int32))])) _
    refine XS.iconst X1.here hx rfl (hb hby d11_4) ?_
    show Steps p.tables e below (T1.setTop (mkF m 5 #[rv a0_] [(.int (1 : Int32)), (.int (5 : Int32))])) _
    refine XS.iadd X1.here hx rfl (hb hby d11_5) rfl ?_
    show Steps p.tables e below (T1.setTop (mkF m 6 #[rv a0_] [(.int (6 : Int32))])) _
    refine st2 _ ?_
    show Steps p.tables e below (T2.setTop (mkF m 9 #[rv a0_] [(.ref oa), (.int (6 : Int32))])) _
    refine X2.arraylength hx (by rw [e2]; exact (hao.ext hO.2).1) (State.isArrayOf_alike hZ.alike hao.2.1) (g := (mkF m 9 #[rv a0_] [(.ref oa), (.int (6 : Int32))])) rfl rfl (hb hby d11_9) _ ?_
    rw [len_of hsz (by decide)]
    show Steps p.tables e below (T2.setTop (mkF m 10 #[rv a0_] [(.int (4 : Int32)), (.int (6 : Int32))])) _
    refine XS.idiv X2.here hx rfl (hb hby d11_10) rfl (by decide) ?_
    show Steps p.tables e below (T2.setTop (mkF m 11 #[rv a0_] [(.int (1 : Int32))])) _
    exact retI X2 hx Bd.returns (hb hby d11_11) hr
  · show QQ5 Z a0_ t0 t1 t2 t3 d0 d1 d2 d3 oa oc h0 n0 _ T2.heap _
    rw [e2]
    exact ⟨rfl, N0, rfl⟩
def QQ6 (Z : State) (a0_ : Addr) (t0 t1 t2 t3 d0 d1 d2 d3 oa : Addr) (oc : Cell) (h0 : Heap) (n0 : Nat) (v : Option Value) (h : Heap) (L : List Loc) : Prop := v = some (.int (1 : Int32)) ∧ Fr n0 L ∧ h = h0
theorem ef_rmQ6 (m : MethodId) (a0_ : Addr) : entryFrame m #[(.ref a0_)] 1 = mkF m 0 #[rv a0_] [] := by first | (simp [entryFrame, mkF, argsToLocals, Value.category]; done) | rfl
set_option maxRecDepth 65536 in
set_option maxHeartbeats 40000000 in
theorem rmQ6 (l : Launch) (Z : State) (a0 : Array Value) (hw : ∀ d ∈ tables_1, d.before a0 Z = true) (ws : List Jvm.Cond) (a0_ : Addr) (t0 t1 t2 t3 d0 d1 d2 d3 oa : Addr) (oc : Cell) (h0 : Heap) (n0 : Nat) (Z0 : n0 ≤ h0.size) (hO : Old Z n0 h0) (hst : own_St Z t0 t1 t2 t3 d0 d1 d2 d3 oa oc) (F0 : Fld Z h0 a0_ "com/example/reroutine/reroutine/replanning/ExecutedDay" "size" "I" (.int (6 : Int32))) :
    MetFree l (⟨"com/example/reroutine/reroutine/replanning/ExecutedDay", "legsArrived", "()I"⟩ : MethodName) (head1 (Jvm.Cond.code (⟨"com/example/reroutine/reroutine/replanning/ExecutedDay", "legsArrived", "()I"⟩ : MethodName) prog_12_method_7_code 1 (some .int) :: ws) ({ frames := 0, cells := 0, slots := 0, locals := 0 } : Room)) (fun a U => a = #[(.ref a0_)] ∧ Z.Warmed39 U.vm ∧ U.heap = h0) (fun _ _ _ _ _ => True) (fun _ U o U' => ∃ v L, o = .returned v ∧ QQ6 Z a0_ t0 t1 t2 t3 d0 d1 d2 d3 oa oc h0 n0 v U'.heap L ∧ FrameEnd U o U' L ({ frames := 0, cells := 0, slots := 0, locals := 0 } : Room).cells ({ frames := 0, cells := 0, slots := 0, locals := 0 } : Room).slots) := by
  refine MetFree.of_bodySF (plainFor_of_name pn_6) hisR ?_
  intro p e s m args below meth c s₁ Bd hml0 hP hK
  obtain ⟨rfl, hZ, hh⟩ := hP
  have hx := Bd.exec
  have hby := Bd.bytes
  have hml : c.maxLocals = 1 := hml0
  have hown : s.vm.findClass "com/example/reroutine/reroutine/replanning/ExecutedDay" = some m.cls := findClass_of_methodNamed Bd.named
  have hnm := (name_of_methodNamed Bd.named Bd.method).1
  have X0 : Stand p l e ({ frames := 0, cells := 0, slots := 0, locals := 0 } : Room) s m #[(.ref a0_)] below meth c s₁ [] 0 0 := Stand.of_body Bd
  have e0 : s₁.heap = h0 := by rw [← hh, Bd.state]; rfl
  have N0 := Fr.nil n0
  have S0 : ∀ t, Steps p.tables e below (s₁.setTop (mkF m 0 #[rv a0_] [])) t → Steps p.tables e below (s₁.setTop (entryFrame m #[(.ref a0_)] 1)) t := fun t k => castTop (ef_rmQ6 m a0_) k
  obtain ⟨⟨hs0, hx0, hd0⟩, ⟨hs1, hx1, hd1⟩, ⟨hs2, hx2, hd2⟩, ⟨hs3, hx3, hd3⟩, hso, hao, hsz, hq0, hq1, hq2, hq3⟩ := id hst
  obtain ⟨T1, X1, e1, st1⟩ := getF X0 hx hZ hown (host := "") (Or.inl (hw _ (List.mem_of_getElem? (i := 95) rfl))) Via.refl e0 F0 (g := (mkF m 1 #[rv a0_] [(.ref a0_)])) rfl rfl (hb hby d11_1)
  obtain ⟨T2, X2, e2, st2⟩ := getS2 X1 hx hZ hown (host := "") (Or.inl (hw _ (List.mem_of_getElem? (i := 81) rfl))) Via.refl e1 (hso.ext hO.2) (g := (mkF m 6 #[rv a0_] [(.int (7 : Int32))])) rfl (hb hby d11_6)
  obtain ⟨fs, hr, hrun, hended, hW, hsame⟩ := X2.leave (v := some (.int (1 : Int32))) (fun h => by rw [Bd.returns] at h; cases h)
  refine ⟨_, _, S0 _ ?_, hrun, hended, _, _, rfl, ?_, ⟨_, rfl⟩, hW, hsame.mono (by decide) (by decide)⟩
  · skip
    show Steps p.tables e below (s₁.setTop (mkF m 0 #[rv a0_] [])) _
    refine XS.aloadN X0.here hx rfl (hb hby d11_0) rfl rfl ?_
    show Steps p.tables e below (s₁.setTop (mkF m 1 #[rv a0_] [(.ref a0_)])) _
    refine st1 _ ?_
    show Steps p.tables e below (T1.setTop (mkF m 4 #[rv a0_] [(.int (6 : Int32))])) _
    refine XS.iconst X1.here hx rfl (hb hby d11_4) ?_
    show Steps p.tables e below (T1.setTop (mkF m 5 #[rv a0_] [(.int (1 : Int32)), (.int (6 : Int32))])) _
    refine XS.iadd X1.here hx rfl (hb hby d11_5) rfl ?_
    show Steps p.tables e below (T1.setTop (mkF m 6 #[rv a0_] [(.int (7 : Int32))])) _
    refine st2 _ ?_
    show Steps p.tables e below (T2.setTop (mkF m 9 #[rv a0_] [(.ref oa), (.int (7 : Int32))])) _
    refine X2.arraylength hx (by rw [e2]; exact (hao.ext hO.2).1) (State.isArrayOf_alike hZ.alike hao.2.1) (g := (mkF m 9 #[rv a0_] [(.ref oa), (.int (7 : Int32))])) rfl rfl (hb hby d11_9) _ ?_
    rw [len_of hsz (by decide)]
    show Steps p.tables e below (T2.setTop (mkF m 10 #[rv a0_] [(.int (4 : Int32)), (.int (7 : Int32))])) _
    refine XS.idiv X2.here hx rfl (hb hby d11_10) rfl (by decide) ?_
    show Steps p.tables e below (T2.setTop (mkF m 11 #[rv a0_] [(.int (1 : Int32))])) _
    exact retI X2 hx Bd.returns (hb hby d11_11) hr
  · show QQ6 Z a0_ t0 t1 t2 t3 d0 d1 d2 d3 oa oc h0 n0 _ T2.heap _
    rw [e2]
    exact ⟨rfl, N0, rfl⟩
def QQ7 (Z : State) (a0_ : Addr) (t0 t1 t2 t3 d0 d1 d2 d3 oa : Addr) (oc : Cell) (h0 : Heap) (n0 : Nat) (v : Option Value) (h : Heap) (L : List Loc) : Prop := v = some (.int (2 : Int32)) ∧ Fr n0 L ∧ h = h0
theorem ef_rmQ7 (m : MethodId) (a0_ : Addr) : entryFrame m #[(.ref a0_)] 1 = mkF m 0 #[rv a0_] [] := by first | (simp [entryFrame, mkF, argsToLocals, Value.category]; done) | rfl
set_option maxRecDepth 65536 in
set_option maxHeartbeats 40000000 in
theorem rmQ7 (l : Launch) (Z : State) (a0 : Array Value) (hw : ∀ d ∈ tables_1, d.before a0 Z = true) (ws : List Jvm.Cond) (a0_ : Addr) (t0 t1 t2 t3 d0 d1 d2 d3 oa : Addr) (oc : Cell) (h0 : Heap) (n0 : Nat) (Z0 : n0 ≤ h0.size) (hO : Old Z n0 h0) (hst : own_St Z t0 t1 t2 t3 d0 d1 d2 d3 oa oc) (F0 : Fld Z h0 a0_ "com/example/reroutine/reroutine/replanning/ExecutedDay" "size" "I" (.int (7 : Int32))) :
    MetFree l (⟨"com/example/reroutine/reroutine/replanning/ExecutedDay", "legsArrived", "()I"⟩ : MethodName) (head1 (Jvm.Cond.code (⟨"com/example/reroutine/reroutine/replanning/ExecutedDay", "legsArrived", "()I"⟩ : MethodName) prog_12_method_7_code 1 (some .int) :: ws) ({ frames := 0, cells := 0, slots := 0, locals := 0 } : Room)) (fun a U => a = #[(.ref a0_)] ∧ Z.Warmed39 U.vm ∧ U.heap = h0) (fun _ _ _ _ _ => True) (fun _ U o U' => ∃ v L, o = .returned v ∧ QQ7 Z a0_ t0 t1 t2 t3 d0 d1 d2 d3 oa oc h0 n0 v U'.heap L ∧ FrameEnd U o U' L ({ frames := 0, cells := 0, slots := 0, locals := 0 } : Room).cells ({ frames := 0, cells := 0, slots := 0, locals := 0 } : Room).slots) := by
  refine MetFree.of_bodySF (plainFor_of_name pn_6) hisR ?_
  intro p e s m args below meth c s₁ Bd hml0 hP hK
  obtain ⟨rfl, hZ, hh⟩ := hP
  have hx := Bd.exec
  have hby := Bd.bytes
  have hml : c.maxLocals = 1 := hml0
  have hown : s.vm.findClass "com/example/reroutine/reroutine/replanning/ExecutedDay" = some m.cls := findClass_of_methodNamed Bd.named
  have hnm := (name_of_methodNamed Bd.named Bd.method).1
  have X0 : Stand p l e ({ frames := 0, cells := 0, slots := 0, locals := 0 } : Room) s m #[(.ref a0_)] below meth c s₁ [] 0 0 := Stand.of_body Bd
  have e0 : s₁.heap = h0 := by rw [← hh, Bd.state]; rfl
  have N0 := Fr.nil n0
  have S0 : ∀ t, Steps p.tables e below (s₁.setTop (mkF m 0 #[rv a0_] [])) t → Steps p.tables e below (s₁.setTop (entryFrame m #[(.ref a0_)] 1)) t := fun t k => castTop (ef_rmQ7 m a0_) k
  obtain ⟨⟨hs0, hx0, hd0⟩, ⟨hs1, hx1, hd1⟩, ⟨hs2, hx2, hd2⟩, ⟨hs3, hx3, hd3⟩, hso, hao, hsz, hq0, hq1, hq2, hq3⟩ := id hst
  obtain ⟨T1, X1, e1, st1⟩ := getF X0 hx hZ hown (host := "") (Or.inl (hw _ (List.mem_of_getElem? (i := 95) rfl))) Via.refl e0 F0 (g := (mkF m 1 #[rv a0_] [(.ref a0_)])) rfl rfl (hb hby d11_1)
  obtain ⟨T2, X2, e2, st2⟩ := getS2 X1 hx hZ hown (host := "") (Or.inl (hw _ (List.mem_of_getElem? (i := 81) rfl))) Via.refl e1 (hso.ext hO.2) (g := (mkF m 6 #[rv a0_] [(.int (8 : Int32))])) rfl (hb hby d11_6)
  obtain ⟨fs, hr, hrun, hended, hW, hsame⟩ := X2.leave (v := some (.int (2 : Int32))) (fun h => by rw [Bd.returns] at h; cases h)
  refine ⟨_, _, S0 _ ?_, hrun, hended, _, _, rfl, ?_, ⟨_, rfl⟩, hW, hsame.mono (by decide) (by decide)⟩
  · skip
    show Steps p.tables e below (s₁.setTop (mkF m 0 #[rv a0_] [])) _
    refine XS.aloadN X0.here hx rfl (hb hby d11_0) rfl rfl ?_
    show Steps p.tables e below (s₁.setTop (mkF m 1 #[rv a0_] [(.ref a0_)])) _
    refine st1 _ ?_
    show Steps p.tables e below (T1.setTop (mkF m 4 #[rv a0_] [(.int (7 : Int32))])) _
    refine XS.iconst X1.here hx rfl (hb hby d11_4) ?_
    show Steps p.tables e below (T1.setTop (mkF m 5 #[rv a0_] [(.int (1 : Int32)), (.int (7 : Int32))])) _
    refine XS.iadd X1.here hx rfl (hb hby d11_5) rfl ?_
    show Steps p.tables e below (T1.setTop (mkF m 6 #[rv a0_] [(.int (8 : Int32))])) _
    refine st2 _ ?_
    show Steps p.tables e below (T2.setTop (mkF m 9 #[rv a0_] [(.ref oa), (.int (8 : Int32))])) _
    refine X2.arraylength hx (by rw [e2]; exact (hao.ext hO.2).1) (State.isArrayOf_alike hZ.alike hao.2.1) (g := (mkF m 9 #[rv a0_] [(.ref oa), (.int (8 : Int32))])) rfl rfl (hb hby d11_9) _ ?_
    rw [len_of hsz (by decide)]
    show Steps p.tables e below (T2.setTop (mkF m 10 #[rv a0_] [(.int (4 : Int32)), (.int (8 : Int32))])) _
    refine XS.idiv X2.here hx rfl (hb hby d11_10) rfl (by decide) ?_
    show Steps p.tables e below (T2.setTop (mkF m 11 #[rv a0_] [(.int (2 : Int32))])) _
    exact retI X2 hx Bd.returns (hb hby d11_11) hr
  · show QQ7 Z a0_ t0 t1 t2 t3 d0 d1 d2 d3 oa oc h0 n0 _ T2.heap _
    rw [e2]
    exact ⟨rfl, N0, rfl⟩
theorem pd_10 : parseMethodDescriptor "(C)Ljava/lang/String;" = some ⟨[.char], some (.object "java/lang/String")⟩ := by decide +kernel
theorem pd_11 : parseMethodDescriptor "(ILcom/example/reroutine/reroutine/scenario/EventType;Ljava/lang/String;Ljava/lang/String;Ljava/lang/String;)V" = some ⟨[.int, (.object "com/example/reroutine/reroutine/scenario/EventType"), (.object "java/lang/String"), (.object "java/lang/String"), (.object "java/lang/String")], none⟩ := by decide +kernel
theorem pd_12 : parseMethodDescriptor "(Ljava/lang/String;)V" = some ⟨[(.object "java/lang/String")], none⟩ := by decide +kernel
theorem pd_13 : parseMethodDescriptor "(Lcom/example/reroutine/reroutine/scenario/Event;)V" = some ⟨[(.object "com/example/reroutine/reroutine/scenario/Event")], none⟩ := by decide +kernel
theorem pn_8 : plainName "com/example/reroutine/reroutine/replanning/ExecutedDayLegsArrivedPinLaw" = true := by first | (simp [plainName, overriddenIn]; done) | decide +kernel
def Q0 (Z : State) (u0 : Int32) (u1 : Int32) (u2 : Int32) (t0 t1 t2 t3 d0 d1 d2 d3 oa : Addr) (oc : Cell) (G1 : Int32) (h0 : Heap) (n0 : Nat) (v : Option Value) (h : Heap) (L : List Loc) : Prop := v = some (.int 1) ∧ Fr n0 L
theorem ef_rm0 (m : MethodId) (u0 : Int32) (u1 : Int32) (u2 : Int32) : entryFrame m #[(.int u0), (.int u1), (.int u2)] maxLocals = mkF m 0 #[iv u0, iv u1, iv u2, .unset, .unset, .unset, .unset, .unset, .unset, .unset, .unset, .unset] [] := by first | (simp [entryFrame, mkF, argsToLocals, Value.category, maxLocals]; done) | rfl
set_option maxRecDepth 65536 in
set_option maxHeartbeats 40000000 in
theorem rm0 (l : Launch) (Z : State) (a0 : Array Value) (hw : ∀ d ∈ tables_1, d.before a0 Z = true) (ws : List Jvm.Cond) (u0 : Int32) (u1 : Int32) (u2 : Int32) (t0 t1 t2 t3 d0 d1 d2 d3 oa : Addr) (oc : Cell) (G1 : Int32) (h0 : Heap) (n0 : Nat) (Z0 : n0 ≤ h0.size) (hO : Old Z n0 h0) (hst : own_St Z t0 t1 t2 t3 d0 d1 d2 d3 oa oc) (O2 : Sta Z Z.heap "java/lang/String" "COMPACT_STRINGS" "Z" (.int G1)) (P3 : ¬ (G1 = (0 : Int32))) :
    MetFree l x (head1 (Jvm.Cond.code x code maxLocals ret :: ws) room_1) (fun a U => a = #[(.int u0), (.int u1), (.int u2)] ∧ Z.Warmed39 U.vm ∧ U.heap = h0) (fun _ _ _ _ _ => True) (fun _ U o U' => ∃ v L, o = .returned v ∧ Q0 Z u0 u1 u2 t0 t1 t2 t3 d0 d1 d2 d3 oa oc G1 h0 n0 v U'.heap L ∧ ReturnedEndW U o U' L room_1.cells room_1.slots) := by
  refine MetFree.of_bodySF (plainFor_of_name pn_8) hisR ?_
  intro p e s m args below meth c s₁ Bd hml0 hP hK
  obtain ⟨rfl, hZ, hh⟩ := hP
  have hx := Bd.exec
  have hby := Bd.bytes
  have hml : c.maxLocals = 12 := hml0
  have hown : s.vm.findClass "com/example/reroutine/reroutine/replanning/ExecutedDayLegsArrivedPinLaw" = some m.cls := findClass_of_methodNamed Bd.named
  have hnm := (name_of_methodNamed Bd.named Bd.method).1
  have X0 : Stand p l e room_1 s m #[(.int u0), (.int u1), (.int u2)] below meth c s₁ [] 0 0 := Stand.of_body Bd
  have e0 : s₁.heap = h0 := by rw [← hh, Bd.state]; rfl
  have N0 := Fr.nil n0
  have S0 : ∀ t, Steps p.tables e below (s₁.setTop (mkF m 0 #[iv u0, iv u1, iv u2, .unset, .unset, .unset, .unset, .unset, .unset, .unset, .unset, .unset] [])) t → Steps p.tables e below (s₁.setTop (entryFrame m #[(.int u0), (.int u1), (.int u2)] maxLocals)) t := fun t k => castTop (ef_rm0 m u0 u1 u2) k
  obtain ⟨⟨hs0, hx0, hd0⟩, ⟨hs1, hx1, hd1⟩, ⟨hs2, hx2, hd2⟩, ⟨hs3, hx3, hd3⟩, hso, hao, hsz, hq0, hq1, hq2, hq3⟩ := id hst
  obtain ⟨_, _, ⟨T1, L1, k1, n1⟩, -, X1, ⟨Lc1, hQ1, l1, y1, z1⟩, st1⟩ := Jvm.LawKit.callS X0 hx (y := (⟨"java/lang/String", "valueOf", "(C)Ljava/lang/String;"⟩ : MethodName)) hown (mvT hZ (hw _ (List.mem_of_getElem? (i := 1) rfl))) (mvT hZ (hw _ (List.mem_of_getElem? (i := 2) rfl))) (mvT hZ (hw _ (List.mem_of_getElem? (i := 3) rfl))) (mvT hZ (hw _ (List.mem_of_getElem? (i := 4) rfl))) (by decide) (backOf (W := 0) (rmVal l Z a0 hw [] ((u2 &&& (255 : Int32)).toUInt32.toUInt16.toUInt32.toInt32) G1 h0 n0 Z0 hO O2 P3 (own_ch _)) hZ (hw _ (List.mem_of_getElem? (i := 4) rfl)) (hw _ (List.mem_of_getElem? (i := 3) rfl)) (by decide) (by decide)) (g := (mkF m 20 #[iv u0, iv u1, iv u2, iv ((u0 &&& (2147483647 : Int32)) % (8 : Int32)), iv (u1 &&& (2147483647 : Int32)), .unset, .unset, .unset, .unset, .unset, .unset, .unset] [(.int ((u2 &&& (255 : Int32)).toUInt32.toUInt16.toUInt32.toInt32))])) rfl (by rw [hml]; rfl) (argsL := [(.int ((u2 &&& (255 : Int32)).toUInt32.toUInt16.toUInt32.toInt32))]) (rest := []) (lenOf pd_10 rfl) rfl (by show 2 * 0 + _ ≤ _; exact Nat.le_of_eq rfl) (hb hby at_20) (fun _ _ => ⟨rfl, e0, (by decide : 0 + 2 ≤ _), (by decide : 0 + 5 ≤ _)⟩)
  dsimp only [Pt.U, Pt.locs, Pt.cells, Pt.slots] at X1 l1 y1 z1 st1 hQ1
  subst y1 z1
  obtain ⟨sv1, rfl, Nq1, Kq1, geq1, szq1, Eq1⟩ := hQ1
  have N1 : Fr n0 L1 := by rw [l1]; exact Fr.app N0 Nq1
  have Z1 : n0 ≤ T1.heap.size := Nat.le_trans Z0 Kq1.1
  have Od2 := hO.keep Kq1 all0
  obtain ⟨T3, h3, X3, e3, E3, A3, D3, -, st3⟩ := newO X1 hx hZ hown (hw _ (List.mem_of_getElem? (i := 27) rfl)) (hw _ (List.mem_of_getElem? (i := 28) rfl)) (hw _ (List.mem_of_getElem? (i := 29) rfl)) rfl (g := (mkF m 25 #[iv u0, iv u1, iv u2, iv ((u0 &&& (2147483647 : Int32)) % (8 : Int32)), iv (u1 &&& (2147483647 : Int32)), rv sv1, .unset, .unset, .unset, .unset, .unset, .unset] [])) rfl (hb hby at_25) (by decide) (by decide)
  obtain ⟨b3, g3⟩ : ∃ z, z = T1.heap.size := ⟨_, rfl⟩
  rw [← g3] at A3 D3 st3
  have ge_b3 : n0 ≤ b3 := Nat.le_trans Z1 (Nat.le_of_eq g3.symm)
  have ne_sv1_b3 : sv1 ≠ b3 := Nat.ne_of_lt (Nat.lt_of_lt_of_le (Eq1).lt (Nat.le_of_eq g3.symm))
  have Od4 := Od2.ext E3
  have f5 := Eq1.ext E3
  have F3_time : Fld Z h3 b3 "com/example/reroutine/reroutine/scenario/Event" "time" "I" (.int (0 : Int32)) := D3 (Or.inr (hw _ (List.mem_of_getElem? (i := 58) rfl))) (ty := .int) (by decide)
  have F3_type : Fld Z h3 b3 "com/example/reroutine/reroutine/scenario/Event" "type" "Lcom/example/reroutine/reroutine/scenario/EventType;" .null := D3 (Or.inr (hw _ (List.mem_of_getElem? (i := 60) rfl))) (ty := (.object "com/example/reroutine/reroutine/scenario/EventType")) (by decide)
  have F3_agent : Fld Z h3 b3 "com/example/reroutine/reroutine/scenario/Event" "agent" "Ljava/lang/String;" .null := D3 (Or.inr (hw _ (List.mem_of_getElem? (i := 62) rfl))) (ty := (.object "java/lang/String")) (by decide)
  have F3_link : Fld Z h3 b3 "com/example/reroutine/reroutine/scenario/Event" "link" "Ljava/lang/String;" .null := D3 (Or.inr (hw _ (List.mem_of_getElem? (i := 64) rfl))) (ty := (.object "java/lang/String")) (by decide)
  have F3_detail : Fld Z h3 b3 "com/example/reroutine/reroutine/scenario/Event" "detail" "Ljava/lang/String;" .null := D3 (Or.inr (hw _ (List.mem_of_getElem? (i := 66) rfl))) (ty := (.object "java/lang/String")) (by decide)
  have Z3 : n0 ≤ h3.size := Nat.le_trans Z1 E3.1
  obtain ⟨T6, X6, e6, st6⟩ := getS2 X3 hx hZ hown (host := "") (Or.inl (hw _ (List.mem_of_getElem? (i := 30) rfl))) Via.refl e3 (hs0.ext Od4.2) (g := (mkF m 31 #[iv u0, iv u1, iv u2, iv ((u0 &&& (2147483647 : Int32)) % (8 : Int32)), iv (u1 &&& (2147483647 : Int32)), rv sv1, .unset, .unset, .unset, .unset, .unset, .unset] [(.int (u1 &&& (2147483647 : Int32))), (.ref b3), (.ref b3)])) rfl (hb hby at_31)
  have S7 : ∀ t, Steps p.tables e below (T6.setTop (mkF m 36 #[iv u0, iv u1, iv u2, iv ((u0 &&& (2147483647 : Int32)) % (8 : Int32)), iv (u1 &&& (2147483647 : Int32)), rv sv1, .unset, .unset, .unset, .unset, .unset, .unset] [(.ref sv1), (.ref t0), (.int (u1 &&& (2147483647 : Int32))), (.ref b3), (.ref b3)])) t → Steps p.tables e below (s₁.setTop (entryFrame m #[(.int u0), (.int u1), (.int u2)] maxLocals)) t := by
    intro t k
    refine S0 t ?_
    show Steps p.tables e below (s₁.setTop (mkF m 0 #[iv u0, iv u1, iv u2, .unset, .unset, .unset, .unset, .unset, .unset, .unset, .unset, .unset] [])) _
    refine XS.iloadN X0.here hx rfl (hb hby at_0) rfl ?_
    show Steps p.tables e below (s₁.setTop (mkF m 1 #[iv u0, iv u1, iv u2, .unset, .unset, .unset, .unset, .unset, .unset, .unset, .unset, .unset] [(.int u0)])) _
    refine X0.ldcInt hx hown (mvT hZ (hw _ (List.mem_of_getElem? (i := 0) rfl))) (g := (mkF m 1 #[iv u0, iv u1, iv u2, .unset, .unset, .unset, .unset, .unset, .unset, .unset, .unset, .unset] [(.int u0)])) rfl (hb hby at_1) _ ?_
    show Steps p.tables e below (s₁.setTop (mkF m 3 #[iv u0, iv u1, iv u2, .unset, .unset, .unset, .unset, .unset, .unset, .unset, .unset, .unset] [(.int (2147483647 : Int32)), (.int u0)])) _
    refine XS.iand X0.here hx rfl (hb hby at_3) rfl ?_
    show Steps p.tables e below (s₁.setTop (mkF m 4 #[iv u0, iv u1, iv u2, .unset, .unset, .unset, .unset, .unset, .unset, .unset, .unset, .unset] [(.int (u0 &&& (2147483647 : Int32)))])) _
    refine XS.bipush X0.here hx rfl (hb hby at_4) ?_
    show Steps p.tables e below (s₁.setTop (mkF m 6 #[iv u0, iv u1, iv u2, .unset, .unset, .unset, .unset, .unset, .unset, .unset, .unset, .unset] [(.int (8 : Int32)), (.int (u0 &&& (2147483647 : Int32)))])) _
    refine iremM X0 hx rfl (hb hby at_6) rfl (by decide) ?_
    show Steps p.tables e below (s₁.setTop (mkF m 7 #[iv u0, iv u1, iv u2, .unset, .unset, .unset, .unset, .unset, .unset, .unset, .unset, .unset] [(.int ((u0 &&& (2147483647 : Int32)) % (8 : Int32)))])) _
    refine XS.istoreN X0.here hx rfl (hb hby at_7) rfl (l' := #[iv u0, iv u1, iv u2, iv ((u0 &&& (2147483647 : Int32)) % (8 : Int32)), .unset, .unset, .unset, .unset, .unset, .unset, .unset, .unset]) rfl ?_
    show Steps p.tables e below (s₁.setTop (mkF m 8 #[iv u0, iv u1, iv u2, iv ((u0 &&& (2147483647 : Int32)) % (8 : Int32)), .unset, .unset, .unset, .unset, .unset, .unset, .unset, .unset] [])) _
    refine XS.iloadN X0.here hx rfl (hb hby at_8) rfl ?_
    show Steps p.tables e below (s₁.setTop (mkF m 9 #[iv u0, iv u1, iv u2, iv ((u0 &&& (2147483647 : Int32)) % (8 : Int32)), .unset, .unset, .unset, .unset, .unset, .unset, .unset, .unset] [(.int u1)])) _
    refine X0.ldcInt hx hown (mvT hZ (hw _ (List.mem_of_getElem? (i := 0) rfl))) (g := (mkF m 9 #[iv u0, iv u1, iv u2, iv ((u0 &&& (2147483647 : Int32)) % (8 : Int32)), .unset, .unset, .unset, .unset, .unset, .unset, .unset, .unset] [(.int u1)])) rfl (hb hby at_9) _ ?_
    show Steps p.tables e below (s₁.setTop (mkF m 11 #[iv u0, iv u1, iv u2, iv ((u0 &&& (2147483647 : Int32)) % (8 : Int32)), .unset, .unset, .unset, .unset, .unset, .unset, .unset, .unset] [(.int (2147483647 : Int32)), (.int u1)])) _
    refine XS.iand X0.here hx rfl (hb hby at_11) rfl ?_
    show Steps p.tables e below (s₁.setTop (mkF m 12 #[iv u0, iv u1, iv u2, iv ((u0 &&& (2147483647 : Int32)) % (8 : Int32)), .unset, .unset, .unset, .unset, .unset, .unset, .unset, .unset] [(.int (u1 &&& (2147483647 : Int32)))])) _
    refine XS.istore X0.here hx rfl (hb hby at_12) rfl (l' := #[iv u0, iv u1, iv u2, iv ((u0 &&& (2147483647 : Int32)) % (8 : Int32)), iv (u1 &&& (2147483647 : Int32)), .unset, .unset, .unset, .unset, .unset, .unset, .unset]) rfl ?_
    show Steps p.tables e below (s₁.setTop (mkF m 14 #[iv u0, iv u1, iv u2, iv ((u0 &&& (2147483647 : Int32)) % (8 : Int32)), iv (u1 &&& (2147483647 : Int32)), .unset, .unset, .unset, .unset, .unset, .unset, .unset] [])) _
    refine XS.iloadN X0.here hx rfl (hb hby at_14) rfl ?_
    show Steps p.tables e below (s₁.setTop (mkF m 15 #[iv u0, iv u1, iv u2, iv ((u0 &&& (2147483647 : Int32)) % (8 : Int32)), iv (u1 &&& (2147483647 : Int32)), .unset, .unset, .unset, .unset, .unset, .unset, .unset] [(.int u2)])) _
    refine XS.sipush X0.here hx rfl (hb hby at_15) ?_
    show Steps p.tables e below (s₁.setTop (mkF m 18 #[iv u0, iv u1, iv u2, iv ((u0 &&& (2147483647 : Int32)) % (8 : Int32)), iv (u1 &&& (2147483647 : Int32)), .unset, .unset, .unset, .unset, .unset, .unset, .unset] [(.int (255 : Int32)), (.int u2)])) _
    refine XS.iand X0.here hx rfl (hb hby at_18) rfl ?_
    show Steps p.tables e below (s₁.setTop (mkF m 19 #[iv u0, iv u1, iv u2, iv ((u0 &&& (2147483647 : Int32)) % (8 : Int32)), iv (u1 &&& (2147483647 : Int32)), .unset, .unset, .unset, .unset, .unset, .unset, .unset] [(.int (u2 &&& (255 : Int32)))])) _
    refine XS.i2c X0.here hx rfl (hb hby at_19) rfl ?_
    show Steps p.tables e below (s₁.setTop (mkF m 20 #[iv u0, iv u1, iv u2, iv ((u0 &&& (2147483647 : Int32)) % (8 : Int32)), iv (u1 &&& (2147483647 : Int32)), .unset, .unset, .unset, .unset, .unset, .unset, .unset] [(.int ((u2 &&& (255 : Int32)).toUInt32.toUInt16.toUInt32.toInt32))])) _
    refine st1 _ ?_
    show Steps p.tables e below (T1.setTop (mkF m 23 #[iv u0, iv u1, iv u2, iv ((u0 &&& (2147483647 : Int32)) % (8 : Int32)), iv (u1 &&& (2147483647 : Int32)), .unset, .unset, .unset, .unset, .unset, .unset, .unset] [(.ref sv1)])) _
    refine XS.astore X1.here hx rfl (hb hby at_23) rfl rfl (l' := #[iv u0, iv u1, iv u2, iv ((u0 &&& (2147483647 : Int32)) % (8 : Int32)), iv (u1 &&& (2147483647 : Int32)), rv sv1, .unset, .unset, .unset, .unset, .unset, .unset]) rfl ?_
    show Steps p.tables e below (T1.setTop (mkF m 25 #[iv u0, iv u1, iv u2, iv ((u0 &&& (2147483647 : Int32)) % (8 : Int32)), iv (u1 &&& (2147483647 : Int32)), rv sv1, .unset, .unset, .unset, .unset, .unset, .unset] [])) _
    refine st3 _ ?_
    show Steps p.tables e below (T3.setTop (mkF m 28 #[iv u0, iv u1, iv u2, iv ((u0 &&& (2147483647 : Int32)) % (8 : Int32)), iv (u1 &&& (2147483647 : Int32)), rv sv1, .unset, .unset, .unset, .unset, .unset, .unset] [(.ref b3)])) _
    refine XS.dup X3.here hx rfl (hb hby at_28) rfl rfl ?_
    show Steps p.tables e below (T3.setTop (mkF m 29 #[iv u0, iv u1, iv u2, iv ((u0 &&& (2147483647 : Int32)) % (8 : Int32)), iv (u1 &&& (2147483647 : Int32)), rv sv1, .unset, .unset, .unset, .unset, .unset, .unset] [(.ref b3), (.ref b3)])) _
    refine XS.iload X3.here hx rfl (hb hby at_29) rfl ?_
    show Steps p.tables e below (T3.setTop (mkF m 31 #[iv u0, iv u1, iv u2, iv ((u0 &&& (2147483647 : Int32)) % (8 : Int32)), iv (u1 &&& (2147483647 : Int32)), rv sv1, .unset, .unset, .unset, .unset, .unset, .unset] [(.int (u1 &&& (2147483647 : Int32))), (.ref b3), (.ref b3)])) _
    refine st6 _ ?_
    show Steps p.tables e below (T6.setTop (mkF m 34 #[iv u0, iv u1, iv u2, iv ((u0 &&& (2147483647 : Int32)) % (8 : Int32)), iv (u1 &&& (2147483647 : Int32)), rv sv1, .unset, .unset, .unset, .unset, .unset, .unset] [(.ref t0), (.int (u1 &&& (2147483647 : Int32))), (.ref b3), (.ref b3)])) _
    refine XS.aload X6.here hx rfl (hb hby at_34) rfl rfl ?_
    exact k
  have hwS : ∀ a ∈ Bundle.stringAtoms, a.before a0 Z = true := fun d hd => hw d ((by decide +kernel : ∀ d ∈ Bundle.stringAtoms, d ∈ tables_1) d hd)
  have hS : s.Since s.vm 0 := (State.WarmedH.refl s).since 0
  obtain ⟨lt8, T8, h8, kx8, X8, e8, E8, hS, hkx8, hZ, hown, st8⟩ := ldcS (s := s) (vm0 := s.vm) X6 hx hZ hown (hw _ (List.mem_of_getElem? (i := 33) rfl)) hwS e6 hS (Nat.zero_le _) (g := (mkF m 36 #[iv u0, iv u1, iv u2, iv ((u0 &&& (2147483647 : Int32)) % (8 : Int32)), iv (u1 &&& (2147483647 : Int32)), rv sv1, .unset, .unset, .unset, .unset, .unset, .unset] [(.ref sv1), (.ref t0), (.int (u1 &&& (2147483647 : Int32))), (.ref b3), (.ref b3)])) rfl (hb hby at_36) (n := 4) (by decide) (by decide) (by decide) (by decide)
  have Od9 := Od4.ext E8
  have f10 := f5.ext E8
  have f11 := A3.ext E8
  have f12 := F3_time.ext E8
  have f13 := F3_type.ext E8
  have f14 := F3_agent.ext E8
  have f15 := F3_link.ext E8
  have f16 := F3_detail.ext E8
  have Z8 : n0 ≤ h8.size := Nat.le_trans Z3 E8.1
  have S17 : ∀ t, Steps p.tables e below (T8.setTop (mkF m 38 #[iv u0, iv u1, iv u2, iv ((u0 &&& (2147483647 : Int32)) % (8 : Int32)), iv (u1 &&& (2147483647 : Int32)), rv sv1, .unset, .unset, .unset, .unset, .unset, .unset] [(.ref lt8), (.ref sv1), (.ref t0), (.int (u1 &&& (2147483647 : Int32))), (.ref b3), (.ref b3)])) t → Steps p.tables e below (s₁.setTop (entryFrame m #[(.int u0), (.int u1), (.int u2)] maxLocals)) t := by
    intro t k
    refine S7 t ?_
    show Steps p.tables e below (T6.setTop (mkF m 36 #[iv u0, iv u1, iv u2, iv ((u0 &&& (2147483647 : Int32)) % (8 : Int32)), iv (u1 &&& (2147483647 : Int32)), rv sv1, .unset, .unset, .unset, .unset, .unset, .unset] [(.ref sv1), (.ref t0), (.int (u1 &&& (2147483647 : Int32))), (.ref b3), (.ref b3)])) _
    refine st8 _ ?_
    exact k
  obtain ⟨lt18, T18, h18, kx18, X18, e18, E18, hS, hkx18, hZ, hown, st18⟩ := ldcS (s := s) (vm0 := T8.vm) X8 hx hZ hown (hw _ (List.mem_of_getElem? (i := 36) rfl)) hwS e8 hS hkx8 (g := (mkF m 38 #[iv u0, iv u1, iv u2, iv ((u0 &&& (2147483647 : Int32)) % (8 : Int32)), iv (u1 &&& (2147483647 : Int32)), rv sv1, .unset, .unset, .unset, .unset, .unset, .unset] [(.ref lt8), (.ref sv1), (.ref t0), (.int (u1 &&& (2147483647 : Int32))), (.ref b3), (.ref b3)])) rfl (hb hby at_38) (n := 4) (by decide) (by decide) (by decide) (by decide)
  have Od19 := Od9.ext E18
  have f20 := f10.ext E18
  have f21 := f11.ext E18
  have f22 := f12.ext E18
  have f23 := f13.ext E18
  have f24 := f14.ext E18
  have f25 := f15.ext E18
  have f26 := f16.ext E18
  have Z18 : n0 ≤ h18.size := Nat.le_trans Z8 E18.1
  have S27 : ∀ t, Steps p.tables e below (T18.setTop (mkF m 40 #[iv u0, iv u1, iv u2, iv ((u0 &&& (2147483647 : Int32)) % (8 : Int32)), iv (u1 &&& (2147483647 : Int32)), rv sv1, .unset, .unset, .unset, .unset, .unset, .unset] [(.ref lt18), (.ref lt8), (.ref sv1), (.ref t0), (.int (u1 &&& (2147483647 : Int32))), (.ref b3), (.ref b3)])) t → Steps p.tables e below (s₁.setTop (entryFrame m #[(.int u0), (.int u1), (.int u2)] maxLocals)) t := by
    intro t k
    refine S17 t ?_
    show Steps p.tables e below (T8.setTop (mkF m 38 #[iv u0, iv u1, iv u2, iv ((u0 &&& (2147483647 : Int32)) % (8 : Int32)), iv (u1 &&& (2147483647 : Int32)), rv sv1, .unset, .unset, .unset, .unset, .unset, .unset] [(.ref lt8), (.ref sv1), (.ref t0), (.int (u1 &&& (2147483647 : Int32))), (.ref b3), (.ref b3)])) _
    refine st18 _ ?_
    exact k
  obtain ⟨_, _, ⟨T28, L28, k28, n28⟩, -, X28, ⟨Lc28, hQ28, l28, y28, z28⟩, st28⟩ := X18.specialBack hx (y := (⟨"com/example/reroutine/reroutine/scenario/Event", "<init>", "(ILcom/example/reroutine/reroutine/scenario/EventType;Ljava/lang/String;Ljava/lang/String;Ljava/lang/String;)V"⟩ : MethodName)) rfl hown (mvT hZ (hw _ (List.mem_of_getElem? (i := 37) rfl))) (mvT hZ (hw _ (List.mem_of_getElem? (i := 38) rfl))) (mvT hZ (hw _ (List.mem_of_getElem? (i := 39) rfl))) (by decide) (backOf (W := 1) (rmEvI l Z a0 hw [] b3 (u1 &&& (2147483647 : Int32)) t0 sv1 lt8 lt18 d0 h18 n0 Z18 f21 f22 f23 f24 f25 f26 ge_b3 (hx0.ext Od19.2) (hd0.ext Od19.2) (own_tm _)) hZ (hw _ (List.mem_of_getElem? (i := 39) rfl)) (hw _ (List.mem_of_getElem? (i := 29) rfl)) (by decide) (by decide)) (g := (mkF m 40 #[iv u0, iv u1, iv u2, iv ((u0 &&& (2147483647 : Int32)) % (8 : Int32)), iv (u1 &&& (2147483647 : Int32)), rv sv1, .unset, .unset, .unset, .unset, .unset, .unset] [(.ref lt18), (.ref lt8), (.ref sv1), (.ref t0), (.int (u1 &&& (2147483647 : Int32))), (.ref b3), (.ref b3)])) rfl (by rw [hml]; rfl) (Steps.refl _) (a := b3) (argsL := [(.int (u1 &&& (2147483647 : Int32))), (.ref t0), (.ref sv1), (.ref lt8), (.ref lt18)]) (rest := [(.ref b3)]) (lenOf pd_11 rfl) rfl (by show 2 * 0 + _ ≤ _; exact Nat.le_of_eq rfl) (hb hby at_40) (fun _ _ => ⟨rfl, e18, (by decide : 7 + 0 ≤ _), (by decide : 26 + 0 ≤ _)⟩)
  dsimp only [Pt.U, Pt.locs, Pt.cells, Pt.slots] at X28 l28 y28 z28 st28 hQ28
  subst y28 z28
  obtain ⟨rfl, Nq28, Kq28, Eq28, Fm28, Ft28⟩ := hQ28
  have N28 : Fr n0 L28 := by rw [l28]; exact Fr.app N1 Nq28
  have Z28 : n0 ≤ T28.heap.size := Nat.le_trans Z18 Kq28.1
  have hk29 := Nat.le_trans hkx18 Kq28.1
  have Od30 := Od19.keep Kq28 (allS ge_b3 all0)
  have f31 := f20.keep Kq28
  have f32 := f21.keep Kq28
  obtain ⟨T33, h33, X33, e33, E33, A33, D33, -, st33⟩ := newO X28 hx hZ hown (hw _ (List.mem_of_getElem? (i := 27) rfl)) (hw _ (List.mem_of_getElem? (i := 28) rfl)) (hw _ (List.mem_of_getElem? (i := 29) rfl)) rfl (g := (mkF m 45 #[iv u0, iv u1, iv u2, iv ((u0 &&& (2147483647 : Int32)) % (8 : Int32)), iv (u1 &&& (2147483647 : Int32)), rv sv1, rv b3, .unset, .unset, .unset, .unset, .unset] [])) rfl (hb hby at_45) (by decide) (by decide)
  obtain ⟨b33, g33⟩ : ∃ z, z = T28.heap.size := ⟨_, rfl⟩
  rw [← g33] at A33 D33 st33
  have ge_b33 : n0 ≤ b33 := Nat.le_trans Z28 (Nat.le_of_eq g33.symm)
  have ne_b3_b33 : b3 ≠ b33 := Nat.ne_of_lt (Nat.lt_of_lt_of_le (Eq28).lt (Nat.le_of_eq g33.symm))
  have ne_sv1_b33 : sv1 ≠ b33 := Nat.ne_of_lt (Nat.lt_of_lt_of_le (f31).lt (Nat.le_of_eq g33.symm))
  have hk34 := Nat.le_trans hk29 E33.1
  have Od35 := Od30.ext E33
  have f36 := f31.ext E33
  have f37 := Eq28.ext E33
  have f38 := Fm28.ext E33
  have f39 := Ft28.ext E33
  have F33_time : Fld Z h33 b33 "com/example/reroutine/reroutine/scenario/Event" "time" "I" (.int (0 : Int32)) := D33 (Or.inr (hw _ (List.mem_of_getElem? (i := 58) rfl))) (ty := .int) (by decide)
  have F33_type : Fld Z h33 b33 "com/example/reroutine/reroutine/scenario/Event" "type" "Lcom/example/reroutine/reroutine/scenario/EventType;" .null := D33 (Or.inr (hw _ (List.mem_of_getElem? (i := 60) rfl))) (ty := (.object "com/example/reroutine/reroutine/scenario/EventType")) (by decide)
  have F33_agent : Fld Z h33 b33 "com/example/reroutine/reroutine/scenario/Event" "agent" "Ljava/lang/String;" .null := D33 (Or.inr (hw _ (List.mem_of_getElem? (i := 62) rfl))) (ty := (.object "java/lang/String")) (by decide)
  have F33_link : Fld Z h33 b33 "com/example/reroutine/reroutine/scenario/Event" "link" "Ljava/lang/String;" .null := D33 (Or.inr (hw _ (List.mem_of_getElem? (i := 64) rfl))) (ty := (.object "java/lang/String")) (by decide)
  have F33_detail : Fld Z h33 b33 "com/example/reroutine/reroutine/scenario/Event" "detail" "Ljava/lang/String;" .null := D33 (Or.inr (hw _ (List.mem_of_getElem? (i := 66) rfl))) (ty := (.object "java/lang/String")) (by decide)
  have Z33 : n0 ≤ h33.size := Nat.le_trans Z28 E33.1
  obtain ⟨T40, X40, e40, st40⟩ := getS2 X33 hx hZ hown (host := "") (Or.inl (hw _ (List.mem_of_getElem? (i := 67) rfl))) Via.refl e33 (hs1.ext Od35.2) (g := (mkF m 51 #[iv u0, iv u1, iv u2, iv ((u0 &&& (2147483647 : Int32)) % (8 : Int32)), iv (u1 &&& (2147483647 : Int32)), rv sv1, rv b3, .unset, .unset, .unset, .unset, .unset] [(.int (u1 &&& (2147483647 : Int32))), (.ref b33), (.ref b33)])) rfl (hb hby at_51)
  have S41 : ∀ t, Steps p.tables e below (T40.setTop (mkF m 56 #[iv u0, iv u1, iv u2, iv ((u0 &&& (2147483647 : Int32)) % (8 : Int32)), iv (u1 &&& (2147483647 : Int32)), rv sv1, rv b3, .unset, .unset, .unset, .unset, .unset] [(.ref sv1), (.ref t1), (.int (u1 &&& (2147483647 : Int32))), (.ref b33), (.ref b33)])) t → Steps p.tables e below (s₁.setTop (entryFrame m #[(.int u0), (.int u1), (.int u2)] maxLocals)) t := by
    intro t k
    refine S27 t ?_
    show Steps p.tables e below (T18.setTop (mkF m 40 #[iv u0, iv u1, iv u2, iv ((u0 &&& (2147483647 : Int32)) % (8 : Int32)), iv (u1 &&& (2147483647 : Int32)), rv sv1, .unset, .unset, .unset, .unset, .unset, .unset] [(.ref lt18), (.ref lt8), (.ref sv1), (.ref t0), (.int (u1 &&& (2147483647 : Int32))), (.ref b3), (.ref b3)])) _
    refine st28.trans ?_
    show Steps p.tables e below (T28.setTop (mkF m 43 #[iv u0, iv u1, iv u2, iv ((u0 &&& (2147483647 : Int32)) % (8 : Int32)), iv (u1 &&& (2147483647 : Int32)), rv sv1, .unset, .unset, .unset, .unset, .unset, .unset] [(.ref b3)])) _
    refine XS.astore X28.here hx rfl (hb hby at_43) rfl rfl (l' := #[iv u0, iv u1, iv u2, iv ((u0 &&& (2147483647 : Int32)) % (8 : Int32)), iv (u1 &&& (2147483647 : Int32)), rv sv1, rv b3, .unset, .unset, .unset, .unset, .unset]) rfl ?_
    show Steps p.tables e below (T28.setTop (mkF m 45 #[iv u0, iv u1, iv u2, iv ((u0 &&& (2147483647 : Int32)) % (8 : Int32)), iv (u1 &&& (2147483647 : Int32)), rv sv1, rv b3, .unset, .unset, .unset, .unset, .unset] [])) _
    refine st33 _ ?_
    show Steps p.tables e below (T33.setTop (mkF m 48 #[iv u0, iv u1, iv u2, iv ((u0 &&& (2147483647 : Int32)) % (8 : Int32)), iv (u1 &&& (2147483647 : Int32)), rv sv1, rv b3, .unset, .unset, .unset, .unset, .unset] [(.ref b33)])) _
    refine XS.dup X33.here hx rfl (hb hby at_48) rfl rfl ?_
    show Steps p.tables e below (T33.setTop (mkF m 49 #[iv u0, iv u1, iv u2, iv ((u0 &&& (2147483647 : Int32)) % (8 : Int32)), iv (u1 &&& (2147483647 : Int32)), rv sv1, rv b3, .unset, .unset, .unset, .unset, .unset] [(.ref b33), (.ref b33)])) _
    refine XS.iload X33.here hx rfl (hb hby at_49) rfl ?_
    show Steps p.tables e below (T33.setTop (mkF m 51 #[iv u0, iv u1, iv u2, iv ((u0 &&& (2147483647 : Int32)) % (8 : Int32)), iv (u1 &&& (2147483647 : Int32)), rv sv1, rv b3, .unset, .unset, .unset, .unset, .unset] [(.int (u1 &&& (2147483647 : Int32))), (.ref b33), (.ref b33)])) _
    refine st40 _ ?_
    show Steps p.tables e below (T40.setTop (mkF m 54 #[iv u0, iv u1, iv u2, iv ((u0 &&& (2147483647 : Int32)) % (8 : Int32)), iv (u1 &&& (2147483647 : Int32)), rv sv1, rv b3, .unset, .unset, .unset, .unset, .unset] [(.ref t1), (.int (u1 &&& (2147483647 : Int32))), (.ref b33), (.ref b33)])) _
    refine XS.aload X40.here hx rfl (hb hby at_54) rfl rfl ?_
    exact k
  obtain ⟨lt42, T42, h42, kx42, X42, e42, E42, hS, hkx42, hZ, hown, st42⟩ := ldcS (s := s) (vm0 := T18.vm) X40 hx hZ hown (hw _ (List.mem_of_getElem? (i := 33) rfl)) hwS e40 hS hk34 (g := (mkF m 56 #[iv u0, iv u1, iv u2, iv ((u0 &&& (2147483647 : Int32)) % (8 : Int32)), iv (u1 &&& (2147483647 : Int32)), rv sv1, rv b3, .unset, .unset, .unset, .unset, .unset] [(.ref sv1), (.ref t1), (.int (u1 &&& (2147483647 : Int32))), (.ref b33), (.ref b33)])) rfl (hb hby at_56) (n := 4) (by decide) (by decide) (by decide) (by decide)
  have Od43 := Od35.ext E42
  have f44 := f36.ext E42
  have f45 := f37.ext E42
  have f46 := f38.ext E42
  have f47 := f39.ext E42
  have f48 := A33.ext E42
  have f49 := F33_time.ext E42
  have f50 := F33_type.ext E42
  have f51 := F33_agent.ext E42
  have f52 := F33_link.ext E42
  have f53 := F33_detail.ext E42
  have Z42 : n0 ≤ h42.size := Nat.le_trans Z33 E42.1
  have S54 : ∀ t, Steps p.tables e below (T42.setTop (mkF m 58 #[iv u0, iv u1, iv u2, iv ((u0 &&& (2147483647 : Int32)) % (8 : Int32)), iv (u1 &&& (2147483647 : Int32)), rv sv1, rv b3, .unset, .unset, .unset, .unset, .unset] [(.ref lt42), (.ref sv1), (.ref t1), (.int (u1 &&& (2147483647 : Int32))), (.ref b33), (.ref b33)])) t → Steps p.tables e below (s₁.setTop (entryFrame m #[(.int u0), (.int u1), (.int u2)] maxLocals)) t := by
    intro t k
    refine S41 t ?_
    show Steps p.tables e below (T40.setTop (mkF m 56 #[iv u0, iv u1, iv u2, iv ((u0 &&& (2147483647 : Int32)) % (8 : Int32)), iv (u1 &&& (2147483647 : Int32)), rv sv1, rv b3, .unset, .unset, .unset, .unset, .unset] [(.ref sv1), (.ref t1), (.int (u1 &&& (2147483647 : Int32))), (.ref b33), (.ref b33)])) _
    refine st42 _ ?_
    exact k
  obtain ⟨lt55, T55, h55, kx55, X55, e55, E55, hS, hkx55, hZ, hown, st55⟩ := ldcS (s := s) (vm0 := T42.vm) X42 hx hZ hown (hw _ (List.mem_of_getElem? (i := 69) rfl)) hwS e42 hS hkx42 (g := (mkF m 58 #[iv u0, iv u1, iv u2, iv ((u0 &&& (2147483647 : Int32)) % (8 : Int32)), iv (u1 &&& (2147483647 : Int32)), rv sv1, rv b3, .unset, .unset, .unset, .unset, .unset] [(.ref lt42), (.ref sv1), (.ref t1), (.int (u1 &&& (2147483647 : Int32))), (.ref b33), (.ref b33)])) rfl (hb hby at_58) (n := 4) (by decide) (by decide) (by decide) (by decide)
  have Od56 := Od43.ext E55
  have f57 := f44.ext E55
  have f58 := f45.ext E55
  have f59 := f46.ext E55
  have f60 := f47.ext E55
  have f61 := f48.ext E55
  have f62 := f49.ext E55
  have f63 := f50.ext E55
  have f64 := f51.ext E55
  have f65 := f52.ext E55
  have f66 := f53.ext E55
  have Z55 : n0 ≤ h55.size := Nat.le_trans Z42 E55.1
  have S67 : ∀ t, Steps p.tables e below (T55.setTop (mkF m 60 #[iv u0, iv u1, iv u2, iv ((u0 &&& (2147483647 : Int32)) % (8 : Int32)), iv (u1 &&& (2147483647 : Int32)), rv sv1, rv b3, .unset, .unset, .unset, .unset, .unset] [(.ref lt55), (.ref lt42), (.ref sv1), (.ref t1), (.int (u1 &&& (2147483647 : Int32))), (.ref b33), (.ref b33)])) t → Steps p.tables e below (s₁.setTop (entryFrame m #[(.int u0), (.int u1), (.int u2)] maxLocals)) t := by
    intro t k
    refine S54 t ?_
    show Steps p.tables e below (T42.setTop (mkF m 58 #[iv u0, iv u1, iv u2, iv ((u0 &&& (2147483647 : Int32)) % (8 : Int32)), iv (u1 &&& (2147483647 : Int32)), rv sv1, rv b3, .unset, .unset, .unset, .unset, .unset] [(.ref lt42), (.ref sv1), (.ref t1), (.int (u1 &&& (2147483647 : Int32))), (.ref b33), (.ref b33)])) _
    refine st55 _ ?_
    exact k
  obtain ⟨_, _, ⟨T68, L68, k68, n68⟩, -, X68, ⟨Lc68, hQ68, l68, y68, z68⟩, st68⟩ := X55.specialBack hx (y := (⟨"com/example/reroutine/reroutine/scenario/Event", "<init>", "(ILcom/example/reroutine/reroutine/scenario/EventType;Ljava/lang/String;Ljava/lang/String;Ljava/lang/String;)V"⟩ : MethodName)) rfl hown (mvT hZ (hw _ (List.mem_of_getElem? (i := 37) rfl))) (mvT hZ (hw _ (List.mem_of_getElem? (i := 38) rfl))) (mvT hZ (hw _ (List.mem_of_getElem? (i := 39) rfl))) (by decide) (backOf (W := 1) (rmEvI l Z a0 hw [] b33 (u1 &&& (2147483647 : Int32)) t1 sv1 lt42 lt55 d1 h55 n0 Z55 f61 f62 f63 f64 f65 f66 ge_b33 (hx1.ext Od56.2) (hd1.ext Od56.2) (own_tm _)) hZ (hw _ (List.mem_of_getElem? (i := 39) rfl)) (hw _ (List.mem_of_getElem? (i := 29) rfl)) (by decide) (by decide)) (g := (mkF m 60 #[iv u0, iv u1, iv u2, iv ((u0 &&& (2147483647 : Int32)) % (8 : Int32)), iv (u1 &&& (2147483647 : Int32)), rv sv1, rv b3, .unset, .unset, .unset, .unset, .unset] [(.ref lt55), (.ref lt42), (.ref sv1), (.ref t1), (.int (u1 &&& (2147483647 : Int32))), (.ref b33), (.ref b33)])) rfl (by rw [hml]; rfl) (Steps.refl _) (a := b33) (argsL := [(.int (u1 &&& (2147483647 : Int32))), (.ref t1), (.ref sv1), (.ref lt42), (.ref lt55)]) (rest := [(.ref b33)]) (lenOf pd_11 rfl) rfl (by show 2 * 0 + _ ≤ _; exact Nat.le_of_eq rfl) (hb hby at_60) (fun _ _ => ⟨rfl, e55, (by decide : 12 + 0 ≤ _), (by decide : 47 + 0 ≤ _)⟩)
  dsimp only [Pt.U, Pt.locs, Pt.cells, Pt.slots] at X68 l68 y68 z68 st68 hQ68
  subst y68 z68
  obtain ⟨rfl, Nq68, Kq68, Eq68, Fm68, Ft68⟩ := hQ68
  have N68 : Fr n0 L68 := by rw [l68]; exact Fr.app N28 Nq68
  have Z68 : n0 ≤ T68.heap.size := Nat.le_trans Z55 Kq68.1
  have hk69 := Nat.le_trans hkx55 Kq68.1
  have Od70 := Od56.keep Kq68 (allS ge_b33 all0)
  have f71 := f57.keep Kq68
  have f72 := f58.keep Kq68
  have f73 := f59.keep Kq68 (ninS ne_b3_b33 nin0)
  have f74 := f60.keep Kq68 (ninS ne_b3_b33 nin0)
  have f75 := f61.keep Kq68
  obtain ⟨T76, h76, X76, e76, E76, A76, D76, -, st76⟩ := newO X68 hx hZ hown (hw _ (List.mem_of_getElem? (i := 27) rfl)) (hw _ (List.mem_of_getElem? (i := 28) rfl)) (hw _ (List.mem_of_getElem? (i := 29) rfl)) rfl (g := (mkF m 65 #[iv u0, iv u1, iv u2, iv ((u0 &&& (2147483647 : Int32)) % (8 : Int32)), iv (u1 &&& (2147483647 : Int32)), rv sv1, rv b3, rv b33, .unset, .unset, .unset, .unset] [])) rfl (hb hby at_65) (by decide) (by decide)
  obtain ⟨b76, g76⟩ : ∃ z, z = T68.heap.size := ⟨_, rfl⟩
  rw [← g76] at A76 D76 st76
  have ge_b76 : n0 ≤ b76 := Nat.le_trans Z68 (Nat.le_of_eq g76.symm)
  have ne_b3_b76 : b3 ≠ b76 := Nat.ne_of_lt (Nat.lt_of_lt_of_le (f72).lt (Nat.le_of_eq g76.symm))
  have ne_b33_b76 : b33 ≠ b76 := Nat.ne_of_lt (Nat.lt_of_lt_of_le (Eq68).lt (Nat.le_of_eq g76.symm))
  have ne_sv1_b76 : sv1 ≠ b76 := Nat.ne_of_lt (Nat.lt_of_lt_of_le (f71).lt (Nat.le_of_eq g76.symm))
  have hk77 := Nat.le_trans hk69 E76.1
  have Od78 := Od70.ext E76
  have f79 := f71.ext E76
  have f80 := f72.ext E76
  have f81 := f73.ext E76
  have f82 := f74.ext E76
  have f83 := Eq68.ext E76
  have f84 := Fm68.ext E76
  have f85 := Ft68.ext E76
  have F76_time : Fld Z h76 b76 "com/example/reroutine/reroutine/scenario/Event" "time" "I" (.int (0 : Int32)) := D76 (Or.inr (hw _ (List.mem_of_getElem? (i := 58) rfl))) (ty := .int) (by decide)
  have F76_type : Fld Z h76 b76 "com/example/reroutine/reroutine/scenario/Event" "type" "Lcom/example/reroutine/reroutine/scenario/EventType;" .null := D76 (Or.inr (hw _ (List.mem_of_getElem? (i := 60) rfl))) (ty := (.object "com/example/reroutine/reroutine/scenario/EventType")) (by decide)
  have F76_agent : Fld Z h76 b76 "com/example/reroutine/reroutine/scenario/Event" "agent" "Ljava/lang/String;" .null := D76 (Or.inr (hw _ (List.mem_of_getElem? (i := 62) rfl))) (ty := (.object "java/lang/String")) (by decide)
  have F76_link : Fld Z h76 b76 "com/example/reroutine/reroutine/scenario/Event" "link" "Ljava/lang/String;" .null := D76 (Or.inr (hw _ (List.mem_of_getElem? (i := 64) rfl))) (ty := (.object "java/lang/String")) (by decide)
  have F76_detail : Fld Z h76 b76 "com/example/reroutine/reroutine/scenario/Event" "detail" "Ljava/lang/String;" .null := D76 (Or.inr (hw _ (List.mem_of_getElem? (i := 66) rfl))) (ty := (.object "java/lang/String")) (by decide)
  have Z76 : n0 ≤ h76.size := Nat.le_trans Z68 E76.1
  obtain ⟨T86, X86, e86, st86⟩ := getS2 X76 hx hZ hown (host := "") (Or.inl (hw _ (List.mem_of_getElem? (i := 70) rfl))) Via.refl e76 (hs2.ext Od78.2) (g := (mkF m 71 #[iv u0, iv u1, iv u2, iv ((u0 &&& (2147483647 : Int32)) % (8 : Int32)), iv (u1 &&& (2147483647 : Int32)), rv sv1, rv b3, rv b33, .unset, .unset, .unset, .unset] [(.int (u1 &&& (2147483647 : Int32))), (.ref b76), (.ref b76)])) rfl (hb hby at_71)
  have S87 : ∀ t, Steps p.tables e below (T86.setTop (mkF m 76 #[iv u0, iv u1, iv u2, iv ((u0 &&& (2147483647 : Int32)) % (8 : Int32)), iv (u1 &&& (2147483647 : Int32)), rv sv1, rv b3, rv b33, .unset, .unset, .unset, .unset] [(.ref sv1), (.ref t2), (.int (u1 &&& (2147483647 : Int32))), (.ref b76), (.ref b76)])) t → Steps p.tables e below (s₁.setTop (entryFrame m #[(.int u0), (.int u1), (.int u2)] maxLocals)) t := by
    intro t k
    refine S67 t ?_
    show Steps p.tables e below (T55.setTop (mkF m 60 #[iv u0, iv u1, iv u2, iv ((u0 &&& (2147483647 : Int32)) % (8 : Int32)), iv (u1 &&& (2147483647 : Int32)), rv sv1, rv b3, .unset, .unset, .unset, .unset, .unset] [(.ref lt55), (.ref lt42), (.ref sv1), (.ref t1), (.int (u1 &&& (2147483647 : Int32))), (.ref b33), (.ref b33)])) _
    refine st68.trans ?_
    show Steps p.tables e below (T68.setTop (mkF m 63 #[iv u0, iv u1, iv u2, iv ((u0 &&& (2147483647 : Int32)) % (8 : Int32)), iv (u1 &&& (2147483647 : Int32)), rv sv1, rv b3, .unset, .unset, .unset, .unset, .unset] [(.ref b33)])) _
    refine XS.astore X68.here hx rfl (hb hby at_63) rfl rfl (l' := #[iv u0, iv u1, iv u2, iv ((u0 &&& (2147483647 : Int32)) % (8 : Int32)), iv (u1 &&& (2147483647 : Int32)), rv sv1, rv b3, rv b33, .unset, .unset, .unset, .unset]) rfl ?_
    show Steps p.tables e below (T68.setTop (mkF m 65 #[iv u0, iv u1, iv u2, iv ((u0 &&& (2147483647 : Int32)) % (8 : Int32)), iv (u1 &&& (2147483647 : Int32)), rv sv1, rv b3, rv b33, .unset, .unset, .unset, .unset] [])) _
    refine st76 _ ?_
    show Steps p.tables e below (T76.setTop (mkF m 68 #[iv u0, iv u1, iv u2, iv ((u0 &&& (2147483647 : Int32)) % (8 : Int32)), iv (u1 &&& (2147483647 : Int32)), rv sv1, rv b3, rv b33, .unset, .unset, .unset, .unset] [(.ref b76)])) _
    refine XS.dup X76.here hx rfl (hb hby at_68) rfl rfl ?_
    show Steps p.tables e below (T76.setTop (mkF m 69 #[iv u0, iv u1, iv u2, iv ((u0 &&& (2147483647 : Int32)) % (8 : Int32)), iv (u1 &&& (2147483647 : Int32)), rv sv1, rv b3, rv b33, .unset, .unset, .unset, .unset] [(.ref b76), (.ref b76)])) _
    refine XS.iload X76.here hx rfl (hb hby at_69) rfl ?_
    show Steps p.tables e below (T76.setTop (mkF m 71 #[iv u0, iv u1, iv u2, iv ((u0 &&& (2147483647 : Int32)) % (8 : Int32)), iv (u1 &&& (2147483647 : Int32)), rv sv1, rv b3, rv b33, .unset, .unset, .unset, .unset] [(.int (u1 &&& (2147483647 : Int32))), (.ref b76), (.ref b76)])) _
    refine st86 _ ?_
    show Steps p.tables e below (T86.setTop (mkF m 74 #[iv u0, iv u1, iv u2, iv ((u0 &&& (2147483647 : Int32)) % (8 : Int32)), iv (u1 &&& (2147483647 : Int32)), rv sv1, rv b3, rv b33, .unset, .unset, .unset, .unset] [(.ref t2), (.int (u1 &&& (2147483647 : Int32))), (.ref b76), (.ref b76)])) _
    refine XS.aload X86.here hx rfl (hb hby at_74) rfl rfl ?_
    exact k
  obtain ⟨lt88, T88, h88, kx88, X88, e88, E88, hS, hkx88, hZ, hown, st88⟩ := ldcS (s := s) (vm0 := T55.vm) X86 hx hZ hown (hw _ (List.mem_of_getElem? (i := 33) rfl)) hwS e86 hS hk77 (g := (mkF m 76 #[iv u0, iv u1, iv u2, iv ((u0 &&& (2147483647 : Int32)) % (8 : Int32)), iv (u1 &&& (2147483647 : Int32)), rv sv1, rv b3, rv b33, .unset, .unset, .unset, .unset] [(.ref sv1), (.ref t2), (.int (u1 &&& (2147483647 : Int32))), (.ref b76), (.ref b76)])) rfl (hb hby at_76) (n := 4) (by decide) (by decide) (by decide) (by decide)
  have Od89 := Od78.ext E88
  have f90 := f79.ext E88
  have f91 := f80.ext E88
  have f92 := f81.ext E88
  have f93 := f82.ext E88
  have f94 := f83.ext E88
  have f95 := f84.ext E88
  have f96 := f85.ext E88
  have f97 := A76.ext E88
  have f98 := F76_time.ext E88
  have f99 := F76_type.ext E88
  have f100 := F76_agent.ext E88
  have f101 := F76_link.ext E88
  have f102 := F76_detail.ext E88
  have Z88 : n0 ≤ h88.size := Nat.le_trans Z76 E88.1
  have S103 : ∀ t, Steps p.tables e below (T88.setTop (mkF m 78 #[iv u0, iv u1, iv u2, iv ((u0 &&& (2147483647 : Int32)) % (8 : Int32)), iv (u1 &&& (2147483647 : Int32)), rv sv1, rv b3, rv b33, .unset, .unset, .unset, .unset] [(.ref lt88), (.ref sv1), (.ref t2), (.int (u1 &&& (2147483647 : Int32))), (.ref b76), (.ref b76)])) t → Steps p.tables e below (s₁.setTop (entryFrame m #[(.int u0), (.int u1), (.int u2)] maxLocals)) t := by
    intro t k
    refine S87 t ?_
    show Steps p.tables e below (T86.setTop (mkF m 76 #[iv u0, iv u1, iv u2, iv ((u0 &&& (2147483647 : Int32)) % (8 : Int32)), iv (u1 &&& (2147483647 : Int32)), rv sv1, rv b3, rv b33, .unset, .unset, .unset, .unset] [(.ref sv1), (.ref t2), (.int (u1 &&& (2147483647 : Int32))), (.ref b76), (.ref b76)])) _
    refine st88 _ ?_
    exact k
  obtain ⟨lt104, T104, h104, kx104, X104, e104, E104, hS, hkx104, hZ, hown, st104⟩ := ldcS (s := s) (vm0 := T88.vm) X88 hx hZ hown (hw _ (List.mem_of_getElem? (i := 69) rfl)) hwS e88 hS hkx88 (g := (mkF m 78 #[iv u0, iv u1, iv u2, iv ((u0 &&& (2147483647 : Int32)) % (8 : Int32)), iv (u1 &&& (2147483647 : Int32)), rv sv1, rv b3, rv b33, .unset, .unset, .unset, .unset] [(.ref lt88), (.ref sv1), (.ref t2), (.int (u1 &&& (2147483647 : Int32))), (.ref b76), (.ref b76)])) rfl (hb hby at_78) (n := 4) (by decide) (by decide) (by decide) (by decide)
  have Od105 := Od89.ext E104
  have f106 := f90.ext E104
  have f107 := f91.ext E104
  have f108 := f92.ext E104
  have f109 := f93.ext E104
  have f110 := f94.ext E104
  have f111 := f95.ext E104
  have f112 := f96.ext E104
  have f113 := f97.ext E104
  have f114 := f98.ext E104
  have f115 := f99.ext E104
  have f116 := f100.ext E104
  have f117 := f101.ext E104
  have f118 := f102.ext E104
  have Z104 : n0 ≤ h104.size := Nat.le_trans Z88 E104.1
  have S119 : ∀ t, Steps p.tables e below (T104.setTop (mkF m 80 #[iv u0, iv u1, iv u2, iv ((u0 &&& (2147483647 : Int32)) % (8 : Int32)), iv (u1 &&& (2147483647 : Int32)), rv sv1, rv b3, rv b33, .unset, .unset, .unset, .unset] [(.ref lt104), (.ref lt88), (.ref sv1), (.ref t2), (.int (u1 &&& (2147483647 : Int32))), (.ref b76), (.ref b76)])) t → Steps p.tables e below (s₁.setTop (entryFrame m #[(.int u0), (.int u1), (.int u2)] maxLocals)) t := by
    intro t k
    refine S103 t ?_
    show Steps p.tables e below (T88.setTop (mkF m 78 #[iv u0, iv u1, iv u2, iv ((u0 &&& (2147483647 : Int32)) % (8 : Int32)), iv (u1 &&& (2147483647 : Int32)), rv sv1, rv b3, rv b33, .unset, .unset, .unset, .unset] [(.ref lt88), (.ref sv1), (.ref t2), (.int (u1 &&& (2147483647 : Int32))), (.ref b76), (.ref b76)])) _
    refine st104 _ ?_
    exact k
  obtain ⟨_, _, ⟨T120, L120, k120, n120⟩, -, X120, ⟨Lc120, hQ120, l120, y120, z120⟩, st120⟩ := X104.specialBack hx (y := (⟨"com/example/reroutine/reroutine/scenario/Event", "<init>", "(ILcom/example/reroutine/reroutine/scenario/EventType;Ljava/lang/String;Ljava/lang/String;Ljava/lang/String;)V"⟩ : MethodName)) rfl hown (mvT hZ (hw _ (List.mem_of_getElem? (i := 37) rfl))) (mvT hZ (hw _ (List.mem_of_getElem? (i := 38) rfl))) (mvT hZ (hw _ (List.mem_of_getElem? (i := 39) rfl))) (by decide) (backOf (W := 1) (rmEvI l Z a0 hw [] b76 (u1 &&& (2147483647 : Int32)) t2 sv1 lt88 lt104 d2 h104 n0 Z104 f113 f114 f115 f116 f117 f118 ge_b76 (hx2.ext Od105.2) (hd2.ext Od105.2) (own_tm _)) hZ (hw _ (List.mem_of_getElem? (i := 39) rfl)) (hw _ (List.mem_of_getElem? (i := 29) rfl)) (by decide) (by decide)) (g := (mkF m 80 #[iv u0, iv u1, iv u2, iv ((u0 &&& (2147483647 : Int32)) % (8 : Int32)), iv (u1 &&& (2147483647 : Int32)), rv sv1, rv b3, rv b33, .unset, .unset, .unset, .unset] [(.ref lt104), (.ref lt88), (.ref sv1), (.ref t2), (.int (u1 &&& (2147483647 : Int32))), (.ref b76), (.ref b76)])) rfl (by rw [hml]; rfl) (Steps.refl _) (a := b76) (argsL := [(.int (u1 &&& (2147483647 : Int32))), (.ref t2), (.ref sv1), (.ref lt88), (.ref lt104)]) (rest := [(.ref b76)]) (lenOf pd_11 rfl) rfl (by show 2 * 0 + _ ≤ _; exact Nat.le_of_eq rfl) (hb hby at_80) (fun _ _ => ⟨rfl, e104, (by decide : 17 + 0 ≤ _), (by decide : 68 + 0 ≤ _)⟩)
  dsimp only [Pt.U, Pt.locs, Pt.cells, Pt.slots] at X120 l120 y120 z120 st120 hQ120
  subst y120 z120
  obtain ⟨rfl, Nq120, Kq120, Eq120, Fm120, Ft120⟩ := hQ120
  have N120 : Fr n0 L120 := by rw [l120]; exact Fr.app N68 Nq120
  have Z120 : n0 ≤ T120.heap.size := Nat.le_trans Z104 Kq120.1
  have hk121 := Nat.le_trans hkx104 Kq120.1
  have Od122 := Od105.keep Kq120 (allS ge_b76 all0)
  have f123 := f106.keep Kq120
  have f124 := f107.keep Kq120
  have f125 := f108.keep Kq120 (ninS ne_b3_b76 nin0)
  have f126 := f109.keep Kq120 (ninS ne_b3_b76 nin0)
  have f127 := f110.keep Kq120
  have f128 := f111.keep Kq120 (ninS ne_b33_b76 nin0)
  have f129 := f112.keep Kq120 (ninS ne_b33_b76 nin0)
  have f130 := f113.keep Kq120
  obtain ⟨T131, h131, X131, e131, E131, A131, D131, -, st131⟩ := newO X120 hx hZ hown (hw _ (List.mem_of_getElem? (i := 27) rfl)) (hw _ (List.mem_of_getElem? (i := 28) rfl)) (hw _ (List.mem_of_getElem? (i := 29) rfl)) rfl (g := (mkF m 85 #[iv u0, iv u1, iv u2, iv ((u0 &&& (2147483647 : Int32)) % (8 : Int32)), iv (u1 &&& (2147483647 : Int32)), rv sv1, rv b3, rv b33, rv b76, .unset, .unset, .unset] [])) rfl (hb hby at_85) (by decide) (by decide)
  obtain ⟨b131, g131⟩ : ∃ z, z = T120.heap.size := ⟨_, rfl⟩
  rw [← g131] at A131 D131 st131
  have ge_b131 : n0 ≤ b131 := Nat.le_trans Z120 (Nat.le_of_eq g131.symm)
  have ne_b3_b131 : b3 ≠ b131 := Nat.ne_of_lt (Nat.lt_of_lt_of_le (f124).lt (Nat.le_of_eq g131.symm))
  have ne_b33_b131 : b33 ≠ b131 := Nat.ne_of_lt (Nat.lt_of_lt_of_le (f127).lt (Nat.le_of_eq g131.symm))
  have ne_b76_b131 : b76 ≠ b131 := Nat.ne_of_lt (Nat.lt_of_lt_of_le (Eq120).lt (Nat.le_of_eq g131.symm))
  have ne_sv1_b131 : sv1 ≠ b131 := Nat.ne_of_lt (Nat.lt_of_lt_of_le (f123).lt (Nat.le_of_eq g131.symm))
  have hk132 := Nat.le_trans hk121 E131.1
  have Od133 := Od122.ext E131
  have f134 := f123.ext E131
  have f135 := f124.ext E131
  have f136 := f125.ext E131
  have f137 := f126.ext E131
  have f138 := f127.ext E131
  have f139 := f128.ext E131
  have f140 := f129.ext E131
  have f141 := Eq120.ext E131
  have f142 := Fm120.ext E131
  have f143 := Ft120.ext E131
  have F131_time : Fld Z h131 b131 "com/example/reroutine/reroutine/scenario/Event" "time" "I" (.int (0 : Int32)) := D131 (Or.inr (hw _ (List.mem_of_getElem? (i := 58) rfl))) (ty := .int) (by decide)
  have F131_type : Fld Z h131 b131 "com/example/reroutine/reroutine/scenario/Event" "type" "Lcom/example/reroutine/reroutine/scenario/EventType;" .null := D131 (Or.inr (hw _ (List.mem_of_getElem? (i := 60) rfl))) (ty := (.object "com/example/reroutine/reroutine/scenario/EventType")) (by decide)
  have F131_agent : Fld Z h131 b131 "com/example/reroutine/reroutine/scenario/Event" "agent" "Ljava/lang/String;" .null := D131 (Or.inr (hw _ (List.mem_of_getElem? (i := 62) rfl))) (ty := (.object "java/lang/String")) (by decide)
  have F131_link : Fld Z h131 b131 "com/example/reroutine/reroutine/scenario/Event" "link" "Ljava/lang/String;" .null := D131 (Or.inr (hw _ (List.mem_of_getElem? (i := 64) rfl))) (ty := (.object "java/lang/String")) (by decide)
  have F131_detail : Fld Z h131 b131 "com/example/reroutine/reroutine/scenario/Event" "detail" "Ljava/lang/String;" .null := D131 (Or.inr (hw _ (List.mem_of_getElem? (i := 66) rfl))) (ty := (.object "java/lang/String")) (by decide)
  have Z131 : n0 ≤ h131.size := Nat.le_trans Z120 E131.1
  obtain ⟨T144, X144, e144, st144⟩ := getS2 X131 hx hZ hown (host := "") (Or.inl (hw _ (List.mem_of_getElem? (i := 72) rfl))) Via.refl e131 (hs3.ext Od133.2) (g := (mkF m 91 #[iv u0, iv u1, iv u2, iv ((u0 &&& (2147483647 : Int32)) % (8 : Int32)), iv (u1 &&& (2147483647 : Int32)), rv sv1, rv b3, rv b33, rv b76, .unset, .unset, .unset] [(.int (u1 &&& (2147483647 : Int32))), (.ref b131), (.ref b131)])) rfl (hb hby at_91)
  have S145 : ∀ t, Steps p.tables e below (T144.setTop (mkF m 96 #[iv u0, iv u1, iv u2, iv ((u0 &&& (2147483647 : Int32)) % (8 : Int32)), iv (u1 &&& (2147483647 : Int32)), rv sv1, rv b3, rv b33, rv b76, .unset, .unset, .unset] [(.ref sv1), (.ref t3), (.int (u1 &&& (2147483647 : Int32))), (.ref b131), (.ref b131)])) t → Steps p.tables e below (s₁.setTop (entryFrame m #[(.int u0), (.int u1), (.int u2)] maxLocals)) t := by
    intro t k
    refine S119 t ?_
    show Steps p.tables e below (T104.setTop (mkF m 80 #[iv u0, iv u1, iv u2, iv ((u0 &&& (2147483647 : Int32)) % (8 : Int32)), iv (u1 &&& (2147483647 : Int32)), rv sv1, rv b3, rv b33, .unset, .unset, .unset, .unset] [(.ref lt104), (.ref lt88), (.ref sv1), (.ref t2), (.int (u1 &&& (2147483647 : Int32))), (.ref b76), (.ref b76)])) _
    refine st120.trans ?_
    show Steps p.tables e below (T120.setTop (mkF m 83 #[iv u0, iv u1, iv u2, iv ((u0 &&& (2147483647 : Int32)) % (8 : Int32)), iv (u1 &&& (2147483647 : Int32)), rv sv1, rv b3, rv b33, .unset, .unset, .unset, .unset] [(.ref b76)])) _
    refine XS.astore X120.here hx rfl (hb hby at_83) rfl rfl (l' := #[iv u0, iv u1, iv u2, iv ((u0 &&& (2147483647 : Int32)) % (8 : Int32)), iv (u1 &&& (2147483647 : Int32)), rv sv1, rv b3, rv b33, rv b76, .unset, .unset, .unset]) rfl ?_
    show Steps p.tables e below (T120.setTop (mkF m 85 #[iv u0, iv u1, iv u2, iv ((u0 &&& (2147483647 : Int32)) % (8 : Int32)), iv (u1 &&& (2147483647 : Int32)), rv sv1, rv b3, rv b33, rv b76, .unset, .unset, .unset] [])) _
    refine st131 _ ?_
    show Steps p.tables e below (T131.setTop (mkF m 88 #[iv u0, iv u1, iv u2, iv ((u0 &&& (2147483647 : Int32)) % (8 : Int32)), iv (u1 &&& (2147483647 : Int32)), rv sv1, rv b3, rv b33, rv b76, .unset, .unset, .unset] [(.ref b131)])) _
    refine XS.dup X131.here hx rfl (hb hby at_88) rfl rfl ?_
    show Steps p.tables e below (T131.setTop (mkF m 89 #[iv u0, iv u1, iv u2, iv ((u0 &&& (2147483647 : Int32)) % (8 : Int32)), iv (u1 &&& (2147483647 : Int32)), rv sv1, rv b3, rv b33, rv b76, .unset, .unset, .unset] [(.ref b131), (.ref b131)])) _
    refine XS.iload X131.here hx rfl (hb hby at_89) rfl ?_
    show Steps p.tables e below (T131.setTop (mkF m 91 #[iv u0, iv u1, iv u2, iv ((u0 &&& (2147483647 : Int32)) % (8 : Int32)), iv (u1 &&& (2147483647 : Int32)), rv sv1, rv b3, rv b33, rv b76, .unset, .unset, .unset] [(.int (u1 &&& (2147483647 : Int32))), (.ref b131), (.ref b131)])) _
    refine st144 _ ?_
    show Steps p.tables e below (T144.setTop (mkF m 94 #[iv u0, iv u1, iv u2, iv ((u0 &&& (2147483647 : Int32)) % (8 : Int32)), iv (u1 &&& (2147483647 : Int32)), rv sv1, rv b3, rv b33, rv b76, .unset, .unset, .unset] [(.ref t3), (.int (u1 &&& (2147483647 : Int32))), (.ref b131), (.ref b131)])) _
    refine XS.aload X144.here hx rfl (hb hby at_94) rfl rfl ?_
    exact k
  obtain ⟨lt146, T146, h146, kx146, X146, e146, E146, hS, hkx146, hZ, hown, st146⟩ := ldcS (s := s) (vm0 := T104.vm) X144 hx hZ hown (hw _ (List.mem_of_getElem? (i := 33) rfl)) hwS e144 hS hk132 (g := (mkF m 96 #[iv u0, iv u1, iv u2, iv ((u0 &&& (2147483647 : Int32)) % (8 : Int32)), iv (u1 &&& (2147483647 : Int32)), rv sv1, rv b3, rv b33, rv b76, .unset, .unset, .unset] [(.ref sv1), (.ref t3), (.int (u1 &&& (2147483647 : Int32))), (.ref b131), (.ref b131)])) rfl (hb hby at_96) (n := 4) (by decide) (by decide) (by decide) (by decide)
  have Od147 := Od133.ext E146
  have f148 := f134.ext E146
  have f149 := f135.ext E146
  have f150 := f136.ext E146
  have f151 := f137.ext E146
  have f152 := f138.ext E146
  have f153 := f139.ext E146
  have f154 := f140.ext E146
  have f155 := f141.ext E146
  have f156 := f142.ext E146
  have f157 := f143.ext E146
  have f158 := A131.ext E146
  have f159 := F131_time.ext E146
  have f160 := F131_type.ext E146
  have f161 := F131_agent.ext E146
  have f162 := F131_link.ext E146
  have f163 := F131_detail.ext E146
  have Z146 : n0 ≤ h146.size := Nat.le_trans Z131 E146.1
  have S164 : ∀ t, Steps p.tables e below (T146.setTop (mkF m 98 #[iv u0, iv u1, iv u2, iv ((u0 &&& (2147483647 : Int32)) % (8 : Int32)), iv (u1 &&& (2147483647 : Int32)), rv sv1, rv b3, rv b33, rv b76, .unset, .unset, .unset] [(.ref lt146), (.ref sv1), (.ref t3), (.int (u1 &&& (2147483647 : Int32))), (.ref b131), (.ref b131)])) t → Steps p.tables e below (s₁.setTop (entryFrame m #[(.int u0), (.int u1), (.int u2)] maxLocals)) t := by
    intro t k
    refine S145 t ?_
    show Steps p.tables e below (T144.setTop (mkF m 96 #[iv u0, iv u1, iv u2, iv ((u0 &&& (2147483647 : Int32)) % (8 : Int32)), iv (u1 &&& (2147483647 : Int32)), rv sv1, rv b3, rv b33, rv b76, .unset, .unset, .unset] [(.ref sv1), (.ref t3), (.int (u1 &&& (2147483647 : Int32))), (.ref b131), (.ref b131)])) _
    refine st146 _ ?_
    exact k
  obtain ⟨lt165, T165, h165, kx165, X165, e165, E165, hS, hkx165, hZ, hown, st165⟩ := ldcS (s := s) (vm0 := T146.vm) X146 hx hZ hown (hw _ (List.mem_of_getElem? (i := 36) rfl)) hwS e146 hS hkx146 (g := (mkF m 98 #[iv u0, iv u1, iv u2, iv ((u0 &&& (2147483647 : Int32)) % (8 : Int32)), iv (u1 &&& (2147483647 : Int32)), rv sv1, rv b3, rv b33, rv b76, .unset, .unset, .unset] [(.ref lt146), (.ref sv1), (.ref t3), (.int (u1 &&& (2147483647 : Int32))), (.ref b131), (.ref b131)])) rfl (hb hby at_98) (n := 4) (by decide) (by decide) (by decide) (by decide)
  have Od166 := Od147.ext E165
  have f167 := f148.ext E165
  have f168 := f149.ext E165
  have f169 := f150.ext E165
  have f170 := f151.ext E165
  have f171 := f152.ext E165
  have f172 := f153.ext E165
  have f173 := f154.ext E165
  have f174 := f155.ext E165
  have f175 := f156.ext E165
  have f176 := f157.ext E165
  have f177 := f158.ext E165
  have f178 := f159.ext E165
  have f179 := f160.ext E165
  have f180 := f161.ext E165
  have f181 := f162.ext E165
  have f182 := f163.ext E165
  have Z165 : n0 ≤ h165.size := Nat.le_trans Z146 E165.1
  have S183 : ∀ t, Steps p.tables e below (T165.setTop (mkF m 100 #[iv u0, iv u1, iv u2, iv ((u0 &&& (2147483647 : Int32)) % (8 : Int32)), iv (u1 &&& (2147483647 : Int32)), rv sv1, rv b3, rv b33, rv b76, .unset, .unset, .unset] [(.ref lt165), (.ref lt146), (.ref sv1), (.ref t3), (.int (u1 &&& (2147483647 : Int32))), (.ref b131), (.ref b131)])) t → Steps p.tables e below (s₁.setTop (entryFrame m #[(.int u0), (.int u1), (.int u2)] maxLocals)) t := by
    intro t k
    refine S164 t ?_
    show Steps p.tables e below (T146.setTop (mkF m 98 #[iv u0, iv u1, iv u2, iv ((u0 &&& (2147483647 : Int32)) % (8 : Int32)), iv (u1 &&& (2147483647 : Int32)), rv sv1, rv b3, rv b33, rv b76, .unset, .unset, .unset] [(.ref lt146), (.ref sv1), (.ref t3), (.int (u1 &&& (2147483647 : Int32))), (.ref b131), (.ref b131)])) _
    refine st165 _ ?_
    exact k
  obtain ⟨_, _, ⟨T184, L184, k184, n184⟩, -, X184, ⟨Lc184, hQ184, l184, y184, z184⟩, st184⟩ := X165.specialBack hx (y := (⟨"com/example/reroutine/reroutine/scenario/Event", "<init>", "(ILcom/example/reroutine/reroutine/scenario/EventType;Ljava/lang/String;Ljava/lang/String;Ljava/lang/String;)V"⟩ : MethodName)) rfl hown (mvT hZ (hw _ (List.mem_of_getElem? (i := 37) rfl))) (mvT hZ (hw _ (List.mem_of_getElem? (i := 38) rfl))) (mvT hZ (hw _ (List.mem_of_getElem? (i := 39) rfl))) (by decide) (backOf (W := 1) (rmEvI l Z a0 hw [] b131 (u1 &&& (2147483647 : Int32)) t3 sv1 lt146 lt165 d3 h165 n0 Z165 f177 f178 f179 f180 f181 f182 ge_b131 (hx3.ext Od166.2) (hd3.ext Od166.2) (own_tm _)) hZ (hw _ (List.mem_of_getElem? (i := 39) rfl)) (hw _ (List.mem_of_getElem? (i := 29) rfl)) (by decide) (by decide)) (g := (mkF m 100 #[iv u0, iv u1, iv u2, iv ((u0 &&& (2147483647 : Int32)) % (8 : Int32)), iv (u1 &&& (2147483647 : Int32)), rv sv1, rv b3, rv b33, rv b76, .unset, .unset, .unset] [(.ref lt165), (.ref lt146), (.ref sv1), (.ref t3), (.int (u1 &&& (2147483647 : Int32))), (.ref b131), (.ref b131)])) rfl (by rw [hml]; rfl) (Steps.refl _) (a := b131) (argsL := [(.int (u1 &&& (2147483647 : Int32))), (.ref t3), (.ref sv1), (.ref lt146), (.ref lt165)]) (rest := [(.ref b131)]) (lenOf pd_11 rfl) rfl (by show 2 * 0 + _ ≤ _; exact Nat.le_of_eq rfl) (hb hby at_100) (fun _ _ => ⟨rfl, e165, (by decide : 22 + 0 ≤ _), (by decide : 89 + 0 ≤ _)⟩)
  dsimp only [Pt.U, Pt.locs, Pt.cells, Pt.slots] at X184 l184 y184 z184 st184 hQ184
  subst y184 z184
  obtain ⟨rfl, Nq184, Kq184, Eq184, Fm184, Ft184⟩ := hQ184
  have N184 : Fr n0 L184 := by rw [l184]; exact Fr.app N120 Nq184
  have Z184 : n0 ≤ T184.heap.size := Nat.le_trans Z165 Kq184.1
  have hk185 := Nat.le_trans hkx165 Kq184.1
  have Od186 := Od166.keep Kq184 (allS ge_b131 all0)
  have f187 := f167.keep Kq184
  have f188 := f168.keep Kq184
  have f189 := f169.keep Kq184 (ninS ne_b3_b131 nin0)
  have f190 := f170.keep Kq184 (ninS ne_b3_b131 nin0)
  have f191 := f171.keep Kq184
  have f192 := f172.keep Kq184 (ninS ne_b33_b131 nin0)
  have f193 := f173.keep Kq184 (ninS ne_b33_b131 nin0)
  have f194 := f174.keep Kq184
  have f195 := f175.keep Kq184 (ninS ne_b76_b131 nin0)
  have f196 := f176.keep Kq184 (ninS ne_b76_b131 nin0)
  have f197 := f177.keep Kq184
  obtain ⟨T198, h198, X198, e198, E198, A198, D198, -, st198⟩ := newO X184 hx hZ hown (hw _ (List.mem_of_getElem? (i := 74) rfl)) (hw _ (List.mem_of_getElem? (i := 75) rfl)) (hw _ (List.mem_of_getElem? (i := 76) rfl)) rfl (g := (mkF m 105 #[iv u0, iv u1, iv u2, iv ((u0 &&& (2147483647 : Int32)) % (8 : Int32)), iv (u1 &&& (2147483647 : Int32)), rv sv1, rv b3, rv b33, rv b76, rv b131, .unset, .unset] [])) rfl (hb hby at_105) (by decide) (by decide)
  obtain ⟨b198, g198⟩ : ∃ z, z = T184.heap.size := ⟨_, rfl⟩
  rw [← g198] at A198 D198 st198
  have ge_b198 : n0 ≤ b198 := Nat.le_trans Z184 (Nat.le_of_eq g198.symm)
  have ne_b131_b198 : b131 ≠ b198 := Nat.ne_of_lt (Nat.lt_of_lt_of_le (Eq184).lt (Nat.le_of_eq g198.symm))
  have ne_b3_b198 : b3 ≠ b198 := Nat.ne_of_lt (Nat.lt_of_lt_of_le (f188).lt (Nat.le_of_eq g198.symm))
  have ne_b33_b198 : b33 ≠ b198 := Nat.ne_of_lt (Nat.lt_of_lt_of_le (f191).lt (Nat.le_of_eq g198.symm))
  have ne_b76_b198 : b76 ≠ b198 := Nat.ne_of_lt (Nat.lt_of_lt_of_le (f194).lt (Nat.le_of_eq g198.symm))
  have ne_sv1_b198 : sv1 ≠ b198 := Nat.ne_of_lt (Nat.lt_of_lt_of_le (f187).lt (Nat.le_of_eq g198.symm))
  have hk199 := Nat.le_trans hk185 E198.1
  have Od200 := Od186.ext E198
  have f201 := f187.ext E198
  have f202 := f188.ext E198
  have f203 := f189.ext E198
  have f204 := f190.ext E198
  have f205 := f191.ext E198
  have f206 := f192.ext E198
  have f207 := f193.ext E198
  have f208 := f194.ext E198
  have f209 := f195.ext E198
  have f210 := f196.ext E198
  have f211 := Eq184.ext E198
  have f212 := Fm184.ext E198
  have f213 := Ft184.ext E198
  have F198_times : Fld Z h198 b198 "com/example/reroutine/reroutine/replanning/ExecutedDay" "times" "[I" .null := D198 (Or.inl (hw _ (List.mem_of_getElem? (i := 85) rfl))) (ty := (.array .int)) (by decide)
  have F198_person : Fld Z h198 b198 "com/example/reroutine/reroutine/replanning/ExecutedDay" "person" "Ljava/lang/String;" .null := D198 (Or.inr (hw _ (List.mem_of_getElem? (i := 89) rfl))) (ty := (.object "java/lang/String")) (by decide)
  have F198_size : Fld Z h198 b198 "com/example/reroutine/reroutine/replanning/ExecutedDay" "size" "I" (.int (0 : Int32)) := D198 (Or.inl (hw _ (List.mem_of_getElem? (i := 96) rfl))) (ty := .int) (by decide)
  have Z198 : n0 ≤ h198.size := Nat.le_trans Z184 E198.1
  obtain ⟨_, _, ⟨T214, L214, k214, n214⟩, -, X214, ⟨Lc214, hQ214, l214, y214, z214⟩, st214⟩ := X198.specialBack hx (y := (⟨"com/example/reroutine/reroutine/replanning/ExecutedDay", "<init>", "(Ljava/lang/String;)V"⟩ : MethodName)) rfl hown (mvT hZ (hw _ (List.mem_of_getElem? (i := 77) rfl))) (mvT hZ (hw _ (List.mem_of_getElem? (i := 78) rfl))) (mvT hZ (hw _ (List.mem_of_getElem? (i := 79) rfl))) (by decide) (backOf (W := 1) (rmDayI l Z a0 hw [] b198 sv1 t0 t1 t2 t3 d0 d1 d2 d3 oa oc h198 n0 Z198 Od200 hst A198 F198_times F198_person F198_size ge_b198 f201) hZ (hw _ (List.mem_of_getElem? (i := 79) rfl)) (hw _ (List.mem_of_getElem? (i := 76) rfl)) (by decide) (by decide)) (g := (mkF m 111 #[iv u0, iv u1, iv u2, iv ((u0 &&& (2147483647 : Int32)) % (8 : Int32)), iv (u1 &&& (2147483647 : Int32)), rv sv1, rv b3, rv b33, rv b76, rv b131, .unset, .unset] [(.ref sv1), (.ref b198), (.ref b198)])) rfl (by rw [hml]; rfl) (Steps.refl _) (a := b198) (argsL := [(.ref sv1)]) (rest := [(.ref b198)]) (lenOf pd_12 rfl) rfl (by show 2 * 0 + _ ≤ _; exact Nat.le_of_eq rfl) (hb hby at_111) (fun _ _ => ⟨rfl, e198, (by decide : 23 + 1 ≤ _), (by decide : 92 + 4 ≤ _)⟩)
  dsimp only [Pt.U, Pt.locs, Pt.cells, Pt.slots] at X214 l214 y214 z214 st214 hQ214
  subst y214 z214
  obtain ⟨rfl, Nq214, Kq214, Bq214⟩ := hQ214
  have N214 : Fr n0 L214 := by rw [l214]; exact Fr.app N184 Nq214
  have Z214 : n0 ≤ T214.heap.size := Nat.le_trans Z198 Kq214.1
  have hk215 := Nat.le_trans hk199 Kq214.1
  have Od216 := Od200.keep Kq214 (allS ge_b198 all0)
  have f217 := f201.keep Kq214
  have f218 := f202.keep Kq214
  have f219 := f203.keep Kq214 (ninS ne_b3_b198 nin0)
  have f220 := f204.keep Kq214 (ninS ne_b3_b198 nin0)
  have f221 := f205.keep Kq214
  have f222 := f206.keep Kq214 (ninS ne_b33_b198 nin0)
  have f223 := f207.keep Kq214 (ninS ne_b33_b198 nin0)
  have f224 := f208.keep Kq214
  have f225 := f209.keep Kq214 (ninS ne_b76_b198 nin0)
  have f226 := f210.keep Kq214 (ninS ne_b76_b198 nin0)
  have f227 := f211.keep Kq214
  have f228 := f212.keep Kq214 (ninS ne_b131_b198 nin0)
  have f229 := f213.keep Kq214 (ninS ne_b131_b198 nin0)
  have f230 := A198.keep Kq214
  have oe214 := Bq214.1
  have S231 : ∀ t, Steps p.tables e below (T214.setTop (mkF m 117 #[iv u0, iv u1, iv u2, iv ((u0 &&& (2147483647 : Int32)) % (8 : Int32)), iv (u1 &&& (2147483647 : Int32)), rv sv1, rv b3, rv b33, rv b76, rv b131, rv b198, .unset] [(.int ((u0 &&& (2147483647 : Int32)) % (8 : Int32)))])) t → Steps p.tables e below (s₁.setTop (entryFrame m #[(.int u0), (.int u1), (.int u2)] maxLocals)) t := by
    intro t k
    refine S183 t ?_
    show Steps p.tables e below (T165.setTop (mkF m 100 #[iv u0, iv u1, iv u2, iv ((u0 &&& (2147483647 : Int32)) % (8 : Int32)), iv (u1 &&& (2147483647 : Int32)), rv sv1, rv b3, rv b33, rv b76, .unset, .unset, .unset] [(.ref lt165), (.ref lt146), (.ref sv1), (.ref t3), (.int (u1 &&& (2147483647 : Int32))), (.ref b131), (.ref b131)])) _
    refine st184.trans ?_
    show Steps p.tables e below (T184.setTop (mkF m 103 #[iv u0, iv u1, iv u2, iv ((u0 &&& (2147483647 : Int32)) % (8 : Int32)), iv (u1 &&& (2147483647 : Int32)), rv sv1, rv b3, rv b33, rv b76, .unset, .unset, .unset] [(.ref b131)])) _
    refine XS.astore X184.here hx rfl (hb hby at_103) rfl rfl (l' := #[iv u0, iv u1, iv u2, iv ((u0 &&& (2147483647 : Int32)) % (8 : Int32)), iv (u1 &&& (2147483647 : Int32)), rv sv1, rv b3, rv b33, rv b76, rv b131, .unset, .unset]) rfl ?_
    show Steps p.tables e below (T184.setTop (mkF m 105 #[iv u0, iv u1, iv u2, iv ((u0 &&& (2147483647 : Int32)) % (8 : Int32)), iv (u1 &&& (2147483647 : Int32)), rv sv1, rv b3, rv b33, rv b76, rv b131, .unset, .unset] [])) _
    refine st198 _ ?_
    show Steps p.tables e below (T198.setTop (mkF m 108 #[iv u0, iv u1, iv u2, iv ((u0 &&& (2147483647 : Int32)) % (8 : Int32)), iv (u1 &&& (2147483647 : Int32)), rv sv1, rv b3, rv b33, rv b76, rv b131, .unset, .unset] [(.ref b198)])) _
    refine XS.dup X198.here hx rfl (hb hby at_108) rfl rfl ?_
    show Steps p.tables e below (T198.setTop (mkF m 109 #[iv u0, iv u1, iv u2, iv ((u0 &&& (2147483647 : Int32)) % (8 : Int32)), iv (u1 &&& (2147483647 : Int32)), rv sv1, rv b3, rv b33, rv b76, rv b131, .unset, .unset] [(.ref b198), (.ref b198)])) _
    refine XS.aload X198.here hx rfl (hb hby at_109) rfl rfl ?_
    show Steps p.tables e below (T198.setTop (mkF m 111 #[iv u0, iv u1, iv u2, iv ((u0 &&& (2147483647 : Int32)) % (8 : Int32)), iv (u1 &&& (2147483647 : Int32)), rv sv1, rv b3, rv b33, rv b76, rv b131, .unset, .unset] [(.ref sv1), (.ref b198), (.ref b198)])) _
    refine st214.trans ?_
    show Steps p.tables e below (T214.setTop (mkF m 114 #[iv u0, iv u1, iv u2, iv ((u0 &&& (2147483647 : Int32)) % (8 : Int32)), iv (u1 &&& (2147483647 : Int32)), rv sv1, rv b3, rv b33, rv b76, rv b131, .unset, .unset] [(.ref b198)])) _
    refine XS.astore X214.here hx rfl (hb hby at_114) rfl rfl (l' := #[iv u0, iv u1, iv u2, iv ((u0 &&& (2147483647 : Int32)) % (8 : Int32)), iv (u1 &&& (2147483647 : Int32)), rv sv1, rv b3, rv b33, rv b76, rv b131, rv b198, .unset]) rfl ?_
    show Steps p.tables e below (T214.setTop (mkF m 116 #[iv u0, iv u1, iv u2, iv ((u0 &&& (2147483647 : Int32)) % (8 : Int32)), iv (u1 &&& (2147483647 : Int32)), rv sv1, rv b3, rv b33, rv b76, rv b131, rv b198, .unset] [])) _
    refine XS.iloadN X214.here hx rfl (hb hby at_116) rfl ?_
    exact k
  rcases own_ns u0 with hn_ | hn_ | hn_ | hn_ | hn_ | hn_ | hn_ | hn_
  · skip
    rw [hn_] at S231
    obtain ⟨cq232, kq232, q232a, q232b, q232c⟩ := isOf hZ rfl oe214
    obtain ⟨_, _, ⟨T232, L232, k232, n232⟩, -, X232, ⟨Lc232, hQ232, l232, y232, z232⟩, st232⟩ := X214.virtualBack hx (y := (⟨"com/example/reroutine/reroutine/replanning/ExecutedDay", "legsArrived", "()I"⟩ : MethodName)) (z := (⟨"com/example/reroutine/reroutine/replanning/ExecutedDay", "legsArrived", "()I"⟩ : MethodName)) hown (mvT hZ (hw _ (List.mem_of_getElem? (i := 90) rfl))) (mvT hZ (hw _ (List.mem_of_getElem? (i := 91) rfl))) (notFace_of_selects (args := #[]) (mvT hZ (hw _ (List.mem_of_getElem? (i := 93) rfl)))) (mvT hZ (hw _ (List.mem_of_getElem? (i := 93) rfl))) (mvT hZ (hw _ (List.mem_of_getElem? (i := 92) rfl))) (by decide) (backOf (W := 0) (rmQ0 l Z a0 hw [] b198 t0 t1 t2 t3 d0 d1 d2 d3 oa oc T214.heap n0 Z214 Od216 hst Bq214.2.1) hZ (hw _ (List.mem_of_getElem? (i := 94) rfl)) (hw _ (List.mem_of_getElem? (i := 76) rfl)) (by decide) (by decide)) q232a q232c (g := (mkF m 224 #[iv u0, iv u1, iv u2, iv (0 : Int32), iv (u1 &&& (2147483647 : Int32)), rv sv1, rv b3, rv b33, rv b76, rv b131, rv b198, iv (0 : Int32)] [(.ref b198)])) rfl (by rw [hml]; rfl) (Steps.refl _) (argsL := []) (rest := []) (lenOf pd_8 rfl) rfl (by show 2 * 0 + _ ≤ _; exact Nat.le_of_eq rfl) (hb hby at_224) (fun _ _ => ⟨rfl, rfl, (by decide : 24 + 0 ≤ _), (by decide : 96 + 0 ≤ _)⟩)
    dsimp only [Pt.U, Pt.locs, Pt.cells, Pt.slots] at X232 l232 y232 z232 st232 hQ232
    subst y232 z232
    obtain ⟨rfl, Nq232, eq232⟩ := hQ232
    have N232 : Fr n0 L232 := by rw [l232]; exact Fr.app N214 Nq232
    obtain ⟨fs, hr, hrun, hended, hR1, hR2, hR3, hR4⟩ := X232.leaveW (s := s) hS (by rw [eq232]; exact hk215) (v := some (.int (1 : Int32))) (fun h => by rw [Bd.returns] at h; cases h)
    refine ⟨_, _, S231 _ ?_, hrun, hended, _, _, rfl, ?_, hR1, hR2, hR3, hR4.mono (by decide) (by decide)⟩
    · skip
      show Steps p.tables e below (T214.setTop (mkF m 117 #[iv u0, iv u1, iv u2, iv (0 : Int32), iv (u1 &&& (2147483647 : Int32)), rv sv1, rv b3, rv b33, rv b76, rv b131, rv b198, .unset] [(.int (0 : Int32))])) _
      refine XS.ifYes X214.here hx rfl (pc0 := 117) (pc' := 127) rfl (hb hby at_117) rfl ((if0 _ _).trans (flt (by decide : ¬ ((0 : Int32) < (0 : Int32)))).2.2.2) (by decide) (by decide) ?_
      show Steps p.tables e below (T214.setTop (mkF m 127 #[iv u0, iv u1, iv u2, iv (0 : Int32), iv (u1 &&& (2147483647 : Int32)), rv sv1, rv b3, rv b33, rv b76, rv b131, rv b198, .unset] [])) _
      refine XS.iloadN X214.here hx rfl (hb hby at_127) rfl ?_
      show Steps p.tables e below (T214.setTop (mkF m 128 #[iv u0, iv u1, iv u2, iv (0 : Int32), iv (u1 &&& (2147483647 : Int32)), rv sv1, rv b3, rv b33, rv b76, rv b131, rv b198, .unset] [(.int (0 : Int32))])) _
      refine XS.iconst X214.here hx rfl (hb hby at_128) ?_
      show Steps p.tables e below (T214.setTop (mkF m 129 #[iv u0, iv u1, iv u2, iv (0 : Int32), iv (u1 &&& (2147483647 : Int32)), rv sv1, rv b3, rv b33, rv b76, rv b131, rv b198, .unset] [(.int (1 : Int32)), (.int (0 : Int32))])) _
      refine XS.icmpYes X214.here hx rfl (pc0 := 129) (pc' := 139) rfl (hb hby at_129) rfl (flt (by decide : ¬ ((1 : Int32) < (0 : Int32)))).2.2.2 (by decide) (by decide) ?_
      show Steps p.tables e below (T214.setTop (mkF m 139 #[iv u0, iv u1, iv u2, iv (0 : Int32), iv (u1 &&& (2147483647 : Int32)), rv sv1, rv b3, rv b33, rv b76, rv b131, rv b198, .unset] [])) _
      refine XS.iloadN X214.here hx rfl (hb hby at_139) rfl ?_
      show Steps p.tables e below (T214.setTop (mkF m 140 #[iv u0, iv u1, iv u2, iv (0 : Int32), iv (u1 &&& (2147483647 : Int32)), rv sv1, rv b3, rv b33, rv b76, rv b131, rv b198, .unset] [(.int (0 : Int32))])) _
      refine XS.iconst X214.here hx rfl (hb hby at_140) ?_
      show Steps p.tables e below (T214.setTop (mkF m 141 #[iv u0, iv u1, iv u2, iv (0 : Int32), iv (u1 &&& (2147483647 : Int32)), rv sv1, rv b3, rv b33, rv b76, rv b131, rv b198, .unset] [(.int (2 : Int32)), (.int (0 : Int32))])) _
      refine XS.icmpYes X214.here hx rfl (pc0 := 141) (pc' := 151) rfl (hb hby at_141) rfl (flt (by decide : ¬ ((2 : Int32) < (0 : Int32)))).2.2.2 (by decide) (by decide) ?_
      show Steps p.tables e below (T214.setTop (mkF m 151 #[iv u0, iv u1, iv u2, iv (0 : Int32), iv (u1 &&& (2147483647 : Int32)), rv sv1, rv b3, rv b33, rv b76, rv b131, rv b198, .unset] [])) _
      refine XS.iloadN X214.here hx rfl (hb hby at_151) rfl ?_
      show Steps p.tables e below (T214.setTop (mkF m 152 #[iv u0, iv u1, iv u2, iv (0 : Int32), iv (u1 &&& (2147483647 : Int32)), rv sv1, rv b3, rv b33, rv b76, rv b131, rv b198, .unset] [(.int (0 : Int32))])) _
      refine XS.iconst X214.here hx rfl (hb hby at_152) ?_
      show Steps p.tables e below (T214.setTop (mkF m 153 #[iv u0, iv u1, iv u2, iv (0 : Int32), iv (u1 &&& (2147483647 : Int32)), rv sv1, rv b3, rv b33, rv b76, rv b131, rv b198, .unset] [(.int (3 : Int32)), (.int (0 : Int32))])) _
      refine XS.icmpYes X214.here hx rfl (pc0 := 153) (pc' := 163) rfl (hb hby at_153) rfl (flt (by decide : ¬ ((3 : Int32) < (0 : Int32)))).2.2.2 (by decide) (by decide) ?_
      show Steps p.tables e below (T214.setTop (mkF m 163 #[iv u0, iv u1, iv u2, iv (0 : Int32), iv (u1 &&& (2147483647 : Int32)), rv sv1, rv b3, rv b33, rv b76, rv b131, rv b198, .unset] [])) _
      refine XS.iloadN X214.here hx rfl (hb hby at_163) rfl ?_
      show Steps p.tables e below (T214.setTop (mkF m 164 #[iv u0, iv u1, iv u2, iv (0 : Int32), iv (u1 &&& (2147483647 : Int32)), rv sv1, rv b3, rv b33, rv b76, rv b131, rv b198, .unset] [(.int (0 : Int32))])) _
      refine XS.iconst X214.here hx rfl (hb hby at_164) ?_
      show Steps p.tables e below (T214.setTop (mkF m 165 #[iv u0, iv u1, iv u2, iv (0 : Int32), iv (u1 &&& (2147483647 : Int32)), rv sv1, rv b3, rv b33, rv b76, rv b131, rv b198, .unset] [(.int (4 : Int32)), (.int (0 : Int32))])) _
      refine XS.icmpYes X214.here hx rfl (pc0 := 165) (pc' := 175) rfl (hb hby at_165) rfl (flt (by decide : ¬ ((4 : Int32) < (0 : Int32)))).2.2.2 (by decide) (by decide) ?_
      show Steps p.tables e below (T214.setTop (mkF m 175 #[iv u0, iv u1, iv u2, iv (0 : Int32), iv (u1 &&& (2147483647 : Int32)), rv sv1, rv b3, rv b33, rv b76, rv b131, rv b198, .unset] [])) _
      refine XS.iloadN X214.here hx rfl (hb hby at_175) rfl ?_
      show Steps p.tables e below (T214.setTop (mkF m 176 #[iv u0, iv u1, iv u2, iv (0 : Int32), iv (u1 &&& (2147483647 : Int32)), rv sv1, rv b3, rv b33, rv b76, rv b131, rv b198, .unset] [(.int (0 : Int32))])) _
      refine XS.iconst X214.here hx rfl (hb hby at_176) ?_
      show Steps p.tables e below (T214.setTop (mkF m 177 #[iv u0, iv u1, iv u2, iv (0 : Int32), iv (u1 &&& (2147483647 : Int32)), rv sv1, rv b3, rv b33, rv b76, rv b131, rv b198, .unset] [(.int (5 : Int32)), (.int (0 : Int32))])) _
      refine XS.icmpYes X214.here hx rfl (pc0 := 177) (pc' := 187) rfl (hb hby at_177) rfl (flt (by decide : ¬ ((5 : Int32) < (0 : Int32)))).2.2.2 (by decide) (by decide) ?_
      show Steps p.tables e below (T214.setTop (mkF m 187 #[iv u0, iv u1, iv u2, iv (0 : Int32), iv (u1 &&& (2147483647 : Int32)), rv sv1, rv b3, rv b33, rv b76, rv b131, rv b198, .unset] [])) _
      refine XS.iloadN X214.here hx rfl (hb hby at_187) rfl ?_
      show Steps p.tables e below (T214.setTop (mkF m 188 #[iv u0, iv u1, iv u2, iv (0 : Int32), iv (u1 &&& (2147483647 : Int32)), rv sv1, rv b3, rv b33, rv b76, rv b131, rv b198, .unset] [(.int (0 : Int32))])) _
      refine XS.bipush X214.here hx rfl (hb hby at_188) ?_
      show Steps p.tables e below (T214.setTop (mkF m 190 #[iv u0, iv u1, iv u2, iv (0 : Int32), iv (u1 &&& (2147483647 : Int32)), rv sv1, rv b3, rv b33, rv b76, rv b131, rv b198, .unset] [(.int (6 : Int32)), (.int (0 : Int32))])) _
      refine XS.icmpYes X214.here hx rfl (pc0 := 190) (pc' := 200) rfl (hb hby at_190) rfl (flt (by decide : ¬ ((6 : Int32) < (0 : Int32)))).2.2.2 (by decide) (by decide) ?_
      show Steps p.tables e below (T214.setTop (mkF m 200 #[iv u0, iv u1, iv u2, iv (0 : Int32), iv (u1 &&& (2147483647 : Int32)), rv sv1, rv b3, rv b33, rv b76, rv b131, rv b198, .unset] [])) _
      refine XS.iloadN X214.here hx rfl (hb hby at_200) rfl ?_
      show Steps p.tables e below (T214.setTop (mkF m 201 #[iv u0, iv u1, iv u2, iv (0 : Int32), iv (u1 &&& (2147483647 : Int32)), rv sv1, rv b3, rv b33, rv b76, rv b131, rv b198, .unset] [(.int (0 : Int32))])) _
      refine XS.bipush X214.here hx rfl (hb hby at_201) ?_
      show Steps p.tables e below (T214.setTop (mkF m 203 #[iv u0, iv u1, iv u2, iv (0 : Int32), iv (u1 &&& (2147483647 : Int32)), rv sv1, rv b3, rv b33, rv b76, rv b131, rv b198, .unset] [(.int (7 : Int32)), (.int (0 : Int32))])) _
      refine XS.icmpYes X214.here hx rfl (pc0 := 203) (pc' := 210) rfl (hb hby at_203) rfl (tlt (by decide : (0 : Int32) < (7 : Int32))).1 (by decide) (by decide) ?_
      show Steps p.tables e below (T214.setTop (mkF m 210 #[iv u0, iv u1, iv u2, iv (0 : Int32), iv (u1 &&& (2147483647 : Int32)), rv sv1, rv b3, rv b33, rv b76, rv b131, rv b198, .unset] [])) _
      refine XS.iloadN X214.here hx rfl (hb hby at_210) rfl ?_
      show Steps p.tables e below (T214.setTop (mkF m 211 #[iv u0, iv u1, iv u2, iv (0 : Int32), iv (u1 &&& (2147483647 : Int32)), rv sv1, rv b3, rv b33, rv b76, rv b131, rv b198, .unset] [(.int (0 : Int32))])) _
      refine XS.iconst X214.here hx rfl (hb hby at_211) ?_
      show Steps p.tables e below (T214.setTop (mkF m 212 #[iv u0, iv u1, iv u2, iv (0 : Int32), iv (u1 &&& (2147483647 : Int32)), rv sv1, rv b3, rv b33, rv b76, rv b131, rv b198, .unset] [(.int (3 : Int32)), (.int (0 : Int32))])) _
      refine XS.icmpYes X214.here hx rfl (pc0 := 212) (pc' := 219) rfl (hb hby at_212) rfl (tlt (by decide : (0 : Int32) < (3 : Int32))).1 (by decide) (by decide) ?_
      show Steps p.tables e below (T214.setTop (mkF m 219 #[iv u0, iv u1, iv u2, iv (0 : Int32), iv (u1 &&& (2147483647 : Int32)), rv sv1, rv b3, rv b33, rv b76, rv b131, rv b198, .unset] [])) _
      refine XS.iconst X214.here hx rfl (hb hby at_219) ?_
      show Steps p.tables e below (T214.setTop (mkF m 220 #[iv u0, iv u1, iv u2, iv (0 : Int32), iv (u1 &&& (2147483647 : Int32)), rv sv1, rv b3, rv b33, rv b76, rv b131, rv b198, .unset] [(.int (0 : Int32))])) _
      refine XS.istore X214.here hx rfl (hb hby at_220) rfl (l' := #[iv u0, iv u1, iv u2, iv (0 : Int32), iv (u1 &&& (2147483647 : Int32)), rv sv1, rv b3, rv b33, rv b76, rv b131, rv b198, iv (0 : Int32)]) rfl ?_
      show Steps p.tables e below (T214.setTop (mkF m 222 #[iv u0, iv u1, iv u2, iv (0 : Int32), iv (u1 &&& (2147483647 : Int32)), rv sv1, rv b3, rv b33, rv b76, rv b131, rv b198, iv (0 : Int32)] [])) _
      refine XS.aload X214.here hx rfl (hb hby at_222) rfl rfl ?_
      show Steps p.tables e below (T214.setTop (mkF m 224 #[iv u0, iv u1, iv u2, iv (0 : Int32), iv (u1 &&& (2147483647 : Int32)), rv sv1, rv b3, rv b33, rv b76, rv b131, rv b198, iv (0 : Int32)] [(.ref b198)])) _
      refine st232.trans ?_
      show Steps p.tables e below (T232.setTop (mkF m 227 #[iv u0, iv u1, iv u2, iv (0 : Int32), iv (u1 &&& (2147483647 : Int32)), rv sv1, rv b3, rv b33, rv b76, rv b131, rv b198, iv (0 : Int32)] [(.int (0 : Int32))])) _
      refine XS.iload X232.here hx rfl (hb hby at_227) rfl ?_
      show Steps p.tables e below (T232.setTop (mkF m 229 #[iv u0, iv u1, iv u2, iv (0 : Int32), iv (u1 &&& (2147483647 : Int32)), rv sv1, rv b3, rv b33, rv b76, rv b131, rv b198, iv (0 : Int32)] [(.int (0 : Int32)), (.int (0 : Int32))])) _
      refine XS.icmpNo X232.here hx rfl (hb hby at_229) rfl (teq (by decide : (0 : Int32) = (0 : Int32))).2 ?_
      show Steps p.tables e below (T232.setTop (mkF m 232 #[iv u0, iv u1, iv u2, iv (0 : Int32), iv (u1 &&& (2147483647 : Int32)), rv sv1, rv b3, rv b33, rv b76, rv b131, rv b198, iv (0 : Int32)] [])) _
      refine XS.iconst X232.here hx rfl (hb hby at_232) ?_
      show Steps p.tables e below (T232.setTop (mkF m 233 #[iv u0, iv u1, iv u2, iv (0 : Int32), iv (u1 &&& (2147483647 : Int32)), rv sv1, rv b3, rv b33, rv b76, rv b131, rv b198, iv (0 : Int32)] [(.int (1 : Int32))])) _
      refine XS.goto X232.here hx rfl (pc0 := 233) (pc' := 237) rfl (hb hby at_233) (by decide) (by decide) ?_
      show Steps p.tables e below (T232.setTop (mkF m 237 #[iv u0, iv u1, iv u2, iv (0 : Int32), iv (u1 &&& (2147483647 : Int32)), rv sv1, rv b3, rv b33, rv b76, rv b131, rv b198, iv (0 : Int32)] [(.int (1 : Int32))])) _
      exact retN X232 hx (t := .boolean) Bd.returns (by simp) (hb hby at_237) hr
    · show Q0 Z u0 u1 u2 t0 t1 t2 t3 d0 d1 d2 d3 oa oc G1 h0 n0 _ T232.heap _
      rw [eq232]
      exact ⟨rfl, N232⟩
  · skip
    rw [hn_] at S231
    obtain ⟨cq233, kq233, q233a, q233b, q233c⟩ := isOf hZ rfl oe214
    obtain ⟨_, _, ⟨T233, L233, k233, n233⟩, -, X233, ⟨Lc233, hQ233, l233, y233, z233⟩, st233⟩ := X214.virtualBack hx (y := (⟨"com/example/reroutine/reroutine/replanning/ExecutedDay", "add", "(Lcom/example/reroutine/reroutine/scenario/Event;)V"⟩ : MethodName)) (z := (⟨"com/example/reroutine/reroutine/replanning/ExecutedDay", "add", "(Lcom/example/reroutine/reroutine/scenario/Event;)V"⟩ : MethodName)) hown (mvT hZ (hw _ (List.mem_of_getElem? (i := 97) rfl))) (mvT hZ (hw _ (List.mem_of_getElem? (i := 98) rfl))) (notFace_of_selects (args := #[]) (mvT hZ (hw _ (List.mem_of_getElem? (i := 100) rfl)))) (mvT hZ (hw _ (List.mem_of_getElem? (i := 100) rfl))) (mvT hZ (hw _ (List.mem_of_getElem? (i := 99) rfl))) (by decide) (backOf (W := 0) (rmAdd0 l Z a0 hw [] b198 b3 t0 t1 t2 t3 d0 d1 d2 d3 oa oc (u1 &&& (2147483647 : Int32)) T214.heap n0 Z214 Od216 hst Bq214 ge_b198 (Ne.symm ne_b3_b198) f218 f219 f220) hZ (hw _ (List.mem_of_getElem? (i := 101) rfl)) (hw _ (List.mem_of_getElem? (i := 76) rfl)) (by decide) (by decide)) q233a q233c (g := (mkF m 124 #[iv u0, iv u1, iv u2, iv (1 : Int32), iv (u1 &&& (2147483647 : Int32)), rv sv1, rv b3, rv b33, rv b76, rv b131, rv b198, .unset] [(.ref b3), (.ref b198)])) rfl (by rw [hml]; rfl) (Steps.refl _) (argsL := [(.ref b3)]) (rest := []) (lenOf pd_13 rfl) rfl (by show 2 * 0 + _ ≤ _; exact Nat.le_of_eq rfl) (hb hby at_124) (fun _ _ => ⟨rfl, rfl, (by decide : 24 + 0 ≤ _), (by decide : 96 + 0 ≤ _)⟩)
    dsimp only [Pt.U, Pt.locs, Pt.cells, Pt.slots] at X233 l233 y233 z233 st233 hQ233
    subst y233 z233
    obtain ⟨rfl, Nq233, Kx233, Bq233⟩ := hQ233
    have N233 : Fr n0 L233 := by rw [l233]; exact Fr.app N214 Nq233
    obtain ⟨ar233, cl233, ty233, Kq233, gar233, Arq233⟩ := Kx233
    have Z233 : n0 ≤ T233.heap.size := Nat.le_trans Z214 Kq233.1
    have f234 := f219.keep Kq233 (ninS ne_b3_b198 (ninS (ne_arr f218 (hw _ (List.mem_of_getElem? (i := 28) rfl)) Arq233) nin0))
    have f235 := f220.keep Kq233 (ninS ne_b3_b198 (ninS (ne_arr f218 (hw _ (List.mem_of_getElem? (i := 28) rfl)) Arq233) nin0))
    have f236 := f222.keep Kq233 (ninS ne_b33_b198 (ninS (ne_arr f221 (hw _ (List.mem_of_getElem? (i := 28) rfl)) Arq233) nin0))
    have f237 := f223.keep Kq233 (ninS ne_b33_b198 (ninS (ne_arr f221 (hw _ (List.mem_of_getElem? (i := 28) rfl)) Arq233) nin0))
    have f238 := f225.keep Kq233 (ninS ne_b76_b198 (ninS (ne_arr f224 (hw _ (List.mem_of_getElem? (i := 28) rfl)) Arq233) nin0))
    have f239 := f226.keep Kq233 (ninS ne_b76_b198 (ninS (ne_arr f224 (hw _ (List.mem_of_getElem? (i := 28) rfl)) Arq233) nin0))
    have f240 := f228.keep Kq233 (ninS ne_b131_b198 (ninS (ne_arr f227 (hw _ (List.mem_of_getElem? (i := 28) rfl)) Arq233) nin0))
    have f241 := f229.keep Kq233 (ninS ne_b131_b198 (ninS (ne_arr f227 (hw _ (List.mem_of_getElem? (i := 28) rfl)) Arq233) nin0))
    have f242 := f218.keep Kq233
    have f243 := f221.keep Kq233
    have f244 := f224.keep Kq233
    have f245 := f227.keep Kq233
    have f246 := oe214.keep Kq233
    have Od233 := Od216.keep Kq233 (allS ge_b198 (allS gar233 all0))
    have hk233 := Nat.le_trans hk215 Kq233.1
    obtain ⟨cq247, kq247, q247a, q247b, q247c⟩ := isOf hZ rfl f246
    obtain ⟨_, _, ⟨T247, L247, k247, n247⟩, -, X247, ⟨Lc247, hQ247, l247, y247, z247⟩, st247⟩ := X233.virtualBack hx (y := (⟨"com/example/reroutine/reroutine/replanning/ExecutedDay", "legsArrived", "()I"⟩ : MethodName)) (z := (⟨"com/example/reroutine/reroutine/replanning/ExecutedDay", "legsArrived", "()I"⟩ : MethodName)) hown (mvT hZ (hw _ (List.mem_of_getElem? (i := 90) rfl))) (mvT hZ (hw _ (List.mem_of_getElem? (i := 91) rfl))) (notFace_of_selects (args := #[]) (mvT hZ (hw _ (List.mem_of_getElem? (i := 93) rfl)))) (mvT hZ (hw _ (List.mem_of_getElem? (i := 93) rfl))) (mvT hZ (hw _ (List.mem_of_getElem? (i := 92) rfl))) (by decide) (backOf (W := 0) (rmQ1 l Z a0 hw [] b198 t0 t1 t2 t3 d0 d1 d2 d3 oa oc T233.heap n0 Z233 Od233 hst Bq233.2.1) hZ (hw _ (List.mem_of_getElem? (i := 94) rfl)) (hw _ (List.mem_of_getElem? (i := 76) rfl)) (by decide) (by decide)) q247a q247c (g := (mkF m 224 #[iv u0, iv u1, iv u2, iv (1 : Int32), iv (u1 &&& (2147483647 : Int32)), rv sv1, rv b3, rv b33, rv b76, rv b131, rv b198, iv (0 : Int32)] [(.ref b198)])) rfl (by rw [hml]; rfl) (Steps.refl _) (argsL := []) (rest := []) (lenOf pd_8 rfl) rfl (by show 2 * 0 + _ ≤ _; exact Nat.le_of_eq rfl) (hb hby at_224) (fun _ _ => ⟨rfl, rfl, (by decide : 24 + 0 ≤ _), (by decide : 96 + 0 ≤ _)⟩)
    dsimp only [Pt.U, Pt.locs, Pt.cells, Pt.slots] at X247 l247 y247 z247 st247 hQ247
    subst y247 z247
    obtain ⟨rfl, Nq247, eq247⟩ := hQ247
    have N247 : Fr n0 L247 := by rw [l247]; exact Fr.app N233 Nq247
    obtain ⟨fs, hr, hrun, hended, hR1, hR2, hR3, hR4⟩ := X247.leaveW (s := s) hS (by rw [eq247]; exact hk233) (v := some (.int (1 : Int32))) (fun h => by rw [Bd.returns] at h; cases h)
    refine ⟨_, _, S231 _ ?_, hrun, hended, _, _, rfl, ?_, hR1, hR2, hR3, hR4.mono (by decide) (by decide)⟩
    · skip
      show Steps p.tables e below (T214.setTop (mkF m 117 #[iv u0, iv u1, iv u2, iv (1 : Int32), iv (u1 &&& (2147483647 : Int32)), rv sv1, rv b3, rv b33, rv b76, rv b131, rv b198, .unset] [(.int (1 : Int32))])) _
      refine XS.ifNo X214.here hx rfl (hb hby at_117) rfl ((if0 _ _).trans (tlt (by decide : (0 : Int32) < (1 : Int32))).2.2.2) ?_
      show Steps p.tables e below (T214.setTop (mkF m 120 #[iv u0, iv u1, iv u2, iv (1 : Int32), iv (u1 &&& (2147483647 : Int32)), rv sv1, rv b3, rv b33, rv b76, rv b131, rv b198, .unset] [])) _
      refine XS.aload X214.here hx rfl (hb hby at_120) rfl rfl ?_
      show Steps p.tables e below (T214.setTop (mkF m 122 #[iv u0, iv u1, iv u2, iv (1 : Int32), iv (u1 &&& (2147483647 : Int32)), rv sv1, rv b3, rv b33, rv b76, rv b131, rv b198, .unset] [(.ref b198)])) _
      refine XS.aload X214.here hx rfl (hb hby at_122) rfl rfl ?_
      show Steps p.tables e below (T214.setTop (mkF m 124 #[iv u0, iv u1, iv u2, iv (1 : Int32), iv (u1 &&& (2147483647 : Int32)), rv sv1, rv b3, rv b33, rv b76, rv b131, rv b198, .unset] [(.ref b3), (.ref b198)])) _
      refine st233.trans ?_
      show Steps p.tables e below (T233.setTop (mkF m 127 #[iv u0, iv u1, iv u2, iv (1 : Int32), iv (u1 &&& (2147483647 : Int32)), rv sv1, rv b3, rv b33, rv b76, rv b131, rv b198, .unset] [])) _
      refine XS.iloadN X233.here hx rfl (hb hby at_127) rfl ?_
      show Steps p.tables e below (T233.setTop (mkF m 128 #[iv u0, iv u1, iv u2, iv (1 : Int32), iv (u1 &&& (2147483647 : Int32)), rv sv1, rv b3, rv b33, rv b76, rv b131, rv b198, .unset] [(.int (1 : Int32))])) _
      refine XS.iconst X233.here hx rfl (hb hby at_128) ?_
      show Steps p.tables e below (T233.setTop (mkF m 129 #[iv u0, iv u1, iv u2, iv (1 : Int32), iv (u1 &&& (2147483647 : Int32)), rv sv1, rv b3, rv b33, rv b76, rv b131, rv b198, .unset] [(.int (1 : Int32)), (.int (1 : Int32))])) _
      refine XS.icmpYes X233.here hx rfl (pc0 := 129) (pc' := 139) rfl (hb hby at_129) rfl (flt (by decide : ¬ ((1 : Int32) < (1 : Int32)))).2.2.2 (by decide) (by decide) ?_
      show Steps p.tables e below (T233.setTop (mkF m 139 #[iv u0, iv u1, iv u2, iv (1 : Int32), iv (u1 &&& (2147483647 : Int32)), rv sv1, rv b3, rv b33, rv b76, rv b131, rv b198, .unset] [])) _
      refine XS.iloadN X233.here hx rfl (hb hby at_139) rfl ?_
      show Steps p.tables e below (T233.setTop (mkF m 140 #[iv u0, iv u1, iv u2, iv (1 : Int32), iv (u1 &&& (2147483647 : Int32)), rv sv1, rv b3, rv b33, rv b76, rv b131, rv b198, .unset] [(.int (1 : Int32))])) _
      refine XS.iconst X233.here hx rfl (hb hby at_140) ?_
      show Steps p.tables e below (T233.setTop (mkF m 141 #[iv u0, iv u1, iv u2, iv (1 : Int32), iv (u1 &&& (2147483647 : Int32)), rv sv1, rv b3, rv b33, rv b76, rv b131, rv b198, .unset] [(.int (2 : Int32)), (.int (1 : Int32))])) _
      refine XS.icmpYes X233.here hx rfl (pc0 := 141) (pc' := 151) rfl (hb hby at_141) rfl (flt (by decide : ¬ ((2 : Int32) < (1 : Int32)))).2.2.2 (by decide) (by decide) ?_
      show Steps p.tables e below (T233.setTop (mkF m 151 #[iv u0, iv u1, iv u2, iv (1 : Int32), iv (u1 &&& (2147483647 : Int32)), rv sv1, rv b3, rv b33, rv b76, rv b131, rv b198, .unset] [])) _
      refine XS.iloadN X233.here hx rfl (hb hby at_151) rfl ?_
      show Steps p.tables e below (T233.setTop (mkF m 152 #[iv u0, iv u1, iv u2, iv (1 : Int32), iv (u1 &&& (2147483647 : Int32)), rv sv1, rv b3, rv b33, rv b76, rv b131, rv b198, .unset] [(.int (1 : Int32))])) _
      refine XS.iconst X233.here hx rfl (hb hby at_152) ?_
      show Steps p.tables e below (T233.setTop (mkF m 153 #[iv u0, iv u1, iv u2, iv (1 : Int32), iv (u1 &&& (2147483647 : Int32)), rv sv1, rv b3, rv b33, rv b76, rv b131, rv b198, .unset] [(.int (3 : Int32)), (.int (1 : Int32))])) _
      refine XS.icmpYes X233.here hx rfl (pc0 := 153) (pc' := 163) rfl (hb hby at_153) rfl (flt (by decide : ¬ ((3 : Int32) < (1 : Int32)))).2.2.2 (by decide) (by decide) ?_
      show Steps p.tables e below (T233.setTop (mkF m 163 #[iv u0, iv u1, iv u2, iv (1 : Int32), iv (u1 &&& (2147483647 : Int32)), rv sv1, rv b3, rv b33, rv b76, rv b131, rv b198, .unset] [])) _
      refine XS.iloadN X233.here hx rfl (hb hby at_163) rfl ?_
      show Steps p.tables e below (T233.setTop (mkF m 164 #[iv u0, iv u1, iv u2, iv (1 : Int32), iv (u1 &&& (2147483647 : Int32)), rv sv1, rv b3, rv b33, rv b76, rv b131, rv b198, .unset] [(.int (1 : Int32))])) _
      refine XS.iconst X233.here hx rfl (hb hby at_164) ?_
      show Steps p.tables e below (T233.setTop (mkF m 165 #[iv u0, iv u1, iv u2, iv (1 : Int32), iv (u1 &&& (2147483647 : Int32)), rv sv1, rv b3, rv b33, rv b76, rv b131, rv b198, .unset] [(.int (4 : Int32)), (.int (1 : Int32))])) _
      refine XS.icmpYes X233.here hx rfl (pc0 := 165) (pc' := 175) rfl (hb hby at_165) rfl (flt (by decide : ¬ ((4 : Int32) < (1 : Int32)))).2.2.2 (by decide) (by decide) ?_
      show Steps p.tables e below (T233.setTop (mkF m 175 #[iv u0, iv u1, iv u2, iv (1 : Int32), iv (u1 &&& (2147483647 : Int32)), rv sv1, rv b3, rv b33, rv b76, rv b131, rv b198, .unset] [])) _
      refine XS.iloadN X233.here hx rfl (hb hby at_175) rfl ?_
      show Steps p.tables e below (T233.setTop (mkF m 176 #[iv u0, iv u1, iv u2, iv (1 : Int32), iv (u1 &&& (2147483647 : Int32)), rv sv1, rv b3, rv b33, rv b76, rv b131, rv b198, .unset] [(.int (1 : Int32))])) _
      refine XS.iconst X233.here hx rfl (hb hby at_176) ?_
      show Steps p.tables e below (T233.setTop (mkF m 177 #[iv u0, iv u1, iv u2, iv (1 : Int32), iv (u1 &&& (2147483647 : Int32)), rv sv1, rv b3, rv b33, rv b76, rv b131, rv b198, .unset] [(.int (5 : Int32)), (.int (1 : Int32))])) _
      refine XS.icmpYes X233.here hx rfl (pc0 := 177) (pc' := 187) rfl (hb hby at_177) rfl (flt (by decide : ¬ ((5 : Int32) < (1 : Int32)))).2.2.2 (by decide) (by decide) ?_
      show Steps p.tables e below (T233.setTop (mkF m 187 #[iv u0, iv u1, iv u2, iv (1 : Int32), iv (u1 &&& (2147483647 : Int32)), rv sv1, rv b3, rv b33, rv b76, rv b131, rv b198, .unset] [])) _
      refine XS.iloadN X233.here hx rfl (hb hby at_187) rfl ?_
      show Steps p.tables e below (T233.setTop (mkF m 188 #[iv u0, iv u1, iv u2, iv (1 : Int32), iv (u1 &&& (2147483647 : Int32)), rv sv1, rv b3, rv b33, rv b76, rv b131, rv b198, .unset] [(.int (1 : Int32))])) _
      refine XS.bipush X233.here hx rfl (hb hby at_188) ?_
      show Steps p.tables e below (T233.setTop (mkF m 190 #[iv u0, iv u1, iv u2, iv (1 : Int32), iv (u1 &&& (2147483647 : Int32)), rv sv1, rv b3, rv b33, rv b76, rv b131, rv b198, .unset] [(.int (6 : Int32)), (.int (1 : Int32))])) _
      refine XS.icmpYes X233.here hx rfl (pc0 := 190) (pc' := 200) rfl (hb hby at_190) rfl (flt (by decide : ¬ ((6 : Int32) < (1 : Int32)))).2.2.2 (by decide) (by decide) ?_
      show Steps p.tables e below (T233.setTop (mkF m 200 #[iv u0, iv u1, iv u2, iv (1 : Int32), iv (u1 &&& (2147483647 : Int32)), rv sv1, rv b3, rv b33, rv b76, rv b131, rv b198, .unset] [])) _
      refine XS.iloadN X233.here hx rfl (hb hby at_200) rfl ?_
      show Steps p.tables e below (T233.setTop (mkF m 201 #[iv u0, iv u1, iv u2, iv (1 : Int32), iv (u1 &&& (2147483647 : Int32)), rv sv1, rv b3, rv b33, rv b76, rv b131, rv b198, .unset] [(.int (1 : Int32))])) _
      refine XS.bipush X233.here hx rfl (hb hby at_201) ?_
      show Steps p.tables e below (T233.setTop (mkF m 203 #[iv u0, iv u1, iv u2, iv (1 : Int32), iv (u1 &&& (2147483647 : Int32)), rv sv1, rv b3, rv b33, rv b76, rv b131, rv b198, .unset] [(.int (7 : Int32)), (.int (1 : Int32))])) _
      refine XS.icmpYes X233.here hx rfl (pc0 := 203) (pc' := 210) rfl (hb hby at_203) rfl (tlt (by decide : (1 : Int32) < (7 : Int32))).1 (by decide) (by decide) ?_
      show Steps p.tables e below (T233.setTop (mkF m 210 #[iv u0, iv u1, iv u2, iv (1 : Int32), iv (u1 &&& (2147483647 : Int32)), rv sv1, rv b3, rv b33, rv b76, rv b131, rv b198, .unset] [])) _
      refine XS.iloadN X233.here hx rfl (hb hby at_210) rfl ?_
      show Steps p.tables e below (T233.setTop (mkF m 211 #[iv u0, iv u1, iv u2, iv (1 : Int32), iv (u1 &&& (2147483647 : Int32)), rv sv1, rv b3, rv b33, rv b76, rv b131, rv b198, .unset] [(.int (1 : Int32))])) _
      refine XS.iconst X233.here hx rfl (hb hby at_211) ?_
      show Steps p.tables e below (T233.setTop (mkF m 212 #[iv u0, iv u1, iv u2, iv (1 : Int32), iv (u1 &&& (2147483647 : Int32)), rv sv1, rv b3, rv b33, rv b76, rv b131, rv b198, .unset] [(.int (3 : Int32)), (.int (1 : Int32))])) _
      refine XS.icmpYes X233.here hx rfl (pc0 := 212) (pc' := 219) rfl (hb hby at_212) rfl (tlt (by decide : (1 : Int32) < (3 : Int32))).1 (by decide) (by decide) ?_
      show Steps p.tables e below (T233.setTop (mkF m 219 #[iv u0, iv u1, iv u2, iv (1 : Int32), iv (u1 &&& (2147483647 : Int32)), rv sv1, rv b3, rv b33, rv b76, rv b131, rv b198, .unset] [])) _
      refine XS.iconst X233.here hx rfl (hb hby at_219) ?_
      show Steps p.tables e below (T233.setTop (mkF m 220 #[iv u0, iv u1, iv u2, iv (1 : Int32), iv (u1 &&& (2147483647 : Int32)), rv sv1, rv b3, rv b33, rv b76, rv b131, rv b198, .unset] [(.int (0 : Int32))])) _
      refine XS.istore X233.here hx rfl (hb hby at_220) rfl (l' := #[iv u0, iv u1, iv u2, iv (1 : Int32), iv (u1 &&& (2147483647 : Int32)), rv sv1, rv b3, rv b33, rv b76, rv b131, rv b198, iv (0 : Int32)]) rfl ?_
      show Steps p.tables e below (T233.setTop (mkF m 222 #[iv u0, iv u1, iv u2, iv (1 : Int32), iv (u1 &&& (2147483647 : Int32)), rv sv1, rv b3, rv b33, rv b76, rv b131, rv b198, iv (0 : Int32)] [])) _
      refine XS.aload X233.here hx rfl (hb hby at_222) rfl rfl ?_
      show Steps p.tables e below (T233.setTop (mkF m 224 #[iv u0, iv u1, iv u2, iv (1 : Int32), iv (u1 &&& (2147483647 : Int32)), rv sv1, rv b3, rv b33, rv b76, rv b131, rv b198, iv (0 : Int32)] [(.ref b198)])) _
      refine st247.trans ?_
      show Steps p.tables e below (T247.setTop (mkF m 227 #[iv u0, iv u1, iv u2, iv (1 : Int32), iv (u1 &&& (2147483647 : Int32)), rv sv1, rv b3, rv b33, rv b76, rv b131, rv b198, iv (0 : Int32)] [(.int (0 : Int32))])) _
      refine XS.iload X247.here hx rfl (hb hby at_227) rfl ?_
      show Steps p.tables e below (T247.setTop (mkF m 229 #[iv u0, iv u1, iv u2, iv (1 : Int32), iv (u1 &&& (2147483647 : Int32)), rv sv1, rv b3, rv b33, rv b76, rv b131, rv b198, iv (0 : Int32)] [(.int (0 : Int32)), (.int (0 : Int32))])) _
      refine XS.icmpNo X247.here hx rfl (hb hby at_229) rfl (teq (by decide : (0 : Int32) = (0 : Int32))).2 ?_
      show Steps p.tables e below (T247.setTop (mkF m 232 #[iv u0, iv u1, iv u2, iv (1 : Int32), iv (u1 &&& (2147483647 : Int32)), rv sv1, rv b3, rv b33, rv b76, rv b131, rv b198, iv (0 : Int32)] [])) _
      refine XS.iconst X247.here hx rfl (hb hby at_232) ?_
      show Steps p.tables e below (T247.setTop (mkF m 233 #[iv u0, iv u1, iv u2, iv (1 : Int32), iv (u1 &&& (2147483647 : Int32)), rv sv1, rv b3, rv b33, rv b76, rv b131, rv b198, iv (0 : Int32)] [(.int (1 : Int32))])) _
      refine XS.goto X247.here hx rfl (pc0 := 233) (pc' := 237) rfl (hb hby at_233) (by decide) (by decide) ?_
      show Steps p.tables e below (T247.setTop (mkF m 237 #[iv u0, iv u1, iv u2, iv (1 : Int32), iv (u1 &&& (2147483647 : Int32)), rv sv1, rv b3, rv b33, rv b76, rv b131, rv b198, iv (0 : Int32)] [(.int (1 : Int32))])) _
      exact retN X247 hx (t := .boolean) Bd.returns (by simp) (hb hby at_237) hr
    · show Q0 Z u0 u1 u2 t0 t1 t2 t3 d0 d1 d2 d3 oa oc G1 h0 n0 _ T247.heap _
      rw [eq247]
      exact ⟨rfl, N247⟩
  · skip
    rw [hn_] at S231
    obtain ⟨cq248, kq248, q248a, q248b, q248c⟩ := isOf hZ rfl oe214
    obtain ⟨_, _, ⟨T248, L248, k248, n248⟩, -, X248, ⟨Lc248, hQ248, l248, y248, z248⟩, st248⟩ := X214.virtualBack hx (y := (⟨"com/example/reroutine/reroutine/replanning/ExecutedDay", "add", "(Lcom/example/reroutine/reroutine/scenario/Event;)V"⟩ : MethodName)) (z := (⟨"com/example/reroutine/reroutine/replanning/ExecutedDay", "add", "(Lcom/example/reroutine/reroutine/scenario/Event;)V"⟩ : MethodName)) hown (mvT hZ (hw _ (List.mem_of_getElem? (i := 97) rfl))) (mvT hZ (hw _ (List.mem_of_getElem? (i := 98) rfl))) (notFace_of_selects (args := #[]) (mvT hZ (hw _ (List.mem_of_getElem? (i := 100) rfl)))) (mvT hZ (hw _ (List.mem_of_getElem? (i := 100) rfl))) (mvT hZ (hw _ (List.mem_of_getElem? (i := 99) rfl))) (by decide) (backOf (W := 0) (rmAdd0 l Z a0 hw [] b198 b3 t0 t1 t2 t3 d0 d1 d2 d3 oa oc (u1 &&& (2147483647 : Int32)) T214.heap n0 Z214 Od216 hst Bq214 ge_b198 (Ne.symm ne_b3_b198) f218 f219 f220) hZ (hw _ (List.mem_of_getElem? (i := 101) rfl)) (hw _ (List.mem_of_getElem? (i := 76) rfl)) (by decide) (by decide)) q248a q248c (g := (mkF m 124 #[iv u0, iv u1, iv u2, iv (2 : Int32), iv (u1 &&& (2147483647 : Int32)), rv sv1, rv b3, rv b33, rv b76, rv b131, rv b198, .unset] [(.ref b3), (.ref b198)])) rfl (by rw [hml]; rfl) (Steps.refl _) (argsL := [(.ref b3)]) (rest := []) (lenOf pd_13 rfl) rfl (by show 2 * 0 + _ ≤ _; exact Nat.le_of_eq rfl) (hb hby at_124) (fun _ _ => ⟨rfl, rfl, (by decide : 24 + 0 ≤ _), (by decide : 96 + 0 ≤ _)⟩)
    dsimp only [Pt.U, Pt.locs, Pt.cells, Pt.slots] at X248 l248 y248 z248 st248 hQ248
    subst y248 z248
    obtain ⟨rfl, Nq248, Kx248, Bq248⟩ := hQ248
    have N248 : Fr n0 L248 := by rw [l248]; exact Fr.app N214 Nq248
    obtain ⟨ar248, cl248, ty248, Kq248, gar248, Arq248⟩ := Kx248
    have Z248 : n0 ≤ T248.heap.size := Nat.le_trans Z214 Kq248.1
    have f249 := f219.keep Kq248 (ninS ne_b3_b198 (ninS (ne_arr f218 (hw _ (List.mem_of_getElem? (i := 28) rfl)) Arq248) nin0))
    have f250 := f220.keep Kq248 (ninS ne_b3_b198 (ninS (ne_arr f218 (hw _ (List.mem_of_getElem? (i := 28) rfl)) Arq248) nin0))
    have f251 := f222.keep Kq248 (ninS ne_b33_b198 (ninS (ne_arr f221 (hw _ (List.mem_of_getElem? (i := 28) rfl)) Arq248) nin0))
    have f252 := f223.keep Kq248 (ninS ne_b33_b198 (ninS (ne_arr f221 (hw _ (List.mem_of_getElem? (i := 28) rfl)) Arq248) nin0))
    have f253 := f225.keep Kq248 (ninS ne_b76_b198 (ninS (ne_arr f224 (hw _ (List.mem_of_getElem? (i := 28) rfl)) Arq248) nin0))
    have f254 := f226.keep Kq248 (ninS ne_b76_b198 (ninS (ne_arr f224 (hw _ (List.mem_of_getElem? (i := 28) rfl)) Arq248) nin0))
    have f255 := f228.keep Kq248 (ninS ne_b131_b198 (ninS (ne_arr f227 (hw _ (List.mem_of_getElem? (i := 28) rfl)) Arq248) nin0))
    have f256 := f229.keep Kq248 (ninS ne_b131_b198 (ninS (ne_arr f227 (hw _ (List.mem_of_getElem? (i := 28) rfl)) Arq248) nin0))
    have f257 := f218.keep Kq248
    have f258 := f221.keep Kq248
    have f259 := f224.keep Kq248
    have f260 := f227.keep Kq248
    have f261 := oe214.keep Kq248
    have Od248 := Od216.keep Kq248 (allS ge_b198 (allS gar248 all0))
    have hk248 := Nat.le_trans hk215 Kq248.1
    obtain ⟨cq262, kq262, q262a, q262b, q262c⟩ := isOf hZ rfl f261
    obtain ⟨_, _, ⟨T262, L262, k262, n262⟩, -, X262, ⟨Lc262, hQ262, l262, y262, z262⟩, st262⟩ := X248.virtualBack hx (y := (⟨"com/example/reroutine/reroutine/replanning/ExecutedDay", "add", "(Lcom/example/reroutine/reroutine/scenario/Event;)V"⟩ : MethodName)) (z := (⟨"com/example/reroutine/reroutine/replanning/ExecutedDay", "add", "(Lcom/example/reroutine/reroutine/scenario/Event;)V"⟩ : MethodName)) hown (mvT hZ (hw _ (List.mem_of_getElem? (i := 97) rfl))) (mvT hZ (hw _ (List.mem_of_getElem? (i := 98) rfl))) (notFace_of_selects (args := #[]) (mvT hZ (hw _ (List.mem_of_getElem? (i := 100) rfl)))) (mvT hZ (hw _ (List.mem_of_getElem? (i := 100) rfl))) (mvT hZ (hw _ (List.mem_of_getElem? (i := 99) rfl))) (by decide) (backOf (W := 0) (rmAdd1 l Z a0 hw [] b198 b33 t0 t1 t2 t3 d0 d1 d2 d3 oa oc (u1 &&& (2147483647 : Int32)) T248.heap n0 Z248 Od248 hst Bq248 ge_b198 (Ne.symm ne_b33_b198) f258 f251 f252) hZ (hw _ (List.mem_of_getElem? (i := 101) rfl)) (hw _ (List.mem_of_getElem? (i := 76) rfl)) (by decide) (by decide)) q262a q262c (g := (mkF m 136 #[iv u0, iv u1, iv u2, iv (2 : Int32), iv (u1 &&& (2147483647 : Int32)), rv sv1, rv b3, rv b33, rv b76, rv b131, rv b198, .unset] [(.ref b33), (.ref b198)])) rfl (by rw [hml]; rfl) (Steps.refl _) (argsL := [(.ref b33)]) (rest := []) (lenOf pd_13 rfl) rfl (by show 2 * 0 + _ ≤ _; exact Nat.le_of_eq rfl) (hb hby at_136) (fun _ _ => ⟨rfl, rfl, (by decide : 24 + 0 ≤ _), (by decide : 96 + 0 ≤ _)⟩)
    dsimp only [Pt.U, Pt.locs, Pt.cells, Pt.slots] at X262 l262 y262 z262 st262 hQ262
    subst y262 z262
    obtain ⟨rfl, Nq262, Kx262, Bq262⟩ := hQ262
    have N262 : Fr n0 L262 := by rw [l262]; exact Fr.app N248 Nq262
    obtain ⟨ar262, cl262, ty262, Kq262, gar262, Arq262⟩ := Kx262
    have Z262 : n0 ≤ T262.heap.size := Nat.le_trans Z248 Kq262.1
    have f263 := f249.keep Kq262 (ninS ne_b3_b198 (ninS (ne_arr f257 (hw _ (List.mem_of_getElem? (i := 28) rfl)) Arq262) nin0))
    have f264 := f250.keep Kq262 (ninS ne_b3_b198 (ninS (ne_arr f257 (hw _ (List.mem_of_getElem? (i := 28) rfl)) Arq262) nin0))
    have f265 := f251.keep Kq262 (ninS ne_b33_b198 (ninS (ne_arr f258 (hw _ (List.mem_of_getElem? (i := 28) rfl)) Arq262) nin0))
    have f266 := f252.keep Kq262 (ninS ne_b33_b198 (ninS (ne_arr f258 (hw _ (List.mem_of_getElem? (i := 28) rfl)) Arq262) nin0))
    have f267 := f253.keep Kq262 (ninS ne_b76_b198 (ninS (ne_arr f259 (hw _ (List.mem_of_getElem? (i := 28) rfl)) Arq262) nin0))
    have f268 := f254.keep Kq262 (ninS ne_b76_b198 (ninS (ne_arr f259 (hw _ (List.mem_of_getElem? (i := 28) rfl)) Arq262) nin0))
    have f269 := f255.keep Kq262 (ninS ne_b131_b198 (ninS (ne_arr f260 (hw _ (List.mem_of_getElem? (i := 28) rfl)) Arq262) nin0))
    have f270 := f256.keep Kq262 (ninS ne_b131_b198 (ninS (ne_arr f260 (hw _ (List.mem_of_getElem? (i := 28) rfl)) Arq262) nin0))
    have f271 := f257.keep Kq262
    have f272 := f258.keep Kq262
    have f273 := f259.keep Kq262
    have f274 := f260.keep Kq262
    have f275 := f261.keep Kq262
    have Od262 := Od248.keep Kq262 (allS ge_b198 (allS gar262 all0))
    have hk262 := Nat.le_trans hk248 Kq262.1
    obtain ⟨cq276, kq276, q276a, q276b, q276c⟩ := isOf hZ rfl f275
    obtain ⟨_, _, ⟨T276, L276, k276, n276⟩, -, X276, ⟨Lc276, hQ276, l276, y276, z276⟩, st276⟩ := X262.virtualBack hx (y := (⟨"com/example/reroutine/reroutine/replanning/ExecutedDay", "legsArrived", "()I"⟩ : MethodName)) (z := (⟨"com/example/reroutine/reroutine/replanning/ExecutedDay", "legsArrived", "()I"⟩ : MethodName)) hown (mvT hZ (hw _ (List.mem_of_getElem? (i := 90) rfl))) (mvT hZ (hw _ (List.mem_of_getElem? (i := 91) rfl))) (notFace_of_selects (args := #[]) (mvT hZ (hw _ (List.mem_of_getElem? (i := 93) rfl)))) (mvT hZ (hw _ (List.mem_of_getElem? (i := 93) rfl))) (mvT hZ (hw _ (List.mem_of_getElem? (i := 92) rfl))) (by decide) (backOf (W := 0) (rmQ2 l Z a0 hw [] b198 t0 t1 t2 t3 d0 d1 d2 d3 oa oc T262.heap n0 Z262 Od262 hst Bq262.2.1) hZ (hw _ (List.mem_of_getElem? (i := 94) rfl)) (hw _ (List.mem_of_getElem? (i := 76) rfl)) (by decide) (by decide)) q276a q276c (g := (mkF m 224 #[iv u0, iv u1, iv u2, iv (2 : Int32), iv (u1 &&& (2147483647 : Int32)), rv sv1, rv b3, rv b33, rv b76, rv b131, rv b198, iv (0 : Int32)] [(.ref b198)])) rfl (by rw [hml]; rfl) (Steps.refl _) (argsL := []) (rest := []) (lenOf pd_8 rfl) rfl (by show 2 * 0 + _ ≤ _; exact Nat.le_of_eq rfl) (hb hby at_224) (fun _ _ => ⟨rfl, rfl, (by decide : 24 + 0 ≤ _), (by decide : 96 + 0 ≤ _)⟩)
    dsimp only [Pt.U, Pt.locs, Pt.cells, Pt.slots] at X276 l276 y276 z276 st276 hQ276
    subst y276 z276
    obtain ⟨rfl, Nq276, eq276⟩ := hQ276
    have N276 : Fr n0 L276 := by rw [l276]; exact Fr.app N262 Nq276
    obtain ⟨fs, hr, hrun, hended, hR1, hR2, hR3, hR4⟩ := X276.leaveW (s := s) hS (by rw [eq276]; exact hk262) (v := some (.int (1 : Int32))) (fun h => by rw [Bd.returns] at h; cases h)
    refine ⟨_, _, S231 _ ?_, hrun, hended, _, _, rfl, ?_, hR1, hR2, hR3, hR4.mono (by decide) (by decide)⟩
    · skip
      show Steps p.tables e below (T214.setTop (mkF m 117 #[iv u0, iv u1, iv u2, iv (2 : Int32), iv (u1 &&& (2147483647 : Int32)), rv sv1, rv b3, rv b33, rv b76, rv b131, rv b198, .unset] [(.int (2 : Int32))])) _
      refine XS.ifNo X214.here hx rfl (hb hby at_117) rfl ((if0 _ _).trans (tlt (by decide : (0 : Int32) < (2 : Int32))).2.2.2) ?_
      show Steps p.tables e below (T214.setTop (mkF m 120 #[iv u0, iv u1, iv u2, iv (2 : Int32), iv (u1 &&& (2147483647 : Int32)), rv sv1, rv b3, rv b33, rv b76, rv b131, rv b198, .unset] [])) _
      refine XS.aload X214.here hx rfl (hb hby at_120) rfl rfl ?_
      show Steps p.tables e below (T214.setTop (mkF m 122 #[iv u0, iv u1, iv u2, iv (2 : Int32), iv (u1 &&& (2147483647 : Int32)), rv sv1, rv b3, rv b33, rv b76, rv b131, rv b198, .unset] [(.ref b198)])) _
      refine XS.aload X214.here hx rfl (hb hby at_122) rfl rfl ?_
      show Steps p.tables e below (T214.setTop (mkF m 124 #[iv u0, iv u1, iv u2, iv (2 : Int32), iv (u1 &&& (2147483647 : Int32)), rv sv1, rv b3, rv b33, rv b76, rv b131, rv b198, .unset] [(.ref b3), (.ref b198)])) _
      refine st248.trans ?_
      show Steps p.tables e below (T248.setTop (mkF m 127 #[iv u0, iv u1, iv u2, iv (2 : Int32), iv (u1 &&& (2147483647 : Int32)), rv sv1, rv b3, rv b33, rv b76, rv b131, rv b198, .unset] [])) _
      refine XS.iloadN X248.here hx rfl (hb hby at_127) rfl ?_
      show Steps p.tables e below (T248.setTop (mkF m 128 #[iv u0, iv u1, iv u2, iv (2 : Int32), iv (u1 &&& (2147483647 : Int32)), rv sv1, rv b3, rv b33, rv b76, rv b131, rv b198, .unset] [(.int (2 : Int32))])) _
      refine XS.iconst X248.here hx rfl (hb hby at_128) ?_
      show Steps p.tables e below (T248.setTop (mkF m 129 #[iv u0, iv u1, iv u2, iv (2 : Int32), iv (u1 &&& (2147483647 : Int32)), rv sv1, rv b3, rv b33, rv b76, rv b131, rv b198, .unset] [(.int (1 : Int32)), (.int (2 : Int32))])) _
      refine XS.icmpNo X248.here hx rfl (hb hby at_129) rfl (tlt (by decide : (1 : Int32) < (2 : Int32))).2.2.2 ?_
      show Steps p.tables e below (T248.setTop (mkF m 132 #[iv u0, iv u1, iv u2, iv (2 : Int32), iv (u1 &&& (2147483647 : Int32)), rv sv1, rv b3, rv b33, rv b76, rv b131, rv b198, .unset] [])) _
      refine XS.aload X248.here hx rfl (hb hby at_132) rfl rfl ?_
      show Steps p.tables e below (T248.setTop (mkF m 134 #[iv u0, iv u1, iv u2, iv (2 : Int32), iv (u1 &&& (2147483647 : Int32)), rv sv1, rv b3, rv b33, rv b76, rv b131, rv b198, .unset] [(.ref b198)])) _
      refine XS.aload X248.here hx rfl (hb hby at_134) rfl rfl ?_
      show Steps p.tables e below (T248.setTop (mkF m 136 #[iv u0, iv u1, iv u2, iv (2 : Int32), iv (u1 &&& (2147483647 : Int32)), rv sv1, rv b3, rv b33, rv b76, rv b131, rv b198, .unset] [(.ref b33), (.ref b198)])) _
      refine st262.trans ?_
      show Steps p.tables e below (T262.setTop (mkF m 139 #[iv u0, iv u1, iv u2, iv (2 : Int32), iv (u1 &&& (2147483647 : Int32)), rv sv1, rv b3, rv b33, rv b76, rv b131, rv b198, .unset] [])) _
      refine XS.iloadN X262.here hx rfl (hb hby at_139) rfl ?_
      show Steps p.tables e below (T262.setTop (mkF m 140 #[iv u0, iv u1, iv u2, iv (2 : Int32), iv (u1 &&& (2147483647 : Int32)), rv sv1, rv b3, rv b33, rv b76, rv b131, rv b198, .unset] [(.int (2 : Int32))])) _
      refine XS.iconst X262.here hx rfl (hb hby at_140) ?_
      show Steps p.tables e below (T262.setTop (mkF m 141 #[iv u0, iv u1, iv u2, iv (2 : Int32), iv (u1 &&& (2147483647 : Int32)), rv sv1, rv b3, rv b33, rv b76, rv b131, rv b198, .unset] [(.int (2 : Int32)), (.int (2 : Int32))])) _
      refine XS.icmpYes X262.here hx rfl (pc0 := 141) (pc' := 151) rfl (hb hby at_141) rfl (flt (by decide : ¬ ((2 : Int32) < (2 : Int32)))).2.2.2 (by decide) (by decide) ?_
      show Steps p.tables e below (T262.setTop (mkF m 151 #[iv u0, iv u1, iv u2, iv (2 : Int32), iv (u1 &&& (2147483647 : Int32)), rv sv1, rv b3, rv b33, rv b76, rv b131, rv b198, .unset] [])) _
      refine XS.iloadN X262.here hx rfl (hb hby at_151) rfl ?_
      show Steps p.tables e below (T262.setTop (mkF m 152 #[iv u0, iv u1, iv u2, iv (2 : Int32), iv (u1 &&& (2147483647 : Int32)), rv sv1, rv b3, rv b33, rv b76, rv b131, rv b198, .unset] [(.int (2 : Int32))])) _
      refine XS.iconst X262.here hx rfl (hb hby at_152) ?_
      show Steps p.tables e below (T262.setTop (mkF m 153 #[iv u0, iv u1, iv u2, iv (2 : Int32), iv (u1 &&& (2147483647 : Int32)), rv sv1, rv b3, rv b33, rv b76, rv b131, rv b198, .unset] [(.int (3 : Int32)), (.int (2 : Int32))])) _
      refine XS.icmpYes X262.here hx rfl (pc0 := 153) (pc' := 163) rfl (hb hby at_153) rfl (flt (by decide : ¬ ((3 : Int32) < (2 : Int32)))).2.2.2 (by decide) (by decide) ?_
      show Steps p.tables e below (T262.setTop (mkF m 163 #[iv u0, iv u1, iv u2, iv (2 : Int32), iv (u1 &&& (2147483647 : Int32)), rv sv1, rv b3, rv b33, rv b76, rv b131, rv b198, .unset] [])) _
      refine XS.iloadN X262.here hx rfl (hb hby at_163) rfl ?_
      show Steps p.tables e below (T262.setTop (mkF m 164 #[iv u0, iv u1, iv u2, iv (2 : Int32), iv (u1 &&& (2147483647 : Int32)), rv sv1, rv b3, rv b33, rv b76, rv b131, rv b198, .unset] [(.int (2 : Int32))])) _
      refine XS.iconst X262.here hx rfl (hb hby at_164) ?_
      show Steps p.tables e below (T262.setTop (mkF m 165 #[iv u0, iv u1, iv u2, iv (2 : Int32), iv (u1 &&& (2147483647 : Int32)), rv sv1, rv b3, rv b33, rv b76, rv b131, rv b198, .unset] [(.int (4 : Int32)), (.int (2 : Int32))])) _
      refine XS.icmpYes X262.here hx rfl (pc0 := 165) (pc' := 175) rfl (hb hby at_165) rfl (flt (by decide : ¬ ((4 : Int32) < (2 : Int32)))).2.2.2 (by decide) (by decide) ?_
      show Steps p.tables e below (T262.setTop (mkF m 175 #[iv u0, iv u1, iv u2, iv (2 : Int32), iv (u1 &&& (2147483647 : Int32)), rv sv1, rv b3, rv b33, rv b76, rv b131, rv b198, .unset] [])) _
      refine XS.iloadN X262.here hx rfl (hb hby at_175) rfl ?_
      show Steps p.tables e below (T262.setTop (mkF m 176 #[iv u0, iv u1, iv u2, iv (2 : Int32), iv (u1 &&& (2147483647 : Int32)), rv sv1, rv b3, rv b33, rv b76, rv b131, rv b198, .unset] [(.int (2 : Int32))])) _
      refine XS.iconst X262.here hx rfl (hb hby at_176) ?_
      show Steps p.tables e below (T262.setTop (mkF m 177 #[iv u0, iv u1, iv u2, iv (2 : Int32), iv (u1 &&& (2147483647 : Int32)), rv sv1, rv b3, rv b33, rv b76, rv b131, rv b198, .unset] [(.int (5 : Int32)), (.int (2 : Int32))])) _
      refine XS.icmpYes X262.here hx rfl (pc0 := 177) (pc' := 187) rfl (hb hby at_177) rfl (flt (by decide : ¬ ((5 : Int32) < (2 : Int32)))).2.2.2 (by decide) (by decide) ?_
      show Steps p.tables e below (T262.setTop (mkF m 187 #[iv u0, iv u1, iv u2, iv (2 : Int32), iv (u1 &&& (2147483647 : Int32)), rv sv1, rv b3, rv b33, rv b76, rv b131, rv b198, .unset] [])) _
      refine XS.iloadN X262.here hx rfl (hb hby at_187) rfl ?_
      show Steps p.tables e below (T262.setTop (mkF m 188 #[iv u0, iv u1, iv u2, iv (2 : Int32), iv (u1 &&& (2147483647 : Int32)), rv sv1, rv b3, rv b33, rv b76, rv b131, rv b198, .unset] [(.int (2 : Int32))])) _
      refine XS.bipush X262.here hx rfl (hb hby at_188) ?_
      show Steps p.tables e below (T262.setTop (mkF m 190 #[iv u0, iv u1, iv u2, iv (2 : Int32), iv (u1 &&& (2147483647 : Int32)), rv sv1, rv b3, rv b33, rv b76, rv b131, rv b198, .unset] [(.int (6 : Int32)), (.int (2 : Int32))])) _
      refine XS.icmpYes X262.here hx rfl (pc0 := 190) (pc' := 200) rfl (hb hby at_190) rfl (flt (by decide : ¬ ((6 : Int32) < (2 : Int32)))).2.2.2 (by decide) (by decide) ?_
      show Steps p.tables e below (T262.setTop (mkF m 200 #[iv u0, iv u1, iv u2, iv (2 : Int32), iv (u1 &&& (2147483647 : Int32)), rv sv1, rv b3, rv b33, rv b76, rv b131, rv b198, .unset] [])) _
      refine XS.iloadN X262.here hx rfl (hb hby at_200) rfl ?_
      show Steps p.tables e below (T262.setTop (mkF m 201 #[iv u0, iv u1, iv u2, iv (2 : Int32), iv (u1 &&& (2147483647 : Int32)), rv sv1, rv b3, rv b33, rv b76, rv b131, rv b198, .unset] [(.int (2 : Int32))])) _
      refine XS.bipush X262.here hx rfl (hb hby at_201) ?_
      show Steps p.tables e below (T262.setTop (mkF m 203 #[iv u0, iv u1, iv u2, iv (2 : Int32), iv (u1 &&& (2147483647 : Int32)), rv sv1, rv b3, rv b33, rv b76, rv b131, rv b198, .unset] [(.int (7 : Int32)), (.int (2 : Int32))])) _
      refine XS.icmpYes X262.here hx rfl (pc0 := 203) (pc' := 210) rfl (hb hby at_203) rfl (tlt (by decide : (2 : Int32) < (7 : Int32))).1 (by decide) (by decide) ?_
      show Steps p.tables e below (T262.setTop (mkF m 210 #[iv u0, iv u1, iv u2, iv (2 : Int32), iv (u1 &&& (2147483647 : Int32)), rv sv1, rv b3, rv b33, rv b76, rv b131, rv b198, .unset] [])) _
      refine XS.iloadN X262.here hx rfl (hb hby at_210) rfl ?_
      show Steps p.tables e below (T262.setTop (mkF m 211 #[iv u0, iv u1, iv u2, iv (2 : Int32), iv (u1 &&& (2147483647 : Int32)), rv sv1, rv b3, rv b33, rv b76, rv b131, rv b198, .unset] [(.int (2 : Int32))])) _
      refine XS.iconst X262.here hx rfl (hb hby at_211) ?_
      show Steps p.tables e below (T262.setTop (mkF m 212 #[iv u0, iv u1, iv u2, iv (2 : Int32), iv (u1 &&& (2147483647 : Int32)), rv sv1, rv b3, rv b33, rv b76, rv b131, rv b198, .unset] [(.int (3 : Int32)), (.int (2 : Int32))])) _
      refine XS.icmpYes X262.here hx rfl (pc0 := 212) (pc' := 219) rfl (hb hby at_212) rfl (tlt (by decide : (2 : Int32) < (3 : Int32))).1 (by decide) (by decide) ?_
      show Steps p.tables e below (T262.setTop (mkF m 219 #[iv u0, iv u1, iv u2, iv (2 : Int32), iv (u1 &&& (2147483647 : Int32)), rv sv1, rv b3, rv b33, rv b76, rv b131, rv b198, .unset] [])) _
      refine XS.iconst X262.here hx rfl (hb hby at_219) ?_
      show Steps p.tables e below (T262.setTop (mkF m 220 #[iv u0, iv u1, iv u2, iv (2 : Int32), iv (u1 &&& (2147483647 : Int32)), rv sv1, rv b3, rv b33, rv b76, rv b131, rv b198, .unset] [(.int (0 : Int32))])) _
      refine XS.istore X262.here hx rfl (hb hby at_220) rfl (l' := #[iv u0, iv u1, iv u2, iv (2 : Int32), iv (u1 &&& (2147483647 : Int32)), rv sv1, rv b3, rv b33, rv b76, rv b131, rv b198, iv (0 : Int32)]) rfl ?_
      show Steps p.tables e below (T262.setTop (mkF m 222 #[iv u0, iv u1, iv u2, iv (2 : Int32), iv (u1 &&& (2147483647 : Int32)), rv sv1, rv b3, rv b33, rv b76, rv b131, rv b198, iv (0 : Int32)] [])) _
      refine XS.aload X262.here hx rfl (hb hby at_222) rfl rfl ?_
      show Steps p.tables e below (T262.setTop (mkF m 224 #[iv u0, iv u1, iv u2, iv (2 : Int32), iv (u1 &&& (2147483647 : Int32)), rv sv1, rv b3, rv b33, rv b76, rv b131, rv b198, iv (0 : Int32)] [(.ref b198)])) _
      refine st276.trans ?_
      show Steps p.tables e below (T276.setTop (mkF m 227 #[iv u0, iv u1, iv u2, iv (2 : Int32), iv (u1 &&& (2147483647 : Int32)), rv sv1, rv b3, rv b33, rv b76, rv b131, rv b198, iv (0 : Int32)] [(.int (0 : Int32))])) _
      refine XS.iload X276.here hx rfl (hb hby at_227) rfl ?_
      show Steps p.tables e below (T276.setTop (mkF m 229 #[iv u0, iv u1, iv u2, iv (2 : Int32), iv (u1 &&& (2147483647 : Int32)), rv sv1, rv b3, rv b33, rv b76, rv b131, rv b198, iv (0 : Int32)] [(.int (0 : Int32)), (.int (0 : Int32))])) _
      refine XS.icmpNo X276.here hx rfl (hb hby at_229) rfl (teq (by decide : (0 : Int32) = (0 : Int32))).2 ?_
      show Steps p.tables e below (T276.setTop (mkF m 232 #[iv u0, iv u1, iv u2, iv (2 : Int32), iv (u1 &&& (2147483647 : Int32)), rv sv1, rv b3, rv b33, rv b76, rv b131, rv b198, iv (0 : Int32)] [])) _
      refine XS.iconst X276.here hx rfl (hb hby at_232) ?_
      show Steps p.tables e below (T276.setTop (mkF m 233 #[iv u0, iv u1, iv u2, iv (2 : Int32), iv (u1 &&& (2147483647 : Int32)), rv sv1, rv b3, rv b33, rv b76, rv b131, rv b198, iv (0 : Int32)] [(.int (1 : Int32))])) _
      refine XS.goto X276.here hx rfl (pc0 := 233) (pc' := 237) rfl (hb hby at_233) (by decide) (by decide) ?_
      show Steps p.tables e below (T276.setTop (mkF m 237 #[iv u0, iv u1, iv u2, iv (2 : Int32), iv (u1 &&& (2147483647 : Int32)), rv sv1, rv b3, rv b33, rv b76, rv b131, rv b198, iv (0 : Int32)] [(.int (1 : Int32))])) _
      exact retN X276 hx (t := .boolean) Bd.returns (by simp) (hb hby at_237) hr
    · show Q0 Z u0 u1 u2 t0 t1 t2 t3 d0 d1 d2 d3 oa oc G1 h0 n0 _ T276.heap _
      rw [eq276]
      exact ⟨rfl, N276⟩
  · skip
    rw [hn_] at S231
    obtain ⟨cq277, kq277, q277a, q277b, q277c⟩ := isOf hZ rfl oe214
    obtain ⟨_, _, ⟨T277, L277, k277, n277⟩, -, X277, ⟨Lc277, hQ277, l277, y277, z277⟩, st277⟩ := X214.virtualBack hx (y := (⟨"com/example/reroutine/reroutine/replanning/ExecutedDay", "add", "(Lcom/example/reroutine/reroutine/scenario/Event;)V"⟩ : MethodName)) (z := (⟨"com/example/reroutine/reroutine/replanning/ExecutedDay", "add", "(Lcom/example/reroutine/reroutine/scenario/Event;)V"⟩ : MethodName)) hown (mvT hZ (hw _ (List.mem_of_getElem? (i := 97) rfl))) (mvT hZ (hw _ (List.mem_of_getElem? (i := 98) rfl))) (notFace_of_selects (args := #[]) (mvT hZ (hw _ (List.mem_of_getElem? (i := 100) rfl)))) (mvT hZ (hw _ (List.mem_of_getElem? (i := 100) rfl))) (mvT hZ (hw _ (List.mem_of_getElem? (i := 99) rfl))) (by decide) (backOf (W := 0) (rmAdd0 l Z a0 hw [] b198 b3 t0 t1 t2 t3 d0 d1 d2 d3 oa oc (u1 &&& (2147483647 : Int32)) T214.heap n0 Z214 Od216 hst Bq214 ge_b198 (Ne.symm ne_b3_b198) f218 f219 f220) hZ (hw _ (List.mem_of_getElem? (i := 101) rfl)) (hw _ (List.mem_of_getElem? (i := 76) rfl)) (by decide) (by decide)) q277a q277c (g := (mkF m 124 #[iv u0, iv u1, iv u2, iv (3 : Int32), iv (u1 &&& (2147483647 : Int32)), rv sv1, rv b3, rv b33, rv b76, rv b131, rv b198, .unset] [(.ref b3), (.ref b198)])) rfl (by rw [hml]; rfl) (Steps.refl _) (argsL := [(.ref b3)]) (rest := []) (lenOf pd_13 rfl) rfl (by show 2 * 0 + _ ≤ _; exact Nat.le_of_eq rfl) (hb hby at_124) (fun _ _ => ⟨rfl, rfl, (by decide : 24 + 0 ≤ _), (by decide : 96 + 0 ≤ _)⟩)
    dsimp only [Pt.U, Pt.locs, Pt.cells, Pt.slots] at X277 l277 y277 z277 st277 hQ277
    subst y277 z277
    obtain ⟨rfl, Nq277, Kx277, Bq277⟩ := hQ277
    have N277 : Fr n0 L277 := by rw [l277]; exact Fr.app N214 Nq277
    obtain ⟨ar277, cl277, ty277, Kq277, gar277, Arq277⟩ := Kx277
    have Z277 : n0 ≤ T277.heap.size := Nat.le_trans Z214 Kq277.1
    have f278 := f219.keep Kq277 (ninS ne_b3_b198 (ninS (ne_arr f218 (hw _ (List.mem_of_getElem? (i := 28) rfl)) Arq277) nin0))
    have f279 := f220.keep Kq277 (ninS ne_b3_b198 (ninS (ne_arr f218 (hw _ (List.mem_of_getElem? (i := 28) rfl)) Arq277) nin0))
    have f280 := f222.keep Kq277 (ninS ne_b33_b198 (ninS (ne_arr f221 (hw _ (List.mem_of_getElem? (i := 28) rfl)) Arq277) nin0))
    have f281 := f223.keep Kq277 (ninS ne_b33_b198 (ninS (ne_arr f221 (hw _ (List.mem_of_getElem? (i := 28) rfl)) Arq277) nin0))
    have f282 := f225.keep Kq277 (ninS ne_b76_b198 (ninS (ne_arr f224 (hw _ (List.mem_of_getElem? (i := 28) rfl)) Arq277) nin0))
    have f283 := f226.keep Kq277 (ninS ne_b76_b198 (ninS (ne_arr f224 (hw _ (List.mem_of_getElem? (i := 28) rfl)) Arq277) nin0))
    have f284 := f228.keep Kq277 (ninS ne_b131_b198 (ninS (ne_arr f227 (hw _ (List.mem_of_getElem? (i := 28) rfl)) Arq277) nin0))
    have f285 := f229.keep Kq277 (ninS ne_b131_b198 (ninS (ne_arr f227 (hw _ (List.mem_of_getElem? (i := 28) rfl)) Arq277) nin0))
    have f286 := f218.keep Kq277
    have f287 := f221.keep Kq277
    have f288 := f224.keep Kq277
    have f289 := f227.keep Kq277
    have f290 := oe214.keep Kq277
    have Od277 := Od216.keep Kq277 (allS ge_b198 (allS gar277 all0))
    have hk277 := Nat.le_trans hk215 Kq277.1
    obtain ⟨cq291, kq291, q291a, q291b, q291c⟩ := isOf hZ rfl f290
    obtain ⟨_, _, ⟨T291, L291, k291, n291⟩, -, X291, ⟨Lc291, hQ291, l291, y291, z291⟩, st291⟩ := X277.virtualBack hx (y := (⟨"com/example/reroutine/reroutine/replanning/ExecutedDay", "add", "(Lcom/example/reroutine/reroutine/scenario/Event;)V"⟩ : MethodName)) (z := (⟨"com/example/reroutine/reroutine/replanning/ExecutedDay", "add", "(Lcom/example/reroutine/reroutine/scenario/Event;)V"⟩ : MethodName)) hown (mvT hZ (hw _ (List.mem_of_getElem? (i := 97) rfl))) (mvT hZ (hw _ (List.mem_of_getElem? (i := 98) rfl))) (notFace_of_selects (args := #[]) (mvT hZ (hw _ (List.mem_of_getElem? (i := 100) rfl)))) (mvT hZ (hw _ (List.mem_of_getElem? (i := 100) rfl))) (mvT hZ (hw _ (List.mem_of_getElem? (i := 99) rfl))) (by decide) (backOf (W := 0) (rmAdd1 l Z a0 hw [] b198 b33 t0 t1 t2 t3 d0 d1 d2 d3 oa oc (u1 &&& (2147483647 : Int32)) T277.heap n0 Z277 Od277 hst Bq277 ge_b198 (Ne.symm ne_b33_b198) f287 f280 f281) hZ (hw _ (List.mem_of_getElem? (i := 101) rfl)) (hw _ (List.mem_of_getElem? (i := 76) rfl)) (by decide) (by decide)) q291a q291c (g := (mkF m 136 #[iv u0, iv u1, iv u2, iv (3 : Int32), iv (u1 &&& (2147483647 : Int32)), rv sv1, rv b3, rv b33, rv b76, rv b131, rv b198, .unset] [(.ref b33), (.ref b198)])) rfl (by rw [hml]; rfl) (Steps.refl _) (argsL := [(.ref b33)]) (rest := []) (lenOf pd_13 rfl) rfl (by show 2 * 0 + _ ≤ _; exact Nat.le_of_eq rfl) (hb hby at_136) (fun _ _ => ⟨rfl, rfl, (by decide : 24 + 0 ≤ _), (by decide : 96 + 0 ≤ _)⟩)
    dsimp only [Pt.U, Pt.locs, Pt.cells, Pt.slots] at X291 l291 y291 z291 st291 hQ291
    subst y291 z291
    obtain ⟨rfl, Nq291, Kx291, Bq291⟩ := hQ291
    have N291 : Fr n0 L291 := by rw [l291]; exact Fr.app N277 Nq291
    obtain ⟨ar291, cl291, ty291, Kq291, gar291, Arq291⟩ := Kx291
    have Z291 : n0 ≤ T291.heap.size := Nat.le_trans Z277 Kq291.1
    have f292 := f278.keep Kq291 (ninS ne_b3_b198 (ninS (ne_arr f286 (hw _ (List.mem_of_getElem? (i := 28) rfl)) Arq291) nin0))
    have f293 := f279.keep Kq291 (ninS ne_b3_b198 (ninS (ne_arr f286 (hw _ (List.mem_of_getElem? (i := 28) rfl)) Arq291) nin0))
    have f294 := f280.keep Kq291 (ninS ne_b33_b198 (ninS (ne_arr f287 (hw _ (List.mem_of_getElem? (i := 28) rfl)) Arq291) nin0))
    have f295 := f281.keep Kq291 (ninS ne_b33_b198 (ninS (ne_arr f287 (hw _ (List.mem_of_getElem? (i := 28) rfl)) Arq291) nin0))
    have f296 := f282.keep Kq291 (ninS ne_b76_b198 (ninS (ne_arr f288 (hw _ (List.mem_of_getElem? (i := 28) rfl)) Arq291) nin0))
    have f297 := f283.keep Kq291 (ninS ne_b76_b198 (ninS (ne_arr f288 (hw _ (List.mem_of_getElem? (i := 28) rfl)) Arq291) nin0))
    have f298 := f284.keep Kq291 (ninS ne_b131_b198 (ninS (ne_arr f289 (hw _ (List.mem_of_getElem? (i := 28) rfl)) Arq291) nin0))
    have f299 := f285.keep Kq291 (ninS ne_b131_b198 (ninS (ne_arr f289 (hw _ (List.mem_of_getElem? (i := 28) rfl)) Arq291) nin0))
    have f300 := f286.keep Kq291
    have f301 := f287.keep Kq291
    have f302 := f288.keep Kq291
    have f303 := f289.keep Kq291
    have f304 := f290.keep Kq291
    have Od291 := Od277.keep Kq291 (allS ge_b198 (allS gar291 all0))
    have hk291 := Nat.le_trans hk277 Kq291.1
    obtain ⟨cq305, kq305, q305a, q305b, q305c⟩ := isOf hZ rfl f304
    obtain ⟨_, _, ⟨T305, L305, k305, n305⟩, -, X305, ⟨Lc305, hQ305, l305, y305, z305⟩, st305⟩ := X291.virtualBack hx (y := (⟨"com/example/reroutine/reroutine/replanning/ExecutedDay", "add", "(Lcom/example/reroutine/reroutine/scenario/Event;)V"⟩ : MethodName)) (z := (⟨"com/example/reroutine/reroutine/replanning/ExecutedDay", "add", "(Lcom/example/reroutine/reroutine/scenario/Event;)V"⟩ : MethodName)) hown (mvT hZ (hw _ (List.mem_of_getElem? (i := 97) rfl))) (mvT hZ (hw _ (List.mem_of_getElem? (i := 98) rfl))) (notFace_of_selects (args := #[]) (mvT hZ (hw _ (List.mem_of_getElem? (i := 100) rfl)))) (mvT hZ (hw _ (List.mem_of_getElem? (i := 100) rfl))) (mvT hZ (hw _ (List.mem_of_getElem? (i := 99) rfl))) (by decide) (backOf (W := 0) (rmAdd2 l Z a0 hw [] b198 b76 t0 t1 t2 t3 d0 d1 d2 d3 oa oc (u1 &&& (2147483647 : Int32)) T291.heap n0 Z291 Od291 hst Bq291 ge_b198 (Ne.symm ne_b76_b198) f302 f296 f297) hZ (hw _ (List.mem_of_getElem? (i := 101) rfl)) (hw _ (List.mem_of_getElem? (i := 76) rfl)) (by decide) (by decide)) q305a q305c (g := (mkF m 148 #[iv u0, iv u1, iv u2, iv (3 : Int32), iv (u1 &&& (2147483647 : Int32)), rv sv1, rv b3, rv b33, rv b76, rv b131, rv b198, .unset] [(.ref b76), (.ref b198)])) rfl (by rw [hml]; rfl) (Steps.refl _) (argsL := [(.ref b76)]) (rest := []) (lenOf pd_13 rfl) rfl (by show 2 * 0 + _ ≤ _; exact Nat.le_of_eq rfl) (hb hby at_148) (fun _ _ => ⟨rfl, rfl, (by decide : 24 + 0 ≤ _), (by decide : 96 + 0 ≤ _)⟩)
    dsimp only [Pt.U, Pt.locs, Pt.cells, Pt.slots] at X305 l305 y305 z305 st305 hQ305
    subst y305 z305
    obtain ⟨rfl, Nq305, Kx305, Bq305⟩ := hQ305
    have N305 : Fr n0 L305 := by rw [l305]; exact Fr.app N291 Nq305
    obtain ⟨ar305, cl305, ty305, Kq305, gar305, Arq305⟩ := Kx305
    have Z305 : n0 ≤ T305.heap.size := Nat.le_trans Z291 Kq305.1
    have f306 := f292.keep Kq305 (ninS ne_b3_b198 (ninS (ne_arr f300 (hw _ (List.mem_of_getElem? (i := 28) rfl)) Arq305) nin0))
    have f307 := f293.keep Kq305 (ninS ne_b3_b198 (ninS (ne_arr f300 (hw _ (List.mem_of_getElem? (i := 28) rfl)) Arq305) nin0))
    have f308 := f294.keep Kq305 (ninS ne_b33_b198 (ninS (ne_arr f301 (hw _ (List.mem_of_getElem? (i := 28) rfl)) Arq305) nin0))
    have f309 := f295.keep Kq305 (ninS ne_b33_b198 (ninS (ne_arr f301 (hw _ (List.mem_of_getElem? (i := 28) rfl)) Arq305) nin0))
    have f310 := f296.keep Kq305 (ninS ne_b76_b198 (ninS (ne_arr f302 (hw _ (List.mem_of_getElem? (i := 28) rfl)) Arq305) nin0))
    have f311 := f297.keep Kq305 (ninS ne_b76_b198 (ninS (ne_arr f302 (hw _ (List.mem_of_getElem? (i := 28) rfl)) Arq305) nin0))
    have f312 := f298.keep Kq305 (ninS ne_b131_b198 (ninS (ne_arr f303 (hw _ (List.mem_of_getElem? (i := 28) rfl)) Arq305) nin0))
    have f313 := f299.keep Kq305 (ninS ne_b131_b198 (ninS (ne_arr f303 (hw _ (List.mem_of_getElem? (i := 28) rfl)) Arq305) nin0))
    have f314 := f300.keep Kq305
    have f315 := f301.keep Kq305
    have f316 := f302.keep Kq305
    have f317 := f303.keep Kq305
    have f318 := f304.keep Kq305
    have Od305 := Od291.keep Kq305 (allS ge_b198 (allS gar305 all0))
    have hk305 := Nat.le_trans hk291 Kq305.1
    obtain ⟨cq319, kq319, q319a, q319b, q319c⟩ := isOf hZ rfl f318
    obtain ⟨_, _, ⟨T319, L319, k319, n319⟩, -, X319, ⟨Lc319, hQ319, l319, y319, z319⟩, st319⟩ := X305.virtualBack hx (y := (⟨"com/example/reroutine/reroutine/replanning/ExecutedDay", "legsArrived", "()I"⟩ : MethodName)) (z := (⟨"com/example/reroutine/reroutine/replanning/ExecutedDay", "legsArrived", "()I"⟩ : MethodName)) hown (mvT hZ (hw _ (List.mem_of_getElem? (i := 90) rfl))) (mvT hZ (hw _ (List.mem_of_getElem? (i := 91) rfl))) (notFace_of_selects (args := #[]) (mvT hZ (hw _ (List.mem_of_getElem? (i := 93) rfl)))) (mvT hZ (hw _ (List.mem_of_getElem? (i := 93) rfl))) (mvT hZ (hw _ (List.mem_of_getElem? (i := 92) rfl))) (by decide) (backOf (W := 0) (rmQ3 l Z a0 hw [] b198 t0 t1 t2 t3 d0 d1 d2 d3 oa oc T305.heap n0 Z305 Od305 hst Bq305.2.1) hZ (hw _ (List.mem_of_getElem? (i := 94) rfl)) (hw _ (List.mem_of_getElem? (i := 76) rfl)) (by decide) (by decide)) q319a q319c (g := (mkF m 224 #[iv u0, iv u1, iv u2, iv (3 : Int32), iv (u1 &&& (2147483647 : Int32)), rv sv1, rv b3, rv b33, rv b76, rv b131, rv b198, iv (1 : Int32)] [(.ref b198)])) rfl (by rw [hml]; rfl) (Steps.refl _) (argsL := []) (rest := []) (lenOf pd_8 rfl) rfl (by show 2 * 0 + _ ≤ _; exact Nat.le_of_eq rfl) (hb hby at_224) (fun _ _ => ⟨rfl, rfl, (by decide : 24 + 0 ≤ _), (by decide : 96 + 0 ≤ _)⟩)
    dsimp only [Pt.U, Pt.locs, Pt.cells, Pt.slots] at X319 l319 y319 z319 st319 hQ319
    subst y319 z319
    obtain ⟨rfl, Nq319, eq319⟩ := hQ319
    have N319 : Fr n0 L319 := by rw [l319]; exact Fr.app N305 Nq319
    obtain ⟨fs, hr, hrun, hended, hR1, hR2, hR3, hR4⟩ := X319.leaveW (s := s) hS (by rw [eq319]; exact hk305) (v := some (.int (1 : Int32))) (fun h => by rw [Bd.returns] at h; cases h)
    refine ⟨_, _, S231 _ ?_, hrun, hended, _, _, rfl, ?_, hR1, hR2, hR3, hR4.mono (by decide) (by decide)⟩
    · skip
      show Steps p.tables e below (T214.setTop (mkF m 117 #[iv u0, iv u1, iv u2, iv (3 : Int32), iv (u1 &&& (2147483647 : Int32)), rv sv1, rv b3, rv b33, rv b76, rv b131, rv b198, .unset] [(.int (3 : Int32))])) _
      refine XS.ifNo X214.here hx rfl (hb hby at_117) rfl ((if0 _ _).trans (tlt (by decide : (0 : Int32) < (3 : Int32))).2.2.2) ?_
      show Steps p.tables e below (T214.setTop (mkF m 120 #[iv u0, iv u1, iv u2, iv (3 : Int32), iv (u1 &&& (2147483647 : Int32)), rv sv1, rv b3, rv b33, rv b76, rv b131, rv b198, .unset] [])) _
      refine XS.aload X214.here hx rfl (hb hby at_120) rfl rfl ?_
      show Steps p.tables e below (T214.setTop (mkF m 122 #[iv u0, iv u1, iv u2, iv (3 : Int32), iv (u1 &&& (2147483647 : Int32)), rv sv1, rv b3, rv b33, rv b76, rv b131, rv b198, .unset] [(.ref b198)])) _
      refine XS.aload X214.here hx rfl (hb hby at_122) rfl rfl ?_
      show Steps p.tables e below (T214.setTop (mkF m 124 #[iv u0, iv u1, iv u2, iv (3 : Int32), iv (u1 &&& (2147483647 : Int32)), rv sv1, rv b3, rv b33, rv b76, rv b131, rv b198, .unset] [(.ref b3), (.ref b198)])) _
      refine st277.trans ?_
      show Steps p.tables e below (T277.setTop (mkF m 127 #[iv u0, iv u1, iv u2, iv (3 : Int32), iv (u1 &&& (2147483647 : Int32)), rv sv1, rv b3, rv b33, rv b76, rv b131, rv b198, .unset] [])) _
      refine XS.iloadN X277.here hx rfl (hb hby at_127) rfl ?_
      show Steps p.tables e below (T277.setTop (mkF m 128 #[iv u0, iv u1, iv u2, iv (3 : Int32), iv (u1 &&& (2147483647 : Int32)), rv sv1, rv b3, rv b33, rv b76, rv b131, rv b198, .unset] [(.int (3 : Int32))])) _
      refine XS.iconst X277.here hx rfl (hb hby at_128) ?_
      show Steps p.tables e below (T277.setTop (mkF m 129 #[iv u0, iv u1, iv u2, iv (3 : Int32), iv (u1 &&& (2147483647 : Int32)), rv sv1, rv b3, rv b33, rv b76, rv b131, rv b198, .unset] [(.int (1 : Int32)), (.int (3 : Int32))])) _
      refine XS.icmpNo X277.here hx rfl (hb hby at_129) rfl (tlt (by decide : (1 : Int32) < (3 : Int32))).2.2.2 ?_
      show Steps p.tables e below (T277.setTop (mkF m 132 #[iv u0, iv u1, iv u2, iv (3 : Int32), iv (u1 &&& (2147483647 : Int32)), rv sv1, rv b3, rv b33, rv b76, rv b131, rv b198, .unset] [])) _
      refine XS.aload X277.here hx rfl (hb hby at_132) rfl rfl ?_
      show Steps p.tables e below (T277.setTop (mkF m 134 #[iv u0, iv u1, iv u2, iv (3 : Int32), iv (u1 &&& (2147483647 : Int32)), rv sv1, rv b3, rv b33, rv b76, rv b131, rv b198, .unset] [(.ref b198)])) _
      refine XS.aload X277.here hx rfl (hb hby at_134) rfl rfl ?_
      show Steps p.tables e below (T277.setTop (mkF m 136 #[iv u0, iv u1, iv u2, iv (3 : Int32), iv (u1 &&& (2147483647 : Int32)), rv sv1, rv b3, rv b33, rv b76, rv b131, rv b198, .unset] [(.ref b33), (.ref b198)])) _
      refine st291.trans ?_
      show Steps p.tables e below (T291.setTop (mkF m 139 #[iv u0, iv u1, iv u2, iv (3 : Int32), iv (u1 &&& (2147483647 : Int32)), rv sv1, rv b3, rv b33, rv b76, rv b131, rv b198, .unset] [])) _
      refine XS.iloadN X291.here hx rfl (hb hby at_139) rfl ?_
      show Steps p.tables e below (T291.setTop (mkF m 140 #[iv u0, iv u1, iv u2, iv (3 : Int32), iv (u1 &&& (2147483647 : Int32)), rv sv1, rv b3, rv b33, rv b76, rv b131, rv b198, .unset] [(.int (3 : Int32))])) _
      refine XS.iconst X291.here hx rfl (hb hby at_140) ?_
      show Steps p.tables e below (T291.setTop (mkF m 141 #[iv u0, iv u1, iv u2, iv (3 : Int32), iv (u1 &&& (2147483647 : Int32)), rv sv1, rv b3, rv b33, rv b76, rv b131, rv b198, .unset] [(.int (2 : Int32)), (.int (3 : Int32))])) _
      refine XS.icmpNo X291.here hx rfl (hb hby at_141) rfl (tlt (by decide : (2 : Int32) < (3 : Int32))).2.2.2 ?_
      show Steps p.tables e below (T291.setTop (mkF m 144 #[iv u0, iv u1, iv u2, iv (3 : Int32), iv (u1 &&& (2147483647 : Int32)), rv sv1, rv b3, rv b33, rv b76, rv b131, rv b198, .unset] [])) _
      refine XS.aload X291.here hx rfl (hb hby at_144) rfl rfl ?_
      show Steps p.tables e below (T291.setTop (mkF m 146 #[iv u0, iv u1, iv u2, iv (3 : Int32), iv (u1 &&& (2147483647 : Int32)), rv sv1, rv b3, rv b33, rv b76, rv b131, rv b198, .unset] [(.ref b198)])) _
      refine XS.aload X291.here hx rfl (hb hby at_146) rfl rfl ?_
      show Steps p.tables e below (T291.setTop (mkF m 148 #[iv u0, iv u1, iv u2, iv (3 : Int32), iv (u1 &&& (2147483647 : Int32)), rv sv1, rv b3, rv b33, rv b76, rv b131, rv b198, .unset] [(.ref b76), (.ref b198)])) _
      refine st305.trans ?_
      show Steps p.tables e below (T305.setTop (mkF m 151 #[iv u0, iv u1, iv u2, iv (3 : Int32), iv (u1 &&& (2147483647 : Int32)), rv sv1, rv b3, rv b33, rv b76, rv b131, rv b198, .unset] [])) _
      refine XS.iloadN X305.here hx rfl (hb hby at_151) rfl ?_
      show Steps p.tables e below (T305.setTop (mkF m 152 #[iv u0, iv u1, iv u2, iv (3 : Int32), iv (u1 &&& (2147483647 : Int32)), rv sv1, rv b3, rv b33, rv b76, rv b131, rv b198, .unset] [(.int (3 : Int32))])) _
      refine XS.iconst X305.here hx rfl (hb hby at_152) ?_
      show Steps p.tables e below (T305.setTop (mkF m 153 #[iv u0, iv u1, iv u2, iv (3 : Int32), iv (u1 &&& (2147483647 : Int32)), rv sv1, rv b3, rv b33, rv b76, rv b131, rv b198, .unset] [(.int (3 : Int32)), (.int (3 : Int32))])) _
      refine XS.icmpYes X305.here hx rfl (pc0 := 153) (pc' := 163) rfl (hb hby at_153) rfl (flt (by decide : ¬ ((3 : Int32) < (3 : Int32)))).2.2.2 (by decide) (by decide) ?_
      show Steps p.tables e below (T305.setTop (mkF m 163 #[iv u0, iv u1, iv u2, iv (3 : Int32), iv (u1 &&& (2147483647 : Int32)), rv sv1, rv b3, rv b33, rv b76, rv b131, rv b198, .unset] [])) _
      refine XS.iloadN X305.here hx rfl (hb hby at_163) rfl ?_
      show Steps p.tables e below (T305.setTop (mkF m 164 #[iv u0, iv u1, iv u2, iv (3 : Int32), iv (u1 &&& (2147483647 : Int32)), rv sv1, rv b3, rv b33, rv b76, rv b131, rv b198, .unset] [(.int (3 : Int32))])) _
      refine XS.iconst X305.here hx rfl (hb hby at_164) ?_
      show Steps p.tables e below (T305.setTop (mkF m 165 #[iv u0, iv u1, iv u2, iv (3 : Int32), iv (u1 &&& (2147483647 : Int32)), rv sv1, rv b3, rv b33, rv b76, rv b131, rv b198, .unset] [(.int (4 : Int32)), (.int (3 : Int32))])) _
      refine XS.icmpYes X305.here hx rfl (pc0 := 165) (pc' := 175) rfl (hb hby at_165) rfl (flt (by decide : ¬ ((4 : Int32) < (3 : Int32)))).2.2.2 (by decide) (by decide) ?_
      show Steps p.tables e below (T305.setTop (mkF m 175 #[iv u0, iv u1, iv u2, iv (3 : Int32), iv (u1 &&& (2147483647 : Int32)), rv sv1, rv b3, rv b33, rv b76, rv b131, rv b198, .unset] [])) _
      refine XS.iloadN X305.here hx rfl (hb hby at_175) rfl ?_
      show Steps p.tables e below (T305.setTop (mkF m 176 #[iv u0, iv u1, iv u2, iv (3 : Int32), iv (u1 &&& (2147483647 : Int32)), rv sv1, rv b3, rv b33, rv b76, rv b131, rv b198, .unset] [(.int (3 : Int32))])) _
      refine XS.iconst X305.here hx rfl (hb hby at_176) ?_
      show Steps p.tables e below (T305.setTop (mkF m 177 #[iv u0, iv u1, iv u2, iv (3 : Int32), iv (u1 &&& (2147483647 : Int32)), rv sv1, rv b3, rv b33, rv b76, rv b131, rv b198, .unset] [(.int (5 : Int32)), (.int (3 : Int32))])) _
      refine XS.icmpYes X305.here hx rfl (pc0 := 177) (pc' := 187) rfl (hb hby at_177) rfl (flt (by decide : ¬ ((5 : Int32) < (3 : Int32)))).2.2.2 (by decide) (by decide) ?_
      show Steps p.tables e below (T305.setTop (mkF m 187 #[iv u0, iv u1, iv u2, iv (3 : Int32), iv (u1 &&& (2147483647 : Int32)), rv sv1, rv b3, rv b33, rv b76, rv b131, rv b198, .unset] [])) _
      refine XS.iloadN X305.here hx rfl (hb hby at_187) rfl ?_
      show Steps p.tables e below (T305.setTop (mkF m 188 #[iv u0, iv u1, iv u2, iv (3 : Int32), iv (u1 &&& (2147483647 : Int32)), rv sv1, rv b3, rv b33, rv b76, rv b131, rv b198, .unset] [(.int (3 : Int32))])) _
      refine XS.bipush X305.here hx rfl (hb hby at_188) ?_
      show Steps p.tables e below (T305.setTop (mkF m 190 #[iv u0, iv u1, iv u2, iv (3 : Int32), iv (u1 &&& (2147483647 : Int32)), rv sv1, rv b3, rv b33, rv b76, rv b131, rv b198, .unset] [(.int (6 : Int32)), (.int (3 : Int32))])) _
      refine XS.icmpYes X305.here hx rfl (pc0 := 190) (pc' := 200) rfl (hb hby at_190) rfl (flt (by decide : ¬ ((6 : Int32) < (3 : Int32)))).2.2.2 (by decide) (by decide) ?_
      show Steps p.tables e below (T305.setTop (mkF m 200 #[iv u0, iv u1, iv u2, iv (3 : Int32), iv (u1 &&& (2147483647 : Int32)), rv sv1, rv b3, rv b33, rv b76, rv b131, rv b198, .unset] [])) _
      refine XS.iloadN X305.here hx rfl (hb hby at_200) rfl ?_
      show Steps p.tables e below (T305.setTop (mkF m 201 #[iv u0, iv u1, iv u2, iv (3 : Int32), iv (u1 &&& (2147483647 : Int32)), rv sv1, rv b3, rv b33, rv b76, rv b131, rv b198, .unset] [(.int (3 : Int32))])) _
      refine XS.bipush X305.here hx rfl (hb hby at_201) ?_
      show Steps p.tables e below (T305.setTop (mkF m 203 #[iv u0, iv u1, iv u2, iv (3 : Int32), iv (u1 &&& (2147483647 : Int32)), rv sv1, rv b3, rv b33, rv b76, rv b131, rv b198, .unset] [(.int (7 : Int32)), (.int (3 : Int32))])) _
      refine XS.icmpYes X305.here hx rfl (pc0 := 203) (pc' := 210) rfl (hb hby at_203) rfl (tlt (by decide : (3 : Int32) < (7 : Int32))).1 (by decide) (by decide) ?_
      show Steps p.tables e below (T305.setTop (mkF m 210 #[iv u0, iv u1, iv u2, iv (3 : Int32), iv (u1 &&& (2147483647 : Int32)), rv sv1, rv b3, rv b33, rv b76, rv b131, rv b198, .unset] [])) _
      refine XS.iloadN X305.here hx rfl (hb hby at_210) rfl ?_
      show Steps p.tables e below (T305.setTop (mkF m 211 #[iv u0, iv u1, iv u2, iv (3 : Int32), iv (u1 &&& (2147483647 : Int32)), rv sv1, rv b3, rv b33, rv b76, rv b131, rv b198, .unset] [(.int (3 : Int32))])) _
      refine XS.iconst X305.here hx rfl (hb hby at_211) ?_
      show Steps p.tables e below (T305.setTop (mkF m 212 #[iv u0, iv u1, iv u2, iv (3 : Int32), iv (u1 &&& (2147483647 : Int32)), rv sv1, rv b3, rv b33, rv b76, rv b131, rv b198, .unset] [(.int (3 : Int32)), (.int (3 : Int32))])) _
      refine XS.icmpNo X305.here hx rfl (hb hby at_212) rfl (flt (by decide : ¬ ((3 : Int32) < (3 : Int32)))).1 ?_
      show Steps p.tables e below (T305.setTop (mkF m 215 #[iv u0, iv u1, iv u2, iv (3 : Int32), iv (u1 &&& (2147483647 : Int32)), rv sv1, rv b3, rv b33, rv b76, rv b131, rv b198, .unset] [])) _
      refine XS.iconst X305.here hx rfl (hb hby at_215) ?_
      show Steps p.tables e below (T305.setTop (mkF m 216 #[iv u0, iv u1, iv u2, iv (3 : Int32), iv (u1 &&& (2147483647 : Int32)), rv sv1, rv b3, rv b33, rv b76, rv b131, rv b198, .unset] [(.int (1 : Int32))])) _
      refine XS.goto X305.here hx rfl (pc0 := 216) (pc' := 220) rfl (hb hby at_216) (by decide) (by decide) ?_
      show Steps p.tables e below (T305.setTop (mkF m 220 #[iv u0, iv u1, iv u2, iv (3 : Int32), iv (u1 &&& (2147483647 : Int32)), rv sv1, rv b3, rv b33, rv b76, rv b131, rv b198, .unset] [(.int (1 : Int32))])) _
      refine XS.istore X305.here hx rfl (hb hby at_220) rfl (l' := #[iv u0, iv u1, iv u2, iv (3 : Int32), iv (u1 &&& (2147483647 : Int32)), rv sv1, rv b3, rv b33, rv b76, rv b131, rv b198, iv (1 : Int32)]) rfl ?_
      show Steps p.tables e below (T305.setTop (mkF m 222 #[iv u0, iv u1, iv u2, iv (3 : Int32), iv (u1 &&& (2147483647 : Int32)), rv sv1, rv b3, rv b33, rv b76, rv b131, rv b198, iv (1 : Int32)] [])) _
      refine XS.aload X305.here hx rfl (hb hby at_222) rfl rfl ?_
      show Steps p.tables e below (T305.setTop (mkF m 224 #[iv u0, iv u1, iv u2, iv (3 : Int32), iv (u1 &&& (2147483647 : Int32)), rv sv1, rv b3, rv b33, rv b76, rv b131, rv b198, iv (1 : Int32)] [(.ref b198)])) _
      refine st319.trans ?_
      show Steps p.tables e below (T319.setTop (mkF m 227 #[iv u0, iv u1, iv u2, iv (3 : Int32), iv (u1 &&& (2147483647 : Int32)), rv sv1, rv b3, rv b33, rv b76, rv b131, rv b198, iv (1 : Int32)] [(.int (1 : Int32))])) _
      refine XS.iload X319.here hx rfl (hb hby at_227) rfl ?_
      show Steps p.tables e below (T319.setTop (mkF m 229 #[iv u0, iv u1, iv u2, iv (3 : Int32), iv (u1 &&& (2147483647 : Int32)), rv sv1, rv b3, rv b33, rv b76, rv b131, rv b198, iv (1 : Int32)] [(.int (1 : Int32)), (.int (1 : Int32))])) _
      refine XS.icmpNo X319.here hx rfl (hb hby at_229) rfl (teq (by decide : (1 : Int32) = (1 : Int32))).2 ?_
      show Steps p.tables e below (T319.setTop (mkF m 232 #[iv u0, iv u1, iv u2, iv (3 : Int32), iv (u1 &&& (2147483647 : Int32)), rv sv1, rv b3, rv b33, rv b76, rv b131, rv b198, iv (1 : Int32)] [])) _
      refine XS.iconst X319.here hx rfl (hb hby at_232) ?_
      show Steps p.tables e below (T319.setTop (mkF m 233 #[iv u0, iv u1, iv u2, iv (3 : Int32), iv (u1 &&& (2147483647 : Int32)), rv sv1, rv b3, rv b33, rv b76, rv b131, rv b198, iv (1 : Int32)] [(.int (1 : Int32))])) _
      refine XS.goto X319.here hx rfl (pc0 := 233) (pc' := 237) rfl (hb hby at_233) (by decide) (by decide) ?_
      show Steps p.tables e below (T319.setTop (mkF m 237 #[iv u0, iv u1, iv u2, iv (3 : Int32), iv (u1 &&& (2147483647 : Int32)), rv sv1, rv b3, rv b33, rv b76, rv b131, rv b198, iv (1 : Int32)] [(.int (1 : Int32))])) _
      exact retN X319 hx (t := .boolean) Bd.returns (by simp) (hb hby at_237) hr
    · show Q0 Z u0 u1 u2 t0 t1 t2 t3 d0 d1 d2 d3 oa oc G1 h0 n0 _ T319.heap _
      rw [eq319]
      exact ⟨rfl, N319⟩
  · skip
    rw [hn_] at S231
    obtain ⟨cq320, kq320, q320a, q320b, q320c⟩ := isOf hZ rfl oe214
    obtain ⟨_, _, ⟨T320, L320, k320, n320⟩, -, X320, ⟨Lc320, hQ320, l320, y320, z320⟩, st320⟩ := X214.virtualBack hx (y := (⟨"com/example/reroutine/reroutine/replanning/ExecutedDay", "add", "(Lcom/example/reroutine/reroutine/scenario/Event;)V"⟩ : MethodName)) (z := (⟨"com/example/reroutine/reroutine/replanning/ExecutedDay", "add", "(Lcom/example/reroutine/reroutine/scenario/Event;)V"⟩ : MethodName)) hown (mvT hZ (hw _ (List.mem_of_getElem? (i := 97) rfl))) (mvT hZ (hw _ (List.mem_of_getElem? (i := 98) rfl))) (notFace_of_selects (args := #[]) (mvT hZ (hw _ (List.mem_of_getElem? (i := 100) rfl)))) (mvT hZ (hw _ (List.mem_of_getElem? (i := 100) rfl))) (mvT hZ (hw _ (List.mem_of_getElem? (i := 99) rfl))) (by decide) (backOf (W := 0) (rmAdd0 l Z a0 hw [] b198 b3 t0 t1 t2 t3 d0 d1 d2 d3 oa oc (u1 &&& (2147483647 : Int32)) T214.heap n0 Z214 Od216 hst Bq214 ge_b198 (Ne.symm ne_b3_b198) f218 f219 f220) hZ (hw _ (List.mem_of_getElem? (i := 101) rfl)) (hw _ (List.mem_of_getElem? (i := 76) rfl)) (by decide) (by decide)) q320a q320c (g := (mkF m 124 #[iv u0, iv u1, iv u2, iv (4 : Int32), iv (u1 &&& (2147483647 : Int32)), rv sv1, rv b3, rv b33, rv b76, rv b131, rv b198, .unset] [(.ref b3), (.ref b198)])) rfl (by rw [hml]; rfl) (Steps.refl _) (argsL := [(.ref b3)]) (rest := []) (lenOf pd_13 rfl) rfl (by show 2 * 0 + _ ≤ _; exact Nat.le_of_eq rfl) (hb hby at_124) (fun _ _ => ⟨rfl, rfl, (by decide : 24 + 0 ≤ _), (by decide : 96 + 0 ≤ _)⟩)
    dsimp only [Pt.U, Pt.locs, Pt.cells, Pt.slots] at X320 l320 y320 z320 st320 hQ320
    subst y320 z320
    obtain ⟨rfl, Nq320, Kx320, Bq320⟩ := hQ320
    have N320 : Fr n0 L320 := by rw [l320]; exact Fr.app N214 Nq320
    obtain ⟨ar320, cl320, ty320, Kq320, gar320, Arq320⟩ := Kx320
    have Z320 : n0 ≤ T320.heap.size := Nat.le_trans Z214 Kq320.1
    have f321 := f219.keep Kq320 (ninS ne_b3_b198 (ninS (ne_arr f218 (hw _ (List.mem_of_getElem? (i := 28) rfl)) Arq320) nin0))
    have f322 := f220.keep Kq320 (ninS ne_b3_b198 (ninS (ne_arr f218 (hw _ (List.mem_of_getElem? (i := 28) rfl)) Arq320) nin0))
    have f323 := f222.keep Kq320 (ninS ne_b33_b198 (ninS (ne_arr f221 (hw _ (List.mem_of_getElem? (i := 28) rfl)) Arq320) nin0))
    have f324 := f223.keep Kq320 (ninS ne_b33_b198 (ninS (ne_arr f221 (hw _ (List.mem_of_getElem? (i := 28) rfl)) Arq320) nin0))
    have f325 := f225.keep Kq320 (ninS ne_b76_b198 (ninS (ne_arr f224 (hw _ (List.mem_of_getElem? (i := 28) rfl)) Arq320) nin0))
    have f326 := f226.keep Kq320 (ninS ne_b76_b198 (ninS (ne_arr f224 (hw _ (List.mem_of_getElem? (i := 28) rfl)) Arq320) nin0))
    have f327 := f228.keep Kq320 (ninS ne_b131_b198 (ninS (ne_arr f227 (hw _ (List.mem_of_getElem? (i := 28) rfl)) Arq320) nin0))
    have f328 := f229.keep Kq320 (ninS ne_b131_b198 (ninS (ne_arr f227 (hw _ (List.mem_of_getElem? (i := 28) rfl)) Arq320) nin0))
    have f329 := f218.keep Kq320
    have f330 := f221.keep Kq320
    have f331 := f224.keep Kq320
    have f332 := f227.keep Kq320
    have f333 := oe214.keep Kq320
    have Od320 := Od216.keep Kq320 (allS ge_b198 (allS gar320 all0))
    have hk320 := Nat.le_trans hk215 Kq320.1
    obtain ⟨cq334, kq334, q334a, q334b, q334c⟩ := isOf hZ rfl f333
    obtain ⟨_, _, ⟨T334, L334, k334, n334⟩, -, X334, ⟨Lc334, hQ334, l334, y334, z334⟩, st334⟩ := X320.virtualBack hx (y := (⟨"com/example/reroutine/reroutine/replanning/ExecutedDay", "add", "(Lcom/example/reroutine/reroutine/scenario/Event;)V"⟩ : MethodName)) (z := (⟨"com/example/reroutine/reroutine/replanning/ExecutedDay", "add", "(Lcom/example/reroutine/reroutine/scenario/Event;)V"⟩ : MethodName)) hown (mvT hZ (hw _ (List.mem_of_getElem? (i := 97) rfl))) (mvT hZ (hw _ (List.mem_of_getElem? (i := 98) rfl))) (notFace_of_selects (args := #[]) (mvT hZ (hw _ (List.mem_of_getElem? (i := 100) rfl)))) (mvT hZ (hw _ (List.mem_of_getElem? (i := 100) rfl))) (mvT hZ (hw _ (List.mem_of_getElem? (i := 99) rfl))) (by decide) (backOf (W := 0) (rmAdd1 l Z a0 hw [] b198 b33 t0 t1 t2 t3 d0 d1 d2 d3 oa oc (u1 &&& (2147483647 : Int32)) T320.heap n0 Z320 Od320 hst Bq320 ge_b198 (Ne.symm ne_b33_b198) f330 f323 f324) hZ (hw _ (List.mem_of_getElem? (i := 101) rfl)) (hw _ (List.mem_of_getElem? (i := 76) rfl)) (by decide) (by decide)) q334a q334c (g := (mkF m 136 #[iv u0, iv u1, iv u2, iv (4 : Int32), iv (u1 &&& (2147483647 : Int32)), rv sv1, rv b3, rv b33, rv b76, rv b131, rv b198, .unset] [(.ref b33), (.ref b198)])) rfl (by rw [hml]; rfl) (Steps.refl _) (argsL := [(.ref b33)]) (rest := []) (lenOf pd_13 rfl) rfl (by show 2 * 0 + _ ≤ _; exact Nat.le_of_eq rfl) (hb hby at_136) (fun _ _ => ⟨rfl, rfl, (by decide : 24 + 0 ≤ _), (by decide : 96 + 0 ≤ _)⟩)
    dsimp only [Pt.U, Pt.locs, Pt.cells, Pt.slots] at X334 l334 y334 z334 st334 hQ334
    subst y334 z334
    obtain ⟨rfl, Nq334, Kx334, Bq334⟩ := hQ334
    have N334 : Fr n0 L334 := by rw [l334]; exact Fr.app N320 Nq334
    obtain ⟨ar334, cl334, ty334, Kq334, gar334, Arq334⟩ := Kx334
    have Z334 : n0 ≤ T334.heap.size := Nat.le_trans Z320 Kq334.1
    have f335 := f321.keep Kq334 (ninS ne_b3_b198 (ninS (ne_arr f329 (hw _ (List.mem_of_getElem? (i := 28) rfl)) Arq334) nin0))
    have f336 := f322.keep Kq334 (ninS ne_b3_b198 (ninS (ne_arr f329 (hw _ (List.mem_of_getElem? (i := 28) rfl)) Arq334) nin0))
    have f337 := f323.keep Kq334 (ninS ne_b33_b198 (ninS (ne_arr f330 (hw _ (List.mem_of_getElem? (i := 28) rfl)) Arq334) nin0))
    have f338 := f324.keep Kq334 (ninS ne_b33_b198 (ninS (ne_arr f330 (hw _ (List.mem_of_getElem? (i := 28) rfl)) Arq334) nin0))
    have f339 := f325.keep Kq334 (ninS ne_b76_b198 (ninS (ne_arr f331 (hw _ (List.mem_of_getElem? (i := 28) rfl)) Arq334) nin0))
    have f340 := f326.keep Kq334 (ninS ne_b76_b198 (ninS (ne_arr f331 (hw _ (List.mem_of_getElem? (i := 28) rfl)) Arq334) nin0))
    have f341 := f327.keep Kq334 (ninS ne_b131_b198 (ninS (ne_arr f332 (hw _ (List.mem_of_getElem? (i := 28) rfl)) Arq334) nin0))
    have f342 := f328.keep Kq334 (ninS ne_b131_b198 (ninS (ne_arr f332 (hw _ (List.mem_of_getElem? (i := 28) rfl)) Arq334) nin0))
    have f343 := f329.keep Kq334
    have f344 := f330.keep Kq334
    have f345 := f331.keep Kq334
    have f346 := f332.keep Kq334
    have f347 := f333.keep Kq334
    have Od334 := Od320.keep Kq334 (allS ge_b198 (allS gar334 all0))
    have hk334 := Nat.le_trans hk320 Kq334.1
    obtain ⟨cq348, kq348, q348a, q348b, q348c⟩ := isOf hZ rfl f347
    obtain ⟨_, _, ⟨T348, L348, k348, n348⟩, -, X348, ⟨Lc348, hQ348, l348, y348, z348⟩, st348⟩ := X334.virtualBack hx (y := (⟨"com/example/reroutine/reroutine/replanning/ExecutedDay", "add", "(Lcom/example/reroutine/reroutine/scenario/Event;)V"⟩ : MethodName)) (z := (⟨"com/example/reroutine/reroutine/replanning/ExecutedDay", "add", "(Lcom/example/reroutine/reroutine/scenario/Event;)V"⟩ : MethodName)) hown (mvT hZ (hw _ (List.mem_of_getElem? (i := 97) rfl))) (mvT hZ (hw _ (List.mem_of_getElem? (i := 98) rfl))) (notFace_of_selects (args := #[]) (mvT hZ (hw _ (List.mem_of_getElem? (i := 100) rfl)))) (mvT hZ (hw _ (List.mem_of_getElem? (i := 100) rfl))) (mvT hZ (hw _ (List.mem_of_getElem? (i := 99) rfl))) (by decide) (backOf (W := 0) (rmAdd2 l Z a0 hw [] b198 b76 t0 t1 t2 t3 d0 d1 d2 d3 oa oc (u1 &&& (2147483647 : Int32)) T334.heap n0 Z334 Od334 hst Bq334 ge_b198 (Ne.symm ne_b76_b198) f345 f339 f340) hZ (hw _ (List.mem_of_getElem? (i := 101) rfl)) (hw _ (List.mem_of_getElem? (i := 76) rfl)) (by decide) (by decide)) q348a q348c (g := (mkF m 148 #[iv u0, iv u1, iv u2, iv (4 : Int32), iv (u1 &&& (2147483647 : Int32)), rv sv1, rv b3, rv b33, rv b76, rv b131, rv b198, .unset] [(.ref b76), (.ref b198)])) rfl (by rw [hml]; rfl) (Steps.refl _) (argsL := [(.ref b76)]) (rest := []) (lenOf pd_13 rfl) rfl (by show 2 * 0 + _ ≤ _; exact Nat.le_of_eq rfl) (hb hby at_148) (fun _ _ => ⟨rfl, rfl, (by decide : 24 + 0 ≤ _), (by decide : 96 + 0 ≤ _)⟩)
    dsimp only [Pt.U, Pt.locs, Pt.cells, Pt.slots] at X348 l348 y348 z348 st348 hQ348
    subst y348 z348
    obtain ⟨rfl, Nq348, Kx348, Bq348⟩ := hQ348
    have N348 : Fr n0 L348 := by rw [l348]; exact Fr.app N334 Nq348
    obtain ⟨ar348, cl348, ty348, Kq348, gar348, Arq348⟩ := Kx348
    have Z348 : n0 ≤ T348.heap.size := Nat.le_trans Z334 Kq348.1
    have f349 := f335.keep Kq348 (ninS ne_b3_b198 (ninS (ne_arr f343 (hw _ (List.mem_of_getElem? (i := 28) rfl)) Arq348) nin0))
    have f350 := f336.keep Kq348 (ninS ne_b3_b198 (ninS (ne_arr f343 (hw _ (List.mem_of_getElem? (i := 28) rfl)) Arq348) nin0))
    have f351 := f337.keep Kq348 (ninS ne_b33_b198 (ninS (ne_arr f344 (hw _ (List.mem_of_getElem? (i := 28) rfl)) Arq348) nin0))
    have f352 := f338.keep Kq348 (ninS ne_b33_b198 (ninS (ne_arr f344 (hw _ (List.mem_of_getElem? (i := 28) rfl)) Arq348) nin0))
    have f353 := f339.keep Kq348 (ninS ne_b76_b198 (ninS (ne_arr f345 (hw _ (List.mem_of_getElem? (i := 28) rfl)) Arq348) nin0))
    have f354 := f340.keep Kq348 (ninS ne_b76_b198 (ninS (ne_arr f345 (hw _ (List.mem_of_getElem? (i := 28) rfl)) Arq348) nin0))
    have f355 := f341.keep Kq348 (ninS ne_b131_b198 (ninS (ne_arr f346 (hw _ (List.mem_of_getElem? (i := 28) rfl)) Arq348) nin0))
    have f356 := f342.keep Kq348 (ninS ne_b131_b198 (ninS (ne_arr f346 (hw _ (List.mem_of_getElem? (i := 28) rfl)) Arq348) nin0))
    have f357 := f343.keep Kq348
    have f358 := f344.keep Kq348
    have f359 := f345.keep Kq348
    have f360 := f346.keep Kq348
    have f361 := f347.keep Kq348
    have Od348 := Od334.keep Kq348 (allS ge_b198 (allS gar348 all0))
    have hk348 := Nat.le_trans hk334 Kq348.1
    obtain ⟨cq362, kq362, q362a, q362b, q362c⟩ := isOf hZ rfl f361
    obtain ⟨_, _, ⟨T362, L362, k362, n362⟩, -, X362, ⟨Lc362, hQ362, l362, y362, z362⟩, st362⟩ := X348.virtualBack hx (y := (⟨"com/example/reroutine/reroutine/replanning/ExecutedDay", "add", "(Lcom/example/reroutine/reroutine/scenario/Event;)V"⟩ : MethodName)) (z := (⟨"com/example/reroutine/reroutine/replanning/ExecutedDay", "add", "(Lcom/example/reroutine/reroutine/scenario/Event;)V"⟩ : MethodName)) hown (mvT hZ (hw _ (List.mem_of_getElem? (i := 97) rfl))) (mvT hZ (hw _ (List.mem_of_getElem? (i := 98) rfl))) (notFace_of_selects (args := #[]) (mvT hZ (hw _ (List.mem_of_getElem? (i := 100) rfl)))) (mvT hZ (hw _ (List.mem_of_getElem? (i := 100) rfl))) (mvT hZ (hw _ (List.mem_of_getElem? (i := 99) rfl))) (by decide) (backOf (W := 0) (rmAdd3 l Z a0 hw [] b198 b131 t0 t1 t2 t3 d0 d1 d2 d3 oa oc (u1 &&& (2147483647 : Int32)) T348.heap n0 Z348 Od348 hst Bq348 ge_b198 (Ne.symm ne_b131_b198) f360 f355 f356) hZ (hw _ (List.mem_of_getElem? (i := 101) rfl)) (hw _ (List.mem_of_getElem? (i := 76) rfl)) (by decide) (by decide)) q362a q362c (g := (mkF m 160 #[iv u0, iv u1, iv u2, iv (4 : Int32), iv (u1 &&& (2147483647 : Int32)), rv sv1, rv b3, rv b33, rv b76, rv b131, rv b198, .unset] [(.ref b131), (.ref b198)])) rfl (by rw [hml]; rfl) (Steps.refl _) (argsL := [(.ref b131)]) (rest := []) (lenOf pd_13 rfl) rfl (by show 2 * 0 + _ ≤ _; exact Nat.le_of_eq rfl) (hb hby at_160) (fun _ _ => ⟨rfl, rfl, (by decide : 24 + 0 ≤ _), (by decide : 96 + 0 ≤ _)⟩)
    dsimp only [Pt.U, Pt.locs, Pt.cells, Pt.slots] at X362 l362 y362 z362 st362 hQ362
    subst y362 z362
    obtain ⟨rfl, Nq362, Kx362, Bq362⟩ := hQ362
    have N362 : Fr n0 L362 := by rw [l362]; exact Fr.app N348 Nq362
    obtain ⟨ar362, cl362, ty362, Kq362, gar362, Arq362⟩ := Kx362
    have Z362 : n0 ≤ T362.heap.size := Nat.le_trans Z348 Kq362.1
    have f363 := f349.keep Kq362 (ninS ne_b3_b198 (ninS (ne_arr f357 (hw _ (List.mem_of_getElem? (i := 28) rfl)) Arq362) nin0))
    have f364 := f350.keep Kq362 (ninS ne_b3_b198 (ninS (ne_arr f357 (hw _ (List.mem_of_getElem? (i := 28) rfl)) Arq362) nin0))
    have f365 := f351.keep Kq362 (ninS ne_b33_b198 (ninS (ne_arr f358 (hw _ (List.mem_of_getElem? (i := 28) rfl)) Arq362) nin0))
    have f366 := f352.keep Kq362 (ninS ne_b33_b198 (ninS (ne_arr f358 (hw _ (List.mem_of_getElem? (i := 28) rfl)) Arq362) nin0))
    have f367 := f353.keep Kq362 (ninS ne_b76_b198 (ninS (ne_arr f359 (hw _ (List.mem_of_getElem? (i := 28) rfl)) Arq362) nin0))
    have f368 := f354.keep Kq362 (ninS ne_b76_b198 (ninS (ne_arr f359 (hw _ (List.mem_of_getElem? (i := 28) rfl)) Arq362) nin0))
    have f369 := f355.keep Kq362 (ninS ne_b131_b198 (ninS (ne_arr f360 (hw _ (List.mem_of_getElem? (i := 28) rfl)) Arq362) nin0))
    have f370 := f356.keep Kq362 (ninS ne_b131_b198 (ninS (ne_arr f360 (hw _ (List.mem_of_getElem? (i := 28) rfl)) Arq362) nin0))
    have f371 := f357.keep Kq362
    have f372 := f358.keep Kq362
    have f373 := f359.keep Kq362
    have f374 := f360.keep Kq362
    have f375 := f361.keep Kq362
    have Od362 := Od348.keep Kq362 (allS ge_b198 (allS gar362 all0))
    have hk362 := Nat.le_trans hk348 Kq362.1
    obtain ⟨cq376, kq376, q376a, q376b, q376c⟩ := isOf hZ rfl f375
    obtain ⟨_, _, ⟨T376, L376, k376, n376⟩, -, X376, ⟨Lc376, hQ376, l376, y376, z376⟩, st376⟩ := X362.virtualBack hx (y := (⟨"com/example/reroutine/reroutine/replanning/ExecutedDay", "legsArrived", "()I"⟩ : MethodName)) (z := (⟨"com/example/reroutine/reroutine/replanning/ExecutedDay", "legsArrived", "()I"⟩ : MethodName)) hown (mvT hZ (hw _ (List.mem_of_getElem? (i := 90) rfl))) (mvT hZ (hw _ (List.mem_of_getElem? (i := 91) rfl))) (notFace_of_selects (args := #[]) (mvT hZ (hw _ (List.mem_of_getElem? (i := 93) rfl)))) (mvT hZ (hw _ (List.mem_of_getElem? (i := 93) rfl))) (mvT hZ (hw _ (List.mem_of_getElem? (i := 92) rfl))) (by decide) (backOf (W := 0) (rmQ4 l Z a0 hw [] b198 t0 t1 t2 t3 d0 d1 d2 d3 oa oc T362.heap n0 Z362 Od362 hst Bq362.2.1) hZ (hw _ (List.mem_of_getElem? (i := 94) rfl)) (hw _ (List.mem_of_getElem? (i := 76) rfl)) (by decide) (by decide)) q376a q376c (g := (mkF m 224 #[iv u0, iv u1, iv u2, iv (4 : Int32), iv (u1 &&& (2147483647 : Int32)), rv sv1, rv b3, rv b33, rv b76, rv b131, rv b198, iv (1 : Int32)] [(.ref b198)])) rfl (by rw [hml]; rfl) (Steps.refl _) (argsL := []) (rest := []) (lenOf pd_8 rfl) rfl (by show 2 * 0 + _ ≤ _; exact Nat.le_of_eq rfl) (hb hby at_224) (fun _ _ => ⟨rfl, rfl, (by decide : 24 + 0 ≤ _), (by decide : 96 + 0 ≤ _)⟩)
    dsimp only [Pt.U, Pt.locs, Pt.cells, Pt.slots] at X376 l376 y376 z376 st376 hQ376
    subst y376 z376
    obtain ⟨rfl, Nq376, eq376⟩ := hQ376
    have N376 : Fr n0 L376 := by rw [l376]; exact Fr.app N362 Nq376
    obtain ⟨fs, hr, hrun, hended, hR1, hR2, hR3, hR4⟩ := X376.leaveW (s := s) hS (by rw [eq376]; exact hk362) (v := some (.int (1 : Int32))) (fun h => by rw [Bd.returns] at h; cases h)
    refine ⟨_, _, S231 _ ?_, hrun, hended, _, _, rfl, ?_, hR1, hR2, hR3, hR4.mono (by decide) (by decide)⟩
    · skip
      show Steps p.tables e below (T214.setTop (mkF m 117 #[iv u0, iv u1, iv u2, iv (4 : Int32), iv (u1 &&& (2147483647 : Int32)), rv sv1, rv b3, rv b33, rv b76, rv b131, rv b198, .unset] [(.int (4 : Int32))])) _
      refine XS.ifNo X214.here hx rfl (hb hby at_117) rfl ((if0 _ _).trans (tlt (by decide : (0 : Int32) < (4 : Int32))).2.2.2) ?_
      show Steps p.tables e below (T214.setTop (mkF m 120 #[iv u0, iv u1, iv u2, iv (4 : Int32), iv (u1 &&& (2147483647 : Int32)), rv sv1, rv b3, rv b33, rv b76, rv b131, rv b198, .unset] [])) _
      refine XS.aload X214.here hx rfl (hb hby at_120) rfl rfl ?_
      show Steps p.tables e below (T214.setTop (mkF m 122 #[iv u0, iv u1, iv u2, iv (4 : Int32), iv (u1 &&& (2147483647 : Int32)), rv sv1, rv b3, rv b33, rv b76, rv b131, rv b198, .unset] [(.ref b198)])) _
      refine XS.aload X214.here hx rfl (hb hby at_122) rfl rfl ?_
      show Steps p.tables e below (T214.setTop (mkF m 124 #[iv u0, iv u1, iv u2, iv (4 : Int32), iv (u1 &&& (2147483647 : Int32)), rv sv1, rv b3, rv b33, rv b76, rv b131, rv b198, .unset] [(.ref b3), (.ref b198)])) _
      refine st320.trans ?_
      show Steps p.tables e below (T320.setTop (mkF m 127 #[iv u0, iv u1, iv u2, iv (4 : Int32), iv (u1 &&& (2147483647 : Int32)), rv sv1, rv b3, rv b33, rv b76, rv b131, rv b198, .unset] [])) _
      refine XS.iloadN X320.here hx rfl (hb hby at_127) rfl ?_
      show Steps p.tables e below (T320.setTop (mkF m 128 #[iv u0, iv u1, iv u2, iv (4 : Int32), iv (u1 &&& (2147483647 : Int32)), rv sv1, rv b3, rv b33, rv b76, rv b131, rv b198, .unset] [(.int (4 : Int32))])) _
      refine XS.iconst X320.here hx rfl (hb hby at_128) ?_
      show Steps p.tables e below (T320.setTop (mkF m 129 #[iv u0, iv u1, iv u2, iv (4 : Int32), iv (u1 &&& (2147483647 : Int32)), rv sv1, rv b3, rv b33, rv b76, rv b131, rv b198, .unset] [(.int (1 : Int32)), (.int (4 : Int32))])) _
      refine XS.icmpNo X320.here hx rfl (hb hby at_129) rfl (tlt (by decide : (1 : Int32) < (4 : Int32))).2.2.2 ?_
      show Steps p.tables e below (T320.setTop (mkF m 132 #[iv u0, iv u1, iv u2, iv (4 : Int32), iv (u1 &&& (2147483647 : Int32)), rv sv1, rv b3, rv b33, rv b76, rv b131, rv b198, .unset] [])) _
      refine XS.aload X320.here hx rfl (hb hby at_132) rfl rfl ?_
      show Steps p.tables e below (T320.setTop (mkF m 134 #[iv u0, iv u1, iv u2, iv (4 : Int32), iv (u1 &&& (2147483647 : Int32)), rv sv1, rv b3, rv b33, rv b76, rv b131, rv b198, .unset] [(.ref b198)])) _
      refine XS.aload X320.here hx rfl (hb hby at_134) rfl rfl ?_
      show Steps p.tables e below (T320.setTop (mkF m 136 #[iv u0, iv u1, iv u2, iv (4 : Int32), iv (u1 &&& (2147483647 : Int32)), rv sv1, rv b3, rv b33, rv b76, rv b131, rv b198, .unset] [(.ref b33), (.ref b198)])) _
      refine st334.trans ?_
      show Steps p.tables e below (T334.setTop (mkF m 139 #[iv u0, iv u1, iv u2, iv (4 : Int32), iv (u1 &&& (2147483647 : Int32)), rv sv1, rv b3, rv b33, rv b76, rv b131, rv b198, .unset] [])) _
      refine XS.iloadN X334.here hx rfl (hb hby at_139) rfl ?_
      show Steps p.tables e below (T334.setTop (mkF m 140 #[iv u0, iv u1, iv u2, iv (4 : Int32), iv (u1 &&& (2147483647 : Int32)), rv sv1, rv b3, rv b33, rv b76, rv b131, rv b198, .unset] [(.int (4 : Int32))])) _
      refine XS.iconst X334.here hx rfl (hb hby at_140) ?_
      show Steps p.tables e below (T334.setTop (mkF m 141 #[iv u0, iv u1, iv u2, iv (4 : Int32), iv (u1 &&& (2147483647 : Int32)), rv sv1, rv b3, rv b33, rv b76, rv b131, rv b198, .unset] [(.int (2 : Int32)), (.int (4 : Int32))])) _
      refine XS.icmpNo X334.here hx rfl (hb hby at_141) rfl (tlt (by decide : (2 : Int32) < (4 : Int32))).2.2.2 ?_
      show Steps p.tables e below (T334.setTop (mkF m 144 #[iv u0, iv u1, iv u2, iv (4 : Int32), iv (u1 &&& (2147483647 : Int32)), rv sv1, rv b3, rv b33, rv b76, rv b131, rv b198, .unset] [])) _
      refine XS.aload X334.here hx rfl (hb hby at_144) rfl rfl ?_
      show Steps p.tables e below (T334.setTop (mkF m 146 #[iv u0, iv u1, iv u2, iv (4 : Int32), iv (u1 &&& (2147483647 : Int32)), rv sv1, rv b3, rv b33, rv b76, rv b131, rv b198, .unset] [(.ref b198)])) _
      refine XS.aload X334.here hx rfl (hb hby at_146) rfl rfl ?_
      show Steps p.tables e below (T334.setTop (mkF m 148 #[iv u0, iv u1, iv u2, iv (4 : Int32), iv (u1 &&& (2147483647 : Int32)), rv sv1, rv b3, rv b33, rv b76, rv b131, rv b198, .unset] [(.ref b76), (.ref b198)])) _
      refine st348.trans ?_
      show Steps p.tables e below (T348.setTop (mkF m 151 #[iv u0, iv u1, iv u2, iv (4 : Int32), iv (u1 &&& (2147483647 : Int32)), rv sv1, rv b3, rv b33, rv b76, rv b131, rv b198, .unset] [])) _
      refine XS.iloadN X348.here hx rfl (hb hby at_151) rfl ?_
      show Steps p.tables e below (T348.setTop (mkF m 152 #[iv u0, iv u1, iv u2, iv (4 : Int32), iv (u1 &&& (2147483647 : Int32)), rv sv1, rv b3, rv b33, rv b76, rv b131, rv b198, .unset] [(.int (4 : Int32))])) _
      refine XS.iconst X348.here hx rfl (hb hby at_152) ?_
      show Steps p.tables e below (T348.setTop (mkF m 153 #[iv u0, iv u1, iv u2, iv (4 : Int32), iv (u1 &&& (2147483647 : Int32)), rv sv1, rv b3, rv b33, rv b76, rv b131, rv b198, .unset] [(.int (3 : Int32)), (.int (4 : Int32))])) _
      refine XS.icmpNo X348.here hx rfl (hb hby at_153) rfl (tlt (by decide : (3 : Int32) < (4 : Int32))).2.2.2 ?_
      show Steps p.tables e below (T348.setTop (mkF m 156 #[iv u0, iv u1, iv u2, iv (4 : Int32), iv (u1 &&& (2147483647 : Int32)), rv sv1, rv b3, rv b33, rv b76, rv b131, rv b198, .unset] [])) _
      refine XS.aload X348.here hx rfl (hb hby at_156) rfl rfl ?_
      show Steps p.tables e below (T348.setTop (mkF m 158 #[iv u0, iv u1, iv u2, iv (4 : Int32), iv (u1 &&& (2147483647 : Int32)), rv sv1, rv b3, rv b33, rv b76, rv b131, rv b198, .unset] [(.ref b198)])) _
      refine XS.aload X348.here hx rfl (hb hby at_158) rfl rfl ?_
      show Steps p.tables e below (T348.setTop (mkF m 160 #[iv u0, iv u1, iv u2, iv (4 : Int32), iv (u1 &&& (2147483647 : Int32)), rv sv1, rv b3, rv b33, rv b76, rv b131, rv b198, .unset] [(.ref b131), (.ref b198)])) _
      refine st362.trans ?_
      show Steps p.tables e below (T362.setTop (mkF m 163 #[iv u0, iv u1, iv u2, iv (4 : Int32), iv (u1 &&& (2147483647 : Int32)), rv sv1, rv b3, rv b33, rv b76, rv b131, rv b198, .unset] [])) _
      refine XS.iloadN X362.here hx rfl (hb hby at_163) rfl ?_
      show Steps p.tables e below (T362.setTop (mkF m 164 #[iv u0, iv u1, iv u2, iv (4 : Int32), iv (u1 &&& (2147483647 : Int32)), rv sv1, rv b3, rv b33, rv b76, rv b131, rv b198, .unset] [(.int (4 : Int32))])) _
      refine XS.iconst X362.here hx rfl (hb hby at_164) ?_
      show Steps p.tables e below (T362.setTop (mkF m 165 #[iv u0, iv u1, iv u2, iv (4 : Int32), iv (u1 &&& (2147483647 : Int32)), rv sv1, rv b3, rv b33, rv b76, rv b131, rv b198, .unset] [(.int (4 : Int32)), (.int (4 : Int32))])) _
      refine XS.icmpYes X362.here hx rfl (pc0 := 165) (pc' := 175) rfl (hb hby at_165) rfl (flt (by decide : ¬ ((4 : Int32) < (4 : Int32)))).2.2.2 (by decide) (by decide) ?_
      show Steps p.tables e below (T362.setTop (mkF m 175 #[iv u0, iv u1, iv u2, iv (4 : Int32), iv (u1 &&& (2147483647 : Int32)), rv sv1, rv b3, rv b33, rv b76, rv b131, rv b198, .unset] [])) _
      refine XS.iloadN X362.here hx rfl (hb hby at_175) rfl ?_
      show Steps p.tables e below (T362.setTop (mkF m 176 #[iv u0, iv u1, iv u2, iv (4 : Int32), iv (u1 &&& (2147483647 : Int32)), rv sv1, rv b3, rv b33, rv b76, rv b131, rv b198, .unset] [(.int (4 : Int32))])) _
      refine XS.iconst X362.here hx rfl (hb hby at_176) ?_
      show Steps p.tables e below (T362.setTop (mkF m 177 #[iv u0, iv u1, iv u2, iv (4 : Int32), iv (u1 &&& (2147483647 : Int32)), rv sv1, rv b3, rv b33, rv b76, rv b131, rv b198, .unset] [(.int (5 : Int32)), (.int (4 : Int32))])) _
      refine XS.icmpYes X362.here hx rfl (pc0 := 177) (pc' := 187) rfl (hb hby at_177) rfl (flt (by decide : ¬ ((5 : Int32) < (4 : Int32)))).2.2.2 (by decide) (by decide) ?_
      show Steps p.tables e below (T362.setTop (mkF m 187 #[iv u0, iv u1, iv u2, iv (4 : Int32), iv (u1 &&& (2147483647 : Int32)), rv sv1, rv b3, rv b33, rv b76, rv b131, rv b198, .unset] [])) _
      refine XS.iloadN X362.here hx rfl (hb hby at_187) rfl ?_
      show Steps p.tables e below (T362.setTop (mkF m 188 #[iv u0, iv u1, iv u2, iv (4 : Int32), iv (u1 &&& (2147483647 : Int32)), rv sv1, rv b3, rv b33, rv b76, rv b131, rv b198, .unset] [(.int (4 : Int32))])) _
      refine XS.bipush X362.here hx rfl (hb hby at_188) ?_
      show Steps p.tables e below (T362.setTop (mkF m 190 #[iv u0, iv u1, iv u2, iv (4 : Int32), iv (u1 &&& (2147483647 : Int32)), rv sv1, rv b3, rv b33, rv b76, rv b131, rv b198, .unset] [(.int (6 : Int32)), (.int (4 : Int32))])) _
      refine XS.icmpYes X362.here hx rfl (pc0 := 190) (pc' := 200) rfl (hb hby at_190) rfl (flt (by decide : ¬ ((6 : Int32) < (4 : Int32)))).2.2.2 (by decide) (by decide) ?_
      show Steps p.tables e below (T362.setTop (mkF m 200 #[iv u0, iv u1, iv u2, iv (4 : Int32), iv (u1 &&& (2147483647 : Int32)), rv sv1, rv b3, rv b33, rv b76, rv b131, rv b198, .unset] [])) _
      refine XS.iloadN X362.here hx rfl (hb hby at_200) rfl ?_
      show Steps p.tables e below (T362.setTop (mkF m 201 #[iv u0, iv u1, iv u2, iv (4 : Int32), iv (u1 &&& (2147483647 : Int32)), rv sv1, rv b3, rv b33, rv b76, rv b131, rv b198, .unset] [(.int (4 : Int32))])) _
      refine XS.bipush X362.here hx rfl (hb hby at_201) ?_
      show Steps p.tables e below (T362.setTop (mkF m 203 #[iv u0, iv u1, iv u2, iv (4 : Int32), iv (u1 &&& (2147483647 : Int32)), rv sv1, rv b3, rv b33, rv b76, rv b131, rv b198, .unset] [(.int (7 : Int32)), (.int (4 : Int32))])) _
      refine XS.icmpYes X362.here hx rfl (pc0 := 203) (pc' := 210) rfl (hb hby at_203) rfl (tlt (by decide : (4 : Int32) < (7 : Int32))).1 (by decide) (by decide) ?_
      show Steps p.tables e below (T362.setTop (mkF m 210 #[iv u0, iv u1, iv u2, iv (4 : Int32), iv (u1 &&& (2147483647 : Int32)), rv sv1, rv b3, rv b33, rv b76, rv b131, rv b198, .unset] [])) _
      refine XS.iloadN X362.here hx rfl (hb hby at_210) rfl ?_
      show Steps p.tables e below (T362.setTop (mkF m 211 #[iv u0, iv u1, iv u2, iv (4 : Int32), iv (u1 &&& (2147483647 : Int32)), rv sv1, rv b3, rv b33, rv b76, rv b131, rv b198, .unset] [(.int (4 : Int32))])) _
      refine XS.iconst X362.here hx rfl (hb hby at_211) ?_
      show Steps p.tables e below (T362.setTop (mkF m 212 #[iv u0, iv u1, iv u2, iv (4 : Int32), iv (u1 &&& (2147483647 : Int32)), rv sv1, rv b3, rv b33, rv b76, rv b131, rv b198, .unset] [(.int (3 : Int32)), (.int (4 : Int32))])) _
      refine XS.icmpNo X362.here hx rfl (hb hby at_212) rfl (flt (by decide : ¬ ((4 : Int32) < (3 : Int32)))).1 ?_
      show Steps p.tables e below (T362.setTop (mkF m 215 #[iv u0, iv u1, iv u2, iv (4 : Int32), iv (u1 &&& (2147483647 : Int32)), rv sv1, rv b3, rv b33, rv b76, rv b131, rv b198, .unset] [])) _
      refine XS.iconst X362.here hx rfl (hb hby at_215) ?_
      show Steps p.tables e below (T362.setTop (mkF m 216 #[iv u0, iv u1, iv u2, iv (4 : Int32), iv (u1 &&& (2147483647 : Int32)), rv sv1, rv b3, rv b33, rv b76, rv b131, rv b198, .unset] [(.int (1 : Int32))])) _
      refine XS.goto X362.here hx rfl (pc0 := 216) (pc' := 220) rfl (hb hby at_216) (by decide) (by decide) ?_
      show Steps p.tables e below (T362.setTop (mkF m 220 #[iv u0, iv u1, iv u2, iv (4 : Int32), iv (u1 &&& (2147483647 : Int32)), rv sv1, rv b3, rv b33, rv b76, rv b131, rv b198, .unset] [(.int (1 : Int32))])) _
      refine XS.istore X362.here hx rfl (hb hby at_220) rfl (l' := #[iv u0, iv u1, iv u2, iv (4 : Int32), iv (u1 &&& (2147483647 : Int32)), rv sv1, rv b3, rv b33, rv b76, rv b131, rv b198, iv (1 : Int32)]) rfl ?_
      show Steps p.tables e below (T362.setTop (mkF m 222 #[iv u0, iv u1, iv u2, iv (4 : Int32), iv (u1 &&& (2147483647 : Int32)), rv sv1, rv b3, rv b33, rv b76, rv b131, rv b198, iv (1 : Int32)] [])) _
      refine XS.aload X362.here hx rfl (hb hby at_222) rfl rfl ?_
      show Steps p.tables e below (T362.setTop (mkF m 224 #[iv u0, iv u1, iv u2, iv (4 : Int32), iv (u1 &&& (2147483647 : Int32)), rv sv1, rv b3, rv b33, rv b76, rv b131, rv b198, iv (1 : Int32)] [(.ref b198)])) _
      refine st376.trans ?_
      show Steps p.tables e below (T376.setTop (mkF m 227 #[iv u0, iv u1, iv u2, iv (4 : Int32), iv (u1 &&& (2147483647 : Int32)), rv sv1, rv b3, rv b33, rv b76, rv b131, rv b198, iv (1 : Int32)] [(.int (1 : Int32))])) _
      refine XS.iload X376.here hx rfl (hb hby at_227) rfl ?_
      show Steps p.tables e below (T376.setTop (mkF m 229 #[iv u0, iv u1, iv u2, iv (4 : Int32), iv (u1 &&& (2147483647 : Int32)), rv sv1, rv b3, rv b33, rv b76, rv b131, rv b198, iv (1 : Int32)] [(.int (1 : Int32)), (.int (1 : Int32))])) _
      refine XS.icmpNo X376.here hx rfl (hb hby at_229) rfl (teq (by decide : (1 : Int32) = (1 : Int32))).2 ?_
      show Steps p.tables e below (T376.setTop (mkF m 232 #[iv u0, iv u1, iv u2, iv (4 : Int32), iv (u1 &&& (2147483647 : Int32)), rv sv1, rv b3, rv b33, rv b76, rv b131, rv b198, iv (1 : Int32)] [])) _
      refine XS.iconst X376.here hx rfl (hb hby at_232) ?_
      show Steps p.tables e below (T376.setTop (mkF m 233 #[iv u0, iv u1, iv u2, iv (4 : Int32), iv (u1 &&& (2147483647 : Int32)), rv sv1, rv b3, rv b33, rv b76, rv b131, rv b198, iv (1 : Int32)] [(.int (1 : Int32))])) _
      refine XS.goto X376.here hx rfl (pc0 := 233) (pc' := 237) rfl (hb hby at_233) (by decide) (by decide) ?_
      show Steps p.tables e below (T376.setTop (mkF m 237 #[iv u0, iv u1, iv u2, iv (4 : Int32), iv (u1 &&& (2147483647 : Int32)), rv sv1, rv b3, rv b33, rv b76, rv b131, rv b198, iv (1 : Int32)] [(.int (1 : Int32))])) _
      exact retN X376 hx (t := .boolean) Bd.returns (by simp) (hb hby at_237) hr
    · show Q0 Z u0 u1 u2 t0 t1 t2 t3 d0 d1 d2 d3 oa oc G1 h0 n0 _ T376.heap _
      rw [eq376]
      exact ⟨rfl, N376⟩
  · skip
    rw [hn_] at S231
    obtain ⟨cq377, kq377, q377a, q377b, q377c⟩ := isOf hZ rfl oe214
    obtain ⟨_, _, ⟨T377, L377, k377, n377⟩, -, X377, ⟨Lc377, hQ377, l377, y377, z377⟩, st377⟩ := X214.virtualBack hx (y := (⟨"com/example/reroutine/reroutine/replanning/ExecutedDay", "add", "(Lcom/example/reroutine/reroutine/scenario/Event;)V"⟩ : MethodName)) (z := (⟨"com/example/reroutine/reroutine/replanning/ExecutedDay", "add", "(Lcom/example/reroutine/reroutine/scenario/Event;)V"⟩ : MethodName)) hown (mvT hZ (hw _ (List.mem_of_getElem? (i := 97) rfl))) (mvT hZ (hw _ (List.mem_of_getElem? (i := 98) rfl))) (notFace_of_selects (args := #[]) (mvT hZ (hw _ (List.mem_of_getElem? (i := 100) rfl)))) (mvT hZ (hw _ (List.mem_of_getElem? (i := 100) rfl))) (mvT hZ (hw _ (List.mem_of_getElem? (i := 99) rfl))) (by decide) (backOf (W := 0) (rmAdd0 l Z a0 hw [] b198 b3 t0 t1 t2 t3 d0 d1 d2 d3 oa oc (u1 &&& (2147483647 : Int32)) T214.heap n0 Z214 Od216 hst Bq214 ge_b198 (Ne.symm ne_b3_b198) f218 f219 f220) hZ (hw _ (List.mem_of_getElem? (i := 101) rfl)) (hw _ (List.mem_of_getElem? (i := 76) rfl)) (by decide) (by decide)) q377a q377c (g := (mkF m 124 #[iv u0, iv u1, iv u2, iv (5 : Int32), iv (u1 &&& (2147483647 : Int32)), rv sv1, rv b3, rv b33, rv b76, rv b131, rv b198, .unset] [(.ref b3), (.ref b198)])) rfl (by rw [hml]; rfl) (Steps.refl _) (argsL := [(.ref b3)]) (rest := []) (lenOf pd_13 rfl) rfl (by show 2 * 0 + _ ≤ _; exact Nat.le_of_eq rfl) (hb hby at_124) (fun _ _ => ⟨rfl, rfl, (by decide : 24 + 0 ≤ _), (by decide : 96 + 0 ≤ _)⟩)
    dsimp only [Pt.U, Pt.locs, Pt.cells, Pt.slots] at X377 l377 y377 z377 st377 hQ377
    subst y377 z377
    obtain ⟨rfl, Nq377, Kx377, Bq377⟩ := hQ377
    have N377 : Fr n0 L377 := by rw [l377]; exact Fr.app N214 Nq377
    obtain ⟨ar377, cl377, ty377, Kq377, gar377, Arq377⟩ := Kx377
    have Z377 : n0 ≤ T377.heap.size := Nat.le_trans Z214 Kq377.1
    have f378 := f219.keep Kq377 (ninS ne_b3_b198 (ninS (ne_arr f218 (hw _ (List.mem_of_getElem? (i := 28) rfl)) Arq377) nin0))
    have f379 := f220.keep Kq377 (ninS ne_b3_b198 (ninS (ne_arr f218 (hw _ (List.mem_of_getElem? (i := 28) rfl)) Arq377) nin0))
    have f380 := f222.keep Kq377 (ninS ne_b33_b198 (ninS (ne_arr f221 (hw _ (List.mem_of_getElem? (i := 28) rfl)) Arq377) nin0))
    have f381 := f223.keep Kq377 (ninS ne_b33_b198 (ninS (ne_arr f221 (hw _ (List.mem_of_getElem? (i := 28) rfl)) Arq377) nin0))
    have f382 := f225.keep Kq377 (ninS ne_b76_b198 (ninS (ne_arr f224 (hw _ (List.mem_of_getElem? (i := 28) rfl)) Arq377) nin0))
    have f383 := f226.keep Kq377 (ninS ne_b76_b198 (ninS (ne_arr f224 (hw _ (List.mem_of_getElem? (i := 28) rfl)) Arq377) nin0))
    have f384 := f228.keep Kq377 (ninS ne_b131_b198 (ninS (ne_arr f227 (hw _ (List.mem_of_getElem? (i := 28) rfl)) Arq377) nin0))
    have f385 := f229.keep Kq377 (ninS ne_b131_b198 (ninS (ne_arr f227 (hw _ (List.mem_of_getElem? (i := 28) rfl)) Arq377) nin0))
    have f386 := f218.keep Kq377
    have f387 := f221.keep Kq377
    have f388 := f224.keep Kq377
    have f389 := f227.keep Kq377
    have f390 := oe214.keep Kq377
    have Od377 := Od216.keep Kq377 (allS ge_b198 (allS gar377 all0))
    have hk377 := Nat.le_trans hk215 Kq377.1
    obtain ⟨cq391, kq391, q391a, q391b, q391c⟩ := isOf hZ rfl f390
    obtain ⟨_, _, ⟨T391, L391, k391, n391⟩, -, X391, ⟨Lc391, hQ391, l391, y391, z391⟩, st391⟩ := X377.virtualBack hx (y := (⟨"com/example/reroutine/reroutine/replanning/ExecutedDay", "add", "(Lcom/example/reroutine/reroutine/scenario/Event;)V"⟩ : MethodName)) (z := (⟨"com/example/reroutine/reroutine/replanning/ExecutedDay", "add", "(Lcom/example/reroutine/reroutine/scenario/Event;)V"⟩ : MethodName)) hown (mvT hZ (hw _ (List.mem_of_getElem? (i := 97) rfl))) (mvT hZ (hw _ (List.mem_of_getElem? (i := 98) rfl))) (notFace_of_selects (args := #[]) (mvT hZ (hw _ (List.mem_of_getElem? (i := 100) rfl)))) (mvT hZ (hw _ (List.mem_of_getElem? (i := 100) rfl))) (mvT hZ (hw _ (List.mem_of_getElem? (i := 99) rfl))) (by decide) (backOf (W := 0) (rmAdd1 l Z a0 hw [] b198 b33 t0 t1 t2 t3 d0 d1 d2 d3 oa oc (u1 &&& (2147483647 : Int32)) T377.heap n0 Z377 Od377 hst Bq377 ge_b198 (Ne.symm ne_b33_b198) f387 f380 f381) hZ (hw _ (List.mem_of_getElem? (i := 101) rfl)) (hw _ (List.mem_of_getElem? (i := 76) rfl)) (by decide) (by decide)) q391a q391c (g := (mkF m 136 #[iv u0, iv u1, iv u2, iv (5 : Int32), iv (u1 &&& (2147483647 : Int32)), rv sv1, rv b3, rv b33, rv b76, rv b131, rv b198, .unset] [(.ref b33), (.ref b198)])) rfl (by rw [hml]; rfl) (Steps.refl _) (argsL := [(.ref b33)]) (rest := []) (lenOf pd_13 rfl) rfl (by show 2 * 0 + _ ≤ _; exact Nat.le_of_eq rfl) (hb hby at_136) (fun _ _ => ⟨rfl, rfl, (by decide : 24 + 0 ≤ _), (by decide : 96 + 0 ≤ _)⟩)
    dsimp only [Pt.U, Pt.locs, Pt.cells, Pt.slots] at X391 l391 y391 z391 st391 hQ391
    subst y391 z391
    obtain ⟨rfl, Nq391, Kx391, Bq391⟩ := hQ391
    have N391 : Fr n0 L391 := by rw [l391]; exact Fr.app N377 Nq391
    obtain ⟨ar391, cl391, ty391, Kq391, gar391, Arq391⟩ := Kx391
    have Z391 : n0 ≤ T391.heap.size := Nat.le_trans Z377 Kq391.1
    have f392 := f378.keep Kq391 (ninS ne_b3_b198 (ninS (ne_arr f386 (hw _ (List.mem_of_getElem? (i := 28) rfl)) Arq391) nin0))
    have f393 := f379.keep Kq391 (ninS ne_b3_b198 (ninS (ne_arr f386 (hw _ (List.mem_of_getElem? (i := 28) rfl)) Arq391) nin0))
    have f394 := f380.keep Kq391 (ninS ne_b33_b198 (ninS (ne_arr f387 (hw _ (List.mem_of_getElem? (i := 28) rfl)) Arq391) nin0))
    have f395 := f381.keep Kq391 (ninS ne_b33_b198 (ninS (ne_arr f387 (hw _ (List.mem_of_getElem? (i := 28) rfl)) Arq391) nin0))
    have f396 := f382.keep Kq391 (ninS ne_b76_b198 (ninS (ne_arr f388 (hw _ (List.mem_of_getElem? (i := 28) rfl)) Arq391) nin0))
    have f397 := f383.keep Kq391 (ninS ne_b76_b198 (ninS (ne_arr f388 (hw _ (List.mem_of_getElem? (i := 28) rfl)) Arq391) nin0))
    have f398 := f384.keep Kq391 (ninS ne_b131_b198 (ninS (ne_arr f389 (hw _ (List.mem_of_getElem? (i := 28) rfl)) Arq391) nin0))
    have f399 := f385.keep Kq391 (ninS ne_b131_b198 (ninS (ne_arr f389 (hw _ (List.mem_of_getElem? (i := 28) rfl)) Arq391) nin0))
    have f400 := f386.keep Kq391
    have f401 := f387.keep Kq391
    have f402 := f388.keep Kq391
    have f403 := f389.keep Kq391
    have f404 := f390.keep Kq391
    have Od391 := Od377.keep Kq391 (allS ge_b198 (allS gar391 all0))
    have hk391 := Nat.le_trans hk377 Kq391.1
    obtain ⟨cq405, kq405, q405a, q405b, q405c⟩ := isOf hZ rfl f404
    obtain ⟨_, _, ⟨T405, L405, k405, n405⟩, -, X405, ⟨Lc405, hQ405, l405, y405, z405⟩, st405⟩ := X391.virtualBack hx (y := (⟨"com/example/reroutine/reroutine/replanning/ExecutedDay", "add", "(Lcom/example/reroutine/reroutine/scenario/Event;)V"⟩ : MethodName)) (z := (⟨"com/example/reroutine/reroutine/replanning/ExecutedDay", "add", "(Lcom/example/reroutine/reroutine/scenario/Event;)V"⟩ : MethodName)) hown (mvT hZ (hw _ (List.mem_of_getElem? (i := 97) rfl))) (mvT hZ (hw _ (List.mem_of_getElem? (i := 98) rfl))) (notFace_of_selects (args := #[]) (mvT hZ (hw _ (List.mem_of_getElem? (i := 100) rfl)))) (mvT hZ (hw _ (List.mem_of_getElem? (i := 100) rfl))) (mvT hZ (hw _ (List.mem_of_getElem? (i := 99) rfl))) (by decide) (backOf (W := 0) (rmAdd2 l Z a0 hw [] b198 b76 t0 t1 t2 t3 d0 d1 d2 d3 oa oc (u1 &&& (2147483647 : Int32)) T391.heap n0 Z391 Od391 hst Bq391 ge_b198 (Ne.symm ne_b76_b198) f402 f396 f397) hZ (hw _ (List.mem_of_getElem? (i := 101) rfl)) (hw _ (List.mem_of_getElem? (i := 76) rfl)) (by decide) (by decide)) q405a q405c (g := (mkF m 148 #[iv u0, iv u1, iv u2, iv (5 : Int32), iv (u1 &&& (2147483647 : Int32)), rv sv1, rv b3, rv b33, rv b76, rv b131, rv b198, .unset] [(.ref b76), (.ref b198)])) rfl (by rw [hml]; rfl) (Steps.refl _) (argsL := [(.ref b76)]) (rest := []) (lenOf pd_13 rfl) rfl (by show 2 * 0 + _ ≤ _; exact Nat.le_of_eq rfl) (hb hby at_148) (fun _ _ => ⟨rfl, rfl, (by decide : 24 + 0 ≤ _), (by decide : 96 + 0 ≤ _)⟩)
    dsimp only [Pt.U, Pt.locs, Pt.cells, Pt.slots] at X405 l405 y405 z405 st405 hQ405
    subst y405 z405
    obtain ⟨rfl, Nq405, Kx405, Bq405⟩ := hQ405
    have N405 : Fr n0 L405 := by rw [l405]; exact Fr.app N391 Nq405
    obtain ⟨ar405, cl405, ty405, Kq405, gar405, Arq405⟩ := Kx405
    have Z405 : n0 ≤ T405.heap.size := Nat.le_trans Z391 Kq405.1
    have f406 := f392.keep Kq405 (ninS ne_b3_b198 (ninS (ne_arr f400 (hw _ (List.mem_of_getElem? (i := 28) rfl)) Arq405) nin0))
    have f407 := f393.keep Kq405 (ninS ne_b3_b198 (ninS (ne_arr f400 (hw _ (List.mem_of_getElem? (i := 28) rfl)) Arq405) nin0))
    have f408 := f394.keep Kq405 (ninS ne_b33_b198 (ninS (ne_arr f401 (hw _ (List.mem_of_getElem? (i := 28) rfl)) Arq405) nin0))
    have f409 := f395.keep Kq405 (ninS ne_b33_b198 (ninS (ne_arr f401 (hw _ (List.mem_of_getElem? (i := 28) rfl)) Arq405) nin0))
    have f410 := f396.keep Kq405 (ninS ne_b76_b198 (ninS (ne_arr f402 (hw _ (List.mem_of_getElem? (i := 28) rfl)) Arq405) nin0))
    have f411 := f397.keep Kq405 (ninS ne_b76_b198 (ninS (ne_arr f402 (hw _ (List.mem_of_getElem? (i := 28) rfl)) Arq405) nin0))
    have f412 := f398.keep Kq405 (ninS ne_b131_b198 (ninS (ne_arr f403 (hw _ (List.mem_of_getElem? (i := 28) rfl)) Arq405) nin0))
    have f413 := f399.keep Kq405 (ninS ne_b131_b198 (ninS (ne_arr f403 (hw _ (List.mem_of_getElem? (i := 28) rfl)) Arq405) nin0))
    have f414 := f400.keep Kq405
    have f415 := f401.keep Kq405
    have f416 := f402.keep Kq405
    have f417 := f403.keep Kq405
    have f418 := f404.keep Kq405
    have Od405 := Od391.keep Kq405 (allS ge_b198 (allS gar405 all0))
    have hk405 := Nat.le_trans hk391 Kq405.1
    obtain ⟨cq419, kq419, q419a, q419b, q419c⟩ := isOf hZ rfl f418
    obtain ⟨_, _, ⟨T419, L419, k419, n419⟩, -, X419, ⟨Lc419, hQ419, l419, y419, z419⟩, st419⟩ := X405.virtualBack hx (y := (⟨"com/example/reroutine/reroutine/replanning/ExecutedDay", "add", "(Lcom/example/reroutine/reroutine/scenario/Event;)V"⟩ : MethodName)) (z := (⟨"com/example/reroutine/reroutine/replanning/ExecutedDay", "add", "(Lcom/example/reroutine/reroutine/scenario/Event;)V"⟩ : MethodName)) hown (mvT hZ (hw _ (List.mem_of_getElem? (i := 97) rfl))) (mvT hZ (hw _ (List.mem_of_getElem? (i := 98) rfl))) (notFace_of_selects (args := #[]) (mvT hZ (hw _ (List.mem_of_getElem? (i := 100) rfl)))) (mvT hZ (hw _ (List.mem_of_getElem? (i := 100) rfl))) (mvT hZ (hw _ (List.mem_of_getElem? (i := 99) rfl))) (by decide) (backOf (W := 0) (rmAdd3 l Z a0 hw [] b198 b131 t0 t1 t2 t3 d0 d1 d2 d3 oa oc (u1 &&& (2147483647 : Int32)) T405.heap n0 Z405 Od405 hst Bq405 ge_b198 (Ne.symm ne_b131_b198) f417 f412 f413) hZ (hw _ (List.mem_of_getElem? (i := 101) rfl)) (hw _ (List.mem_of_getElem? (i := 76) rfl)) (by decide) (by decide)) q419a q419c (g := (mkF m 160 #[iv u0, iv u1, iv u2, iv (5 : Int32), iv (u1 &&& (2147483647 : Int32)), rv sv1, rv b3, rv b33, rv b76, rv b131, rv b198, .unset] [(.ref b131), (.ref b198)])) rfl (by rw [hml]; rfl) (Steps.refl _) (argsL := [(.ref b131)]) (rest := []) (lenOf pd_13 rfl) rfl (by show 2 * 0 + _ ≤ _; exact Nat.le_of_eq rfl) (hb hby at_160) (fun _ _ => ⟨rfl, rfl, (by decide : 24 + 0 ≤ _), (by decide : 96 + 0 ≤ _)⟩)
    dsimp only [Pt.U, Pt.locs, Pt.cells, Pt.slots] at X419 l419 y419 z419 st419 hQ419
    subst y419 z419
    obtain ⟨rfl, Nq419, Kx419, Bq419⟩ := hQ419
    have N419 : Fr n0 L419 := by rw [l419]; exact Fr.app N405 Nq419
    obtain ⟨ar419, cl419, ty419, Kq419, gar419, Arq419⟩ := Kx419
    have Z419 : n0 ≤ T419.heap.size := Nat.le_trans Z405 Kq419.1
    have f420 := f406.keep Kq419 (ninS ne_b3_b198 (ninS (ne_arr f414 (hw _ (List.mem_of_getElem? (i := 28) rfl)) Arq419) nin0))
    have f421 := f407.keep Kq419 (ninS ne_b3_b198 (ninS (ne_arr f414 (hw _ (List.mem_of_getElem? (i := 28) rfl)) Arq419) nin0))
    have f422 := f408.keep Kq419 (ninS ne_b33_b198 (ninS (ne_arr f415 (hw _ (List.mem_of_getElem? (i := 28) rfl)) Arq419) nin0))
    have f423 := f409.keep Kq419 (ninS ne_b33_b198 (ninS (ne_arr f415 (hw _ (List.mem_of_getElem? (i := 28) rfl)) Arq419) nin0))
    have f424 := f410.keep Kq419 (ninS ne_b76_b198 (ninS (ne_arr f416 (hw _ (List.mem_of_getElem? (i := 28) rfl)) Arq419) nin0))
    have f425 := f411.keep Kq419 (ninS ne_b76_b198 (ninS (ne_arr f416 (hw _ (List.mem_of_getElem? (i := 28) rfl)) Arq419) nin0))
    have f426 := f412.keep Kq419 (ninS ne_b131_b198 (ninS (ne_arr f417 (hw _ (List.mem_of_getElem? (i := 28) rfl)) Arq419) nin0))
    have f427 := f413.keep Kq419 (ninS ne_b131_b198 (ninS (ne_arr f417 (hw _ (List.mem_of_getElem? (i := 28) rfl)) Arq419) nin0))
    have f428 := f414.keep Kq419
    have f429 := f415.keep Kq419
    have f430 := f416.keep Kq419
    have f431 := f417.keep Kq419
    have f432 := f418.keep Kq419
    have Od419 := Od405.keep Kq419 (allS ge_b198 (allS gar419 all0))
    have hk419 := Nat.le_trans hk405 Kq419.1
    obtain ⟨cq433, kq433, q433a, q433b, q433c⟩ := isOf hZ rfl f432
    obtain ⟨_, _, ⟨T433, L433, k433, n433⟩, -, X433, ⟨Lc433, hQ433, l433, y433, z433⟩, st433⟩ := X419.virtualBack hx (y := (⟨"com/example/reroutine/reroutine/replanning/ExecutedDay", "add", "(Lcom/example/reroutine/reroutine/scenario/Event;)V"⟩ : MethodName)) (z := (⟨"com/example/reroutine/reroutine/replanning/ExecutedDay", "add", "(Lcom/example/reroutine/reroutine/scenario/Event;)V"⟩ : MethodName)) hown (mvT hZ (hw _ (List.mem_of_getElem? (i := 97) rfl))) (mvT hZ (hw _ (List.mem_of_getElem? (i := 98) rfl))) (notFace_of_selects (args := #[]) (mvT hZ (hw _ (List.mem_of_getElem? (i := 100) rfl)))) (mvT hZ (hw _ (List.mem_of_getElem? (i := 100) rfl))) (mvT hZ (hw _ (List.mem_of_getElem? (i := 99) rfl))) (by decide) (backOf (W := 0) (rmAdd4 l Z a0 hw [] b198 b3 t0 t1 t2 t3 d0 d1 d2 d3 oa oc (u1 &&& (2147483647 : Int32)) T419.heap n0 Z419 Od419 hst Bq419 ge_b198 (Ne.symm ne_b3_b198) f428 f420 f421) hZ (hw _ (List.mem_of_getElem? (i := 101) rfl)) (hw _ (List.mem_of_getElem? (i := 76) rfl)) (by decide) (by decide)) q433a q433c (g := (mkF m 172 #[iv u0, iv u1, iv u2, iv (5 : Int32), iv (u1 &&& (2147483647 : Int32)), rv sv1, rv b3, rv b33, rv b76, rv b131, rv b198, .unset] [(.ref b3), (.ref b198)])) rfl (by rw [hml]; rfl) (Steps.refl _) (argsL := [(.ref b3)]) (rest := []) (lenOf pd_13 rfl) rfl (by show 2 * 0 + _ ≤ _; exact Nat.le_of_eq rfl) (hb hby at_172) (fun _ _ => ⟨rfl, rfl, (by decide : 24 + 1 ≤ _), (by decide : 96 + 8 ≤ _)⟩)
    dsimp only [Pt.U, Pt.locs, Pt.cells, Pt.slots] at X433 l433 y433 z433 st433 hQ433
    subst y433 z433
    obtain ⟨rfl, Nq433, Kx433, Bq433⟩ := hQ433
    have N433 : Fr n0 L433 := by rw [l433]; exact Fr.app N419 Nq433
    obtain ⟨ar433, cl433, ty433, Kq433, gar433, Arq433⟩ := Kx433
    have Z433 : n0 ≤ T433.heap.size := Nat.le_trans Z419 Kq433.1
    have f434 := f420.keep Kq433 (ninS ne_b3_b198 (ninS (ne_arr f428 (hw _ (List.mem_of_getElem? (i := 28) rfl)) Arq433) nin0))
    have f435 := f421.keep Kq433 (ninS ne_b3_b198 (ninS (ne_arr f428 (hw _ (List.mem_of_getElem? (i := 28) rfl)) Arq433) nin0))
    have f436 := f422.keep Kq433 (ninS ne_b33_b198 (ninS (ne_arr f429 (hw _ (List.mem_of_getElem? (i := 28) rfl)) Arq433) nin0))
    have f437 := f423.keep Kq433 (ninS ne_b33_b198 (ninS (ne_arr f429 (hw _ (List.mem_of_getElem? (i := 28) rfl)) Arq433) nin0))
    have f438 := f424.keep Kq433 (ninS ne_b76_b198 (ninS (ne_arr f430 (hw _ (List.mem_of_getElem? (i := 28) rfl)) Arq433) nin0))
    have f439 := f425.keep Kq433 (ninS ne_b76_b198 (ninS (ne_arr f430 (hw _ (List.mem_of_getElem? (i := 28) rfl)) Arq433) nin0))
    have f440 := f426.keep Kq433 (ninS ne_b131_b198 (ninS (ne_arr f431 (hw _ (List.mem_of_getElem? (i := 28) rfl)) Arq433) nin0))
    have f441 := f427.keep Kq433 (ninS ne_b131_b198 (ninS (ne_arr f431 (hw _ (List.mem_of_getElem? (i := 28) rfl)) Arq433) nin0))
    have f442 := f428.keep Kq433
    have f443 := f429.keep Kq433
    have f444 := f430.keep Kq433
    have f445 := f431.keep Kq433
    have f446 := f432.keep Kq433
    have Od433 := Od419.keep Kq433 (allS ge_b198 (allS gar433 all0))
    have hk433 := Nat.le_trans hk419 Kq433.1
    obtain ⟨cq447, kq447, q447a, q447b, q447c⟩ := isOf hZ rfl f446
    obtain ⟨_, _, ⟨T447, L447, k447, n447⟩, -, X447, ⟨Lc447, hQ447, l447, y447, z447⟩, st447⟩ := X433.virtualBack hx (y := (⟨"com/example/reroutine/reroutine/replanning/ExecutedDay", "legsArrived", "()I"⟩ : MethodName)) (z := (⟨"com/example/reroutine/reroutine/replanning/ExecutedDay", "legsArrived", "()I"⟩ : MethodName)) hown (mvT hZ (hw _ (List.mem_of_getElem? (i := 90) rfl))) (mvT hZ (hw _ (List.mem_of_getElem? (i := 91) rfl))) (notFace_of_selects (args := #[]) (mvT hZ (hw _ (List.mem_of_getElem? (i := 93) rfl)))) (mvT hZ (hw _ (List.mem_of_getElem? (i := 93) rfl))) (mvT hZ (hw _ (List.mem_of_getElem? (i := 92) rfl))) (by decide) (backOf (W := 0) (rmQ5 l Z a0 hw [] b198 t0 t1 t2 t3 d0 d1 d2 d3 oa oc T433.heap n0 Z433 Od433 hst Bq433.2.1) hZ (hw _ (List.mem_of_getElem? (i := 94) rfl)) (hw _ (List.mem_of_getElem? (i := 76) rfl)) (by decide) (by decide)) q447a q447c (g := (mkF m 224 #[iv u0, iv u1, iv u2, iv (5 : Int32), iv (u1 &&& (2147483647 : Int32)), rv sv1, rv b3, rv b33, rv b76, rv b131, rv b198, iv (1 : Int32)] [(.ref b198)])) rfl (by rw [hml]; rfl) (Steps.refl _) (argsL := []) (rest := []) (lenOf pd_8 rfl) rfl (by show 2 * 0 + _ ≤ _; exact Nat.le_of_eq rfl) (hb hby at_224) (fun _ _ => ⟨rfl, rfl, (by decide : 25 + 0 ≤ _), (by decide : 104 + 0 ≤ _)⟩)
    dsimp only [Pt.U, Pt.locs, Pt.cells, Pt.slots] at X447 l447 y447 z447 st447 hQ447
    subst y447 z447
    obtain ⟨rfl, Nq447, eq447⟩ := hQ447
    have N447 : Fr n0 L447 := by rw [l447]; exact Fr.app N433 Nq447
    obtain ⟨fs, hr, hrun, hended, hR1, hR2, hR3, hR4⟩ := X447.leaveW (s := s) hS (by rw [eq447]; exact hk433) (v := some (.int (1 : Int32))) (fun h => by rw [Bd.returns] at h; cases h)
    refine ⟨_, _, S231 _ ?_, hrun, hended, _, _, rfl, ?_, hR1, hR2, hR3, hR4.mono (by decide) (by decide)⟩
    · skip
      show Steps p.tables e below (T214.setTop (mkF m 117 #[iv u0, iv u1, iv u2, iv (5 : Int32), iv (u1 &&& (2147483647 : Int32)), rv sv1, rv b3, rv b33, rv b76, rv b131, rv b198, .unset] [(.int (5 : Int32))])) _
      refine XS.ifNo X214.here hx rfl (hb hby at_117) rfl ((if0 _ _).trans (tlt (by decide : (0 : Int32) < (5 : Int32))).2.2.2) ?_
      show Steps p.tables e below (T214.setTop (mkF m 120 #[iv u0, iv u1, iv u2, iv (5 : Int32), iv (u1 &&& (2147483647 : Int32)), rv sv1, rv b3, rv b33, rv b76, rv b131, rv b198, .unset] [])) _
      refine XS.aload X214.here hx rfl (hb hby at_120) rfl rfl ?_
      show Steps p.tables e below (T214.setTop (mkF m 122 #[iv u0, iv u1, iv u2, iv (5 : Int32), iv (u1 &&& (2147483647 : Int32)), rv sv1, rv b3, rv b33, rv b76, rv b131, rv b198, .unset] [(.ref b198)])) _
      refine XS.aload X214.here hx rfl (hb hby at_122) rfl rfl ?_
      show Steps p.tables e below (T214.setTop (mkF m 124 #[iv u0, iv u1, iv u2, iv (5 : Int32), iv (u1 &&& (2147483647 : Int32)), rv sv1, rv b3, rv b33, rv b76, rv b131, rv b198, .unset] [(.ref b3), (.ref b198)])) _
      refine st377.trans ?_
      show Steps p.tables e below (T377.setTop (mkF m 127 #[iv u0, iv u1, iv u2, iv (5 : Int32), iv (u1 &&& (2147483647 : Int32)), rv sv1, rv b3, rv b33, rv b76, rv b131, rv b198, .unset] [])) _
      refine XS.iloadN X377.here hx rfl (hb hby at_127) rfl ?_
      show Steps p.tables e below (T377.setTop (mkF m 128 #[iv u0, iv u1, iv u2, iv (5 : Int32), iv (u1 &&& (2147483647 : Int32)), rv sv1, rv b3, rv b33, rv b76, rv b131, rv b198, .unset] [(.int (5 : Int32))])) _
      refine XS.iconst X377.here hx rfl (hb hby at_128) ?_
      show Steps p.tables e below (T377.setTop (mkF m 129 #[iv u0, iv u1, iv u2, iv (5 : Int32), iv (u1 &&& (2147483647 : Int32)), rv sv1, rv b3, rv b33, rv b76, rv b131, rv b198, .unset] [(.int (1 : Int32)), (.int (5 : Int32))])) _
      refine XS.icmpNo X377.here hx rfl (hb hby at_129) rfl (tlt (by decide : (1 : Int32) < (5 : Int32))).2.2.2 ?_
      show Steps p.tables e below (T377.setTop (mkF m 132 #[iv u0, iv u1, iv u2, iv (5 : Int32), iv (u1 &&& (2147483647 : Int32)), rv sv1, rv b3, rv b33, rv b76, rv b131, rv b198, .unset] [])) _
      refine XS.aload X377.here hx rfl (hb hby at_132) rfl rfl ?_
      show Steps p.tables e below (T377.setTop (mkF m 134 #[iv u0, iv u1, iv u2, iv (5 : Int32), iv (u1 &&& (2147483647 : Int32)), rv sv1, rv b3, rv b33, rv b76, rv b131, rv b198, .unset] [(.ref b198)])) _
      refine XS.aload X377.here hx rfl (hb hby at_134) rfl rfl ?_
      show Steps p.tables e below (T377.setTop (mkF m 136 #[iv u0, iv u1, iv u2, iv (5 : Int32), iv (u1 &&& (2147483647 : Int32)), rv sv1, rv b3, rv b33, rv b76, rv b131, rv b198, .unset] [(.ref b33), (.ref b198)])) _
      refine st391.trans ?_
      show Steps p.tables e below (T391.setTop (mkF m 139 #[iv u0, iv u1, iv u2, iv (5 : Int32), iv (u1 &&& (2147483647 : Int32)), rv sv1, rv b3, rv b33, rv b76, rv b131, rv b198, .unset] [])) _
      refine XS.iloadN X391.here hx rfl (hb hby at_139) rfl ?_
      show Steps p.tables e below (T391.setTop (mkF m 140 #[iv u0, iv u1, iv u2, iv (5 : Int32), iv (u1 &&& (2147483647 : Int32)), rv sv1, rv b3, rv b33, rv b76, rv b131, rv b198, .unset] [(.int (5 : Int32))])) _
      refine XS.iconst X391.here hx rfl (hb hby at_140) ?_
      show Steps p.tables e below (T391.setTop (mkF m 141 #[iv u0, iv u1, iv u2, iv (5 : Int32), iv (u1 &&& (2147483647 : Int32)), rv sv1, rv b3, rv b33, rv b76, rv b131, rv b198, .unset] [(.int (2 : Int32)), (.int (5 : Int32))])) _
      refine XS.icmpNo X391.here hx rfl (hb hby at_141) rfl (tlt (by decide : (2 : Int32) < (5 : Int32))).2.2.2 ?_
      show Steps p.tables e below (T391.setTop (mkF m 144 #[iv u0, iv u1, iv u2, iv (5 : Int32), iv (u1 &&& (2147483647 : Int32)), rv sv1, rv b3, rv b33, rv b76, rv b131, rv b198, .unset] [])) _
      refine XS.aload X391.here hx rfl (hb hby at_144) rfl rfl ?_
      show Steps p.tables e below (T391.setTop (mkF m 146 #[iv u0, iv u1, iv u2, iv (5 : Int32), iv (u1 &&& (2147483647 : Int32)), rv sv1, rv b3, rv b33, rv b76, rv b131, rv b198, .unset] [(.ref b198)])) _
      refine XS.aload X391.here hx rfl (hb hby at_146) rfl rfl ?_
      show Steps p.tables e below (T391.setTop (mkF m 148 #[iv u0, iv u1, iv u2, iv (5 : Int32), iv (u1 &&& (2147483647 : Int32)), rv sv1, rv b3, rv b33, rv b76, rv b131, rv b198, .unset] [(.ref b76), (.ref b198)])) _
      refine st405.trans ?_
      show Steps p.tables e below (T405.setTop (mkF m 151 #[iv u0, iv u1, iv u2, iv (5 : Int32), iv (u1 &&& (2147483647 : Int32)), rv sv1, rv b3, rv b33, rv b76, rv b131, rv b198, .unset] [])) _
      refine XS.iloadN X405.here hx rfl (hb hby at_151) rfl ?_
      show Steps p.tables e below (T405.setTop (mkF m 152 #[iv u0, iv u1, iv u2, iv (5 : Int32), iv (u1 &&& (2147483647 : Int32)), rv sv1, rv b3, rv b33, rv b76, rv b131, rv b198, .unset] [(.int (5 : Int32))])) _
      refine XS.iconst X405.here hx rfl (hb hby at_152) ?_
      show Steps p.tables e below (T405.setTop (mkF m 153 #[iv u0, iv u1, iv u2, iv (5 : Int32), iv (u1 &&& (2147483647 : Int32)), rv sv1, rv b3, rv b33, rv b76, rv b131, rv b198, .unset] [(.int (3 : Int32)), (.int (5 : Int32))])) _
      refine XS.icmpNo X405.here hx rfl (hb hby at_153) rfl (tlt (by decide : (3 : Int32) < (5 : Int32))).2.2.2 ?_
      show Steps p.tables e below (T405.setTop (mkF m 156 #[iv u0, iv u1, iv u2, iv (5 : Int32), iv (u1 &&& (2147483647 : Int32)), rv sv1, rv b3, rv b33, rv b76, rv b131, rv b198, .unset] [])) _
      refine XS.aload X405.here hx rfl (hb hby at_156) rfl rfl ?_
      show Steps p.tables e below (T405.setTop (mkF m 158 #[iv u0, iv u1, iv u2, iv (5 : Int32), iv (u1 &&& (2147483647 : Int32)), rv sv1, rv b3, rv b33, rv b76, rv b131, rv b198, .unset] [(.ref b198)])) _
      refine XS.aload X405.here hx rfl (hb hby at_158) rfl rfl ?_
      show Steps p.tables e below (T405.setTop (mkF m 160 #[iv u0, iv u1, iv u2, iv (5 : Int32), iv (u1 &&& (2147483647 : Int32)), rv sv1, rv b3, rv b33, rv b76, rv b131, rv b198, .unset] [(.ref b131), (.ref b198)])) _
      refine st419.trans ?_
      show Steps p.tables e below (T419.setTop (mkF m 163 #[iv u0, iv u1, iv u2, iv (5 : Int32), iv (u1 &&& (2147483647 : Int32)), rv sv1, rv b3, rv b33, rv b76, rv b131, rv b198, .unset] [])) _
      refine XS.iloadN X419.here hx rfl (hb hby at_163) rfl ?_
      show Steps p.tables e below (T419.setTop (mkF m 164 #[iv u0, iv u1, iv u2, iv (5 : Int32), iv (u1 &&& (2147483647 : Int32)), rv sv1, rv b3, rv b33, rv b76, rv b131, rv b198, .unset] [(.int (5 : Int32))])) _
      refine XS.iconst X419.here hx rfl (hb hby at_164) ?_
      show Steps p.tables e below (T419.setTop (mkF m 165 #[iv u0, iv u1, iv u2, iv (5 : Int32), iv (u1 &&& (2147483647 : Int32)), rv sv1, rv b3, rv b33, rv b76, rv b131, rv b198, .unset] [(.int (4 : Int32)), (.int (5 : Int32))])) _
      refine XS.icmpNo X419.here hx rfl (hb hby at_165) rfl (tlt (by decide : (4 : Int32) < (5 : Int32))).2.2.2 ?_
      show Steps p.tables e below (T419.setTop (mkF m 168 #[iv u0, iv u1, iv u2, iv (5 : Int32), iv (u1 &&& (2147483647 : Int32)), rv sv1, rv b3, rv b33, rv b76, rv b131, rv b198, .unset] [])) _
      refine XS.aload X419.here hx rfl (hb hby at_168) rfl rfl ?_
      show Steps p.tables e below (T419.setTop (mkF m 170 #[iv u0, iv u1, iv u2, iv (5 : Int32), iv (u1 &&& (2147483647 : Int32)), rv sv1, rv b3, rv b33, rv b76, rv b131, rv b198, .unset] [(.ref b198)])) _
      refine XS.aload X419.here hx rfl (hb hby at_170) rfl rfl ?_
      show Steps p.tables e below (T419.setTop (mkF m 172 #[iv u0, iv u1, iv u2, iv (5 : Int32), iv (u1 &&& (2147483647 : Int32)), rv sv1, rv b3, rv b33, rv b76, rv b131, rv b198, .unset] [(.ref b3), (.ref b198)])) _
      refine st433.trans ?_
      show Steps p.tables e below (T433.setTop (mkF m 175 #[iv u0, iv u1, iv u2, iv (5 : Int32), iv (u1 &&& (2147483647 : Int32)), rv sv1, rv b3, rv b33, rv b76, rv b131, rv b198, .unset] [])) _
      refine XS.iloadN X433.here hx rfl (hb hby at_175) rfl ?_
      show Steps p.tables e below (T433.setTop (mkF m 176 #[iv u0, iv u1, iv u2, iv (5 : Int32), iv (u1 &&& (2147483647 : Int32)), rv sv1, rv b3, rv b33, rv b76, rv b131, rv b198, .unset] [(.int (5 : Int32))])) _
      refine XS.iconst X433.here hx rfl (hb hby at_176) ?_
      show Steps p.tables e below (T433.setTop (mkF m 177 #[iv u0, iv u1, iv u2, iv (5 : Int32), iv (u1 &&& (2147483647 : Int32)), rv sv1, rv b3, rv b33, rv b76, rv b131, rv b198, .unset] [(.int (5 : Int32)), (.int (5 : Int32))])) _
      refine XS.icmpYes X433.here hx rfl (pc0 := 177) (pc' := 187) rfl (hb hby at_177) rfl (flt (by decide : ¬ ((5 : Int32) < (5 : Int32)))).2.2.2 (by decide) (by decide) ?_
      show Steps p.tables e below (T433.setTop (mkF m 187 #[iv u0, iv u1, iv u2, iv (5 : Int32), iv (u1 &&& (2147483647 : Int32)), rv sv1, rv b3, rv b33, rv b76, rv b131, rv b198, .unset] [])) _
      refine XS.iloadN X433.here hx rfl (hb hby at_187) rfl ?_
      show Steps p.tables e below (T433.setTop (mkF m 188 #[iv u0, iv u1, iv u2, iv (5 : Int32), iv (u1 &&& (2147483647 : Int32)), rv sv1, rv b3, rv b33, rv b76, rv b131, rv b198, .unset] [(.int (5 : Int32))])) _
      refine XS.bipush X433.here hx rfl (hb hby at_188) ?_
      show Steps p.tables e below (T433.setTop (mkF m 190 #[iv u0, iv u1, iv u2, iv (5 : Int32), iv (u1 &&& (2147483647 : Int32)), rv sv1, rv b3, rv b33, rv b76, rv b131, rv b198, .unset] [(.int (6 : Int32)), (.int (5 : Int32))])) _
      refine XS.icmpYes X433.here hx rfl (pc0 := 190) (pc' := 200) rfl (hb hby at_190) rfl (flt (by decide : ¬ ((6 : Int32) < (5 : Int32)))).2.2.2 (by decide) (by decide) ?_
      show Steps p.tables e below (T433.setTop (mkF m 200 #[iv u0, iv u1, iv u2, iv (5 : Int32), iv (u1 &&& (2147483647 : Int32)), rv sv1, rv b3, rv b33, rv b76, rv b131, rv b198, .unset] [])) _
      refine XS.iloadN X433.here hx rfl (hb hby at_200) rfl ?_
      show Steps p.tables e below (T433.setTop (mkF m 201 #[iv u0, iv u1, iv u2, iv (5 : Int32), iv (u1 &&& (2147483647 : Int32)), rv sv1, rv b3, rv b33, rv b76, rv b131, rv b198, .unset] [(.int (5 : Int32))])) _
      refine XS.bipush X433.here hx rfl (hb hby at_201) ?_
      show Steps p.tables e below (T433.setTop (mkF m 203 #[iv u0, iv u1, iv u2, iv (5 : Int32), iv (u1 &&& (2147483647 : Int32)), rv sv1, rv b3, rv b33, rv b76, rv b131, rv b198, .unset] [(.int (7 : Int32)), (.int (5 : Int32))])) _
      refine XS.icmpYes X433.here hx rfl (pc0 := 203) (pc' := 210) rfl (hb hby at_203) rfl (tlt (by decide : (5 : Int32) < (7 : Int32))).1 (by decide) (by decide) ?_
      show Steps p.tables e below (T433.setTop (mkF m 210 #[iv u0, iv u1, iv u2, iv (5 : Int32), iv (u1 &&& (2147483647 : Int32)), rv sv1, rv b3, rv b33, rv b76, rv b131, rv b198, .unset] [])) _
      refine XS.iloadN X433.here hx rfl (hb hby at_210) rfl ?_
      show Steps p.tables e below (T433.setTop (mkF m 211 #[iv u0, iv u1, iv u2, iv (5 : Int32), iv (u1 &&& (2147483647 : Int32)), rv sv1, rv b3, rv b33, rv b76, rv b131, rv b198, .unset] [(.int (5 : Int32))])) _
      refine XS.iconst X433.here hx rfl (hb hby at_211) ?_
      show Steps p.tables e below (T433.setTop (mkF m 212 #[iv u0, iv u1, iv u2, iv (5 : Int32), iv (u1 &&& (2147483647 : Int32)), rv sv1, rv b3, rv b33, rv b76, rv b131, rv b198, .unset] [(.int (3 : Int32)), (.int (5 : Int32))])) _
      refine XS.icmpNo X433.here hx rfl (hb hby at_212) rfl (flt (by decide : ¬ ((5 : Int32) < (3 : Int32)))).1 ?_
      show Steps p.tables e below (T433.setTop (mkF m 215 #[iv u0, iv u1, iv u2, iv (5 : Int32), iv (u1 &&& (2147483647 : Int32)), rv sv1, rv b3, rv b33, rv b76, rv b131, rv b198, .unset] [])) _
      refine XS.iconst X433.here hx rfl (hb hby at_215) ?_
      show Steps p.tables e below (T433.setTop (mkF m 216 #[iv u0, iv u1, iv u2, iv (5 : Int32), iv (u1 &&& (2147483647 : Int32)), rv sv1, rv b3, rv b33, rv b76, rv b131, rv b198, .unset] [(.int (1 : Int32))])) _
      refine XS.goto X433.here hx rfl (pc0 := 216) (pc' := 220) rfl (hb hby at_216) (by decide) (by decide) ?_
      show Steps p.tables e below (T433.setTop (mkF m 220 #[iv u0, iv u1, iv u2, iv (5 : Int32), iv (u1 &&& (2147483647 : Int32)), rv sv1, rv b3, rv b33, rv b76, rv b131, rv b198, .unset] [(.int (1 : Int32))])) _
      refine XS.istore X433.here hx rfl (hb hby at_220) rfl (l' := #[iv u0, iv u1, iv u2, iv (5 : Int32), iv (u1 &&& (2147483647 : Int32)), rv sv1, rv b3, rv b33, rv b76, rv b131, rv b198, iv (1 : Int32)]) rfl ?_
      show Steps p.tables e below (T433.setTop (mkF m 222 #[iv u0, iv u1, iv u2, iv (5 : Int32), iv (u1 &&& (2147483647 : Int32)), rv sv1, rv b3, rv b33, rv b76, rv b131, rv b198, iv (1 : Int32)] [])) _
      refine XS.aload X433.here hx rfl (hb hby at_222) rfl rfl ?_
      show Steps p.tables e below (T433.setTop (mkF m 224 #[iv u0, iv u1, iv u2, iv (5 : Int32), iv (u1 &&& (2147483647 : Int32)), rv sv1, rv b3, rv b33, rv b76, rv b131, rv b198, iv (1 : Int32)] [(.ref b198)])) _
      refine st447.trans ?_
      show Steps p.tables e below (T447.setTop (mkF m 227 #[iv u0, iv u1, iv u2, iv (5 : Int32), iv (u1 &&& (2147483647 : Int32)), rv sv1, rv b3, rv b33, rv b76, rv b131, rv b198, iv (1 : Int32)] [(.int (1 : Int32))])) _
      refine XS.iload X447.here hx rfl (hb hby at_227) rfl ?_
      show Steps p.tables e below (T447.setTop (mkF m 229 #[iv u0, iv u1, iv u2, iv (5 : Int32), iv (u1 &&& (2147483647 : Int32)), rv sv1, rv b3, rv b33, rv b76, rv b131, rv b198, iv (1 : Int32)] [(.int (1 : Int32)), (.int (1 : Int32))])) _
      refine XS.icmpNo X447.here hx rfl (hb hby at_229) rfl (teq (by decide : (1 : Int32) = (1 : Int32))).2 ?_
      show Steps p.tables e below (T447.setTop (mkF m 232 #[iv u0, iv u1, iv u2, iv (5 : Int32), iv (u1 &&& (2147483647 : Int32)), rv sv1, rv b3, rv b33, rv b76, rv b131, rv b198, iv (1 : Int32)] [])) _
      refine XS.iconst X447.here hx rfl (hb hby at_232) ?_
      show Steps p.tables e below (T447.setTop (mkF m 233 #[iv u0, iv u1, iv u2, iv (5 : Int32), iv (u1 &&& (2147483647 : Int32)), rv sv1, rv b3, rv b33, rv b76, rv b131, rv b198, iv (1 : Int32)] [(.int (1 : Int32))])) _
      refine XS.goto X447.here hx rfl (pc0 := 233) (pc' := 237) rfl (hb hby at_233) (by decide) (by decide) ?_
      show Steps p.tables e below (T447.setTop (mkF m 237 #[iv u0, iv u1, iv u2, iv (5 : Int32), iv (u1 &&& (2147483647 : Int32)), rv sv1, rv b3, rv b33, rv b76, rv b131, rv b198, iv (1 : Int32)] [(.int (1 : Int32))])) _
      exact retN X447 hx (t := .boolean) Bd.returns (by simp) (hb hby at_237) hr
    · show Q0 Z u0 u1 u2 t0 t1 t2 t3 d0 d1 d2 d3 oa oc G1 h0 n0 _ T447.heap _
      rw [eq447]
      exact ⟨rfl, N447⟩
  · skip
    rw [hn_] at S231
    obtain ⟨cq448, kq448, q448a, q448b, q448c⟩ := isOf hZ rfl oe214
    obtain ⟨_, _, ⟨T448, L448, k448, n448⟩, -, X448, ⟨Lc448, hQ448, l448, y448, z448⟩, st448⟩ := X214.virtualBack hx (y := (⟨"com/example/reroutine/reroutine/replanning/ExecutedDay", "add", "(Lcom/example/reroutine/reroutine/scenario/Event;)V"⟩ : MethodName)) (z := (⟨"com/example/reroutine/reroutine/replanning/ExecutedDay", "add", "(Lcom/example/reroutine/reroutine/scenario/Event;)V"⟩ : MethodName)) hown (mvT hZ (hw _ (List.mem_of_getElem? (i := 97) rfl))) (mvT hZ (hw _ (List.mem_of_getElem? (i := 98) rfl))) (notFace_of_selects (args := #[]) (mvT hZ (hw _ (List.mem_of_getElem? (i := 100) rfl)))) (mvT hZ (hw _ (List.mem_of_getElem? (i := 100) rfl))) (mvT hZ (hw _ (List.mem_of_getElem? (i := 99) rfl))) (by decide) (backOf (W := 0) (rmAdd0 l Z a0 hw [] b198 b3 t0 t1 t2 t3 d0 d1 d2 d3 oa oc (u1 &&& (2147483647 : Int32)) T214.heap n0 Z214 Od216 hst Bq214 ge_b198 (Ne.symm ne_b3_b198) f218 f219 f220) hZ (hw _ (List.mem_of_getElem? (i := 101) rfl)) (hw _ (List.mem_of_getElem? (i := 76) rfl)) (by decide) (by decide)) q448a q448c (g := (mkF m 124 #[iv u0, iv u1, iv u2, iv (6 : Int32), iv (u1 &&& (2147483647 : Int32)), rv sv1, rv b3, rv b33, rv b76, rv b131, rv b198, .unset] [(.ref b3), (.ref b198)])) rfl (by rw [hml]; rfl) (Steps.refl _) (argsL := [(.ref b3)]) (rest := []) (lenOf pd_13 rfl) rfl (by show 2 * 0 + _ ≤ _; exact Nat.le_of_eq rfl) (hb hby at_124) (fun _ _ => ⟨rfl, rfl, (by decide : 24 + 0 ≤ _), (by decide : 96 + 0 ≤ _)⟩)
    dsimp only [Pt.U, Pt.locs, Pt.cells, Pt.slots] at X448 l448 y448 z448 st448 hQ448
    subst y448 z448
    obtain ⟨rfl, Nq448, Kx448, Bq448⟩ := hQ448
    have N448 : Fr n0 L448 := by rw [l448]; exact Fr.app N214 Nq448
    obtain ⟨ar448, cl448, ty448, Kq448, gar448, Arq448⟩ := Kx448
    have Z448 : n0 ≤ T448.heap.size := Nat.le_trans Z214 Kq448.1
    have f449 := f219.keep Kq448 (ninS ne_b3_b198 (ninS (ne_arr f218 (hw _ (List.mem_of_getElem? (i := 28) rfl)) Arq448) nin0))
    have f450 := f220.keep Kq448 (ninS ne_b3_b198 (ninS (ne_arr f218 (hw _ (List.mem_of_getElem? (i := 28) rfl)) Arq448) nin0))
    have f451 := f222.keep Kq448 (ninS ne_b33_b198 (ninS (ne_arr f221 (hw _ (List.mem_of_getElem? (i := 28) rfl)) Arq448) nin0))
    have f452 := f223.keep Kq448 (ninS ne_b33_b198 (ninS (ne_arr f221 (hw _ (List.mem_of_getElem? (i := 28) rfl)) Arq448) nin0))
    have f453 := f225.keep Kq448 (ninS ne_b76_b198 (ninS (ne_arr f224 (hw _ (List.mem_of_getElem? (i := 28) rfl)) Arq448) nin0))
    have f454 := f226.keep Kq448 (ninS ne_b76_b198 (ninS (ne_arr f224 (hw _ (List.mem_of_getElem? (i := 28) rfl)) Arq448) nin0))
    have f455 := f228.keep Kq448 (ninS ne_b131_b198 (ninS (ne_arr f227 (hw _ (List.mem_of_getElem? (i := 28) rfl)) Arq448) nin0))
    have f456 := f229.keep Kq448 (ninS ne_b131_b198 (ninS (ne_arr f227 (hw _ (List.mem_of_getElem? (i := 28) rfl)) Arq448) nin0))
    have f457 := f218.keep Kq448
    have f458 := f221.keep Kq448
    have f459 := f224.keep Kq448
    have f460 := f227.keep Kq448
    have f461 := oe214.keep Kq448
    have Od448 := Od216.keep Kq448 (allS ge_b198 (allS gar448 all0))
    have hk448 := Nat.le_trans hk215 Kq448.1
    obtain ⟨cq462, kq462, q462a, q462b, q462c⟩ := isOf hZ rfl f461
    obtain ⟨_, _, ⟨T462, L462, k462, n462⟩, -, X462, ⟨Lc462, hQ462, l462, y462, z462⟩, st462⟩ := X448.virtualBack hx (y := (⟨"com/example/reroutine/reroutine/replanning/ExecutedDay", "add", "(Lcom/example/reroutine/reroutine/scenario/Event;)V"⟩ : MethodName)) (z := (⟨"com/example/reroutine/reroutine/replanning/ExecutedDay", "add", "(Lcom/example/reroutine/reroutine/scenario/Event;)V"⟩ : MethodName)) hown (mvT hZ (hw _ (List.mem_of_getElem? (i := 97) rfl))) (mvT hZ (hw _ (List.mem_of_getElem? (i := 98) rfl))) (notFace_of_selects (args := #[]) (mvT hZ (hw _ (List.mem_of_getElem? (i := 100) rfl)))) (mvT hZ (hw _ (List.mem_of_getElem? (i := 100) rfl))) (mvT hZ (hw _ (List.mem_of_getElem? (i := 99) rfl))) (by decide) (backOf (W := 0) (rmAdd1 l Z a0 hw [] b198 b33 t0 t1 t2 t3 d0 d1 d2 d3 oa oc (u1 &&& (2147483647 : Int32)) T448.heap n0 Z448 Od448 hst Bq448 ge_b198 (Ne.symm ne_b33_b198) f458 f451 f452) hZ (hw _ (List.mem_of_getElem? (i := 101) rfl)) (hw _ (List.mem_of_getElem? (i := 76) rfl)) (by decide) (by decide)) q462a q462c (g := (mkF m 136 #[iv u0, iv u1, iv u2, iv (6 : Int32), iv (u1 &&& (2147483647 : Int32)), rv sv1, rv b3, rv b33, rv b76, rv b131, rv b198, .unset] [(.ref b33), (.ref b198)])) rfl (by rw [hml]; rfl) (Steps.refl _) (argsL := [(.ref b33)]) (rest := []) (lenOf pd_13 rfl) rfl (by show 2 * 0 + _ ≤ _; exact Nat.le_of_eq rfl) (hb hby at_136) (fun _ _ => ⟨rfl, rfl, (by decide : 24 + 0 ≤ _), (by decide : 96 + 0 ≤ _)⟩)
    dsimp only [Pt.U, Pt.locs, Pt.cells, Pt.slots] at X462 l462 y462 z462 st462 hQ462
    subst y462 z462
    obtain ⟨rfl, Nq462, Kx462, Bq462⟩ := hQ462
    have N462 : Fr n0 L462 := by rw [l462]; exact Fr.app N448 Nq462
    obtain ⟨ar462, cl462, ty462, Kq462, gar462, Arq462⟩ := Kx462
    have Z462 : n0 ≤ T462.heap.size := Nat.le_trans Z448 Kq462.1
    have f463 := f449.keep Kq462 (ninS ne_b3_b198 (ninS (ne_arr f457 (hw _ (List.mem_of_getElem? (i := 28) rfl)) Arq462) nin0))
    have f464 := f450.keep Kq462 (ninS ne_b3_b198 (ninS (ne_arr f457 (hw _ (List.mem_of_getElem? (i := 28) rfl)) Arq462) nin0))
    have f465 := f451.keep Kq462 (ninS ne_b33_b198 (ninS (ne_arr f458 (hw _ (List.mem_of_getElem? (i := 28) rfl)) Arq462) nin0))
    have f466 := f452.keep Kq462 (ninS ne_b33_b198 (ninS (ne_arr f458 (hw _ (List.mem_of_getElem? (i := 28) rfl)) Arq462) nin0))
    have f467 := f453.keep Kq462 (ninS ne_b76_b198 (ninS (ne_arr f459 (hw _ (List.mem_of_getElem? (i := 28) rfl)) Arq462) nin0))
    have f468 := f454.keep Kq462 (ninS ne_b76_b198 (ninS (ne_arr f459 (hw _ (List.mem_of_getElem? (i := 28) rfl)) Arq462) nin0))
    have f469 := f455.keep Kq462 (ninS ne_b131_b198 (ninS (ne_arr f460 (hw _ (List.mem_of_getElem? (i := 28) rfl)) Arq462) nin0))
    have f470 := f456.keep Kq462 (ninS ne_b131_b198 (ninS (ne_arr f460 (hw _ (List.mem_of_getElem? (i := 28) rfl)) Arq462) nin0))
    have f471 := f457.keep Kq462
    have f472 := f458.keep Kq462
    have f473 := f459.keep Kq462
    have f474 := f460.keep Kq462
    have f475 := f461.keep Kq462
    have Od462 := Od448.keep Kq462 (allS ge_b198 (allS gar462 all0))
    have hk462 := Nat.le_trans hk448 Kq462.1
    obtain ⟨cq476, kq476, q476a, q476b, q476c⟩ := isOf hZ rfl f475
    obtain ⟨_, _, ⟨T476, L476, k476, n476⟩, -, X476, ⟨Lc476, hQ476, l476, y476, z476⟩, st476⟩ := X462.virtualBack hx (y := (⟨"com/example/reroutine/reroutine/replanning/ExecutedDay", "add", "(Lcom/example/reroutine/reroutine/scenario/Event;)V"⟩ : MethodName)) (z := (⟨"com/example/reroutine/reroutine/replanning/ExecutedDay", "add", "(Lcom/example/reroutine/reroutine/scenario/Event;)V"⟩ : MethodName)) hown (mvT hZ (hw _ (List.mem_of_getElem? (i := 97) rfl))) (mvT hZ (hw _ (List.mem_of_getElem? (i := 98) rfl))) (notFace_of_selects (args := #[]) (mvT hZ (hw _ (List.mem_of_getElem? (i := 100) rfl)))) (mvT hZ (hw _ (List.mem_of_getElem? (i := 100) rfl))) (mvT hZ (hw _ (List.mem_of_getElem? (i := 99) rfl))) (by decide) (backOf (W := 0) (rmAdd2 l Z a0 hw [] b198 b76 t0 t1 t2 t3 d0 d1 d2 d3 oa oc (u1 &&& (2147483647 : Int32)) T462.heap n0 Z462 Od462 hst Bq462 ge_b198 (Ne.symm ne_b76_b198) f473 f467 f468) hZ (hw _ (List.mem_of_getElem? (i := 101) rfl)) (hw _ (List.mem_of_getElem? (i := 76) rfl)) (by decide) (by decide)) q476a q476c (g := (mkF m 148 #[iv u0, iv u1, iv u2, iv (6 : Int32), iv (u1 &&& (2147483647 : Int32)), rv sv1, rv b3, rv b33, rv b76, rv b131, rv b198, .unset] [(.ref b76), (.ref b198)])) rfl (by rw [hml]; rfl) (Steps.refl _) (argsL := [(.ref b76)]) (rest := []) (lenOf pd_13 rfl) rfl (by show 2 * 0 + _ ≤ _; exact Nat.le_of_eq rfl) (hb hby at_148) (fun _ _ => ⟨rfl, rfl, (by decide : 24 + 0 ≤ _), (by decide : 96 + 0 ≤ _)⟩)
    dsimp only [Pt.U, Pt.locs, Pt.cells, Pt.slots] at X476 l476 y476 z476 st476 hQ476
    subst y476 z476
    obtain ⟨rfl, Nq476, Kx476, Bq476⟩ := hQ476
    have N476 : Fr n0 L476 := by rw [l476]; exact Fr.app N462 Nq476
    obtain ⟨ar476, cl476, ty476, Kq476, gar476, Arq476⟩ := Kx476
    have Z476 : n0 ≤ T476.heap.size := Nat.le_trans Z462 Kq476.1
    have f477 := f463.keep Kq476 (ninS ne_b3_b198 (ninS (ne_arr f471 (hw _ (List.mem_of_getElem? (i := 28) rfl)) Arq476) nin0))
    have f478 := f464.keep Kq476 (ninS ne_b3_b198 (ninS (ne_arr f471 (hw _ (List.mem_of_getElem? (i := 28) rfl)) Arq476) nin0))
    have f479 := f465.keep Kq476 (ninS ne_b33_b198 (ninS (ne_arr f472 (hw _ (List.mem_of_getElem? (i := 28) rfl)) Arq476) nin0))
    have f480 := f466.keep Kq476 (ninS ne_b33_b198 (ninS (ne_arr f472 (hw _ (List.mem_of_getElem? (i := 28) rfl)) Arq476) nin0))
    have f481 := f467.keep Kq476 (ninS ne_b76_b198 (ninS (ne_arr f473 (hw _ (List.mem_of_getElem? (i := 28) rfl)) Arq476) nin0))
    have f482 := f468.keep Kq476 (ninS ne_b76_b198 (ninS (ne_arr f473 (hw _ (List.mem_of_getElem? (i := 28) rfl)) Arq476) nin0))
    have f483 := f469.keep Kq476 (ninS ne_b131_b198 (ninS (ne_arr f474 (hw _ (List.mem_of_getElem? (i := 28) rfl)) Arq476) nin0))
    have f484 := f470.keep Kq476 (ninS ne_b131_b198 (ninS (ne_arr f474 (hw _ (List.mem_of_getElem? (i := 28) rfl)) Arq476) nin0))
    have f485 := f471.keep Kq476
    have f486 := f472.keep Kq476
    have f487 := f473.keep Kq476
    have f488 := f474.keep Kq476
    have f489 := f475.keep Kq476
    have Od476 := Od462.keep Kq476 (allS ge_b198 (allS gar476 all0))
    have hk476 := Nat.le_trans hk462 Kq476.1
    obtain ⟨cq490, kq490, q490a, q490b, q490c⟩ := isOf hZ rfl f489
    obtain ⟨_, _, ⟨T490, L490, k490, n490⟩, -, X490, ⟨Lc490, hQ490, l490, y490, z490⟩, st490⟩ := X476.virtualBack hx (y := (⟨"com/example/reroutine/reroutine/replanning/ExecutedDay", "add", "(Lcom/example/reroutine/reroutine/scenario/Event;)V"⟩ : MethodName)) (z := (⟨"com/example/reroutine/reroutine/replanning/ExecutedDay", "add", "(Lcom/example/reroutine/reroutine/scenario/Event;)V"⟩ : MethodName)) hown (mvT hZ (hw _ (List.mem_of_getElem? (i := 97) rfl))) (mvT hZ (hw _ (List.mem_of_getElem? (i := 98) rfl))) (notFace_of_selects (args := #[]) (mvT hZ (hw _ (List.mem_of_getElem? (i := 100) rfl)))) (mvT hZ (hw _ (List.mem_of_getElem? (i := 100) rfl))) (mvT hZ (hw _ (List.mem_of_getElem? (i := 99) rfl))) (by decide) (backOf (W := 0) (rmAdd3 l Z a0 hw [] b198 b131 t0 t1 t2 t3 d0 d1 d2 d3 oa oc (u1 &&& (2147483647 : Int32)) T476.heap n0 Z476 Od476 hst Bq476 ge_b198 (Ne.symm ne_b131_b198) f488 f483 f484) hZ (hw _ (List.mem_of_getElem? (i := 101) rfl)) (hw _ (List.mem_of_getElem? (i := 76) rfl)) (by decide) (by decide)) q490a q490c (g := (mkF m 160 #[iv u0, iv u1, iv u2, iv (6 : Int32), iv (u1 &&& (2147483647 : Int32)), rv sv1, rv b3, rv b33, rv b76, rv b131, rv b198, .unset] [(.ref b131), (.ref b198)])) rfl (by rw [hml]; rfl) (Steps.refl _) (argsL := [(.ref b131)]) (rest := []) (lenOf pd_13 rfl) rfl (by show 2 * 0 + _ ≤ _; exact Nat.le_of_eq rfl) (hb hby at_160) (fun _ _ => ⟨rfl, rfl, (by decide : 24 + 0 ≤ _), (by decide : 96 + 0 ≤ _)⟩)
    dsimp only [Pt.U, Pt.locs, Pt.cells, Pt.slots] at X490 l490 y490 z490 st490 hQ490
    subst y490 z490
    obtain ⟨rfl, Nq490, Kx490, Bq490⟩ := hQ490
    have N490 : Fr n0 L490 := by rw [l490]; exact Fr.app N476 Nq490
    obtain ⟨ar490, cl490, ty490, Kq490, gar490, Arq490⟩ := Kx490
    have Z490 : n0 ≤ T490.heap.size := Nat.le_trans Z476 Kq490.1
    have f491 := f477.keep Kq490 (ninS ne_b3_b198 (ninS (ne_arr f485 (hw _ (List.mem_of_getElem? (i := 28) rfl)) Arq490) nin0))
    have f492 := f478.keep Kq490 (ninS ne_b3_b198 (ninS (ne_arr f485 (hw _ (List.mem_of_getElem? (i := 28) rfl)) Arq490) nin0))
    have f493 := f479.keep Kq490 (ninS ne_b33_b198 (ninS (ne_arr f486 (hw _ (List.mem_of_getElem? (i := 28) rfl)) Arq490) nin0))
    have f494 := f480.keep Kq490 (ninS ne_b33_b198 (ninS (ne_arr f486 (hw _ (List.mem_of_getElem? (i := 28) rfl)) Arq490) nin0))
    have f495 := f481.keep Kq490 (ninS ne_b76_b198 (ninS (ne_arr f487 (hw _ (List.mem_of_getElem? (i := 28) rfl)) Arq490) nin0))
    have f496 := f482.keep Kq490 (ninS ne_b76_b198 (ninS (ne_arr f487 (hw _ (List.mem_of_getElem? (i := 28) rfl)) Arq490) nin0))
    have f497 := f483.keep Kq490 (ninS ne_b131_b198 (ninS (ne_arr f488 (hw _ (List.mem_of_getElem? (i := 28) rfl)) Arq490) nin0))
    have f498 := f484.keep Kq490 (ninS ne_b131_b198 (ninS (ne_arr f488 (hw _ (List.mem_of_getElem? (i := 28) rfl)) Arq490) nin0))
    have f499 := f485.keep Kq490
    have f500 := f486.keep Kq490
    have f501 := f487.keep Kq490
    have f502 := f488.keep Kq490
    have f503 := f489.keep Kq490
    have Od490 := Od476.keep Kq490 (allS ge_b198 (allS gar490 all0))
    have hk490 := Nat.le_trans hk476 Kq490.1
    obtain ⟨cq504, kq504, q504a, q504b, q504c⟩ := isOf hZ rfl f503
    obtain ⟨_, _, ⟨T504, L504, k504, n504⟩, -, X504, ⟨Lc504, hQ504, l504, y504, z504⟩, st504⟩ := X490.virtualBack hx (y := (⟨"com/example/reroutine/reroutine/replanning/ExecutedDay", "add", "(Lcom/example/reroutine/reroutine/scenario/Event;)V"⟩ : MethodName)) (z := (⟨"com/example/reroutine/reroutine/replanning/ExecutedDay", "add", "(Lcom/example/reroutine/reroutine/scenario/Event;)V"⟩ : MethodName)) hown (mvT hZ (hw _ (List.mem_of_getElem? (i := 97) rfl))) (mvT hZ (hw _ (List.mem_of_getElem? (i := 98) rfl))) (notFace_of_selects (args := #[]) (mvT hZ (hw _ (List.mem_of_getElem? (i := 100) rfl)))) (mvT hZ (hw _ (List.mem_of_getElem? (i := 100) rfl))) (mvT hZ (hw _ (List.mem_of_getElem? (i := 99) rfl))) (by decide) (backOf (W := 0) (rmAdd4 l Z a0 hw [] b198 b3 t0 t1 t2 t3 d0 d1 d2 d3 oa oc (u1 &&& (2147483647 : Int32)) T490.heap n0 Z490 Od490 hst Bq490 ge_b198 (Ne.symm ne_b3_b198) f499 f491 f492) hZ (hw _ (List.mem_of_getElem? (i := 101) rfl)) (hw _ (List.mem_of_getElem? (i := 76) rfl)) (by decide) (by decide)) q504a q504c (g := (mkF m 172 #[iv u0, iv u1, iv u2, iv (6 : Int32), iv (u1 &&& (2147483647 : Int32)), rv sv1, rv b3, rv b33, rv b76, rv b131, rv b198, .unset] [(.ref b3), (.ref b198)])) rfl (by rw [hml]; rfl) (Steps.refl _) (argsL := [(.ref b3)]) (rest := []) (lenOf pd_13 rfl) rfl (by show 2 * 0 + _ ≤ _; exact Nat.le_of_eq rfl) (hb hby at_172) (fun _ _ => ⟨rfl, rfl, (by decide : 24 + 1 ≤ _), (by decide : 96 + 8 ≤ _)⟩)
    dsimp only [Pt.U, Pt.locs, Pt.cells, Pt.slots] at X504 l504 y504 z504 st504 hQ504
    subst y504 z504
    obtain ⟨rfl, Nq504, Kx504, Bq504⟩ := hQ504
    have N504 : Fr n0 L504 := by rw [l504]; exact Fr.app N490 Nq504
    obtain ⟨ar504, cl504, ty504, Kq504, gar504, Arq504⟩ := Kx504
    have Z504 : n0 ≤ T504.heap.size := Nat.le_trans Z490 Kq504.1
    have f505 := f491.keep Kq504 (ninS ne_b3_b198 (ninS (ne_arr f499 (hw _ (List.mem_of_getElem? (i := 28) rfl)) Arq504) nin0))
    have f506 := f492.keep Kq504 (ninS ne_b3_b198 (ninS (ne_arr f499 (hw _ (List.mem_of_getElem? (i := 28) rfl)) Arq504) nin0))
    have f507 := f493.keep Kq504 (ninS ne_b33_b198 (ninS (ne_arr f500 (hw _ (List.mem_of_getElem? (i := 28) rfl)) Arq504) nin0))
    have f508 := f494.keep Kq504 (ninS ne_b33_b198 (ninS (ne_arr f500 (hw _ (List.mem_of_getElem? (i := 28) rfl)) Arq504) nin0))
    have f509 := f495.keep Kq504 (ninS ne_b76_b198 (ninS (ne_arr f501 (hw _ (List.mem_of_getElem? (i := 28) rfl)) Arq504) nin0))
    have f510 := f496.keep Kq504 (ninS ne_b76_b198 (ninS (ne_arr f501 (hw _ (List.mem_of_getElem? (i := 28) rfl)) Arq504) nin0))
    have f511 := f497.keep Kq504 (ninS ne_b131_b198 (ninS (ne_arr f502 (hw _ (List.mem_of_getElem? (i := 28) rfl)) Arq504) nin0))
    have f512 := f498.keep Kq504 (ninS ne_b131_b198 (ninS (ne_arr f502 (hw _ (List.mem_of_getElem? (i := 28) rfl)) Arq504) nin0))
    have f513 := f499.keep Kq504
    have f514 := f500.keep Kq504
    have f515 := f501.keep Kq504
    have f516 := f502.keep Kq504
    have f517 := f503.keep Kq504
    have Od504 := Od490.keep Kq504 (allS ge_b198 (allS gar504 all0))
    have hk504 := Nat.le_trans hk490 Kq504.1
    obtain ⟨cq518, kq518, q518a, q518b, q518c⟩ := isOf hZ rfl f517
    obtain ⟨_, _, ⟨T518, L518, k518, n518⟩, -, X518, ⟨Lc518, hQ518, l518, y518, z518⟩, st518⟩ := X504.virtualBack hx (y := (⟨"com/example/reroutine/reroutine/replanning/ExecutedDay", "add", "(Lcom/example/reroutine/reroutine/scenario/Event;)V"⟩ : MethodName)) (z := (⟨"com/example/reroutine/reroutine/replanning/ExecutedDay", "add", "(Lcom/example/reroutine/reroutine/scenario/Event;)V"⟩ : MethodName)) hown (mvT hZ (hw _ (List.mem_of_getElem? (i := 97) rfl))) (mvT hZ (hw _ (List.mem_of_getElem? (i := 98) rfl))) (notFace_of_selects (args := #[]) (mvT hZ (hw _ (List.mem_of_getElem? (i := 100) rfl)))) (mvT hZ (hw _ (List.mem_of_getElem? (i := 100) rfl))) (mvT hZ (hw _ (List.mem_of_getElem? (i := 99) rfl))) (by decide) (backOf (W := 0) (rmAdd5 l Z a0 hw [] b198 b33 t0 t1 t2 t3 d0 d1 d2 d3 oa oc (u1 &&& (2147483647 : Int32)) T504.heap n0 Z504 Od504 hst Bq504 ge_b198 (Ne.symm ne_b33_b198) f514 f507 f508) hZ (hw _ (List.mem_of_getElem? (i := 101) rfl)) (hw _ (List.mem_of_getElem? (i := 76) rfl)) (by decide) (by decide)) q518a q518c (g := (mkF m 184 #[iv u0, iv u1, iv u2, iv (6 : Int32), iv (u1 &&& (2147483647 : Int32)), rv sv1, rv b3, rv b33, rv b76, rv b131, rv b198, .unset] [(.ref b33), (.ref b198)])) rfl (by rw [hml]; rfl) (Steps.refl _) (argsL := [(.ref b33)]) (rest := []) (lenOf pd_13 rfl) rfl (by show 2 * 0 + _ ≤ _; exact Nat.le_of_eq rfl) (hb hby at_184) (fun _ _ => ⟨rfl, rfl, (by decide : 25 + 0 ≤ _), (by decide : 104 + 0 ≤ _)⟩)
    dsimp only [Pt.U, Pt.locs, Pt.cells, Pt.slots] at X518 l518 y518 z518 st518 hQ518
    subst y518 z518
    obtain ⟨rfl, Nq518, Kx518, Bq518⟩ := hQ518
    have N518 : Fr n0 L518 := by rw [l518]; exact Fr.app N504 Nq518
    obtain ⟨ar518, cl518, ty518, Kq518, gar518, Arq518⟩ := Kx518
    have Z518 : n0 ≤ T518.heap.size := Nat.le_trans Z504 Kq518.1
    have f519 := f505.keep Kq518 (ninS ne_b3_b198 (ninS (ne_arr f513 (hw _ (List.mem_of_getElem? (i := 28) rfl)) Arq518) nin0))
    have f520 := f506.keep Kq518 (ninS ne_b3_b198 (ninS (ne_arr f513 (hw _ (List.mem_of_getElem? (i := 28) rfl)) Arq518) nin0))
    have f521 := f507.keep Kq518 (ninS ne_b33_b198 (ninS (ne_arr f514 (hw _ (List.mem_of_getElem? (i := 28) rfl)) Arq518) nin0))
    have f522 := f508.keep Kq518 (ninS ne_b33_b198 (ninS (ne_arr f514 (hw _ (List.mem_of_getElem? (i := 28) rfl)) Arq518) nin0))
    have f523 := f509.keep Kq518 (ninS ne_b76_b198 (ninS (ne_arr f515 (hw _ (List.mem_of_getElem? (i := 28) rfl)) Arq518) nin0))
    have f524 := f510.keep Kq518 (ninS ne_b76_b198 (ninS (ne_arr f515 (hw _ (List.mem_of_getElem? (i := 28) rfl)) Arq518) nin0))
    have f525 := f511.keep Kq518 (ninS ne_b131_b198 (ninS (ne_arr f516 (hw _ (List.mem_of_getElem? (i := 28) rfl)) Arq518) nin0))
    have f526 := f512.keep Kq518 (ninS ne_b131_b198 (ninS (ne_arr f516 (hw _ (List.mem_of_getElem? (i := 28) rfl)) Arq518) nin0))
    have f527 := f513.keep Kq518
    have f528 := f514.keep Kq518
    have f529 := f515.keep Kq518
    have f530 := f516.keep Kq518
    have f531 := f517.keep Kq518
    have Od518 := Od504.keep Kq518 (allS ge_b198 (allS gar518 all0))
    have hk518 := Nat.le_trans hk504 Kq518.1
    obtain ⟨cq532, kq532, q532a, q532b, q532c⟩ := isOf hZ rfl f531
    obtain ⟨_, _, ⟨T532, L532, k532, n532⟩, -, X532, ⟨Lc532, hQ532, l532, y532, z532⟩, st532⟩ := X518.virtualBack hx (y := (⟨"com/example/reroutine/reroutine/replanning/ExecutedDay", "legsArrived", "()I"⟩ : MethodName)) (z := (⟨"com/example/reroutine/reroutine/replanning/ExecutedDay", "legsArrived", "()I"⟩ : MethodName)) hown (mvT hZ (hw _ (List.mem_of_getElem? (i := 90) rfl))) (mvT hZ (hw _ (List.mem_of_getElem? (i := 91) rfl))) (notFace_of_selects (args := #[]) (mvT hZ (hw _ (List.mem_of_getElem? (i := 93) rfl)))) (mvT hZ (hw _ (List.mem_of_getElem? (i := 93) rfl))) (mvT hZ (hw _ (List.mem_of_getElem? (i := 92) rfl))) (by decide) (backOf (W := 0) (rmQ6 l Z a0 hw [] b198 t0 t1 t2 t3 d0 d1 d2 d3 oa oc T518.heap n0 Z518 Od518 hst Bq518.2.1) hZ (hw _ (List.mem_of_getElem? (i := 94) rfl)) (hw _ (List.mem_of_getElem? (i := 76) rfl)) (by decide) (by decide)) q532a q532c (g := (mkF m 224 #[iv u0, iv u1, iv u2, iv (6 : Int32), iv (u1 &&& (2147483647 : Int32)), rv sv1, rv b3, rv b33, rv b76, rv b131, rv b198, iv (1 : Int32)] [(.ref b198)])) rfl (by rw [hml]; rfl) (Steps.refl _) (argsL := []) (rest := []) (lenOf pd_8 rfl) rfl (by show 2 * 0 + _ ≤ _; exact Nat.le_of_eq rfl) (hb hby at_224) (fun _ _ => ⟨rfl, rfl, (by decide : 25 + 0 ≤ _), (by decide : 104 + 0 ≤ _)⟩)
    dsimp only [Pt.U, Pt.locs, Pt.cells, Pt.slots] at X532 l532 y532 z532 st532 hQ532
    subst y532 z532
    obtain ⟨rfl, Nq532, eq532⟩ := hQ532
    have N532 : Fr n0 L532 := by rw [l532]; exact Fr.app N518 Nq532
    obtain ⟨fs, hr, hrun, hended, hR1, hR2, hR3, hR4⟩ := X532.leaveW (s := s) hS (by rw [eq532]; exact hk518) (v := some (.int (1 : Int32))) (fun h => by rw [Bd.returns] at h; cases h)
    refine ⟨_, _, S231 _ ?_, hrun, hended, _, _, rfl, ?_, hR1, hR2, hR3, hR4.mono (by decide) (by decide)⟩
    · skip
      show Steps p.tables e below (T214.setTop (mkF m 117 #[iv u0, iv u1, iv u2, iv (6 : Int32), iv (u1 &&& (2147483647 : Int32)), rv sv1, rv b3, rv b33, rv b76, rv b131, rv b198, .unset] [(.int (6 : Int32))])) _
      refine XS.ifNo X214.here hx rfl (hb hby at_117) rfl ((if0 _ _).trans (tlt (by decide : (0 : Int32) < (6 : Int32))).2.2.2) ?_
      show Steps p.tables e below (T214.setTop (mkF m 120 #[iv u0, iv u1, iv u2, iv (6 : Int32), iv (u1 &&& (2147483647 : Int32)), rv sv1, rv b3, rv b33, rv b76, rv b131, rv b198, .unset] [])) _
      refine XS.aload X214.here hx rfl (hb hby at_120) rfl rfl ?_
      show Steps p.tables e below (T214.setTop (mkF m 122 #[iv u0, iv u1, iv u2, iv (6 : Int32), iv (u1 &&& (2147483647 : Int32)), rv sv1, rv b3, rv b33, rv b76, rv b131, rv b198, .unset] [(.ref b198)])) _
      refine XS.aload X214.here hx rfl (hb hby at_122) rfl rfl ?_
      show Steps p.tables e below (T214.setTop (mkF m 124 #[iv u0, iv u1, iv u2, iv (6 : Int32), iv (u1 &&& (2147483647 : Int32)), rv sv1, rv b3, rv b33, rv b76, rv b131, rv b198, .unset] [(.ref b3), (.ref b198)])) _
      refine st448.trans ?_
      show Steps p.tables e below (T448.setTop (mkF m 127 #[iv u0, iv u1, iv u2, iv (6 : Int32), iv (u1 &&& (2147483647 : Int32)), rv sv1, rv b3, rv b33, rv b76, rv b131, rv b198, .unset] [])) _
      refine XS.iloadN X448.here hx rfl (hb hby at_127) rfl ?_
      show Steps p.tables e below (T448.setTop (mkF m 128 #[iv u0, iv u1, iv u2, iv (6 : Int32), iv (u1 &&& (2147483647 : Int32)), rv sv1, rv b3, rv b33, rv b76, rv b131, rv b198, .unset] [(.int (6 : Int32))])) _
      refine XS.iconst X448.here hx rfl (hb hby at_128) ?_
      show Steps p.tables e below (T448.setTop (mkF m 129 #[iv u0, iv u1, iv u2, iv (6 : Int32), iv (u1 &&& (2147483647 : Int32)), rv sv1, rv b3, rv b33, rv b76, rv b131, rv b198, .unset] [(.int (1 : Int32)), (.int (6 : Int32))])) _
      refine XS.icmpNo X448.here hx rfl (hb hby at_129) rfl (tlt (by decide : (1 : Int32) < (6 : Int32))).2.2.2 ?_
      show Steps p.tables e below (T448.setTop (mkF m 132 #[iv u0, iv u1, iv u2, iv (6 : Int32), iv (u1 &&& (2147483647 : Int32)), rv sv1, rv b3, rv b33, rv b76, rv b131, rv b198, .unset] [])) _
      refine XS.aload X448.here hx rfl (hb hby at_132) rfl rfl ?_
      show Steps p.tables e below (T448.setTop (mkF m 134 #[iv u0, iv u1, iv u2, iv (6 : Int32), iv (u1 &&& (2147483647 : Int32)), rv sv1, rv b3, rv b33, rv b76, rv b131, rv b198, .unset] [(.ref b198)])) _
      refine XS.aload X448.here hx rfl (hb hby at_134) rfl rfl ?_
      show Steps p.tables e below (T448.setTop (mkF m 136 #[iv u0, iv u1, iv u2, iv (6 : Int32), iv (u1 &&& (2147483647 : Int32)), rv sv1, rv b3, rv b33, rv b76, rv b131, rv b198, .unset] [(.ref b33), (.ref b198)])) _
      refine st462.trans ?_
      show Steps p.tables e below (T462.setTop (mkF m 139 #[iv u0, iv u1, iv u2, iv (6 : Int32), iv (u1 &&& (2147483647 : Int32)), rv sv1, rv b3, rv b33, rv b76, rv b131, rv b198, .unset] [])) _
      refine XS.iloadN X462.here hx rfl (hb hby at_139) rfl ?_
      show Steps p.tables e below (T462.setTop (mkF m 140 #[iv u0, iv u1, iv u2, iv (6 : Int32), iv (u1 &&& (2147483647 : Int32)), rv sv1, rv b3, rv b33, rv b76, rv b131, rv b198, .unset] [(.int (6 : Int32))])) _
      refine XS.iconst X462.here hx rfl (hb hby at_140) ?_
      show Steps p.tables e below (T462.setTop (mkF m 141 #[iv u0, iv u1, iv u2, iv (6 : Int32), iv (u1 &&& (2147483647 : Int32)), rv sv1, rv b3, rv b33, rv b76, rv b131, rv b198, .unset] [(.int (2 : Int32)), (.int (6 : Int32))])) _
      refine XS.icmpNo X462.here hx rfl (hb hby at_141) rfl (tlt (by decide : (2 : Int32) < (6 : Int32))).2.2.2 ?_
      show Steps p.tables e below (T462.setTop (mkF m 144 #[iv u0, iv u1, iv u2, iv (6 : Int32), iv (u1 &&& (2147483647 : Int32)), rv sv1, rv b3, rv b33, rv b76, rv b131, rv b198, .unset] [])) _
      refine XS.aload X462.here hx rfl (hb hby at_144) rfl rfl ?_
      show Steps p.tables e below (T462.setTop (mkF m 146 #[iv u0, iv u1, iv u2, iv (6 : Int32), iv (u1 &&& (2147483647 : Int32)), rv sv1, rv b3, rv b33, rv b76, rv b131, rv b198, .unset] [(.ref b198)])) _
      refine XS.aload X462.here hx rfl (hb hby at_146) rfl rfl ?_
      show Steps p.tables e below (T462.setTop (mkF m 148 #[iv u0, iv u1, iv u2, iv (6 : Int32), iv (u1 &&& (2147483647 : Int32)), rv sv1, rv b3, rv b33, rv b76, rv b131, rv b198, .unset] [(.ref b76), (.ref b198)])) _
      refine st476.trans ?_
      show Steps p.tables e below (T476.setTop (mkF m 151 #[iv u0, iv u1, iv u2, iv (6 : Int32), iv (u1 &&& (2147483647 : Int32)), rv sv1, rv b3, rv b33, rv b76, rv b131, rv b198, .unset] [])) _
      refine XS.iloadN X476.here hx rfl (hb hby at_151) rfl ?_
      show Steps p.tables e below (T476.setTop (mkF m 152 #[iv u0, iv u1, iv u2, iv (6 : Int32), iv (u1 &&& (2147483647 : Int32)), rv sv1, rv b3, rv b33, rv b76, rv b131, rv b198, .unset] [(.int (6 : Int32))])) _
      refine XS.iconst X476.here hx rfl (hb hby at_152) ?_
      show Steps p.tables e below (T476.setTop (mkF m 153 #[iv u0, iv u1, iv u2, iv (6 : Int32), iv (u1 &&& (2147483647 : Int32)), rv sv1, rv b3, rv b33, rv b76, rv b131, rv b198, .unset] [(.int (3 : Int32)), (.int (6 : Int32))])) _
      refine XS.icmpNo X476.here hx rfl (hb hby at_153) rfl (tlt (by decide : (3 : Int32) < (6 : Int32))).2.2.2 ?_
      show Steps p.tables e below (T476.setTop (mkF m 156 #[iv u0, iv u1, iv u2, iv (6 : Int32), iv (u1 &&& (2147483647 : Int32)), rv sv1, rv b3, rv b33, rv b76, rv b131, rv b198, .unset] [])) _
      refine XS.aload X476.here hx rfl (hb hby at_156) rfl rfl ?_
      show Steps p.tables e below (T476.setTop (mkF m 158 #[iv u0, iv u1, iv u2, iv (6 : Int32), iv (u1 &&& (2147483647 : Int32)), rv sv1, rv b3, rv b33, rv b76, rv b131, rv b198, .unset] [(.ref b198)])) _
      refine XS.aload X476.here hx rfl (hb hby at_158) rfl rfl ?_
      show Steps p.tables e below (T476.setTop (mkF m 160 #[iv u0, iv u1, iv u2, iv (6 : Int32), iv (u1 &&& (2147483647 : Int32)), rv sv1, rv b3, rv b33, rv b76, rv b131, rv b198, .unset] [(.ref b131), (.ref b198)])) _
      refine st490.trans ?_
      show Steps p.tables e below (T490.setTop (mkF m 163 #[iv u0, iv u1, iv u2, iv (6 : Int32), iv (u1 &&& (2147483647 : Int32)), rv sv1, rv b3, rv b33, rv b76, rv b131, rv b198, .unset] [])) _
      refine XS.iloadN X490.here hx rfl (hb hby at_163) rfl ?_
      show Steps p.tables e below (T490.setTop (mkF m 164 #[iv u0, iv u1, iv u2, iv (6 : Int32), iv (u1 &&& (2147483647 : Int32)), rv sv1, rv b3, rv b33, rv b76, rv b131, rv b198, .unset] [(.int (6 : Int32))])) _
      refine XS.iconst X490.here hx rfl (hb hby at_164) ?_
      show Steps p.tables e below (T490.setTop (mkF m 165 #[iv u0, iv u1, iv u2, iv (6 : Int32), iv (u1 &&& (2147483647 : Int32)), rv sv1, rv b3, rv b33, rv b76, rv b131, rv b198, .unset] [(.int (4 : Int32)), (.int (6 : Int32))])) _
      refine XS.icmpNo X490.here hx rfl (hb hby at_165) rfl (tlt (by decide : (4 : Int32) < (6 : Int32))).2.2.2 ?_
      show Steps p.tables e below (T490.setTop (mkF m 168 #[iv u0, iv u1, iv u2, iv (6 : Int32), iv (u1 &&& (2147483647 : Int32)), rv sv1, rv b3, rv b33, rv b76, rv b131, rv b198, .unset] [])) _
      refine XS.aload X490.here hx rfl (hb hby at_168) rfl rfl ?_
      show Steps p.tables e below (T490.setTop (mkF m 170 #[iv u0, iv u1, iv u2, iv (6 : Int32), iv (u1 &&& (2147483647 : Int32)), rv sv1, rv b3, rv b33, rv b76, rv b131, rv b198, .unset] [(.ref b198)])) _
      refine XS.aload X490.here hx rfl (hb hby at_170) rfl rfl ?_
      show Steps p.tables e below (T490.setTop (mkF m 172 #[iv u0, iv u1, iv u2, iv (6 : Int32), iv (u1 &&& (2147483647 : Int32)), rv sv1, rv b3, rv b33, rv b76, rv b131, rv b198, .unset] [(.ref b3), (.ref b198)])) _
      refine st504.trans ?_
      show Steps p.tables e below (T504.setTop (mkF m 175 #[iv u0, iv u1, iv u2, iv (6 : Int32), iv (u1 &&& (2147483647 : Int32)), rv sv1, rv b3, rv b33, rv b76, rv b131, rv b198, .unset] [])) _
      refine XS.iloadN X504.here hx rfl (hb hby at_175) rfl ?_
      show Steps p.tables e below (T504.setTop (mkF m 176 #[iv u0, iv u1, iv u2, iv (6 : Int32), iv (u1 &&& (2147483647 : Int32)), rv sv1, rv b3, rv b33, rv b76, rv b131, rv b198, .unset] [(.int (6 : Int32))])) _
      refine XS.iconst X504.here hx rfl (hb hby at_176) ?_
      show Steps p.tables e below (T504.setTop (mkF m 177 #[iv u0, iv u1, iv u2, iv (6 : Int32), iv (u1 &&& (2147483647 : Int32)), rv sv1, rv b3, rv b33, rv b76, rv b131, rv b198, .unset] [(.int (5 : Int32)), (.int (6 : Int32))])) _
      refine XS.icmpNo X504.here hx rfl (hb hby at_177) rfl (tlt (by decide : (5 : Int32) < (6 : Int32))).2.2.2 ?_
      show Steps p.tables e below (T504.setTop (mkF m 180 #[iv u0, iv u1, iv u2, iv (6 : Int32), iv (u1 &&& (2147483647 : Int32)), rv sv1, rv b3, rv b33, rv b76, rv b131, rv b198, .unset] [])) _
      refine XS.aload X504.here hx rfl (hb hby at_180) rfl rfl ?_
      show Steps p.tables e below (T504.setTop (mkF m 182 #[iv u0, iv u1, iv u2, iv (6 : Int32), iv (u1 &&& (2147483647 : Int32)), rv sv1, rv b3, rv b33, rv b76, rv b131, rv b198, .unset] [(.ref b198)])) _
      refine XS.aload X504.here hx rfl (hb hby at_182) rfl rfl ?_
      show Steps p.tables e below (T504.setTop (mkF m 184 #[iv u0, iv u1, iv u2, iv (6 : Int32), iv (u1 &&& (2147483647 : Int32)), rv sv1, rv b3, rv b33, rv b76, rv b131, rv b198, .unset] [(.ref b33), (.ref b198)])) _
      refine st518.trans ?_
      show Steps p.tables e below (T518.setTop (mkF m 187 #[iv u0, iv u1, iv u2, iv (6 : Int32), iv (u1 &&& (2147483647 : Int32)), rv sv1, rv b3, rv b33, rv b76, rv b131, rv b198, .unset] [])) _
      refine XS.iloadN X518.here hx rfl (hb hby at_187) rfl ?_
      show Steps p.tables e below (T518.setTop (mkF m 188 #[iv u0, iv u1, iv u2, iv (6 : Int32), iv (u1 &&& (2147483647 : Int32)), rv sv1, rv b3, rv b33, rv b76, rv b131, rv b198, .unset] [(.int (6 : Int32))])) _
      refine XS.bipush X518.here hx rfl (hb hby at_188) ?_
      show Steps p.tables e below (T518.setTop (mkF m 190 #[iv u0, iv u1, iv u2, iv (6 : Int32), iv (u1 &&& (2147483647 : Int32)), rv sv1, rv b3, rv b33, rv b76, rv b131, rv b198, .unset] [(.int (6 : Int32)), (.int (6 : Int32))])) _
      refine XS.icmpYes X518.here hx rfl (pc0 := 190) (pc' := 200) rfl (hb hby at_190) rfl (flt (by decide : ¬ ((6 : Int32) < (6 : Int32)))).2.2.2 (by decide) (by decide) ?_
      show Steps p.tables e below (T518.setTop (mkF m 200 #[iv u0, iv u1, iv u2, iv (6 : Int32), iv (u1 &&& (2147483647 : Int32)), rv sv1, rv b3, rv b33, rv b76, rv b131, rv b198, .unset] [])) _
      refine XS.iloadN X518.here hx rfl (hb hby at_200) rfl ?_
      show Steps p.tables e below (T518.setTop (mkF m 201 #[iv u0, iv u1, iv u2, iv (6 : Int32), iv (u1 &&& (2147483647 : Int32)), rv sv1, rv b3, rv b33, rv b76, rv b131, rv b198, .unset] [(.int (6 : Int32))])) _
      refine XS.bipush X518.here hx rfl (hb hby at_201) ?_
      show Steps p.tables e below (T518.setTop (mkF m 203 #[iv u0, iv u1, iv u2, iv (6 : Int32), iv (u1 &&& (2147483647 : Int32)), rv sv1, rv b3, rv b33, rv b76, rv b131, rv b198, .unset] [(.int (7 : Int32)), (.int (6 : Int32))])) _
      refine XS.icmpYes X518.here hx rfl (pc0 := 203) (pc' := 210) rfl (hb hby at_203) rfl (tlt (by decide : (6 : Int32) < (7 : Int32))).1 (by decide) (by decide) ?_
      show Steps p.tables e below (T518.setTop (mkF m 210 #[iv u0, iv u1, iv u2, iv (6 : Int32), iv (u1 &&& (2147483647 : Int32)), rv sv1, rv b3, rv b33, rv b76, rv b131, rv b198, .unset] [])) _
      refine XS.iloadN X518.here hx rfl (hb hby at_210) rfl ?_
      show Steps p.tables e below (T518.setTop (mkF m 211 #[iv u0, iv u1, iv u2, iv (6 : Int32), iv (u1 &&& (2147483647 : Int32)), rv sv1, rv b3, rv b33, rv b76, rv b131, rv b198, .unset] [(.int (6 : Int32))])) _
      refine XS.iconst X518.here hx rfl (hb hby at_211) ?_
      show Steps p.tables e below (T518.setTop (mkF m 212 #[iv u0, iv u1, iv u2, iv (6 : Int32), iv (u1 &&& (2147483647 : Int32)), rv sv1, rv b3, rv b33, rv b76, rv b131, rv b198, .unset] [(.int (3 : Int32)), (.int (6 : Int32))])) _
      refine XS.icmpNo X518.here hx rfl (hb hby at_212) rfl (flt (by decide : ¬ ((6 : Int32) < (3 : Int32)))).1 ?_
      show Steps p.tables e below (T518.setTop (mkF m 215 #[iv u0, iv u1, iv u2, iv (6 : Int32), iv (u1 &&& (2147483647 : Int32)), rv sv1, rv b3, rv b33, rv b76, rv b131, rv b198, .unset] [])) _
      refine XS.iconst X518.here hx rfl (hb hby at_215) ?_
      show Steps p.tables e below (T518.setTop (mkF m 216 #[iv u0, iv u1, iv u2, iv (6 : Int32), iv (u1 &&& (2147483647 : Int32)), rv sv1, rv b3, rv b33, rv b76, rv b131, rv b198, .unset] [(.int (1 : Int32))])) _
      refine XS.goto X518.here hx rfl (pc0 := 216) (pc' := 220) rfl (hb hby at_216) (by decide) (by decide) ?_
      show Steps p.tables e below (T518.setTop (mkF m 220 #[iv u0, iv u1, iv u2, iv (6 : Int32), iv (u1 &&& (2147483647 : Int32)), rv sv1, rv b3, rv b33, rv b76, rv b131, rv b198, .unset] [(.int (1 : Int32))])) _
      refine XS.istore X518.here hx rfl (hb hby at_220) rfl (l' := #[iv u0, iv u1, iv u2, iv (6 : Int32), iv (u1 &&& (2147483647 : Int32)), rv sv1, rv b3, rv b33, rv b76, rv b131, rv b198, iv (1 : Int32)]) rfl ?_
      show Steps p.tables e below (T518.setTop (mkF m 222 #[iv u0, iv u1, iv u2, iv (6 : Int32), iv (u1 &&& (2147483647 : Int32)), rv sv1, rv b3, rv b33, rv b76, rv b131, rv b198, iv (1 : Int32)] [])) _
      refine XS.aload X518.here hx rfl (hb hby at_222) rfl rfl ?_
      show Steps p.tables e below (T518.setTop (mkF m 224 #[iv u0, iv u1, iv u2, iv (6 : Int32), iv (u1 &&& (2147483647 : Int32)), rv sv1, rv b3, rv b33, rv b76, rv b131, rv b198, iv (1 : Int32)] [(.ref b198)])) _
      refine st532.trans ?_
      show Steps p.tables e below (T532.setTop (mkF m 227 #[iv u0, iv u1, iv u2, iv (6 : Int32), iv (u1 &&& (2147483647 : Int32)), rv sv1, rv b3, rv b33, rv b76, rv b131, rv b198, iv (1 : Int32)] [(.int (1 : Int32))])) _
      refine XS.iload X532.here hx rfl (hb hby at_227) rfl ?_
      show Steps p.tables e below (T532.setTop (mkF m 229 #[iv u0, iv u1, iv u2, iv (6 : Int32), iv (u1 &&& (2147483647 : Int32)), rv sv1, rv b3, rv b33, rv b76, rv b131, rv b198, iv (1 : Int32)] [(.int (1 : Int32)), (.int (1 : Int32))])) _
      refine XS.icmpNo X532.here hx rfl (hb hby at_229) rfl (teq (by decide : (1 : Int32) = (1 : Int32))).2 ?_
      show Steps p.tables e below (T532.setTop (mkF m 232 #[iv u0, iv u1, iv u2, iv (6 : Int32), iv (u1 &&& (2147483647 : Int32)), rv sv1, rv b3, rv b33, rv b76, rv b131, rv b198, iv (1 : Int32)] [])) _
      refine XS.iconst X532.here hx rfl (hb hby at_232) ?_
      show Steps p.tables e below (T532.setTop (mkF m 233 #[iv u0, iv u1, iv u2, iv (6 : Int32), iv (u1 &&& (2147483647 : Int32)), rv sv1, rv b3, rv b33, rv b76, rv b131, rv b198, iv (1 : Int32)] [(.int (1 : Int32))])) _
      refine XS.goto X532.here hx rfl (pc0 := 233) (pc' := 237) rfl (hb hby at_233) (by decide) (by decide) ?_
      show Steps p.tables e below (T532.setTop (mkF m 237 #[iv u0, iv u1, iv u2, iv (6 : Int32), iv (u1 &&& (2147483647 : Int32)), rv sv1, rv b3, rv b33, rv b76, rv b131, rv b198, iv (1 : Int32)] [(.int (1 : Int32))])) _
      exact retN X532 hx (t := .boolean) Bd.returns (by simp) (hb hby at_237) hr
    · show Q0 Z u0 u1 u2 t0 t1 t2 t3 d0 d1 d2 d3 oa oc G1 h0 n0 _ T532.heap _
      rw [eq532]
      exact ⟨rfl, N532⟩
  · skip
    rw [hn_] at S231
    obtain ⟨cq533, kq533, q533a, q533b, q533c⟩ := isOf hZ rfl oe214
    obtain ⟨_, _, ⟨T533, L533, k533, n533⟩, -, X533, ⟨Lc533, hQ533, l533, y533, z533⟩, st533⟩ := X214.virtualBack hx (y := (⟨"com/example/reroutine/reroutine/replanning/ExecutedDay", "add", "(Lcom/example/reroutine/reroutine/scenario/Event;)V"⟩ : MethodName)) (z := (⟨"com/example/reroutine/reroutine/replanning/ExecutedDay", "add", "(Lcom/example/reroutine/reroutine/scenario/Event;)V"⟩ : MethodName)) hown (mvT hZ (hw _ (List.mem_of_getElem? (i := 97) rfl))) (mvT hZ (hw _ (List.mem_of_getElem? (i := 98) rfl))) (notFace_of_selects (args := #[]) (mvT hZ (hw _ (List.mem_of_getElem? (i := 100) rfl)))) (mvT hZ (hw _ (List.mem_of_getElem? (i := 100) rfl))) (mvT hZ (hw _ (List.mem_of_getElem? (i := 99) rfl))) (by decide) (backOf (W := 0) (rmAdd0 l Z a0 hw [] b198 b3 t0 t1 t2 t3 d0 d1 d2 d3 oa oc (u1 &&& (2147483647 : Int32)) T214.heap n0 Z214 Od216 hst Bq214 ge_b198 (Ne.symm ne_b3_b198) f218 f219 f220) hZ (hw _ (List.mem_of_getElem? (i := 101) rfl)) (hw _ (List.mem_of_getElem? (i := 76) rfl)) (by decide) (by decide)) q533a q533c (g := (mkF m 124 #[iv u0, iv u1, iv u2, iv (7 : Int32), iv (u1 &&& (2147483647 : Int32)), rv sv1, rv b3, rv b33, rv b76, rv b131, rv b198, .unset] [(.ref b3), (.ref b198)])) rfl (by rw [hml]; rfl) (Steps.refl _) (argsL := [(.ref b3)]) (rest := []) (lenOf pd_13 rfl) rfl (by show 2 * 0 + _ ≤ _; exact Nat.le_of_eq rfl) (hb hby at_124) (fun _ _ => ⟨rfl, rfl, (by decide : 24 + 0 ≤ _), (by decide : 96 + 0 ≤ _)⟩)
    dsimp only [Pt.U, Pt.locs, Pt.cells, Pt.slots] at X533 l533 y533 z533 st533 hQ533
    subst y533 z533
    obtain ⟨rfl, Nq533, Kx533, Bq533⟩ := hQ533
    have N533 : Fr n0 L533 := by rw [l533]; exact Fr.app N214 Nq533
    obtain ⟨ar533, cl533, ty533, Kq533, gar533, Arq533⟩ := Kx533
    have Z533 : n0 ≤ T533.heap.size := Nat.le_trans Z214 Kq533.1
    have f534 := f219.keep Kq533 (ninS ne_b3_b198 (ninS (ne_arr f218 (hw _ (List.mem_of_getElem? (i := 28) rfl)) Arq533) nin0))
    have f535 := f220.keep Kq533 (ninS ne_b3_b198 (ninS (ne_arr f218 (hw _ (List.mem_of_getElem? (i := 28) rfl)) Arq533) nin0))
    have f536 := f222.keep Kq533 (ninS ne_b33_b198 (ninS (ne_arr f221 (hw _ (List.mem_of_getElem? (i := 28) rfl)) Arq533) nin0))
    have f537 := f223.keep Kq533 (ninS ne_b33_b198 (ninS (ne_arr f221 (hw _ (List.mem_of_getElem? (i := 28) rfl)) Arq533) nin0))
    have f538 := f225.keep Kq533 (ninS ne_b76_b198 (ninS (ne_arr f224 (hw _ (List.mem_of_getElem? (i := 28) rfl)) Arq533) nin0))
    have f539 := f226.keep Kq533 (ninS ne_b76_b198 (ninS (ne_arr f224 (hw _ (List.mem_of_getElem? (i := 28) rfl)) Arq533) nin0))
    have f540 := f228.keep Kq533 (ninS ne_b131_b198 (ninS (ne_arr f227 (hw _ (List.mem_of_getElem? (i := 28) rfl)) Arq533) nin0))
    have f541 := f229.keep Kq533 (ninS ne_b131_b198 (ninS (ne_arr f227 (hw _ (List.mem_of_getElem? (i := 28) rfl)) Arq533) nin0))
    have f542 := f218.keep Kq533
    have f543 := f221.keep Kq533
    have f544 := f224.keep Kq533
    have f545 := f227.keep Kq533
    have f546 := oe214.keep Kq533
    have Od533 := Od216.keep Kq533 (allS ge_b198 (allS gar533 all0))
    have hk533 := Nat.le_trans hk215 Kq533.1
    obtain ⟨cq547, kq547, q547a, q547b, q547c⟩ := isOf hZ rfl f546
    obtain ⟨_, _, ⟨T547, L547, k547, n547⟩, -, X547, ⟨Lc547, hQ547, l547, y547, z547⟩, st547⟩ := X533.virtualBack hx (y := (⟨"com/example/reroutine/reroutine/replanning/ExecutedDay", "add", "(Lcom/example/reroutine/reroutine/scenario/Event;)V"⟩ : MethodName)) (z := (⟨"com/example/reroutine/reroutine/replanning/ExecutedDay", "add", "(Lcom/example/reroutine/reroutine/scenario/Event;)V"⟩ : MethodName)) hown (mvT hZ (hw _ (List.mem_of_getElem? (i := 97) rfl))) (mvT hZ (hw _ (List.mem_of_getElem? (i := 98) rfl))) (notFace_of_selects (args := #[]) (mvT hZ (hw _ (List.mem_of_getElem? (i := 100) rfl)))) (mvT hZ (hw _ (List.mem_of_getElem? (i := 100) rfl))) (mvT hZ (hw _ (List.mem_of_getElem? (i := 99) rfl))) (by decide) (backOf (W := 0) (rmAdd1 l Z a0 hw [] b198 b33 t0 t1 t2 t3 d0 d1 d2 d3 oa oc (u1 &&& (2147483647 : Int32)) T533.heap n0 Z533 Od533 hst Bq533 ge_b198 (Ne.symm ne_b33_b198) f543 f536 f537) hZ (hw _ (List.mem_of_getElem? (i := 101) rfl)) (hw _ (List.mem_of_getElem? (i := 76) rfl)) (by decide) (by decide)) q547a q547c (g := (mkF m 136 #[iv u0, iv u1, iv u2, iv (7 : Int32), iv (u1 &&& (2147483647 : Int32)), rv sv1, rv b3, rv b33, rv b76, rv b131, rv b198, .unset] [(.ref b33), (.ref b198)])) rfl (by rw [hml]; rfl) (Steps.refl _) (argsL := [(.ref b33)]) (rest := []) (lenOf pd_13 rfl) rfl (by show 2 * 0 + _ ≤ _; exact Nat.le_of_eq rfl) (hb hby at_136) (fun _ _ => ⟨rfl, rfl, (by decide : 24 + 0 ≤ _), (by decide : 96 + 0 ≤ _)⟩)
    dsimp only [Pt.U, Pt.locs, Pt.cells, Pt.slots] at X547 l547 y547 z547 st547 hQ547
    subst y547 z547
    obtain ⟨rfl, Nq547, Kx547, Bq547⟩ := hQ547
    have N547 : Fr n0 L547 := by rw [l547]; exact Fr.app N533 Nq547
    obtain ⟨ar547, cl547, ty547, Kq547, gar547, Arq547⟩ := Kx547
    have Z547 : n0 ≤ T547.heap.size := Nat.le_trans Z533 Kq547.1
    have f548 := f534.keep Kq547 (ninS ne_b3_b198 (ninS (ne_arr f542 (hw _ (List.mem_of_getElem? (i := 28) rfl)) Arq547) nin0))
    have f549 := f535.keep Kq547 (ninS ne_b3_b198 (ninS (ne_arr f542 (hw _ (List.mem_of_getElem? (i := 28) rfl)) Arq547) nin0))
    have f550 := f536.keep Kq547 (ninS ne_b33_b198 (ninS (ne_arr f543 (hw _ (List.mem_of_getElem? (i := 28) rfl)) Arq547) nin0))
    have f551 := f537.keep Kq547 (ninS ne_b33_b198 (ninS (ne_arr f543 (hw _ (List.mem_of_getElem? (i := 28) rfl)) Arq547) nin0))
    have f552 := f538.keep Kq547 (ninS ne_b76_b198 (ninS (ne_arr f544 (hw _ (List.mem_of_getElem? (i := 28) rfl)) Arq547) nin0))
    have f553 := f539.keep Kq547 (ninS ne_b76_b198 (ninS (ne_arr f544 (hw _ (List.mem_of_getElem? (i := 28) rfl)) Arq547) nin0))
    have f554 := f540.keep Kq547 (ninS ne_b131_b198 (ninS (ne_arr f545 (hw _ (List.mem_of_getElem? (i := 28) rfl)) Arq547) nin0))
    have f555 := f541.keep Kq547 (ninS ne_b131_b198 (ninS (ne_arr f545 (hw _ (List.mem_of_getElem? (i := 28) rfl)) Arq547) nin0))
    have f556 := f542.keep Kq547
    have f557 := f543.keep Kq547
    have f558 := f544.keep Kq547
    have f559 := f545.keep Kq547
    have f560 := f546.keep Kq547
    have Od547 := Od533.keep Kq547 (allS ge_b198 (allS gar547 all0))
    have hk547 := Nat.le_trans hk533 Kq547.1
    obtain ⟨cq561, kq561, q561a, q561b, q561c⟩ := isOf hZ rfl f560
    obtain ⟨_, _, ⟨T561, L561, k561, n561⟩, -, X561, ⟨Lc561, hQ561, l561, y561, z561⟩, st561⟩ := X547.virtualBack hx (y := (⟨"com/example/reroutine/reroutine/replanning/ExecutedDay", "add", "(Lcom/example/reroutine/reroutine/scenario/Event;)V"⟩ : MethodName)) (z := (⟨"com/example/reroutine/reroutine/replanning/ExecutedDay", "add", "(Lcom/example/reroutine/reroutine/scenario/Event;)V"⟩ : MethodName)) hown (mvT hZ (hw _ (List.mem_of_getElem? (i := 97) rfl))) (mvT hZ (hw _ (List.mem_of_getElem? (i := 98) rfl))) (notFace_of_selects (args := #[]) (mvT hZ (hw _ (List.mem_of_getElem? (i := 100) rfl)))) (mvT hZ (hw _ (List.mem_of_getElem? (i := 100) rfl))) (mvT hZ (hw _ (List.mem_of_getElem? (i := 99) rfl))) (by decide) (backOf (W := 0) (rmAdd2 l Z a0 hw [] b198 b76 t0 t1 t2 t3 d0 d1 d2 d3 oa oc (u1 &&& (2147483647 : Int32)) T547.heap n0 Z547 Od547 hst Bq547 ge_b198 (Ne.symm ne_b76_b198) f558 f552 f553) hZ (hw _ (List.mem_of_getElem? (i := 101) rfl)) (hw _ (List.mem_of_getElem? (i := 76) rfl)) (by decide) (by decide)) q561a q561c (g := (mkF m 148 #[iv u0, iv u1, iv u2, iv (7 : Int32), iv (u1 &&& (2147483647 : Int32)), rv sv1, rv b3, rv b33, rv b76, rv b131, rv b198, .unset] [(.ref b76), (.ref b198)])) rfl (by rw [hml]; rfl) (Steps.refl _) (argsL := [(.ref b76)]) (rest := []) (lenOf pd_13 rfl) rfl (by show 2 * 0 + _ ≤ _; exact Nat.le_of_eq rfl) (hb hby at_148) (fun _ _ => ⟨rfl, rfl, (by decide : 24 + 0 ≤ _), (by decide : 96 + 0 ≤ _)⟩)
    dsimp only [Pt.U, Pt.locs, Pt.cells, Pt.slots] at X561 l561 y561 z561 st561 hQ561
    subst y561 z561
    obtain ⟨rfl, Nq561, Kx561, Bq561⟩ := hQ561
    have N561 : Fr n0 L561 := by rw [l561]; exact Fr.app N547 Nq561
    obtain ⟨ar561, cl561, ty561, Kq561, gar561, Arq561⟩ := Kx561
    have Z561 : n0 ≤ T561.heap.size := Nat.le_trans Z547 Kq561.1
    have f562 := f548.keep Kq561 (ninS ne_b3_b198 (ninS (ne_arr f556 (hw _ (List.mem_of_getElem? (i := 28) rfl)) Arq561) nin0))
    have f563 := f549.keep Kq561 (ninS ne_b3_b198 (ninS (ne_arr f556 (hw _ (List.mem_of_getElem? (i := 28) rfl)) Arq561) nin0))
    have f564 := f550.keep Kq561 (ninS ne_b33_b198 (ninS (ne_arr f557 (hw _ (List.mem_of_getElem? (i := 28) rfl)) Arq561) nin0))
    have f565 := f551.keep Kq561 (ninS ne_b33_b198 (ninS (ne_arr f557 (hw _ (List.mem_of_getElem? (i := 28) rfl)) Arq561) nin0))
    have f566 := f552.keep Kq561 (ninS ne_b76_b198 (ninS (ne_arr f558 (hw _ (List.mem_of_getElem? (i := 28) rfl)) Arq561) nin0))
    have f567 := f553.keep Kq561 (ninS ne_b76_b198 (ninS (ne_arr f558 (hw _ (List.mem_of_getElem? (i := 28) rfl)) Arq561) nin0))
    have f568 := f554.keep Kq561 (ninS ne_b131_b198 (ninS (ne_arr f559 (hw _ (List.mem_of_getElem? (i := 28) rfl)) Arq561) nin0))
    have f569 := f555.keep Kq561 (ninS ne_b131_b198 (ninS (ne_arr f559 (hw _ (List.mem_of_getElem? (i := 28) rfl)) Arq561) nin0))
    have f570 := f556.keep Kq561
    have f571 := f557.keep Kq561
    have f572 := f558.keep Kq561
    have f573 := f559.keep Kq561
    have f574 := f560.keep Kq561
    have Od561 := Od547.keep Kq561 (allS ge_b198 (allS gar561 all0))
    have hk561 := Nat.le_trans hk547 Kq561.1
    obtain ⟨cq575, kq575, q575a, q575b, q575c⟩ := isOf hZ rfl f574
    obtain ⟨_, _, ⟨T575, L575, k575, n575⟩, -, X575, ⟨Lc575, hQ575, l575, y575, z575⟩, st575⟩ := X561.virtualBack hx (y := (⟨"com/example/reroutine/reroutine/replanning/ExecutedDay", "add", "(Lcom/example/reroutine/reroutine/scenario/Event;)V"⟩ : MethodName)) (z := (⟨"com/example/reroutine/reroutine/replanning/ExecutedDay", "add", "(Lcom/example/reroutine/reroutine/scenario/Event;)V"⟩ : MethodName)) hown (mvT hZ (hw _ (List.mem_of_getElem? (i := 97) rfl))) (mvT hZ (hw _ (List.mem_of_getElem? (i := 98) rfl))) (notFace_of_selects (args := #[]) (mvT hZ (hw _ (List.mem_of_getElem? (i := 100) rfl)))) (mvT hZ (hw _ (List.mem_of_getElem? (i := 100) rfl))) (mvT hZ (hw _ (List.mem_of_getElem? (i := 99) rfl))) (by decide) (backOf (W := 0) (rmAdd3 l Z a0 hw [] b198 b131 t0 t1 t2 t3 d0 d1 d2 d3 oa oc (u1 &&& (2147483647 : Int32)) T561.heap n0 Z561 Od561 hst Bq561 ge_b198 (Ne.symm ne_b131_b198) f573 f568 f569) hZ (hw _ (List.mem_of_getElem? (i := 101) rfl)) (hw _ (List.mem_of_getElem? (i := 76) rfl)) (by decide) (by decide)) q575a q575c (g := (mkF m 160 #[iv u0, iv u1, iv u2, iv (7 : Int32), iv (u1 &&& (2147483647 : Int32)), rv sv1, rv b3, rv b33, rv b76, rv b131, rv b198, .unset] [(.ref b131), (.ref b198)])) rfl (by rw [hml]; rfl) (Steps.refl _) (argsL := [(.ref b131)]) (rest := []) (lenOf pd_13 rfl) rfl (by show 2 * 0 + _ ≤ _; exact Nat.le_of_eq rfl) (hb hby at_160) (fun _ _ => ⟨rfl, rfl, (by decide : 24 + 0 ≤ _), (by decide : 96 + 0 ≤ _)⟩)
    dsimp only [Pt.U, Pt.locs, Pt.cells, Pt.slots] at X575 l575 y575 z575 st575 hQ575
    subst y575 z575
    obtain ⟨rfl, Nq575, Kx575, Bq575⟩ := hQ575
    have N575 : Fr n0 L575 := by rw [l575]; exact Fr.app N561 Nq575
    obtain ⟨ar575, cl575, ty575, Kq575, gar575, Arq575⟩ := Kx575
    have Z575 : n0 ≤ T575.heap.size := Nat.le_trans Z561 Kq575.1
    have f576 := f562.keep Kq575 (ninS ne_b3_b198 (ninS (ne_arr f570 (hw _ (List.mem_of_getElem? (i := 28) rfl)) Arq575) nin0))
    have f577 := f563.keep Kq575 (ninS ne_b3_b198 (ninS (ne_arr f570 (hw _ (List.mem_of_getElem? (i := 28) rfl)) Arq575) nin0))
    have f578 := f564.keep Kq575 (ninS ne_b33_b198 (ninS (ne_arr f571 (hw _ (List.mem_of_getElem? (i := 28) rfl)) Arq575) nin0))
    have f579 := f565.keep Kq575 (ninS ne_b33_b198 (ninS (ne_arr f571 (hw _ (List.mem_of_getElem? (i := 28) rfl)) Arq575) nin0))
    have f580 := f566.keep Kq575 (ninS ne_b76_b198 (ninS (ne_arr f572 (hw _ (List.mem_of_getElem? (i := 28) rfl)) Arq575) nin0))
    have f581 := f567.keep Kq575 (ninS ne_b76_b198 (ninS (ne_arr f572 (hw _ (List.mem_of_getElem? (i := 28) rfl)) Arq575) nin0))
    have f582 := f568.keep Kq575 (ninS ne_b131_b198 (ninS (ne_arr f573 (hw _ (List.mem_of_getElem? (i := 28) rfl)) Arq575) nin0))
    have f583 := f569.keep Kq575 (ninS ne_b131_b198 (ninS (ne_arr f573 (hw _ (List.mem_of_getElem? (i := 28) rfl)) Arq575) nin0))
    have f584 := f570.keep Kq575
    have f585 := f571.keep Kq575
    have f586 := f572.keep Kq575
    have f587 := f573.keep Kq575
    have f588 := f574.keep Kq575
    have Od575 := Od561.keep Kq575 (allS ge_b198 (allS gar575 all0))
    have hk575 := Nat.le_trans hk561 Kq575.1
    obtain ⟨cq589, kq589, q589a, q589b, q589c⟩ := isOf hZ rfl f588
    obtain ⟨_, _, ⟨T589, L589, k589, n589⟩, -, X589, ⟨Lc589, hQ589, l589, y589, z589⟩, st589⟩ := X575.virtualBack hx (y := (⟨"com/example/reroutine/reroutine/replanning/ExecutedDay", "add", "(Lcom/example/reroutine/reroutine/scenario/Event;)V"⟩ : MethodName)) (z := (⟨"com/example/reroutine/reroutine/replanning/ExecutedDay", "add", "(Lcom/example/reroutine/reroutine/scenario/Event;)V"⟩ : MethodName)) hown (mvT hZ (hw _ (List.mem_of_getElem? (i := 97) rfl))) (mvT hZ (hw _ (List.mem_of_getElem? (i := 98) rfl))) (notFace_of_selects (args := #[]) (mvT hZ (hw _ (List.mem_of_getElem? (i := 100) rfl)))) (mvT hZ (hw _ (List.mem_of_getElem? (i := 100) rfl))) (mvT hZ (hw _ (List.mem_of_getElem? (i := 99) rfl))) (by decide) (backOf (W := 0) (rmAdd4 l Z a0 hw [] b198 b3 t0 t1 t2 t3 d0 d1 d2 d3 oa oc (u1 &&& (2147483647 : Int32)) T575.heap n0 Z575 Od575 hst Bq575 ge_b198 (Ne.symm ne_b3_b198) f584 f576 f577) hZ (hw _ (List.mem_of_getElem? (i := 101) rfl)) (hw _ (List.mem_of_getElem? (i := 76) rfl)) (by decide) (by decide)) q589a q589c (g := (mkF m 172 #[iv u0, iv u1, iv u2, iv (7 : Int32), iv (u1 &&& (2147483647 : Int32)), rv sv1, rv b3, rv b33, rv b76, rv b131, rv b198, .unset] [(.ref b3), (.ref b198)])) rfl (by rw [hml]; rfl) (Steps.refl _) (argsL := [(.ref b3)]) (rest := []) (lenOf pd_13 rfl) rfl (by show 2 * 0 + _ ≤ _; exact Nat.le_of_eq rfl) (hb hby at_172) (fun _ _ => ⟨rfl, rfl, (by decide : 24 + 1 ≤ _), (by decide : 96 + 8 ≤ _)⟩)
    dsimp only [Pt.U, Pt.locs, Pt.cells, Pt.slots] at X589 l589 y589 z589 st589 hQ589
    subst y589 z589
    obtain ⟨rfl, Nq589, Kx589, Bq589⟩ := hQ589
    have N589 : Fr n0 L589 := by rw [l589]; exact Fr.app N575 Nq589
    obtain ⟨ar589, cl589, ty589, Kq589, gar589, Arq589⟩ := Kx589
    have Z589 : n0 ≤ T589.heap.size := Nat.le_trans Z575 Kq589.1
    have f590 := f576.keep Kq589 (ninS ne_b3_b198 (ninS (ne_arr f584 (hw _ (List.mem_of_getElem? (i := 28) rfl)) Arq589) nin0))
    have f591 := f577.keep Kq589 (ninS ne_b3_b198 (ninS (ne_arr f584 (hw _ (List.mem_of_getElem? (i := 28) rfl)) Arq589) nin0))
    have f592 := f578.keep Kq589 (ninS ne_b33_b198 (ninS (ne_arr f585 (hw _ (List.mem_of_getElem? (i := 28) rfl)) Arq589) nin0))
    have f593 := f579.keep Kq589 (ninS ne_b33_b198 (ninS (ne_arr f585 (hw _ (List.mem_of_getElem? (i := 28) rfl)) Arq589) nin0))
    have f594 := f580.keep Kq589 (ninS ne_b76_b198 (ninS (ne_arr f586 (hw _ (List.mem_of_getElem? (i := 28) rfl)) Arq589) nin0))
    have f595 := f581.keep Kq589 (ninS ne_b76_b198 (ninS (ne_arr f586 (hw _ (List.mem_of_getElem? (i := 28) rfl)) Arq589) nin0))
    have f596 := f582.keep Kq589 (ninS ne_b131_b198 (ninS (ne_arr f587 (hw _ (List.mem_of_getElem? (i := 28) rfl)) Arq589) nin0))
    have f597 := f583.keep Kq589 (ninS ne_b131_b198 (ninS (ne_arr f587 (hw _ (List.mem_of_getElem? (i := 28) rfl)) Arq589) nin0))
    have f598 := f584.keep Kq589
    have f599 := f585.keep Kq589
    have f600 := f586.keep Kq589
    have f601 := f587.keep Kq589
    have f602 := f588.keep Kq589
    have Od589 := Od575.keep Kq589 (allS ge_b198 (allS gar589 all0))
    have hk589 := Nat.le_trans hk575 Kq589.1
    obtain ⟨cq603, kq603, q603a, q603b, q603c⟩ := isOf hZ rfl f602
    obtain ⟨_, _, ⟨T603, L603, k603, n603⟩, -, X603, ⟨Lc603, hQ603, l603, y603, z603⟩, st603⟩ := X589.virtualBack hx (y := (⟨"com/example/reroutine/reroutine/replanning/ExecutedDay", "add", "(Lcom/example/reroutine/reroutine/scenario/Event;)V"⟩ : MethodName)) (z := (⟨"com/example/reroutine/reroutine/replanning/ExecutedDay", "add", "(Lcom/example/reroutine/reroutine/scenario/Event;)V"⟩ : MethodName)) hown (mvT hZ (hw _ (List.mem_of_getElem? (i := 97) rfl))) (mvT hZ (hw _ (List.mem_of_getElem? (i := 98) rfl))) (notFace_of_selects (args := #[]) (mvT hZ (hw _ (List.mem_of_getElem? (i := 100) rfl)))) (mvT hZ (hw _ (List.mem_of_getElem? (i := 100) rfl))) (mvT hZ (hw _ (List.mem_of_getElem? (i := 99) rfl))) (by decide) (backOf (W := 0) (rmAdd5 l Z a0 hw [] b198 b33 t0 t1 t2 t3 d0 d1 d2 d3 oa oc (u1 &&& (2147483647 : Int32)) T589.heap n0 Z589 Od589 hst Bq589 ge_b198 (Ne.symm ne_b33_b198) f599 f592 f593) hZ (hw _ (List.mem_of_getElem? (i := 101) rfl)) (hw _ (List.mem_of_getElem? (i := 76) rfl)) (by decide) (by decide)) q603a q603c (g := (mkF m 184 #[iv u0, iv u1, iv u2, iv (7 : Int32), iv (u1 &&& (2147483647 : Int32)), rv sv1, rv b3, rv b33, rv b76, rv b131, rv b198, .unset] [(.ref b33), (.ref b198)])) rfl (by rw [hml]; rfl) (Steps.refl _) (argsL := [(.ref b33)]) (rest := []) (lenOf pd_13 rfl) rfl (by show 2 * 0 + _ ≤ _; exact Nat.le_of_eq rfl) (hb hby at_184) (fun _ _ => ⟨rfl, rfl, (by decide : 25 + 0 ≤ _), (by decide : 104 + 0 ≤ _)⟩)
    dsimp only [Pt.U, Pt.locs, Pt.cells, Pt.slots] at X603 l603 y603 z603 st603 hQ603
    subst y603 z603
    obtain ⟨rfl, Nq603, Kx603, Bq603⟩ := hQ603
    have N603 : Fr n0 L603 := by rw [l603]; exact Fr.app N589 Nq603
    obtain ⟨ar603, cl603, ty603, Kq603, gar603, Arq603⟩ := Kx603
    have Z603 : n0 ≤ T603.heap.size := Nat.le_trans Z589 Kq603.1
    have f604 := f590.keep Kq603 (ninS ne_b3_b198 (ninS (ne_arr f598 (hw _ (List.mem_of_getElem? (i := 28) rfl)) Arq603) nin0))
    have f605 := f591.keep Kq603 (ninS ne_b3_b198 (ninS (ne_arr f598 (hw _ (List.mem_of_getElem? (i := 28) rfl)) Arq603) nin0))
    have f606 := f592.keep Kq603 (ninS ne_b33_b198 (ninS (ne_arr f599 (hw _ (List.mem_of_getElem? (i := 28) rfl)) Arq603) nin0))
    have f607 := f593.keep Kq603 (ninS ne_b33_b198 (ninS (ne_arr f599 (hw _ (List.mem_of_getElem? (i := 28) rfl)) Arq603) nin0))
    have f608 := f594.keep Kq603 (ninS ne_b76_b198 (ninS (ne_arr f600 (hw _ (List.mem_of_getElem? (i := 28) rfl)) Arq603) nin0))
    have f609 := f595.keep Kq603 (ninS ne_b76_b198 (ninS (ne_arr f600 (hw _ (List.mem_of_getElem? (i := 28) rfl)) Arq603) nin0))
    have f610 := f596.keep Kq603 (ninS ne_b131_b198 (ninS (ne_arr f601 (hw _ (List.mem_of_getElem? (i := 28) rfl)) Arq603) nin0))
    have f611 := f597.keep Kq603 (ninS ne_b131_b198 (ninS (ne_arr f601 (hw _ (List.mem_of_getElem? (i := 28) rfl)) Arq603) nin0))
    have f612 := f598.keep Kq603
    have f613 := f599.keep Kq603
    have f614 := f600.keep Kq603
    have f615 := f601.keep Kq603
    have f616 := f602.keep Kq603
    have Od603 := Od589.keep Kq603 (allS ge_b198 (allS gar603 all0))
    have hk603 := Nat.le_trans hk589 Kq603.1
    obtain ⟨cq617, kq617, q617a, q617b, q617c⟩ := isOf hZ rfl f616
    obtain ⟨_, _, ⟨T617, L617, k617, n617⟩, -, X617, ⟨Lc617, hQ617, l617, y617, z617⟩, st617⟩ := X603.virtualBack hx (y := (⟨"com/example/reroutine/reroutine/replanning/ExecutedDay", "add", "(Lcom/example/reroutine/reroutine/scenario/Event;)V"⟩ : MethodName)) (z := (⟨"com/example/reroutine/reroutine/replanning/ExecutedDay", "add", "(Lcom/example/reroutine/reroutine/scenario/Event;)V"⟩ : MethodName)) hown (mvT hZ (hw _ (List.mem_of_getElem? (i := 97) rfl))) (mvT hZ (hw _ (List.mem_of_getElem? (i := 98) rfl))) (notFace_of_selects (args := #[]) (mvT hZ (hw _ (List.mem_of_getElem? (i := 100) rfl)))) (mvT hZ (hw _ (List.mem_of_getElem? (i := 100) rfl))) (mvT hZ (hw _ (List.mem_of_getElem? (i := 99) rfl))) (by decide) (backOf (W := 0) (rmAdd6 l Z a0 hw [] b198 b76 t0 t1 t2 t3 d0 d1 d2 d3 oa oc (u1 &&& (2147483647 : Int32)) T603.heap n0 Z603 Od603 hst Bq603 ge_b198 (Ne.symm ne_b76_b198) f614 f608 f609) hZ (hw _ (List.mem_of_getElem? (i := 101) rfl)) (hw _ (List.mem_of_getElem? (i := 76) rfl)) (by decide) (by decide)) q617a q617c (g := (mkF m 197 #[iv u0, iv u1, iv u2, iv (7 : Int32), iv (u1 &&& (2147483647 : Int32)), rv sv1, rv b3, rv b33, rv b76, rv b131, rv b198, .unset] [(.ref b76), (.ref b198)])) rfl (by rw [hml]; rfl) (Steps.refl _) (argsL := [(.ref b76)]) (rest := []) (lenOf pd_13 rfl) rfl (by show 2 * 0 + _ ≤ _; exact Nat.le_of_eq rfl) (hb hby at_197) (fun _ _ => ⟨rfl, rfl, (by decide : 25 + 0 ≤ _), (by decide : 104 + 0 ≤ _)⟩)
    dsimp only [Pt.U, Pt.locs, Pt.cells, Pt.slots] at X617 l617 y617 z617 st617 hQ617
    subst y617 z617
    obtain ⟨rfl, Nq617, Kx617, Bq617⟩ := hQ617
    have N617 : Fr n0 L617 := by rw [l617]; exact Fr.app N603 Nq617
    obtain ⟨ar617, cl617, ty617, Kq617, gar617, Arq617⟩ := Kx617
    have Z617 : n0 ≤ T617.heap.size := Nat.le_trans Z603 Kq617.1
    have f618 := f604.keep Kq617 (ninS ne_b3_b198 (ninS (ne_arr f612 (hw _ (List.mem_of_getElem? (i := 28) rfl)) Arq617) nin0))
    have f619 := f605.keep Kq617 (ninS ne_b3_b198 (ninS (ne_arr f612 (hw _ (List.mem_of_getElem? (i := 28) rfl)) Arq617) nin0))
    have f620 := f606.keep Kq617 (ninS ne_b33_b198 (ninS (ne_arr f613 (hw _ (List.mem_of_getElem? (i := 28) rfl)) Arq617) nin0))
    have f621 := f607.keep Kq617 (ninS ne_b33_b198 (ninS (ne_arr f613 (hw _ (List.mem_of_getElem? (i := 28) rfl)) Arq617) nin0))
    have f622 := f608.keep Kq617 (ninS ne_b76_b198 (ninS (ne_arr f614 (hw _ (List.mem_of_getElem? (i := 28) rfl)) Arq617) nin0))
    have f623 := f609.keep Kq617 (ninS ne_b76_b198 (ninS (ne_arr f614 (hw _ (List.mem_of_getElem? (i := 28) rfl)) Arq617) nin0))
    have f624 := f610.keep Kq617 (ninS ne_b131_b198 (ninS (ne_arr f615 (hw _ (List.mem_of_getElem? (i := 28) rfl)) Arq617) nin0))
    have f625 := f611.keep Kq617 (ninS ne_b131_b198 (ninS (ne_arr f615 (hw _ (List.mem_of_getElem? (i := 28) rfl)) Arq617) nin0))
    have f626 := f612.keep Kq617
    have f627 := f613.keep Kq617
    have f628 := f614.keep Kq617
    have f629 := f615.keep Kq617
    have f630 := f616.keep Kq617
    have Od617 := Od603.keep Kq617 (allS ge_b198 (allS gar617 all0))
    have hk617 := Nat.le_trans hk603 Kq617.1
    obtain ⟨cq631, kq631, q631a, q631b, q631c⟩ := isOf hZ rfl f630
    obtain ⟨_, _, ⟨T631, L631, k631, n631⟩, -, X631, ⟨Lc631, hQ631, l631, y631, z631⟩, st631⟩ := X617.virtualBack hx (y := (⟨"com/example/reroutine/reroutine/replanning/ExecutedDay", "legsArrived", "()I"⟩ : MethodName)) (z := (⟨"com/example/reroutine/reroutine/replanning/ExecutedDay", "legsArrived", "()I"⟩ : MethodName)) hown (mvT hZ (hw _ (List.mem_of_getElem? (i := 90) rfl))) (mvT hZ (hw _ (List.mem_of_getElem? (i := 91) rfl))) (notFace_of_selects (args := #[]) (mvT hZ (hw _ (List.mem_of_getElem? (i := 93) rfl)))) (mvT hZ (hw _ (List.mem_of_getElem? (i := 93) rfl))) (mvT hZ (hw _ (List.mem_of_getElem? (i := 92) rfl))) (by decide) (backOf (W := 0) (rmQ7 l Z a0 hw [] b198 t0 t1 t2 t3 d0 d1 d2 d3 oa oc T617.heap n0 Z617 Od617 hst Bq617.2.1) hZ (hw _ (List.mem_of_getElem? (i := 94) rfl)) (hw _ (List.mem_of_getElem? (i := 76) rfl)) (by decide) (by decide)) q631a q631c (g := (mkF m 224 #[iv u0, iv u1, iv u2, iv (7 : Int32), iv (u1 &&& (2147483647 : Int32)), rv sv1, rv b3, rv b33, rv b76, rv b131, rv b198, iv (2 : Int32)] [(.ref b198)])) rfl (by rw [hml]; rfl) (Steps.refl _) (argsL := []) (rest := []) (lenOf pd_8 rfl) rfl (by show 2 * 0 + _ ≤ _; exact Nat.le_of_eq rfl) (hb hby at_224) (fun _ _ => ⟨rfl, rfl, (by decide : 25 + 0 ≤ _), (by decide : 104 + 0 ≤ _)⟩)
    dsimp only [Pt.U, Pt.locs, Pt.cells, Pt.slots] at X631 l631 y631 z631 st631 hQ631
    subst y631 z631
    obtain ⟨rfl, Nq631, eq631⟩ := hQ631
    have N631 : Fr n0 L631 := by rw [l631]; exact Fr.app N617 Nq631
    obtain ⟨fs, hr, hrun, hended, hR1, hR2, hR3, hR4⟩ := X631.leaveW (s := s) hS (by rw [eq631]; exact hk617) (v := some (.int (1 : Int32))) (fun h => by rw [Bd.returns] at h; cases h)
    refine ⟨_, _, S231 _ ?_, hrun, hended, _, _, rfl, ?_, hR1, hR2, hR3, hR4.mono (by decide) (by decide)⟩
    · skip
      show Steps p.tables e below (T214.setTop (mkF m 117 #[iv u0, iv u1, iv u2, iv (7 : Int32), iv (u1 &&& (2147483647 : Int32)), rv sv1, rv b3, rv b33, rv b76, rv b131, rv b198, .unset] [(.int (7 : Int32))])) _
      refine XS.ifNo X214.here hx rfl (hb hby at_117) rfl ((if0 _ _).trans (tlt (by decide : (0 : Int32) < (7 : Int32))).2.2.2) ?_
      show Steps p.tables e below (T214.setTop (mkF m 120 #[iv u0, iv u1, iv u2, iv (7 : Int32), iv (u1 &&& (2147483647 : Int32)), rv sv1, rv b3, rv b33, rv b76, rv b131, rv b198, .unset] [])) _
      refine XS.aload X214.here hx rfl (hb hby at_120) rfl rfl ?_
      show Steps p.tables e below (T214.setTop (mkF m 122 #[iv u0, iv u1, iv u2, iv (7 : Int32), iv (u1 &&& (2147483647 : Int32)), rv sv1, rv b3, rv b33, rv b76, rv b131, rv b198, .unset] [(.ref b198)])) _
      refine XS.aload X214.here hx rfl (hb hby at_122) rfl rfl ?_
      show Steps p.tables e below (T214.setTop (mkF m 124 #[iv u0, iv u1, iv u2, iv (7 : Int32), iv (u1 &&& (2147483647 : Int32)), rv sv1, rv b3, rv b33, rv b76, rv b131, rv b198, .unset] [(.ref b3), (.ref b198)])) _
      refine st533.trans ?_
      show Steps p.tables e below (T533.setTop (mkF m 127 #[iv u0, iv u1, iv u2, iv (7 : Int32), iv (u1 &&& (2147483647 : Int32)), rv sv1, rv b3, rv b33, rv b76, rv b131, rv b198, .unset] [])) _
      refine XS.iloadN X533.here hx rfl (hb hby at_127) rfl ?_
      show Steps p.tables e below (T533.setTop (mkF m 128 #[iv u0, iv u1, iv u2, iv (7 : Int32), iv (u1 &&& (2147483647 : Int32)), rv sv1, rv b3, rv b33, rv b76, rv b131, rv b198, .unset] [(.int (7 : Int32))])) _
      refine XS.iconst X533.here hx rfl (hb hby at_128) ?_
      show Steps p.tables e below (T533.setTop (mkF m 129 #[iv u0, iv u1, iv u2, iv (7 : Int32), iv (u1 &&& (2147483647 : Int32)), rv sv1, rv b3, rv b33, rv b76, rv b131, rv b198, .unset] [(.int (1 : Int32)), (.int (7 : Int32))])) _
      refine XS.icmpNo X533.here hx rfl (hb hby at_129) rfl (tlt (by decide : (1 : Int32) < (7 : Int32))).2.2.2 ?_
      show Steps p.tables e below (T533.setTop (mkF m 132 #[iv u0, iv u1, iv u2, iv (7 : Int32), iv (u1 &&& (2147483647 : Int32)), rv sv1, rv b3, rv b33, rv b76, rv b131, rv b198, .unset] [])) _
      refine XS.aload X533.here hx rfl (hb hby at_132) rfl rfl ?_
      show Steps p.tables e below (T533.setTop (mkF m 134 #[iv u0, iv u1, iv u2, iv (7 : Int32), iv (u1 &&& (2147483647 : Int32)), rv sv1, rv b3, rv b33, rv b76, rv b131, rv b198, .unset] [(.ref b198)])) _
      refine XS.aload X533.here hx rfl (hb hby at_134) rfl rfl ?_
      show Steps p.tables e below (T533.setTop (mkF m 136 #[iv u0, iv u1, iv u2, iv (7 : Int32), iv (u1 &&& (2147483647 : Int32)), rv sv1, rv b3, rv b33, rv b76, rv b131, rv b198, .unset] [(.ref b33), (.ref b198)])) _
      refine st547.trans ?_
      show Steps p.tables e below (T547.setTop (mkF m 139 #[iv u0, iv u1, iv u2, iv (7 : Int32), iv (u1 &&& (2147483647 : Int32)), rv sv1, rv b3, rv b33, rv b76, rv b131, rv b198, .unset] [])) _
      refine XS.iloadN X547.here hx rfl (hb hby at_139) rfl ?_
      show Steps p.tables e below (T547.setTop (mkF m 140 #[iv u0, iv u1, iv u2, iv (7 : Int32), iv (u1 &&& (2147483647 : Int32)), rv sv1, rv b3, rv b33, rv b76, rv b131, rv b198, .unset] [(.int (7 : Int32))])) _
      refine XS.iconst X547.here hx rfl (hb hby at_140) ?_
      show Steps p.tables e below (T547.setTop (mkF m 141 #[iv u0, iv u1, iv u2, iv (7 : Int32), iv (u1 &&& (2147483647 : Int32)), rv sv1, rv b3, rv b33, rv b76, rv b131, rv b198, .unset] [(.int (2 : Int32)), (.int (7 : Int32))])) _
      refine XS.icmpNo X547.here hx rfl (hb hby at_141) rfl (tlt (by decide : (2 : Int32) < (7 : Int32))).2.2.2 ?_
      show Steps p.tables e below (T547.setTop (mkF m 144 #[iv u0, iv u1, iv u2, iv (7 : Int32), iv (u1 &&& (2147483647 : Int32)), rv sv1, rv b3, rv b33, rv b76, rv b131, rv b198, .unset] [])) _
      refine XS.aload X547.here hx rfl (hb hby at_144) rfl rfl ?_
      show Steps p.tables e below (T547.setTop (mkF m 146 #[iv u0, iv u1, iv u2, iv (7 : Int32), iv (u1 &&& (2147483647 : Int32)), rv sv1, rv b3, rv b33, rv b76, rv b131, rv b198, .unset] [(.ref b198)])) _
      refine XS.aload X547.here hx rfl (hb hby at_146) rfl rfl ?_
      show Steps p.tables e below (T547.setTop (mkF m 148 #[iv u0, iv u1, iv u2, iv (7 : Int32), iv (u1 &&& (2147483647 : Int32)), rv sv1, rv b3, rv b33, rv b76, rv b131, rv b198, .unset] [(.ref b76), (.ref b198)])) _
      refine st561.trans ?_
      show Steps p.tables e below (T561.setTop (mkF m 151 #[iv u0, iv u1, iv u2, iv (7 : Int32), iv (u1 &&& (2147483647 : Int32)), rv sv1, rv b3, rv b33, rv b76, rv b131, rv b198, .unset] [])) _
      refine XS.iloadN X561.here hx rfl (hb hby at_151) rfl ?_
      show Steps p.tables e below (T561.setTop (mkF m 152 #[iv u0, iv u1, iv u2, iv (7 : Int32), iv (u1 &&& (2147483647 : Int32)), rv sv1, rv b3, rv b33, rv b76, rv b131, rv b198, .unset] [(.int (7 : Int32))])) _
      refine XS.iconst X561.here hx rfl (hb hby at_152) ?_
      show Steps p.tables e below (T561.setTop (mkF m 153 #[iv u0, iv u1, iv u2, iv (7 : Int32), iv (u1 &&& (2147483647 : Int32)), rv sv1, rv b3, rv b33, rv b76, rv b131, rv b198, .unset] [(.int (3 : Int32)), (.int (7 : Int32))])) _
      refine XS.icmpNo X561.here hx rfl (hb hby at_153) rfl (tlt (by decide : (3 : Int32) < (7 : Int32))).2.2.2 ?_
      show Steps p.tables e below (T561.setTop (mkF m 156 #[iv u0, iv u1, iv u2, iv (7 : Int32), iv (u1 &&& (2147483647 : Int32)), rv sv1, rv b3, rv b33, rv b76, rv b131, rv b198, .unset] [])) _
      refine XS.aload X561.here hx rfl (hb hby at_156) rfl rfl ?_
      show Steps p.tables e below (T561.setTop (mkF m 158 #[iv u0, iv u1, iv u2, iv (7 : Int32), iv (u1 &&& (2147483647 : Int32)), rv sv1, rv b3, rv b33, rv b76, rv b131, rv b198, .unset] [(.ref b198)])) _
      refine XS.aload X561.here hx rfl (hb hby at_158) rfl rfl ?_
      show Steps p.tables e below (T561.setTop (mkF m 160 #[iv u0, iv u1, iv u2, iv (7 : Int32), iv (u1 &&& (2147483647 : Int32)), rv sv1, rv b3, rv b33, rv b76, rv b131, rv b198, .unset] [(.ref b131), (.ref b198)])) _
      refine st575.trans ?_
      show Steps p.tables e below (T575.setTop (mkF m 163 #[iv u0, iv u1, iv u2, iv (7 : Int32), iv (u1 &&& (2147483647 : Int32)), rv sv1, rv b3, rv b33, rv b76, rv b131, rv b198, .unset] [])) _
      refine XS.iloadN X575.here hx rfl (hb hby at_163) rfl ?_
      show Steps p.tables e below (T575.setTop (mkF m 164 #[iv u0, iv u1, iv u2, iv (7 : Int32), iv (u1 &&& (2147483647 : Int32)), rv sv1, rv b3, rv b33, rv b76, rv b131, rv b198, .unset] [(.int (7 : Int32))])) _
      refine XS.iconst X575.here hx rfl (hb hby at_164) ?_
      show Steps p.tables e below (T575.setTop (mkF m 165 #[iv u0, iv u1, iv u2, iv (7 : Int32), iv (u1 &&& (2147483647 : Int32)), rv sv1, rv b3, rv b33, rv b76, rv b131, rv b198, .unset] [(.int (4 : Int32)), (.int (7 : Int32))])) _
      refine XS.icmpNo X575.here hx rfl (hb hby at_165) rfl (tlt (by decide : (4 : Int32) < (7 : Int32))).2.2.2 ?_
      show Steps p.tables e below (T575.setTop (mkF m 168 #[iv u0, iv u1, iv u2, iv (7 : Int32), iv (u1 &&& (2147483647 : Int32)), rv sv1, rv b3, rv b33, rv b76, rv b131, rv b198, .unset] [])) _
      refine XS.aload X575.here hx rfl (hb hby at_168) rfl rfl ?_
      show Steps p.tables e below (T575.setTop (mkF m 170 #[iv u0, iv u1, iv u2, iv (7 : Int32), iv (u1 &&& (2147483647 : Int32)), rv sv1, rv b3, rv b33, rv b76, rv b131, rv b198, .unset] [(.ref b198)])) _
      refine XS.aload X575.here hx rfl (hb hby at_170) rfl rfl ?_
      show Steps p.tables e below (T575.setTop (mkF m 172 #[iv u0, iv u1, iv u2, iv (7 : Int32), iv (u1 &&& (2147483647 : Int32)), rv sv1, rv b3, rv b33, rv b76, rv b131, rv b198, .unset] [(.ref b3), (.ref b198)])) _
      refine st589.trans ?_
      show Steps p.tables e below (T589.setTop (mkF m 175 #[iv u0, iv u1, iv u2, iv (7 : Int32), iv (u1 &&& (2147483647 : Int32)), rv sv1, rv b3, rv b33, rv b76, rv b131, rv b198, .unset] [])) _
      refine XS.iloadN X589.here hx rfl (hb hby at_175) rfl ?_
      show Steps p.tables e below (T589.setTop (mkF m 176 #[iv u0, iv u1, iv u2, iv (7 : Int32), iv (u1 &&& (2147483647 : Int32)), rv sv1, rv b3, rv b33, rv b76, rv b131, rv b198, .unset] [(.int (7 : Int32))])) _
      refine XS.iconst X589.here hx rfl (hb hby at_176) ?_
      show Steps p.tables e below (T589.setTop (mkF m 177 #[iv u0, iv u1, iv u2, iv (7 : Int32), iv (u1 &&& (2147483647 : Int32)), rv sv1, rv b3, rv b33, rv b76, rv b131, rv b198, .unset] [(.int (5 : Int32)), (.int (7 : Int32))])) _
      refine XS.icmpNo X589.here hx rfl (hb hby at_177) rfl (tlt (by decide : (5 : Int32) < (7 : Int32))).2.2.2 ?_
      show Steps p.tables e below (T589.setTop (mkF m 180 #[iv u0, iv u1, iv u2, iv (7 : Int32), iv (u1 &&& (2147483647 : Int32)), rv sv1, rv b3, rv b33, rv b76, rv b131, rv b198, .unset] [])) _
      refine XS.aload X589.here hx rfl (hb hby at_180) rfl rfl ?_
      show Steps p.tables e below (T589.setTop (mkF m 182 #[iv u0, iv u1, iv u2, iv (7 : Int32), iv (u1 &&& (2147483647 : Int32)), rv sv1, rv b3, rv b33, rv b76, rv b131, rv b198, .unset] [(.ref b198)])) _
      refine XS.aload X589.here hx rfl (hb hby at_182) rfl rfl ?_
      show Steps p.tables e below (T589.setTop (mkF m 184 #[iv u0, iv u1, iv u2, iv (7 : Int32), iv (u1 &&& (2147483647 : Int32)), rv sv1, rv b3, rv b33, rv b76, rv b131, rv b198, .unset] [(.ref b33), (.ref b198)])) _
      refine st603.trans ?_
      show Steps p.tables e below (T603.setTop (mkF m 187 #[iv u0, iv u1, iv u2, iv (7 : Int32), iv (u1 &&& (2147483647 : Int32)), rv sv1, rv b3, rv b33, rv b76, rv b131, rv b198, .unset] [])) _
      refine XS.iloadN X603.here hx rfl (hb hby at_187) rfl ?_
      show Steps p.tables e below (T603.setTop (mkF m 188 #[iv u0, iv u1, iv u2, iv (7 : Int32), iv (u1 &&& (2147483647 : Int32)), rv sv1, rv b3, rv b33, rv b76, rv b131, rv b198, .unset] [(.int (7 : Int32))])) _
      refine XS.bipush X603.here hx rfl (hb hby at_188) ?_
      show Steps p.tables e below (T603.setTop (mkF m 190 #[iv u0, iv u1, iv u2, iv (7 : Int32), iv (u1 &&& (2147483647 : Int32)), rv sv1, rv b3, rv b33, rv b76, rv b131, rv b198, .unset] [(.int (6 : Int32)), (.int (7 : Int32))])) _
      refine XS.icmpNo X603.here hx rfl (hb hby at_190) rfl (tlt (by decide : (6 : Int32) < (7 : Int32))).2.2.2 ?_
      show Steps p.tables e below (T603.setTop (mkF m 193 #[iv u0, iv u1, iv u2, iv (7 : Int32), iv (u1 &&& (2147483647 : Int32)), rv sv1, rv b3, rv b33, rv b76, rv b131, rv b198, .unset] [])) _
      refine XS.aload X603.here hx rfl (hb hby at_193) rfl rfl ?_
      show Steps p.tables e below (T603.setTop (mkF m 195 #[iv u0, iv u1, iv u2, iv (7 : Int32), iv (u1 &&& (2147483647 : Int32)), rv sv1, rv b3, rv b33, rv b76, rv b131, rv b198, .unset] [(.ref b198)])) _
      refine XS.aload X603.here hx rfl (hb hby at_195) rfl rfl ?_
      show Steps p.tables e below (T603.setTop (mkF m 197 #[iv u0, iv u1, iv u2, iv (7 : Int32), iv (u1 &&& (2147483647 : Int32)), rv sv1, rv b3, rv b33, rv b76, rv b131, rv b198, .unset] [(.ref b76), (.ref b198)])) _
      refine st617.trans ?_
      show Steps p.tables e below (T617.setTop (mkF m 200 #[iv u0, iv u1, iv u2, iv (7 : Int32), iv (u1 &&& (2147483647 : Int32)), rv sv1, rv b3, rv b33, rv b76, rv b131, rv b198, .unset] [])) _
      refine XS.iloadN X617.here hx rfl (hb hby at_200) rfl ?_
      show Steps p.tables e below (T617.setTop (mkF m 201 #[iv u0, iv u1, iv u2, iv (7 : Int32), iv (u1 &&& (2147483647 : Int32)), rv sv1, rv b3, rv b33, rv b76, rv b131, rv b198, .unset] [(.int (7 : Int32))])) _
      refine XS.bipush X617.here hx rfl (hb hby at_201) ?_
      show Steps p.tables e below (T617.setTop (mkF m 203 #[iv u0, iv u1, iv u2, iv (7 : Int32), iv (u1 &&& (2147483647 : Int32)), rv sv1, rv b3, rv b33, rv b76, rv b131, rv b198, .unset] [(.int (7 : Int32)), (.int (7 : Int32))])) _
      refine XS.icmpNo X617.here hx rfl (hb hby at_203) rfl (flt (by decide : ¬ ((7 : Int32) < (7 : Int32)))).1 ?_
      show Steps p.tables e below (T617.setTop (mkF m 206 #[iv u0, iv u1, iv u2, iv (7 : Int32), iv (u1 &&& (2147483647 : Int32)), rv sv1, rv b3, rv b33, rv b76, rv b131, rv b198, .unset] [])) _
      refine XS.iconst X617.here hx rfl (hb hby at_206) ?_
      show Steps p.tables e below (T617.setTop (mkF m 207 #[iv u0, iv u1, iv u2, iv (7 : Int32), iv (u1 &&& (2147483647 : Int32)), rv sv1, rv b3, rv b33, rv b76, rv b131, rv b198, .unset] [(.int (2 : Int32))])) _
      refine XS.goto X617.here hx rfl (pc0 := 207) (pc' := 220) rfl (hb hby at_207) (by decide) (by decide) ?_
      show Steps p.tables e below (T617.setTop (mkF m 220 #[iv u0, iv u1, iv u2, iv (7 : Int32), iv (u1 &&& (2147483647 : Int32)), rv sv1, rv b3, rv b33, rv b76, rv b131, rv b198, .unset] [(.int (2 : Int32))])) _
      refine XS.istore X617.here hx rfl (hb hby at_220) rfl (l' := #[iv u0, iv u1, iv u2, iv (7 : Int32), iv (u1 &&& (2147483647 : Int32)), rv sv1, rv b3, rv b33, rv b76, rv b131, rv b198, iv (2 : Int32)]) rfl ?_
      show Steps p.tables e below (T617.setTop (mkF m 222 #[iv u0, iv u1, iv u2, iv (7 : Int32), iv (u1 &&& (2147483647 : Int32)), rv sv1, rv b3, rv b33, rv b76, rv b131, rv b198, iv (2 : Int32)] [])) _
      refine XS.aload X617.here hx rfl (hb hby at_222) rfl rfl ?_
      show Steps p.tables e below (T617.setTop (mkF m 224 #[iv u0, iv u1, iv u2, iv (7 : Int32), iv (u1 &&& (2147483647 : Int32)), rv sv1, rv b3, rv b33, rv b76, rv b131, rv b198, iv (2 : Int32)] [(.ref b198)])) _
      refine st631.trans ?_
      show Steps p.tables e below (T631.setTop (mkF m 227 #[iv u0, iv u1, iv u2, iv (7 : Int32), iv (u1 &&& (2147483647 : Int32)), rv sv1, rv b3, rv b33, rv b76, rv b131, rv b198, iv (2 : Int32)] [(.int (2 : Int32))])) _
      refine XS.iload X631.here hx rfl (hb hby at_227) rfl ?_
      show Steps p.tables e below (T631.setTop (mkF m 229 #[iv u0, iv u1, iv u2, iv (7 : Int32), iv (u1 &&& (2147483647 : Int32)), rv sv1, rv b3, rv b33, rv b76, rv b131, rv b198, iv (2 : Int32)] [(.int (2 : Int32)), (.int (2 : Int32))])) _
      refine XS.icmpNo X631.here hx rfl (hb hby at_229) rfl (teq (by decide : (2 : Int32) = (2 : Int32))).2 ?_
      show Steps p.tables e below (T631.setTop (mkF m 232 #[iv u0, iv u1, iv u2, iv (7 : Int32), iv (u1 &&& (2147483647 : Int32)), rv sv1, rv b3, rv b33, rv b76, rv b131, rv b198, iv (2 : Int32)] [])) _
      refine XS.iconst X631.here hx rfl (hb hby at_232) ?_
      show Steps p.tables e below (T631.setTop (mkF m 233 #[iv u0, iv u1, iv u2, iv (7 : Int32), iv (u1 &&& (2147483647 : Int32)), rv sv1, rv b3, rv b33, rv b76, rv b131, rv b198, iv (2 : Int32)] [(.int (1 : Int32))])) _
      refine XS.goto X631.here hx rfl (pc0 := 233) (pc' := 237) rfl (hb hby at_233) (by decide) (by decide) ?_
      show Steps p.tables e below (T631.setTop (mkF m 237 #[iv u0, iv u1, iv u2, iv (7 : Int32), iv (u1 &&& (2147483647 : Int32)), rv sv1, rv b3, rv b33, rv b76, rv b131, rv b198, iv (2 : Int32)] [(.int (1 : Int32))])) _
      exact retN X631 hx (t := .boolean) Bd.returns (by simp) (hb hby at_237) hr
    · show Q0 Z u0 u1 u2 t0 t1 t2 t3 d0 d1 d2 d3 oa oc G1 h0 n0 _ T631.heap _
      rw [eq631]
      exact ⟨rfl, N631⟩
theorem own_kin {x : Value} {b : Addr} (k : Kin x (.ref b)) (k' : Kin (.ref b) x) : x.isRef = true := k'.2
theorem own_len {Z : State} {args : Array Value} {t : Term} {a : Addr} {cl : Cell} {k : Int32} (ht : t.eval args Z none [] Z = some (.ref a)) (ha : Z.arrayAt? a = some cl) (h : (Jvm.Cond.eq (.length t) (.int k)).value args Z none Z [] = some true) : cl.slots.size < 2 ^ 31 ∧ cl.slots.size.toInt32 = k := by
  by_cases q : cl.slots.size < 2 ^ 31
  · exact ⟨q, gotT (Cond.eq_ints (len_f ht ha q) rfl) h⟩
  · simp [Cond.value, Term.eval, ht, ha, q] at h
theorem own_len4 {n : Nat} (h1 : n < 2 ^ 31) (h2 : n.toInt32 = (4 : Int32)) : n = (4 : Int32).toNatClampNeg := by
  have e := len_toInt h1
  rw [h2] at e
  have : (4 : Int32).toInt = 4 := by decide
  have q : (4 : Int32).toNatClampNeg = 4 := by decide
  omega
theorem own_eqR {Z : State} {args : Array Value} {X Y : Term} {b : Addr} (hY : Y.eval args Z none [] Z = some (.ref b)) (h : (Jvm.Cond.eq X Y).value args Z none Z [] = some true) : X.eval args Z none [] Z = some (.ref b) := by
  obtain ⟨x, y, e1, e2, k1, k2⟩ := cmp_v (Or.inl h)
  cases hY.symm.trans e2
  rcases ref_cases (own_kin k1 k2) with rfl | ⟨c, rfl⟩
  · simp [Cond.value, e1, hY] at h
  · have q := gotT (eq_R e1 hY rfl rfl) h
    rw [e1, q]

set_option maxRecDepth 65536 in
set_option maxHeartbeats 40000000 in
theorem comes_1 {Post : Tables → Env → Array Value → State → Outcome → State → Prop} (hpost : ∀ tb e args s v u, (limb_1_1.after args s (.returned v) u = true ∧ limb_1_2.after args s (.returned v) u = true ∧ True) → ReturnedEndW s (.returned v) u (Jvm.fieldLocs frame_1_writes args s ++ Jvm.arrayLocs frame_1_arrays args s ++ Jvm.staticLocs frame_1_statics s) 32 3264 → Post tb e args s (.returned v) u) :
    ArmFor flags0 classFile x code maxLocals ret World_1 tables_1 room_1 Calls_1 rest_1 Pre_1 Post := by
  intro l hfl _ _ p e ha hc hk s m args below hf hA hF happ hP
  obtain ⟨hcalls, hrest, hpre⟩ := hP
  obtain ⟨-, -, -, hnamed, -, -, -, hat⟩ := (Spec.applies_iff hf).mp happ
  obtain ⟨hg, hn⟩ := and_e (Cond.before_iff.mp (show (Jvm.Cond.and given_1 narrow_1).before args s = true from hpre))
  obtain ⟨g1, g2⟩ := and_e hg
  obtain ⟨g3, g4⟩ := and_e g2
  obtain ⟨g5, g6⟩ := and_e g4
  obtain ⟨w0, w1, w2, rfl⟩ : ∃ w0 w1 w2 : Value, args = #[w0, w1, w2] := by
    have hs : args.size = 3 := by simpa [Cond.value, given_1] using g1
    obtain ⟨L⟩ := args
    match L, hs with
    | [w0, w1, w2], _ => exact ⟨w0, w1, w2, rfl⟩
  have hw := fun d (hd : d ∈ tables_1) => atoms_spec (ws := Jvm.Cond.code x code maxLocals ret :: tables_1) hat d (List.mem_cons_of_mem _ hd)
  have hfit : Fit s := fun {y c} hc i hi => by
    obtain ⟨ha, rfl⟩ := Array.getElem?_eq_some_iff.mp hc
    have q := List.all_eq_true.mp ((Array.all_eq_true_iff_forall_mem.mp hF) _ (Array.getElem_mem ha)) i (List.mem_range.mpr hi)
    simpa [Array.getElem?_eq_getElem hi] using q
  obtain ⟨hsets, hown0⟩ := atoms_of _ (rest_1_c_eq ▸ (show rest_1_c.before _ s = true from hrest))
  have hr0 := Cond.before_iff.mp hown0
  obtain ⟨i0, ei0⟩ := is_v g3
  obtain rfl : w0 = (.int i0) := Option.some.inj ei0
  obtain ⟨i1, ei1⟩ := is_v g5
  obtain rfl : w1 = (.int i1) := Option.some.inj ei1
  obtain ⟨i2, ei2⟩ := is_v g6
  obtain rfl : w2 = (.int i2) := Option.some.inj ei2
  obtain ⟨c0, r0⟩ := and_e hn
  obtain ⟨c1, r1⟩ := and_e r0
  obtain ⟨c2, r2⟩ := and_e r1
  obtain ⟨c3, r3⟩ := and_e r2
  obtain ⟨c4, r4⟩ := and_e r3
  obtain ⟨c5, r5⟩ := and_e r4
  obtain ⟨c6, r6⟩ := and_e r5
  obtain ⟨c7, r7⟩ := and_e r6
  obtain ⟨c8, r8⟩ := and_e r7
  obtain ⟨c9, r9⟩ := and_e r8
  obtain ⟨c10, r10⟩ := and_e r9
  obtain ⟨c11, r11⟩ := and_e r10
  obtain ⟨c12, r12⟩ := and_e r11
  have c13 := r12
  obtain ⟨oa, e_oa⟩ := arr_v c8
  obtain ⟨oc, A_oa⟩ := Arr.start e_oa c8
  obtain ⟨l1, l2⟩ := own_len e_oa (A_oa.fin (Vm.Alike.refl _)) c9
  have hso := Sta.start e_oa (Or.inr ⟨(hw _ (List.mem_of_getElem? (i := 76) rfl)), (hw _ (List.mem_of_getElem? (i := 82) rfl))⟩)
  obtain ⟨t0, e_t0⟩ := exa_v c0
  have hx0 := Exa.start e_t0 c0
  have hs0 := Sta.start e_t0 (Or.inr ⟨(hw _ (List.mem_of_getElem? (i := 31) rfl)), (hw _ (List.mem_of_getElem? (i := 32) rfl))⟩)
  obtain ⟨t1, e_t1⟩ := exa_v c2
  have hx1 := Exa.start e_t1 c2
  have hs1 := Sta.start e_t1 (Or.inr ⟨(hw _ (List.mem_of_getElem? (i := 31) rfl)), (hw _ (List.mem_of_getElem? (i := 68) rfl))⟩)
  obtain ⟨t2, e_t2⟩ := exa_v c4
  have hx2 := Exa.start e_t2 c4
  have hs2 := Sta.start e_t2 (Or.inr ⟨(hw _ (List.mem_of_getElem? (i := 31) rfl)), (hw _ (List.mem_of_getElem? (i := 71) rfl))⟩)
  obtain ⟨t3, e_t3⟩ := exa_v c6
  have hx3 := Exa.start e_t3 c6
  have hs3 := Sta.start e_t3 (Or.inr ⟨(hw _ (List.mem_of_getElem? (i := 31) rfl)), (hw _ (List.mem_of_getElem? (i := 73) rfl))⟩)
  obtain ⟨d0, e_d0⟩ := exa_v c1
  obtain ⟨d1, e_d1⟩ := exa_v c3
  have e_d2 := own_eqR e_d1 c5
  have e_d3 := own_eqR e_d0 c7
  have hd0 : Fld s s.heap t0 "com/example/reroutine/reroutine/scenario/EventType" "detailAttribute" "Ljava/lang/String;" (.ref d0) := Fld.start ((fld_at e_t0).symm.trans e_d0)
  have hd1 : Fld s s.heap t1 "com/example/reroutine/reroutine/scenario/EventType" "detailAttribute" "Ljava/lang/String;" (.ref d1) := Fld.start ((fld_at e_t1).symm.trans e_d1)
  have hd2 : Fld s s.heap t2 "com/example/reroutine/reroutine/scenario/EventType" "detailAttribute" "Ljava/lang/String;" (.ref d1) := Fld.start ((fld_at e_t2).symm.trans e_d2)
  have hd3 : Fld s s.heap t3 "com/example/reroutine/reroutine/scenario/EventType" "detailAttribute" "Ljava/lang/String;" (.ref d0) := Fld.start ((fld_at e_t3).symm.trans e_d3)
  have hq0 : oc.slots[0]? = some (.ref t0) := (elem_f e_oa (show (Jvm.Term.int (0 : Int32)).eval _ s none [] s = some (.int (0 : Int32)) from rfl) (A_oa.fin (Vm.Alike.refl _)) (by decide)).symm.trans (own_eqR e_t0 c10)
  have hq1 : oc.slots[1]? = some (.ref t1) := (elem_f e_oa (show (Jvm.Term.int (1 : Int32)).eval _ s none [] s = some (.int (1 : Int32)) from rfl) (A_oa.fin (Vm.Alike.refl _)) (by decide)).symm.trans (own_eqR e_t1 c11)
  have hq2 : oc.slots[2]? = some (.ref t2) := (elem_f e_oa (show (Jvm.Term.int (2 : Int32)).eval _ s none [] s = some (.int (2 : Int32)) from rfl) (A_oa.fin (Vm.Alike.refl _)) (by decide)).symm.trans (own_eqR e_t2 c12)
  have hq3 : oc.slots[3]? = some (.ref t3) := (elem_f e_oa (show (Jvm.Term.int (3 : Int32)).eval _ s none [] s = some (.int (3 : Int32)) from rfl) (A_oa.fin (Vm.Alike.refl _)) (by decide)).symm.trans (own_eqR e_t3 c13)
  have hst : own_St s t0 t1 t2 t3 d0 d1 d1 d0 oa oc := ⟨⟨hs0, hx0, hd0⟩, ⟨hs1, hx1, hd1⟩, ⟨hs2, hx2, hd2⟩, ⟨hs3, hx3, hd3⟩, hso, A_oa, own_len4 l1 l2, hq0, hq1, hq2, hq3⟩
  have n3 := not_v (Cond.before_iff.mp (hsets _ (List.mem_of_getElem? (i := 2) rfl)))
  obtain ⟨G1, e6⟩ := is_v (Cond.before_iff.mp (hsets _ (List.mem_of_getElem? (i := 1) rfl)))
  have S8 : Sta s s.heap "java/lang/String" "COMPACT_STRINGS" "Z" (.int G1) := Sta.start e6 (Or.inl (hsets _ (List.mem_of_getElem? (i := 0) rfl)))
  have c9_ : ¬ (G1 = (0 : Int32)) := gotF (Cond.eq_ints e6 (Term.int_eval (0))) n3
  obtain ⟨n, o, h1, h2, h3, _, L, rfl, ⟨rfl, N⟩, hq⟩ := rm0 l s _ hw tables_1 i0 i1 i2 t0 t1 t2 t3 d0 d1 d1 d0 oa oc G1 s.heap s.heap.size (Nat.le_refl _) (Old.start s) hst S8 c9_ p e ha hc hk s m _ below hf ((Spec.applies_iff_loose hf).mp happ).1 ⟨rfl, State.Warmed39.refl s, rfl⟩ trivial
  refine ⟨n, _, h1, h2, h3, hpost _ _ _ _ _ _ ⟨Cond.after_iff.mpr rfl, Cond.after_iff.mpr (eq_i res_at (Term.int_eval (1)) rfl), trivial⟩ ⟨hq.1, hq.2.1, hq.2.2.1, (hq.2.2.2.sift fun y hy => Or.inr (N y hy)).mono (by decide) (by decide)⟩⟩
theorem main_1_1 : Claimed_1_1 := comes_1 fun _ _ _ _ _ _ h hF => ⟨h.1, hF⟩
theorem main_1_2 : Claimed_1_2 := comes_1 fun _ _ _ _ _ _ h hF => ⟨h.2.1, hF⟩
end Jvm.Pilot.@@N@@
namespace Jvm.Pilot.@@N@@
open Jvm Jvm.ClassFile Sem Op Lib Jvm.Free Jvm.Stand Jvm.Pilot.@@N@@.Jvm.D
/-! MADE BY PROGRAM (witnessworld.py) out of the Statement's table words and the real class files: 26 classes; the members and pool entries that the words name. The judged class is class 1, her method 1. -/
namespace start1
open Jvm.ClassFile
def u (s : String) : CpInfo := .utf8 (stringToUtf16 s)
/-- a pool by its gaps: so many unusable entries, then the entry; so many at the end -/
def gap : Nat → List CpInfo → List CpInfo
  | 0, r => r
  | n + 1, r => .unusable :: gap n r
def poolList (es : List (Nat × CpInfo)) (last : Nat) : List CpInfo := es.foldr (fun e r => gap e.1 (e.2 :: r)) (gap last [])
def pool (es : List (Nat × CpInfo)) (last : Nat) : Array CpInfo := ⟨poolList es last⟩
def fileOf (pool : Array CpInfo) (this : Nat) (attrs : Array Attribute := #[]) (ms : Array MethodInfo := #[]) (fl : Nat := 33) (sup : Nat := 0) (ifs : Array Nat := #[]) (fds : Array FieldInfo := #[]) : ClassFile where
  minorVersion := 0
  majorVersion := 65
  constantPool := pool
  accessFlags := fl
  thisClass := this
  superClass := sup
  interfaces := ifs
  fields := fds
  methods := ms
  attributes := attrs
def plain (name : String) (sup : Option ClassId) : Class where
  name := name
  kind := .ordinary
  loader := none
  accessFlags := 33
  super := sup
  interfaces := #[]
  cf := none
  fields := #[]
  methods := #[]
  instanceTypes := #[]
  staticTypes := #[]
  resolved := #[]
  callSites := []
  init := .initialized
  statics := none
  mirror := none

def pool0 : Array CpInfo := pool [(5, u "<init>"), (0, u "()V"), (1, .class_ 10), (1, u "java/lang/Object")] 113

def k0c0 : Code := { maxStack := 0, maxLocals := 1, code := object_method_1_code, exceptionTable := #[], attributes := #[] }
def k0m0 : Method := { name := "<init>", desc := "()V", sig := { parameters := [], returnType := none }, accessFlags := 1, code := some k0c0 }
/-- java/lang/Object -/
def k0 : Class := { plain "java/lang/Object" none with
  accessFlags := 33
  interfaces := #[]
  cf := some (fileOf pool0 8 #[] #[{ accessFlags := 1, nameIndex := 5, descriptorIndex := 6, attributes := #[] }] 33 0 #[] #[])
  fields := #[]
  methods := #[k0m0]
  instanceTypes := #[]
  staticTypes := #[]
  resolved := Array.replicate 124 none
  statics := none }

def pool1 : Array CpInfo := pool [(2, .class_ 4), (1, u "java/lang/Object"), (0, u "<init>"), (0, u "()V"), (0, .integer 2147483647), (0, .methodref 9 10), (0, .class_ 11), (0, .nameAndType 12 13), (0, u "java/lang/String"), (0, u "valueOf"), (0, u "(C)Ljava/lang/String;"), (0, .class_ 15), (0, u "com/example/reroutine/reroutine/scenario/Event"), (0, .fieldref 17 18), (0, .class_ 19), (0, .nameAndType 20 21), (0, u "com/example/reroutine/reroutine/scenario/EventType"), (0, u "ACT_END"), (0, u "Lcom/example/reroutine/reroutine/scenario/EventType;"), (0, .string 23), (0, u "l"), (0, .string 25), (0, u "a"), (0, .methodref 14 27), (0, .nameAndType 5 28), (0, u "(ILcom/example/reroutine/reroutine/scenario/EventType;Ljava/lang/String;Ljava/lang/String;Ljava/lang/String;)V"), (0, .fieldref 17 30), (0, .nameAndType 31 21), (0, u "DEPARTURE"), (0, .string 33), (0, u "m"), (0, .fieldref 17 35), (0, .nameAndType 36 21), (0, u "ARRIVAL"), (0, .fieldref 17 38), (0, .nameAndType 39 21), (0, u "ACT_START"), (0, .class_ 41), (0, u "com/example/reroutine/reroutine/replanning/ExecutedDay"), (0, .methodref 40 43), (0, .nameAndType 5 44), (0, u "(Ljava/lang/String;)V"), (0, .methodref 40 46), (0, .nameAndType 47 48), (0, u "add"), (0, u "(Lcom/example/reroutine/reroutine/scenario/Event;)V"), (0, .methodref 40 50), (0, .nameAndType 51 52), (0, u "legsArrived"), (0, u "()I"), (0, .class_ 54), (0, u "com/example/reroutine/reroutine/replanning/ExecutedDayLegsArrivedPinLaw"), (2, u "law"), (0, u "(III)Z")] 3

def k1m0 : Method := { name := "<init>", desc := "()V", sig := { parameters := [], returnType := none }, accessFlags := 1, code := none }
def k1c1 : Code := { maxStack := 7, maxLocals := 12, code := code, exceptionTable := #[], attributes := #[] }
def k1m1 : Method := { name := "law", desc := "(III)Z", sig := { parameters := [.int, .int, .int], returnType := some .boolean }, accessFlags := 9, code := some k1c1 }
/-- com/example/reroutine/reroutine/replanning/ExecutedDayLegsArrivedPinLaw -/
def k1 : Class := { plain "com/example/reroutine/reroutine/replanning/ExecutedDayLegsArrivedPinLaw" (some 0) with
  accessFlags := 49
  interfaces := #[]
  cf := some (fileOf pool1 53 #[] #[{ accessFlags := 1, nameIndex := 5, descriptorIndex := 6, attributes := #[] }, { accessFlags := 9, nameIndex := 57, descriptorIndex := 58, attributes := #[] }] 49 2 #[] #[])
  fields := #[]
  methods := #[k1m0, k1m1]
  instanceTypes := #[]
  staticTypes := #[]
  resolved := Array.replicate 62 none
  statics := none }

def pool2 : Array CpInfo := pool [(1, .class_ 2), (0, u "java/io/Serializable"), (0, .class_ 4), (0, u "java/lang/Object")] 2

/-- java/io/Serializable -/
def k2 : Class := { plain "java/io/Serializable" (some 0) with
  accessFlags := 1537
  interfaces := #[]
  cf := some (fileOf pool2 1 #[] #[] 1537 3 #[] #[])
  fields := #[]
  methods := #[]
  instanceTypes := #[]
  staticTypes := #[]
  resolved := Array.replicate 7 none
  statics := none }

def pool3 : Array CpInfo := pool [(1, .class_ 2), (0, u "java/lang/Comparable"), (0, .class_ 4), (0, u "java/lang/Object")] 7

/-- java/lang/Comparable -/
def k3 : Class := { plain "java/lang/Comparable" (some 0) with
  accessFlags := 1537
  interfaces := #[]
  cf := some (fileOf pool3 1 #[] #[] 1537 3 #[] #[])
  fields := #[]
  methods := #[]
  instanceTypes := #[]
  staticTypes := #[]
  resolved := Array.replicate 12 none
  statics := none }

def pool4 : Array CpInfo := pool [(2, .class_ 4), (1, u "java/lang/CharSequence"), (42, .class_ 48), (0, u "java/lang/CharSequence$1CodePointIterator"), (10, .class_ 60), (0, u "java/lang/CharSequence$1CharIterator"), (5, .class_ 67), (0, u "java/lang/Object")] 63

/-- java/lang/CharSequence -/
def k4 : Class := { plain "java/lang/CharSequence" (some 0) with
  accessFlags := 1537
  interfaces := #[]
  cf := some (fileOf pool4 2 #[.nestMembers #[47, 59]] #[] 1537 66 #[] #[])
  fields := #[]
  methods := #[]
  instanceTypes := #[]
  staticTypes := #[]
  resolved := Array.replicate 131 none
  statics := none }

def pool5 : Array CpInfo := pool [(1, .class_ 2), (0, u "java/lang/constant/Constable"), (0, .class_ 4), (0, u "java/lang/Object")] 6

/-- java/lang/constant/Constable -/
def k5 : Class := { plain "java/lang/constant/Constable" (some 0) with
  accessFlags := 1537
  interfaces := #[]
  cf := some (fileOf pool5 1 #[] #[] 1537 3 #[] #[])
  fields := #[]
  methods := #[]
  instanceTypes := #[]
  staticTypes := #[]
  resolved := Array.replicate 11 none
  statics := none }

def pool6 : Array CpInfo := pool [(1, .class_ 2), (0, u "java/lang/constant/ConstantDesc"), (0, .class_ 4), (0, u "java/lang/Object")] 32

/-- java/lang/constant/ConstantDesc -/
def k6 : Class := { plain "java/lang/constant/ConstantDesc" (some 0) with
  accessFlags := 1537
  interfaces := #[]
  cf := some (fileOf pool6 1 #[] #[] 1537 3 #[] #[])
  fields := #[]
  methods := #[]
  instanceTypes := #[]
  staticTypes := #[]
  resolved := Array.replicate 37 none
  statics := none }

def pool7 : Array CpInfo := pool [(1, .methodref 2 3), (0, .class_ 4), (0, .nameAndType 5 6), (0, u "java/lang/Object"), (0, u "<init>"), (0, u "()V"), (2, .fieldref 10 11), (0, .class_ 12), (0, .nameAndType 13 14), (0, u "java/lang/String"), (0, u "value"), (0, u "[B"), (0, .fieldref 10 16), (0, .nameAndType 17 18), (0, u "coder"), (0, u "B"), (2, u "hash"), (0, u "I"), (2, u "hashIsZero"), (0, u "Z"), (11, .fieldref 10 39), (0, .nameAndType 40 26), (0, u "COMPACT_STRINGS"), (12, u "toBytes"), (53, .class_ 109), (1, u "java/lang/StringLatin1"), (99, .methodref 10 210), (0, .nameAndType 5 211), (0, u "([BB)V"), (157, u "(C)Z"), (205, .class_ 576), (0, u "java/lang/CharSequence"), (22, u "CASE_INSENSITIVE_ORDER"), (0, u "Ljava/util/Comparator;"), (181, u "valueOf"), (0, u "(C)Ljava/lang/String;"), (231, .methodref 107 1016), (0, .nameAndType 1017 369), (0, u "canEncode"), (0, .methodref 107 1019), (0, .nameAndType 53 1020), (0, u "(C)[B"), (80, u "serialPersistentFields"), (0, u "[Ljava/io/ObjectStreamField;"), (0, .class_ 1104), (0, u "java/lang/String$CaseInsensitiveComparator"), (1, .class_ 1107), (0, u "java/io/Serializable"), (0, .class_ 1109), (0, u "java/lang/Comparable"), (0, .class_ 1111), (0, u "java/lang/constant/Constable"), (0, .class_ 1113), (0, u "java/lang/constant/ConstantDesc"), (2, u "serialVersionUID"), (0, u "J"), (3, u "REPL"), (0, u "C"), (2, u "LATIN1"), (1, u "UTF16")] 323

def k7m0 : Method := { name := "<init>", desc := "()V", sig := { parameters := [], returnType := none }, accessFlags := 1, code := none }
def k7c1 : Code := { maxStack := 4, maxLocals := 1, code := jdk_42_method_139_code, exceptionTable := #[], attributes := #[] }
def k7m1 : Method := { name := "valueOf", desc := "(C)Ljava/lang/String;", sig := { parameters := [.char], returnType := some (.object "java/lang/String") }, accessFlags := 9, code := some k7c1 }
def k7c2 : Code := { maxStack := 2, maxLocals := 3, code := jdk_42_method_151_code, exceptionTable := #[], attributes := #[] }
def k7m2 : Method := { name := "<init>", desc := "([BB)V", sig := { parameters := [(.array .byte), .byte], returnType := none }, accessFlags := 0, code := some k7c2 }
/-- java/lang/String -/
def k7 : Class := { plain "java/lang/String" (some 0) with
  accessFlags := 49
  interfaces := #[2, 3, 4, 5, 6]
  cf := some (fileOf pool7 10 #[.nestMembers #[1103]] #[{ accessFlags := 1, nameIndex := 5, descriptorIndex := 6, attributes := #[] }, { accessFlags := 9, nameIndex := 782, descriptorIndex := 783, attributes := #[] }, { accessFlags := 0, nameIndex := 5, descriptorIndex := 211, attributes := #[] }] 49 2 #[1106, 1108, 575, 1110, 1112] #[{ accessFlags := 18, nameIndex := 13, descriptorIndex := 14, attributes := #[] }, { accessFlags := 18, nameIndex := 17, descriptorIndex := 18, attributes := #[] }, { accessFlags := 2, nameIndex := 21, descriptorIndex := 22, attributes := #[] }, { accessFlags := 2, nameIndex := 25, descriptorIndex := 26, attributes := #[] }, { accessFlags := 26, nameIndex := 1116, descriptorIndex := 1117, attributes := #[] }, { accessFlags := 24, nameIndex := 40, descriptorIndex := 26, attributes := #[] }, { accessFlags := 26, nameIndex := 1101, descriptorIndex := 1102, attributes := #[] }, { accessFlags := 26, nameIndex := 1121, descriptorIndex := 1122, attributes := #[] }, { accessFlags := 25, nameIndex := 599, descriptorIndex := 600, attributes := #[] }, { accessFlags := 24, nameIndex := 1125, descriptorIndex := 18, attributes := #[] }, { accessFlags := 24, nameIndex := 1127, descriptorIndex := 18, attributes := #[] }])
  fields := #[{ name := "value", type := (.array .byte), accessFlags := 18, slot := 0, constantValue := 0 }, { name := "coder", type := .byte, accessFlags := 18, slot := 1, constantValue := 0 }, { name := "hash", type := .int, accessFlags := 2, slot := 2, constantValue := 0 }, { name := "hashIsZero", type := .boolean, accessFlags := 2, slot := 3, constantValue := 0 }, { name := "serialVersionUID", type := .long, accessFlags := 26, slot := 0, constantValue := 0 }, { name := "COMPACT_STRINGS", type := .boolean, accessFlags := 24, slot := 1, constantValue := 0 }, { name := "serialPersistentFields", type := (.array (.object "java/io/ObjectStreamField")), accessFlags := 26, slot := 2, constantValue := 0 }, { name := "REPL", type := .char, accessFlags := 26, slot := 3, constantValue := 0 }, { name := "CASE_INSENSITIVE_ORDER", type := (.object "java/util/Comparator"), accessFlags := 25, slot := 4, constantValue := 0 }, { name := "LATIN1", type := .byte, accessFlags := 24, slot := 5, constantValue := 0 }, { name := "UTF16", type := .byte, accessFlags := 24, slot := 6, constantValue := 0 }]
  methods := #[k7m0, k7m1, k7m2]
  instanceTypes := #[(.array .byte), .byte, .int, .boolean]
  staticTypes := #[.long, .boolean, (.array (.object "java/io/ObjectStreamField")), .char, (.object "java/util/Comparator"), .byte, .byte]
  resolved := Array.replicate 1451 none
  statics := some 0 }

def pool8 : Array CpInfo := pool [(4, .class_ 6), (1, u "java/lang/Object"), (0, u "<init>"), (0, u "()V"), (5, .class_ 16), (1, u "java/lang/StringLatin1"), (73, u "canEncode"), (14, u "(C)Z"), (15, u "$assertionsDisabled"), (0, u "Z"), (98, .class_ 223), (1, u "java/lang/StringLatin1$LinesSpliterator"), (156, u "toBytes"), (1, u "(C)[B"), (7, .class_ 391), (0, u "java/lang/StringLatin1$CharsSpliterator")] 3

def k8m0 : Method := { name := "<init>", desc := "()V", sig := { parameters := [], returnType := none }, accessFlags := 0, code := none }
def k8c1 : Code := { maxStack := 2, maxLocals := 1, code := jdk_43_method_3_code, exceptionTable := #[], attributes := #[] }
def k8m1 : Method := { name := "canEncode", desc := "(C)Z", sig := { parameters := [.char], returnType := some .boolean }, accessFlags := 9, code := some k8c1 }
def k8c2 : Code := { maxStack := 4, maxLocals := 1, code := jdk_43_method_46_code, exceptionTable := #[], attributes := #[] }
def k8m2 : Method := { name := "toBytes", desc := "(C)[B", sig := { parameters := [.char], returnType := some (.array .byte) }, accessFlags := 9, code := some k8c2 }
/-- java/lang/StringLatin1 -/
def k8 : Class := { plain "java/lang/StringLatin1" (some 0) with
  accessFlags := 48
  interfaces := #[]
  cf := some (fileOf pool8 14 #[.nestMembers #[390, 221]] #[{ accessFlags := 0, nameIndex := 7, descriptorIndex := 8, attributes := #[] }, { accessFlags := 9, nameIndex := 90, descriptorIndex := 105, attributes := #[] }, { accessFlags := 9, nameIndex := 380, descriptorIndex := 382, attributes := #[] }] 48 4 #[] #[{ accessFlags := 4120, nameIndex := 121, descriptorIndex := 122, attributes := #[] }])
  fields := #[{ name := "$assertionsDisabled", type := .boolean, accessFlags := 4120, slot := 0, constantValue := 0 }]
  methods := #[k8m0, k8m1, k8m2]
  instanceTypes := #[]
  staticTypes := #[.boolean]
  resolved := Array.replicate 395 none
  statics := none }

def pool9 : Array CpInfo := pool [(1, .methodref 2 3), (0, .class_ 4), (0, .nameAndType 5 6), (0, u "java/lang/Object"), (0, u "<init>"), (0, u "()V"), (0, .class_ 8), (0, u "java/lang/Record")] 13

def k9c0 : Code := { maxStack := 1, maxLocals := 1, code := jdk_30_method_1_code, exceptionTable := #[], attributes := #[] }
def k9m0 : Method := { name := "<init>", desc := "()V", sig := { parameters := [], returnType := none }, accessFlags := 4, code := some k9c0 }
/-- java/lang/Record -/
def k9 : Class := { plain "java/lang/Record" (some 0) with
  accessFlags := 1057
  interfaces := #[]
  cf := some (fileOf pool9 7 #[] #[{ accessFlags := 4, nameIndex := 5, descriptorIndex := 6, attributes := #[] }] 1057 2 #[] #[])
  fields := #[]
  methods := #[k9m0]
  instanceTypes := #[]
  staticTypes := #[]
  resolved := Array.replicate 22 none
  statics := none }

def pool10 : Array CpInfo := pool [(1, .methodref 2 3), (0, .class_ 4), (0, .nameAndType 5 6), (0, u "java/lang/Record"), (0, u "<init>"), (0, u "()V"), (0, .methodref 8 9), (0, .class_ 10), (0, .nameAndType 11 12), (0, u "java/util/Objects"), (0, u "requireNonNull"), (0, u "(Ljava/lang/Object;)Ljava/lang/Object;"), (9, .methodref 23 24), (0, .class_ 25), (0, .nameAndType 26 27), (0, u "com/example/reroutine/reroutine/scenario/EventType"), (0, u "detailAttribute"), (0, u "()Ljava/lang/String;"), (13, .fieldref 42 43), (0, .class_ 44), (0, .nameAndType 45 46), (0, u "com/example/reroutine/reroutine/scenario/Event"), (0, u "time"), (0, u "I"), (0, .fieldref 42 48), (0, .nameAndType 49 50), (0, u "type"), (0, u "Lcom/example/reroutine/reroutine/scenario/EventType;"), (0, .fieldref 42 52), (0, .nameAndType 53 54), (0, u "agent"), (0, u "Ljava/lang/String;"), (0, .fieldref 42 56), (0, .nameAndType 57 54), (0, u "link"), (0, .fieldref 42 59), (0, .nameAndType 60 54), (0, u "detail"), (5, u "(ILcom/example/reroutine/reroutine/scenario/EventType;Ljava/lang/String;Ljava/lang/String;Ljava/lang/String;)V"), (39, u "()I"), (1, u "()Lcom/example/reroutine/reroutine/scenario/EventType;")] 34

def k10c0 : Code := { maxStack := 4, maxLocals := 6, code := prog_33_method_1_code, exceptionTable := #[], attributes := #[] }
def k10m0 : Method := { name := "<init>", desc := "(ILcom/example/reroutine/reroutine/scenario/EventType;Ljava/lang/String;Ljava/lang/String;Ljava/lang/String;)V", sig := { parameters := [.int, (.object "com/example/reroutine/reroutine/scenario/EventType"), (.object "java/lang/String"), (.object "java/lang/String"), (.object "java/lang/String")], returnType := none }, accessFlags := 1, code := some k10c0 }
def k10c1 : Code := { maxStack := 1, maxLocals := 1, code := prog_33_method_11_code, exceptionTable := #[], attributes := #[] }
def k10m1 : Method := { name := "time", desc := "()I", sig := { parameters := [], returnType := some .int }, accessFlags := 1, code := some k10c1 }
def k10c2 : Code := { maxStack := 1, maxLocals := 1, code := prog_33_method_12_code, exceptionTable := #[], attributes := #[] }
def k10m2 : Method := { name := "type", desc := "()Lcom/example/reroutine/reroutine/scenario/EventType;", sig := { parameters := [], returnType := some (.object "com/example/reroutine/reroutine/scenario/EventType") }, accessFlags := 1, code := some k10c2 }
/-- com/example/reroutine/reroutine/scenario/Event -/
def k10 : Class := { plain "com/example/reroutine/reroutine/scenario/Event" (some 9) with
  accessFlags := 49
  interfaces := #[]
  cf := some (fileOf pool10 42 #[] #[{ accessFlags := 1, nameIndex := 5, descriptorIndex := 66, attributes := #[] }, { accessFlags := 1, nameIndex := 45, descriptorIndex := 106, attributes := #[] }, { accessFlags := 1, nameIndex := 49, descriptorIndex := 108, attributes := #[] }] 49 2 #[] #[{ accessFlags := 18, nameIndex := 45, descriptorIndex := 46, attributes := #[] }, { accessFlags := 18, nameIndex := 49, descriptorIndex := 50, attributes := #[] }, { accessFlags := 18, nameIndex := 53, descriptorIndex := 54, attributes := #[] }, { accessFlags := 18, nameIndex := 57, descriptorIndex := 54, attributes := #[] }, { accessFlags := 18, nameIndex := 60, descriptorIndex := 54, attributes := #[] }])
  fields := #[{ name := "time", type := .int, accessFlags := 18, slot := 0, constantValue := 0 }, { name := "type", type := (.object "com/example/reroutine/reroutine/scenario/EventType"), accessFlags := 18, slot := 1, constantValue := 0 }, { name := "agent", type := (.object "java/lang/String"), accessFlags := 18, slot := 2, constantValue := 0 }, { name := "link", type := (.object "java/lang/String"), accessFlags := 18, slot := 3, constantValue := 0 }, { name := "detail", type := (.object "java/lang/String"), accessFlags := 18, slot := 4, constantValue := 0 }]
  methods := #[k10m0, k10m1, k10m2]
  instanceTypes := #[.int, (.object "com/example/reroutine/reroutine/scenario/EventType"), (.object "java/lang/String"), (.object "java/lang/String"), (.object "java/lang/String")]
  staticTypes := #[]
  resolved := Array.replicate 143 none
  statics := none }

def pool11 : Array CpInfo := pool [(2, .class_ 4), (1, u "java/lang/Enum"), (0, u "name"), (0, u "Ljava/lang/String;"), (2, u "ordinal"), (0, u "I"), (1, .class_ 14), (1, u "java/lang/Object"), (4, u "hash"), (86, .class_ 108), (1, u "java/lang/Enum$EnumDesc"), (2, .class_ 112), (0, u "java/lang/constant/Constable"), (0, .class_ 114), (0, u "java/lang/Comparable"), (0, .class_ 116), (0, u "java/io/Serializable")] 87

/-- java/lang/Enum -/
def k11 : Class := { plain "java/lang/Enum" (some 0) with
  accessFlags := 1057
  interfaces := #[5, 3, 2]
  cf := some (fileOf pool11 2 #[.nestMembers #[106]] #[] 1057 12 #[111, 113, 115] #[{ accessFlags := 18, nameIndex := 5, descriptorIndex := 6, attributes := #[] }, { accessFlags := 18, nameIndex := 9, descriptorIndex := 10, attributes := #[] }, { accessFlags := 2, nameIndex := 19, descriptorIndex := 10, attributes := #[] }])
  fields := #[{ name := "name", type := (.object "java/lang/String"), accessFlags := 18, slot := 0, constantValue := 0 }, { name := "ordinal", type := .int, accessFlags := 18, slot := 1, constantValue := 0 }, { name := "hash", type := .int, accessFlags := 2, slot := 2, constantValue := 0 }]
  methods := #[]
  instanceTypes := #[(.object "java/lang/String"), .int, .int]
  staticTypes := #[]
  resolved := Array.replicate 204 none
  statics := none }

def pool12 : Array CpInfo := pool [(1, .class_ 2), (0, u "com/example/reroutine/reroutine/scenario/EventType"), (2, u "ACT_END"), (0, u "Lcom/example/reroutine/reroutine/scenario/EventType;"), (2, u "DEPARTURE"), (2, u "LEFT_LINK"), (2, u "ENTERED_LINK"), (2, u "ARRIVAL"), (2, u "ACT_START"), (2, u "$VALUES"), (0, u "[Lcom/example/reroutine/reroutine/scenario/EventType;"), (6, .class_ 34), (1, u "java/lang/Enum"), (8, u "xmlName"), (0, u "Ljava/lang/String;"), (2, u "agentAttribute"), (0, .fieldref 1 49), (0, .nameAndType 50 44), (0, u "detailAttribute"), (2, u "BY_XML_NAME"), (0, u "Ljava/util/Map;"), (63, u "()Ljava/lang/String;")] 6

def k12c0 : Code := { maxStack := 1, maxLocals := 1, code := prog_34_method_7_code, exceptionTable := #[], attributes := #[] }
def k12m0 : Method := { name := "detailAttribute", desc := "()Ljava/lang/String;", sig := { parameters := [], returnType := some (.object "java/lang/String") }, accessFlags := 1, code := some k12c0 }
/-- com/example/reroutine/reroutine/scenario/EventType -/
def k12 : Class := { plain "com/example/reroutine/reroutine/scenario/EventType" (some 11) with
  accessFlags := 16433
  interfaces := #[]
  cf := some (fileOf pool12 1 #[] #[{ accessFlags := 1, nameIndex := 50, descriptorIndex := 118, attributes := #[] }] 16433 32 #[] #[{ accessFlags := 16409, nameIndex := 5, descriptorIndex := 6, attributes := #[] }, { accessFlags := 16409, nameIndex := 9, descriptorIndex := 6, attributes := #[] }, { accessFlags := 16409, nameIndex := 12, descriptorIndex := 6, attributes := #[] }, { accessFlags := 16409, nameIndex := 15, descriptorIndex := 6, attributes := #[] }, { accessFlags := 16409, nameIndex := 18, descriptorIndex := 6, attributes := #[] }, { accessFlags := 16409, nameIndex := 21, descriptorIndex := 6, attributes := #[] }, { accessFlags := 26, nameIndex := 53, descriptorIndex := 54, attributes := #[] }, { accessFlags := 18, nameIndex := 43, descriptorIndex := 44, attributes := #[] }, { accessFlags := 18, nameIndex := 47, descriptorIndex := 44, attributes := #[] }, { accessFlags := 18, nameIndex := 50, descriptorIndex := 44, attributes := #[] }, { accessFlags := 4122, nameIndex := 24, descriptorIndex := 25, attributes := #[] }])
  fields := #[{ name := "ACT_END", type := (.object "com/example/reroutine/reroutine/scenario/EventType"), accessFlags := 16409, slot := 0, constantValue := 0 }, { name := "DEPARTURE", type := (.object "com/example/reroutine/reroutine/scenario/EventType"), accessFlags := 16409, slot := 1, constantValue := 0 }, { name := "LEFT_LINK", type := (.object "com/example/reroutine/reroutine/scenario/EventType"), accessFlags := 16409, slot := 2, constantValue := 0 }, { name := "ENTERED_LINK", type := (.object "com/example/reroutine/reroutine/scenario/EventType"), accessFlags := 16409, slot := 3, constantValue := 0 }, { name := "ARRIVAL", type := (.object "com/example/reroutine/reroutine/scenario/EventType"), accessFlags := 16409, slot := 4, constantValue := 0 }, { name := "ACT_START", type := (.object "com/example/reroutine/reroutine/scenario/EventType"), accessFlags := 16409, slot := 5, constantValue := 0 }, { name := "BY_XML_NAME", type := (.object "java/util/Map"), accessFlags := 26, slot := 6, constantValue := 0 }, { name := "xmlName", type := (.object "java/lang/String"), accessFlags := 18, slot := 3, constantValue := 0 }, { name := "agentAttribute", type := (.object "java/lang/String"), accessFlags := 18, slot := 4, constantValue := 0 }, { name := "detailAttribute", type := (.object "java/lang/String"), accessFlags := 18, slot := 5, constantValue := 0 }, { name := "$VALUES", type := (.array (.object "com/example/reroutine/reroutine/scenario/EventType")), accessFlags := 4122, slot := 7, constantValue := 0 }]
  methods := #[k12m0]
  instanceTypes := #[(.object "java/lang/String"), .int, .int, (.object "java/lang/String"), (.object "java/lang/String"), (.object "java/lang/String")]
  staticTypes := #[(.object "com/example/reroutine/reroutine/scenario/EventType"), (.object "com/example/reroutine/reroutine/scenario/EventType"), (.object "com/example/reroutine/reroutine/scenario/EventType"), (.object "com/example/reroutine/reroutine/scenario/EventType"), (.object "com/example/reroutine/reroutine/scenario/EventType"), (.object "com/example/reroutine/reroutine/scenario/EventType"), (.object "java/util/Map"), (.array (.object "com/example/reroutine/reroutine/scenario/EventType"))]
  resolved := Array.replicate 125 none
  statics := some 1 }

def pool13 : Array CpInfo := pool [(2, .class_ 4), (1, u "java/lang/Object"), (0, u "<init>"), (0, u "()V"), (35, .class_ 44), (1, u "java/util/Objects"), (0, u "requireNonNull"), (0, u "(Ljava/lang/Object;)Ljava/lang/Object;")] 137

def k13m0 : Method := { name := "<init>", desc := "()V", sig := { parameters := [], returnType := none }, accessFlags := 2, code := none }
def k13c1 : Code := { maxStack := 2, maxLocals := 1, code := jdk_31_method_10_code, exceptionTable := #[], attributes := #[] }
def k13m1 : Method := { name := "requireNonNull", desc := "(Ljava/lang/Object;)Ljava/lang/Object;", sig := { parameters := [(.object "java/lang/Object")], returnType := some (.object "java/lang/Object") }, accessFlags := 9, code := some k13c1 }
/-- java/util/Objects -/
def k13 : Class := { plain "java/util/Objects" (some 0) with
  accessFlags := 49
  interfaces := #[]
  cf := some (fileOf pool13 42 #[] #[{ accessFlags := 2, nameIndex := 5, descriptorIndex := 6, attributes := #[] }, { accessFlags := 9, nameIndex := 45, descriptorIndex := 46, attributes := #[] }] 49 2 #[] #[])
  fields := #[]
  methods := #[k13m0, k13m1]
  instanceTypes := #[]
  staticTypes := #[]
  resolved := Array.replicate 184 none
  statics := none }

def pool14 : Array CpInfo := pool [(1, .methodref 2 3), (0, .class_ 4), (0, .nameAndType 5 6), (0, u "java/lang/Object"), (0, u "<init>"), (0, u "()V"), (0, .fieldref 8 9), (0, .class_ 10), (0, .nameAndType 11 12), (0, u "com/example/reroutine/reroutine/replanning/ExecutedDay"), (0, u "ORDER"), (0, u "[Lcom/example/reroutine/reroutine/scenario/EventType;"), (0, .fieldref 8 14), (0, .nameAndType 15 16), (0, u "times"), (0, u "[I"), (0, .methodref 18 19), (0, .class_ 20), (0, .nameAndType 21 22), (0, u "java/util/Objects"), (0, u "requireNonNull"), (0, u "(Ljava/lang/Object;)Ljava/lang/Object;"), (0, .class_ 24), (0, u "java/lang/String"), (0, .fieldref 8 26), (0, .nameAndType 27 28), (0, u "person"), (0, u "Ljava/lang/String;"), (0, .fieldref 8 30), (0, .nameAndType 31 32), (0, u "size"), (0, u "I"), (0, .methodref 34 35), (0, .class_ 36), (0, .nameAndType 37 38), (0, u "com/example/reroutine/reroutine/scenario/Event"), (0, u "type"), (0, u "()Lcom/example/reroutine/reroutine/scenario/EventType;"), (8, .methodref 34 48), (0, .nameAndType 49 50), (0, u "time"), (0, u "()I"), (12, u "(Ljava/lang/String;)V"), (0, .methodref 65 66), (0, .class_ 67), (0, .nameAndType 68 69), (0, u "java/util/Arrays"), (0, u "copyOf"), (0, u "([II)[I"), (12, u "legsArrived"), (56, u "add"), (0, u "(Lcom/example/reroutine/reroutine/scenario/Event;)V")] 25

def k14c0 : Code := { maxStack := 2, maxLocals := 2, code := prog_12_method_1_code, exceptionTable := #[], attributes := #[] }
def k14m0 : Method := { name := "<init>", desc := "(Ljava/lang/String;)V", sig := { parameters := [(.object "java/lang/String")], returnType := none }, accessFlags := 0, code := some k14c0 }
def k14c1 : Code := { maxStack := 6, maxLocals := 3, code := prog_12_method_2_code, exceptionTable := #[], attributes := #[] }
def k14m1 : Method := { name := "add", desc := "(Lcom/example/reroutine/reroutine/scenario/Event;)V", sig := { parameters := [(.object "com/example/reroutine/reroutine/scenario/Event")], returnType := none }, accessFlags := 0, code := some k14c1 }
def k14c2 : Code := { maxStack := 2, maxLocals := 1, code := prog_12_method_7_code, exceptionTable := #[], attributes := #[] }
def k14m2 : Method := { name := "legsArrived", desc := "()I", sig := { parameters := [], returnType := some .int }, accessFlags := 1, code := some k14c2 }
/-- com/example/reroutine/reroutine/replanning/ExecutedDay -/
def k14 : Class := { plain "com/example/reroutine/reroutine/replanning/ExecutedDay" (some 0) with
  accessFlags := 49
  interfaces := #[]
  cf := some (fileOf pool14 8 #[] #[{ accessFlags := 0, nameIndex := 5, descriptorIndex := 63, attributes := #[] }, { accessFlags := 0, nameIndex := 139, descriptorIndex := 140, attributes := #[] }, { accessFlags := 1, nameIndex := 82, descriptorIndex := 50, attributes := #[] }] 49 2 #[] #[{ accessFlags := 26, nameIndex := 11, descriptorIndex := 12, attributes := #[] }, { accessFlags := 18, nameIndex := 27, descriptorIndex := 28, attributes := #[] }, { accessFlags := 2, nameIndex := 15, descriptorIndex := 16, attributes := #[] }, { accessFlags := 2, nameIndex := 31, descriptorIndex := 32, attributes := #[] }])
  fields := #[{ name := "ORDER", type := (.array (.object "com/example/reroutine/reroutine/scenario/EventType")), accessFlags := 26, slot := 0, constantValue := 0 }, { name := "person", type := (.object "java/lang/String"), accessFlags := 18, slot := 0, constantValue := 0 }, { name := "times", type := (.array .int), accessFlags := 2, slot := 1, constantValue := 0 }, { name := "size", type := .int, accessFlags := 2, slot := 2, constantValue := 0 }]
  methods := #[k14m0, k14m1, k14m2]
  instanceTypes := #[(.object "java/lang/String"), (.array .int), .int]
  staticTypes := #[(.array (.object "com/example/reroutine/reroutine/scenario/EventType"))]
  resolved := Array.replicate 166 none
  statics := some 2 }

def pool15 : Array CpInfo := pool [(2, .class_ 4), (1, u "java/lang/Object"), (0, u "<init>"), (0, u "()V"), (7, .class_ 16), (1, u "java/util/Arrays"), (57, .class_ 76), (1, u "java/util/Arrays$NaturalOrder"), (36, .class_ 115), (1, u "java/util/Arrays$LegacyMergeSort"), (1, u "Z"), (32, .methodref 151 152), (0, .class_ 153), (0, .nameAndType 154 155), (0, u "java/lang/System"), (0, u "arraycopy"), (0, u "(Ljava/lang/Object;ILjava/lang/Object;II)V"), (146, u "copyOf"), (1, .methodref 305 306), (0, .class_ 307), (0, .nameAndType 308 309), (0, u "java/lang/Math"), (0, u "min"), (0, u "(II)I"), (65, .class_ 376), (0, u "java/util/Arrays$ArrayList"), (68, u "$assertionsDisabled"), (269, u "MIN_ARRAY_SORT_GRAN"), (0, u "I"), (2, u "INSERTIONSORT_THRESHOLD"), (151, u "([II)[I"), (103, .class_ 976), (0, u "java/util/Arrays$ArrayItr")] 52

def k15m0 : Method := { name := "<init>", desc := "()V", sig := { parameters := [], returnType := none }, accessFlags := 2, code := none }
def k15c1 : Code := { maxStack := 6, maxLocals := 3, code := jdk_65_method_123_code, exceptionTable := #[], attributes := #[] }
def k15m1 : Method := { name := "copyOf", desc := "([II)[I", sig := { parameters := [(.array .int), .int], returnType := some (.array .int) }, accessFlags := 9, code := some k15c1 }
/-- java/util/Arrays -/
def k15 : Class := { plain "java/util/Arrays" (some 0) with
  accessFlags := 49
  interfaces := #[]
  cf := some (fileOf pool15 14 #[.nestMembers #[975, 375, 113, 74]] #[{ accessFlags := 2, nameIndex := 5, descriptorIndex := 6, attributes := #[] }, { accessFlags := 9, nameIndex := 302, descriptorIndex := 871, attributes := #[] }] 49 2 #[] #[{ accessFlags := 26, nameIndex := 715, descriptorIndex := 716, attributes := #[] }, { accessFlags := 26, nameIndex := 719, descriptorIndex := 716, attributes := #[] }, { accessFlags := 4120, nameIndex := 445, descriptorIndex := 117, attributes := #[] }])
  fields := #[{ name := "MIN_ARRAY_SORT_GRAN", type := .int, accessFlags := 26, slot := 0, constantValue := 0 }, { name := "INSERTIONSORT_THRESHOLD", type := .int, accessFlags := 26, slot := 1, constantValue := 0 }, { name := "$assertionsDisabled", type := .boolean, accessFlags := 4120, slot := 2, constantValue := 0 }]
  methods := #[k15m0, k15m1]
  instanceTypes := #[]
  staticTypes := #[.int, .int, .boolean]
  resolved := Array.replicate 1029 none
  statics := none }

def pool16 : Array CpInfo := pool [(1, .class_ 2), (0, u "java/lang/Math"), (1, .class_ 6), (1, u "java/lang/Object"), (0, u "<init>"), (0, u "()V"), (89, .class_ 100), (1, u "java/lang/Math$RandomNumberGeneratorHolder"), (71, u "negativeZeroFloatBits"), (0, u "J"), (2, u "negativeZeroDoubleBits"), (24, u "min"), (43, u "$assertionsDisabled"), (0, u "Z"), (88, u "(II)I"), (2, u "twoToTheDoubleScaleDown"), (0, u "D"), (4, u "twoToTheDoubleScaleUp"), (9, u "E"), (3, u "PI"), (2, u "TAU"), (2, u "DEGREES_TO_RADIANS"), (0, u "RADIANS_TO_DEGREES")] 94

def k16m0 : Method := { name := "<init>", desc := "()V", sig := { parameters := [], returnType := none }, accessFlags := 2, code := none }
def k16c1 : Code := { maxStack := 2, maxLocals := 2, code := jdk_29_method_69_code, exceptionTable := #[], attributes := #[] }
def k16m1 : Method := { name := "min", desc := "(II)I", sig := { parameters := [.int, .int], returnType := some .int }, accessFlags := 9, code := some k16c1 }
/-- java/lang/Math -/
def k16 : Class := { plain "java/lang/Math" (some 0) with
  accessFlags := 49
  interfaces := #[]
  cf := some (fileOf pool16 1 #[.nestMembers #[98]] #[{ accessFlags := 2, nameIndex := 7, descriptorIndex := 8, attributes := #[] }, { accessFlags := 9, nameIndex := 201, descriptorIndex := 335, attributes := #[] }] 49 4 #[] #[{ accessFlags := 25, nameIndex := 354, descriptorIndex := 339, attributes := #[] }, { accessFlags := 25, nameIndex := 358, descriptorIndex := 339, attributes := #[] }, { accessFlags := 25, nameIndex := 361, descriptorIndex := 339, attributes := #[] }, { accessFlags := 26, nameIndex := 364, descriptorIndex := 339, attributes := #[] }, { accessFlags := 26, nameIndex := 365, descriptorIndex := 339, attributes := #[] }, { accessFlags := 26, nameIndex := 172, descriptorIndex := 173, attributes := #[] }, { accessFlags := 26, nameIndex := 176, descriptorIndex := 173, attributes := #[] }, { accessFlags := 8, nameIndex := 344, descriptorIndex := 339, attributes := #[] }, { accessFlags := 8, nameIndex := 338, descriptorIndex := 339, attributes := #[] }, { accessFlags := 4120, nameIndex := 245, descriptorIndex := 246, attributes := #[] }])
  fields := #[{ name := "E", type := .double, accessFlags := 25, slot := 0, constantValue := 0 }, { name := "PI", type := .double, accessFlags := 25, slot := 1, constantValue := 0 }, { name := "TAU", type := .double, accessFlags := 25, slot := 2, constantValue := 0 }, { name := "DEGREES_TO_RADIANS", type := .double, accessFlags := 26, slot := 3, constantValue := 0 }, { name := "RADIANS_TO_DEGREES", type := .double, accessFlags := 26, slot := 4, constantValue := 0 }, { name := "negativeZeroFloatBits", type := .long, accessFlags := 26, slot := 5, constantValue := 0 }, { name := "negativeZeroDoubleBits", type := .long, accessFlags := 26, slot := 6, constantValue := 0 }, { name := "twoToTheDoubleScaleUp", type := .double, accessFlags := 8, slot := 7, constantValue := 0 }, { name := "twoToTheDoubleScaleDown", type := .double, accessFlags := 8, slot := 8, constantValue := 0 }, { name := "$assertionsDisabled", type := .boolean, accessFlags := 4120, slot := 9, constantValue := 0 }]
  methods := #[k16m0, k16m1]
  instanceTypes := #[]
  staticTypes := #[.double, .double, .double, .double, .double, .long, .long, .double, .double, .boolean]
  resolved := Array.replicate 460 none
  statics := none }

def pool17 : Array CpInfo := pool [(2, .class_ 4), (1, u "java/lang/Object"), (0, u "<init>"), (0, u "()V"), (1, .class_ 10), (1, u "java/lang/System"), (0, u "allowSecurityManager"), (0, u "I"), (16, u "cons"), (0, u "Ljava/io/Console;"), (77, .class_ 110), (1, u "java/lang/System$CallersHolder"), (43, u "initialErrStream"), (0, u "Ljava/io/PrintStream;"), (19, u "security"), (0, u "Ljava/lang/SecurityManager;"), (31, .class_ 209), (0, u "java/lang/System$1"), (7, u "props"), (0, u "Ljava/util/Properties;"), (2, u "lineSeparator"), (0, u "Ljava/lang/String;"), (96, .class_ 321), (1, u "java/lang/System$LoggerFinder"), (5, .class_ 328), (0, u "java/lang/System$Logger"), (67, u "err"), (2, u "out"), (91, u "notSupportedJnuEncoding"), (15, u "in"), (17, u "initialIn"), (0, u "Ljava/io/InputStream;"), (35, u "bootLayer"), (0, u "Ljava/lang/ModuleLayer;"), (99, .class_ 664), (0, u "java/lang/System$2"), (9, u "NEVER"), (2, u "MAYBE"), (49, u "arraycopy"), (0, u "(Ljava/lang/Object;ILjava/lang/Object;II)V"), (72, .class_ 802), (0, u "java/lang/System$Logger$Level")] 31

def k17m0 : Method := { name := "<init>", desc := "()V", sig := { parameters := [], returnType := none }, accessFlags := 2, code := none }
def k17m1 : Method := { name := "arraycopy", desc := "(Ljava/lang/Object;ILjava/lang/Object;II)V", sig := { parameters := [(.object "java/lang/Object"), .int, (.object "java/lang/Object"), .int, .int], returnType := none }, accessFlags := 265, code := none }
/-- java/lang/System -/
def k17 : Class := { plain "java/lang/System" (some 0) with
  accessFlags := 49
  interfaces := #[]
  cf := some (fileOf pool17 8 #[.nestMembers #[319, 327, 801, 108, 663, 208]] #[{ accessFlags := 2, nameIndex := 5, descriptorIndex := 6, attributes := #[] }, { accessFlags := 265, nameIndex := 727, descriptorIndex := 728, attributes := #[] }] 49 2 #[] #[{ accessFlags := 25, nameIndex := 507, descriptorIndex := 526, attributes := #[] }, { accessFlags := 25, nameIndex := 399, descriptorIndex := 155, attributes := #[] }, { accessFlags := 25, nameIndex := 396, descriptorIndex := 155, attributes := #[] }, { accessFlags := 10, nameIndex := 525, descriptorIndex := 526, attributes := #[] }, { accessFlags := 26, nameIndex := 674, descriptorIndex := 12, attributes := #[] }, { accessFlags := 26, nameIndex := 677, descriptorIndex := 12, attributes := #[] }, { accessFlags := 10, nameIndex := 11, descriptorIndex := 12, attributes := #[] }, { accessFlags := 74, nameIndex := 175, descriptorIndex := 176, attributes := #[] }, { accessFlags := 10, nameIndex := 491, descriptorIndex := 222, attributes := #[] }, { accessFlags := 74, nameIndex := 29, descriptorIndex := 30, attributes := #[] }, { accessFlags := 74, nameIndex := 154, descriptorIndex := 155, attributes := #[] }, { accessFlags := 10, nameIndex := 217, descriptorIndex := 218, attributes := #[] }, { accessFlags := 10, nameIndex := 221, descriptorIndex := 222, attributes := #[] }, { accessFlags := 8, nameIndex := 562, descriptorIndex := 563, attributes := #[] }])
  fields := #[{ name := "in", type := (.object "java/io/InputStream"), accessFlags := 25, slot := 0, constantValue := 0 }, { name := "out", type := (.object "java/io/PrintStream"), accessFlags := 25, slot := 1, constantValue := 0 }, { name := "err", type := (.object "java/io/PrintStream"), accessFlags := 25, slot := 2, constantValue := 0 }, { name := "initialIn", type := (.object "java/io/InputStream"), accessFlags := 10, slot := 3, constantValue := 0 }, { name := "NEVER", type := .int, accessFlags := 26, slot := 4, constantValue := 0 }, { name := "MAYBE", type := .int, accessFlags := 26, slot := 5, constantValue := 0 }, { name := "allowSecurityManager", type := .int, accessFlags := 10, slot := 6, constantValue := 0 }, { name := "security", type := (.object "java/lang/SecurityManager"), accessFlags := 74, slot := 7, constantValue := 0 }, { name := "notSupportedJnuEncoding", type := (.object "java/lang/String"), accessFlags := 10, slot := 8, constantValue := 0 }, { name := "cons", type := (.object "java/io/Console"), accessFlags := 74, slot := 9, constantValue := 0 }, { name := "initialErrStream", type := (.object "java/io/PrintStream"), accessFlags := 74, slot := 10, constantValue := 0 }, { name := "props", type := (.object "java/util/Properties"), accessFlags := 10, slot := 11, constantValue := 0 }, { name := "lineSeparator", type := (.object "java/lang/String"), accessFlags := 10, slot := 12, constantValue := 0 }, { name := "bootLayer", type := (.object "java/lang/ModuleLayer"), accessFlags := 8, slot := 13, constantValue := 0 }]
  methods := #[k17m0, k17m1]
  instanceTypes := #[]
  staticTypes := #[(.object "java/io/InputStream"), (.object "java/io/PrintStream"), (.object "java/io/PrintStream"), (.object "java/io/InputStream"), .int, .int, .int, (.object "java/lang/SecurityManager"), (.object "java/lang/String"), (.object "java/io/Console"), (.object "java/io/PrintStream"), (.object "java/util/Properties"), (.object "java/lang/String"), (.object "java/lang/ModuleLayer")]
  resolved := Array.replicate 834 none
  statics := none }

def pool18 : Array CpInfo := pool [(2, .class_ 4), (1, u "java/lang/Object"), (0, u "<init>"), (0, u "()V"), (17, .class_ 26), (1, u "jdk/internal/util/Preconditions"), (28, .class_ 56), (0, u "jdk/internal/util/Preconditions$4"), (57, .class_ 115), (0, u "jdk/internal/util/Preconditions$1"), (7, u "SIOOBE_FORMATTER"), (0, u "Ljava/util/function/BiFunction;"), (0, .class_ 126), (0, u "jdk/internal/util/Preconditions$2"), (3, u "AIOOBE_FORMATTER"), (0, .class_ 132), (0, u "jdk/internal/util/Preconditions$3"), (3, u "IOOBE_FORMATTER")] 57

def k18m0 : Method := { name := "<init>", desc := "()V", sig := { parameters := [], returnType := none }, accessFlags := 1, code := none }
/-- jdk/internal/util/Preconditions -/
def k18 : Class := { plain "jdk/internal/util/Preconditions" (some 0) with
  accessFlags := 33
  interfaces := #[]
  cf := some (fileOf pool18 24 #[.nestMembers #[55, 131, 125, 114]] #[{ accessFlags := 1, nameIndex := 5, descriptorIndex := 6, attributes := #[] }] 33 2 #[] #[{ accessFlags := 25, nameIndex := 123, descriptorIndex := 124, attributes := #[] }, { accessFlags := 25, nameIndex := 130, descriptorIndex := 124, attributes := #[] }, { accessFlags := 25, nameIndex := 136, descriptorIndex := 124, attributes := #[] }])
  fields := #[{ name := "SIOOBE_FORMATTER", type := (.object "java/util/function/BiFunction"), accessFlags := 25, slot := 0, constantValue := 0 }, { name := "AIOOBE_FORMATTER", type := (.object "java/util/function/BiFunction"), accessFlags := 25, slot := 1, constantValue := 0 }, { name := "IOOBE_FORMATTER", type := (.object "java/util/function/BiFunction"), accessFlags := 25, slot := 2, constantValue := 0 }]
  methods := #[k18m0]
  instanceTypes := #[]
  staticTypes := #[(.object "java/util/function/BiFunction"), (.object "java/util/function/BiFunction"), (.object "java/util/function/BiFunction")]
  resolved := Array.replicate 194 none
  statics := some 3 }

def pool19 : Array CpInfo := pool [(9, u "<init>"), (6, .class_ 18), (1, u "java/lang/Object"), (0, u "()V"), (1, .class_ 23), (1, u "jdk/internal/util/ArraysSupport"), (0, u "LOG2_ARRAY_LONG_INDEX_SCALE"), (0, u "I"), (2, u "U"), (0, u "Ljdk/internal/misc/Unsafe;"), (8, u "BIG_ENDIAN"), (0, u "Z"), (8, u "LOG2_BYTE_BIT_SIZE"), (4, u "LOG2_ARRAY_INT_INDEX_SCALE"), (54, u "JLA"), (0, u "Ljdk/internal/access/JavaLangAccess;"), (11, u "LOG2_ARRAY_BOOLEAN_INDEX_SCALE"), (9, u "LOG2_ARRAY_BYTE_INDEX_SCALE"), (5, u "LOG2_ARRAY_CHAR_INDEX_SCALE"), (5, u "LOG2_ARRAY_SHORT_INDEX_SCALE"), (18, u "LOG2_ARRAY_FLOAT_INDEX_SCALE"), (24, u "LOG2_ARRAY_DOUBLE_INDEX_SCALE"), (89, u "T_BOOLEAN"), (2, u "T_CHAR"), (1, u "T_FLOAT"), (1, u "T_DOUBLE"), (1, u "T_BYTE"), (1, u "T_SHORT"), (1, u "T_INT"), (1, u "T_LONG"), (1, u "SOFT_MAX_ARRAY_LENGTH")] 83

def k19m0 : Method := { name := "<init>", desc := "()V", sig := { parameters := [], returnType := none }, accessFlags := 2, code := none }
/-- jdk/internal/util/ArraysSupport -/
def k19 : Class := { plain "jdk/internal/util/ArraysSupport" (some 0) with
  accessFlags := 33
  interfaces := #[]
  cf := some (fileOf pool19 21 #[] #[{ accessFlags := 2, nameIndex := 9, descriptorIndex := 19, attributes := #[] }] 33 16 #[] #[{ accessFlags := 24, nameIndex := 28, descriptorIndex := 29, attributes := #[] }, { accessFlags := 26, nameIndex := 38, descriptorIndex := 39, attributes := #[] }, { accessFlags := 25, nameIndex := 121, descriptorIndex := 25, attributes := #[] }, { accessFlags := 25, nameIndex := 131, descriptorIndex := 25, attributes := #[] }, { accessFlags := 25, nameIndex := 137, descriptorIndex := 25, attributes := #[] }, { accessFlags := 25, nameIndex := 143, descriptorIndex := 25, attributes := #[] }, { accessFlags := 25, nameIndex := 53, descriptorIndex := 25, attributes := #[] }, { accessFlags := 25, nameIndex := 24, descriptorIndex := 25, attributes := #[] }, { accessFlags := 25, nameIndex := 162, descriptorIndex := 25, attributes := #[] }, { accessFlags := 25, nameIndex := 187, descriptorIndex := 25, attributes := #[] }, { accessFlags := 26, nameIndex := 48, descriptorIndex := 25, attributes := #[] }, { accessFlags := 25, nameIndex := 277, descriptorIndex := 25, attributes := #[] }, { accessFlags := 25, nameIndex := 280, descriptorIndex := 25, attributes := #[] }, { accessFlags := 25, nameIndex := 282, descriptorIndex := 25, attributes := #[] }, { accessFlags := 25, nameIndex := 284, descriptorIndex := 25, attributes := #[] }, { accessFlags := 25, nameIndex := 286, descriptorIndex := 25, attributes := #[] }, { accessFlags := 25, nameIndex := 288, descriptorIndex := 25, attributes := #[] }, { accessFlags := 25, nameIndex := 290, descriptorIndex := 25, attributes := #[] }, { accessFlags := 25, nameIndex := 292, descriptorIndex := 25, attributes := #[] }, { accessFlags := 26, nameIndex := 108, descriptorIndex := 109, attributes := #[] }, { accessFlags := 25, nameIndex := 294, descriptorIndex := 25, attributes := #[] }])
  fields := #[{ name := "U", type := (.object "jdk/internal/misc/Unsafe"), accessFlags := 24, slot := 0, constantValue := 0 }, { name := "BIG_ENDIAN", type := .boolean, accessFlags := 26, slot := 1, constantValue := 0 }, { name := "LOG2_ARRAY_BOOLEAN_INDEX_SCALE", type := .int, accessFlags := 25, slot := 2, constantValue := 0 }, { name := "LOG2_ARRAY_BYTE_INDEX_SCALE", type := .int, accessFlags := 25, slot := 3, constantValue := 0 }, { name := "LOG2_ARRAY_CHAR_INDEX_SCALE", type := .int, accessFlags := 25, slot := 4, constantValue := 0 }, { name := "LOG2_ARRAY_SHORT_INDEX_SCALE", type := .int, accessFlags := 25, slot := 5, constantValue := 0 }, { name := "LOG2_ARRAY_INT_INDEX_SCALE", type := .int, accessFlags := 25, slot := 6, constantValue := 0 }, { name := "LOG2_ARRAY_LONG_INDEX_SCALE", type := .int, accessFlags := 25, slot := 7, constantValue := 0 }, { name := "LOG2_ARRAY_FLOAT_INDEX_SCALE", type := .int, accessFlags := 25, slot := 8, constantValue := 0 }, { name := "LOG2_ARRAY_DOUBLE_INDEX_SCALE", type := .int, accessFlags := 25, slot := 9, constantValue := 0 }, { name := "LOG2_BYTE_BIT_SIZE", type := .int, accessFlags := 26, slot := 10, constantValue := 0 }, { name := "T_BOOLEAN", type := .int, accessFlags := 25, slot := 11, constantValue := 0 }, { name := "T_CHAR", type := .int, accessFlags := 25, slot := 12, constantValue := 0 }, { name := "T_FLOAT", type := .int, accessFlags := 25, slot := 13, constantValue := 0 }, { name := "T_DOUBLE", type := .int, accessFlags := 25, slot := 14, constantValue := 0 }, { name := "T_BYTE", type := .int, accessFlags := 25, slot := 15, constantValue := 0 }, { name := "T_SHORT", type := .int, accessFlags := 25, slot := 16, constantValue := 0 }, { name := "T_INT", type := .int, accessFlags := 25, slot := 17, constantValue := 0 }, { name := "T_LONG", type := .int, accessFlags := 25, slot := 18, constantValue := 0 }, { name := "JLA", type := (.object "jdk/internal/access/JavaLangAccess"), accessFlags := 26, slot := 19, constantValue := 0 }, { name := "SOFT_MAX_ARRAY_LENGTH", type := .int, accessFlags := 25, slot := 20, constantValue := 0 }]
  methods := #[k19m0]
  instanceTypes := #[]
  staticTypes := #[(.object "jdk/internal/misc/Unsafe"), .boolean, .int, .int, .int, .int, .int, .int, .int, .int, .int, .int, .int, .int, .int, .int, .int, .int, .int, (.object "jdk/internal/access/JavaLangAccess"), .int]
  resolved := Array.replicate 378 none
  statics := none }

def pool20 : Array CpInfo := pool [(1, u "java/lang/Cloneable"), (0, .class_ 1), (0, u "java/lang/Object"), (0, .class_ 3)] 3

/-- java/lang/Cloneable -/
def k20 : Class := { plain "java/lang/Cloneable" (some 0) with
  accessFlags := 1537
  interfaces := #[]
  cf := some (fileOf pool20 2 #[] #[] 1537 4 #[] #[])
  fields := #[]
  methods := #[]
  instanceTypes := #[]
  staticTypes := #[]
  resolved := Array.replicate 8 none
  statics := none }

/-- the primitive byte -/
def k21 : Class := { plain "byte" none with kind := .primitive 'B', accessFlags := 0x411 }
/-- [B -/
def k22 : Class := { plain "[B" (some 0) with kind := .array 21 .byte, interfaces := #[20, 2], accessFlags := 1041 }

/-- the primitive int -/
def k23 : Class := { plain "int" none with kind := .primitive 'I', accessFlags := 0x411 }
/-- [I -/
def k24 : Class := { plain "[I" (some 0) with kind := .array 23 .int, interfaces := #[20, 2], accessFlags := 1041 }

/-- [Lcom/example/reroutine/reroutine/scenario/EventType; -/
def k25 : Class := { plain "[Lcom/example/reroutine/reroutine/scenario/EventType;" (some 0) with kind := .array 12 (.object "com/example/reroutine/reroutine/scenario/EventType"), interfaces := #[20, 2], accessFlags := 1041 }

def heap : Heap := #[{ cls := 7, slots := #[.long 0, .int 1, .null, .int 0, .null, .int 0, .int 0], vm := .statics 7 },
  { cls := 12, slots := #[.ref 5, .ref 6, .null, .null, .ref 7, .ref 8, .null, .null], vm := .statics 12 },
  { cls := 14, slots := #[.ref 4], vm := .statics 14 },
  { cls := 18, slots := #[.null, .null, .null], vm := .statics 18 },
  { cls := 25, slots := #[.ref 5, .ref 6, .ref 7, .ref 8], vm := .none },
  { cls := 12, slots := #[.null, .int 0, .int 0, .null, .null, .ref 9], vm := .none },
  { cls := 12, slots := #[.null, .int 0, .int 0, .null, .null, .ref 10], vm := .none },
  { cls := 12, slots := #[.null, .int 0, .int 0, .null, .null, .ref 10], vm := .none },
  { cls := 12, slots := #[.null, .int 0, .int 0, .null, .null, .ref 9], vm := .none },
  { cls := 7, slots := #[.ref 11, .int 0, .int 0, .int 0], vm := .none },
  { cls := 7, slots := #[.ref 11, .int 0, .int 0, .int 0], vm := .none },
  { cls := 22, slots := #[.int 97], vm := .none }]
def classes : Array Class := #[k0, k1, k2, k3, k4, k5, k6, k7, k8, k9, k10, k11, k12, k13, k14, k15, k16, k17, k18, k19, k20, k21, k22, k23, k24, k25]
def interned : List (Array UInt16 × Addr) := []
def slotsUsed : Nat := 56
def theMethod : MethodId := ⟨1, 1⟩
def args0 : Array Value := #[.int 5, .int 6, .int 7]
def aboutOver (below : List Frame) : State where
  vm := { classes := classes, interned := interned.toArray }
  heap := heap
  slotsUsed := slotsUsed
  threads := #[{ frames := .invoking theMethod args0 :: below }]
def below0 : List Frame := [.native { method := ⟨0, 0⟩, args := #[] }]
def about1 : State := aboutOver below0
def p0 : Program := .bare "" "" ""
def e0 : Env := launch0.env 0 0 0
theorem w_frames : about1.frames = Frame.invoking theMethod args0 :: below0 := rfl
set_option maxRecDepth 65536 in
theorem w_args : argsFit about1.vm theMethod args0 = true := by decide +kernel
set_option maxRecDepth 65536 in
theorem w_heap : heapFits about1 = true := by decide +kernel
set_option maxRecDepth 65536 in
theorem w_runnable : about1.curStatus? = some .runnable := by decide +kernel
set_option maxRecDepth 65536 in
theorem w_alone : about1.alone = true := by decide +kernel
set_option maxRecDepth 65536 in
theorem w_named : about1.methodNamed? x = some theMethod := by decide +kernel
set_option maxRecDepth 65536 in
theorem w_hears : about1.hears theMethod below0 = true := by decide +kernel
set_option maxRecDepth 65536 in
theorem w_ripe : about1.ripe theMethod args0 below0 = true := by decide +kernel
theorem w_running : about1.status = .running := rfl
set_option maxRecDepth 65536 in
theorem w_room : about1.hasRoom e0.platform room_1 = true :=
  launch0.hasRoom_least _ room_1 (by decide +kernel) (by decide +kernel) (by decide +kernel) (by decide +kernel) (by decide +kernel) (by decide +kernel)
theorem allAtoms_all (ts : List Jvm.Cond) (a : Array Jvm.Value) (st : Jvm.State) : (allAtoms ts).before a st = ts.all (fun c => c.before a st) := by
  induction ts with
  | nil => rfl
  | cons c t ih =>
    show (Jvm.Cond.and c (allAtoms t)).before a st = _
    rw [Jvm.Cond.before_and, ih, List.all_cons]
def words1 : List Jvm.Cond := Jvm.Cond.code x code maxLocals ret :: tables_1
/-- a 'code' word, met by the world's own term for the bytes: nothing is compared byte by byte -/
theorem code_word {y : MethodName} {bytes : ByteArray} {mx : Nat} {rt : Option FieldType} {a : Array Value} {s : State} {m : MethodId} {meth : Method} {c : Code} (h1 : s.methodNamed? y = some m) (h2 : s.vm.method? m = some meth) (h3 : meth.code = some c) (h4 : c.code = bytes)
    (h5 : (c.maxLocals == mx && c.exceptionTable.isEmpty && decide (c.maxStack ≤ mostOperands) && decide (meth.sig.returnType = rt) && !meth.locks && decide (parseMethodDescriptor y.desc = some meth.sig)) = true) : (Jvm.Cond.code y bytes mx rt).before a s = true := by
  simp only [Bool.and_eq_true, beq_iff_eq, Bool.not_eq_true', decide_eq_true_eq] at h5
  obtain ⟨⟨⟨⟨⟨g1, g2⟩, g3⟩, g4⟩, g5⟩, g6⟩ := h5
  simp [Cond.before, Cond.holds, Cond.value, h1, h2, h3, h4, g1, g2, g3, g4, g5, g6]
def isCode : Jvm.Cond → Bool
  | .code _ _ _ _ => true
  | _ => false
theorem all_split {L : List Jvm.Cond} {P : Jvm.Cond → Bool} (h1 : L.all (fun c => isCode c || P c) = true) (h2 : ∀ c ∈ L.filter isCode, P c = true) : L.all P = true := by
  refine List.all_eq_true.mpr fun c hc => ?_
  have h := List.all_eq_true.mp h1 c hc
  rcases Bool.eq_false_or_eq_true (isCode c) with hi | hi
  · exact h2 c (List.mem_filter.mpr ⟨hc, hi⟩)
  · simpa [hi] using h
set_option maxRecDepth 65536 in
theorem w_c0 : (Jvm.Cond.code x code maxLocals ret).before args0 about1 = true := code_word (m := ⟨1, 1⟩) (meth := k1m1) (c := k1c1) (by decide +kernel) rfl rfl rfl (by decide +kernel)
set_option maxRecDepth 65536 in
theorem w_c1 : (Jvm.Cond.code ({ cls := "java/lang/String", name := "valueOf", desc := "(C)Ljava/lang/String;" } : Jvm.MethodName) jdk_42_method_139_code (1 : Nat) (Option.some (Jvm.ClassFile.FieldType.object "java/lang/String"))).before args0 about1 = true := code_word (m := ⟨7, 1⟩) (meth := k7m1) (c := k7c1) (by decide +kernel) rfl rfl rfl (by decide +kernel)
set_option maxRecDepth 65536 in
theorem w_c2 : (Jvm.Cond.code ({ cls := "java/lang/StringLatin1", name := "canEncode", desc := "(C)Z" } : Jvm.MethodName) jdk_43_method_3_code (1 : Nat) (Option.some Jvm.ClassFile.FieldType.boolean)).before args0 about1 = true := code_word (m := ⟨8, 1⟩) (meth := k8m1) (c := k8c1) (by decide +kernel) rfl rfl rfl (by decide +kernel)
set_option maxRecDepth 65536 in
theorem w_c3 : (Jvm.Cond.code ({ cls := "java/lang/StringLatin1", name := "toBytes", desc := "(C)[B" } : Jvm.MethodName) jdk_43_method_46_code (1 : Nat) (Option.some (Jvm.ClassFile.FieldType.array Jvm.ClassFile.FieldType.byte))).before args0 about1 = true := code_word (m := ⟨8, 2⟩) (meth := k8m2) (c := k8c2) (by decide +kernel) rfl rfl rfl (by decide +kernel)
set_option maxRecDepth 65536 in
theorem w_c4 : (Jvm.Cond.code ({ cls := "java/lang/String", name := "<init>", desc := "([BB)V" } : Jvm.MethodName) jdk_42_method_151_code (3 : Nat) (Option.none : Option Jvm.ClassFile.FieldType)).before args0 about1 = true := code_word (m := ⟨7, 2⟩) (meth := k7m2) (c := k7c2) (by decide +kernel) rfl rfl rfl (by decide +kernel)
set_option maxRecDepth 65536 in
theorem w_c5 : (Jvm.Cond.code ({ cls := "java/lang/Object", name := "<init>", desc := "()V" } : Jvm.MethodName) object_method_1_code (1 : Nat) (Option.none : Option Jvm.ClassFile.FieldType)).before args0 about1 = true := code_word (m := ⟨0, 0⟩) (meth := k0m0) (c := k0c0) (by decide +kernel) rfl rfl rfl (by decide +kernel)
set_option maxRecDepth 65536 in
theorem w_c6 : (Jvm.Cond.code ({ cls := "com/example/reroutine/reroutine/scenario/Event", name := "<init>", desc := "(ILcom/example/reroutine/reroutine/scenario/EventType;Ljava/lang/String;Ljava/lang/String;Ljava/lang/String;)V" } : Jvm.MethodName) prog_33_method_1_code (6 : Nat) (Option.none : Option Jvm.ClassFile.FieldType)).before args0 about1 = true := code_word (m := ⟨10, 0⟩) (meth := k10m0) (c := k10c0) (by decide +kernel) rfl rfl rfl (by decide +kernel)
set_option maxRecDepth 65536 in
theorem w_c7 : (Jvm.Cond.code ({ cls := "java/lang/Record", name := "<init>", desc := "()V" } : Jvm.MethodName) jdk_30_method_1_code (1 : Nat) (Option.none : Option Jvm.ClassFile.FieldType)).before args0 about1 = true := code_word (m := ⟨9, 0⟩) (meth := k9m0) (c := k9c0) (by decide +kernel) rfl rfl rfl (by decide +kernel)
set_option maxRecDepth 65536 in
theorem w_c8 : (Jvm.Cond.code ({ cls := "java/util/Objects", name := "requireNonNull", desc := "(Ljava/lang/Object;)Ljava/lang/Object;" } : Jvm.MethodName) jdk_31_method_10_code (1 : Nat) (Option.some (Jvm.ClassFile.FieldType.object "java/lang/Object"))).before args0 about1 = true := code_word (m := ⟨13, 1⟩) (meth := k13m1) (c := k13c1) (by decide +kernel) rfl rfl rfl (by decide +kernel)
set_option maxRecDepth 65536 in
theorem w_c9 : (Jvm.Cond.code ({ cls := "com/example/reroutine/reroutine/scenario/EventType", name := "detailAttribute", desc := "()Ljava/lang/String;" } : Jvm.MethodName) prog_34_method_7_code (1 : Nat) (Option.some (Jvm.ClassFile.FieldType.object "java/lang/String"))).before args0 about1 = true := code_word (m := ⟨12, 0⟩) (meth := k12m0) (c := k12c0) (by decide +kernel) rfl rfl rfl (by decide +kernel)
set_option maxRecDepth 65536 in
theorem w_c10 : (Jvm.Cond.code ({ cls := "com/example/reroutine/reroutine/replanning/ExecutedDay", name := "<init>", desc := "(Ljava/lang/String;)V" } : Jvm.MethodName) prog_12_method_1_code (2 : Nat) (Option.none : Option Jvm.ClassFile.FieldType)).before args0 about1 = true := code_word (m := ⟨14, 0⟩) (meth := k14m0) (c := k14c0) (by decide +kernel) rfl rfl rfl (by decide +kernel)
set_option maxRecDepth 65536 in
theorem w_c11 : (Jvm.Cond.code ({ cls := "com/example/reroutine/reroutine/replanning/ExecutedDay", name := "legsArrived", desc := "()I" } : Jvm.MethodName) prog_12_method_7_code (1 : Nat) (Option.some Jvm.ClassFile.FieldType.int)).before args0 about1 = true := code_word (m := ⟨14, 2⟩) (meth := k14m2) (c := k14c2) (by decide +kernel) rfl rfl rfl (by decide +kernel)
set_option maxRecDepth 65536 in
theorem w_c12 : (Jvm.Cond.code ({ cls := "com/example/reroutine/reroutine/replanning/ExecutedDay", name := "add", desc := "(Lcom/example/reroutine/reroutine/scenario/Event;)V" } : Jvm.MethodName) prog_12_method_2_code (3 : Nat) (Option.none : Option Jvm.ClassFile.FieldType)).before args0 about1 = true := code_word (m := ⟨14, 1⟩) (meth := k14m1) (c := k14c1) (by decide +kernel) rfl rfl rfl (by decide +kernel)
set_option maxRecDepth 65536 in
theorem w_c13 : (Jvm.Cond.code ({ cls := "com/example/reroutine/reroutine/scenario/Event", name := "type", desc := "()Lcom/example/reroutine/reroutine/scenario/EventType;" } : Jvm.MethodName) prog_33_method_12_code (1 : Nat) (Option.some (Jvm.ClassFile.FieldType.object "com/example/reroutine/reroutine/scenario/EventType"))).before args0 about1 = true := code_word (m := ⟨10, 2⟩) (meth := k10m2) (c := k10c2) (by decide +kernel) rfl rfl rfl (by decide +kernel)
set_option maxRecDepth 65536 in
theorem w_c14 : (Jvm.Cond.code ({ cls := "com/example/reroutine/reroutine/scenario/Event", name := "time", desc := "()I" } : Jvm.MethodName) prog_33_method_11_code (1 : Nat) (Option.some Jvm.ClassFile.FieldType.int)).before args0 about1 = true := code_word (m := ⟨10, 1⟩) (meth := k10m1) (c := k10c1) (by decide +kernel) rfl rfl rfl (by decide +kernel)
set_option maxRecDepth 65536 in
theorem w_c15 : (Jvm.Cond.code ({ cls := "java/util/Arrays", name := "copyOf", desc := "([II)[I" } : Jvm.MethodName) jdk_65_method_123_code (3 : Nat) (Option.some (Jvm.ClassFile.FieldType.array Jvm.ClassFile.FieldType.int))).before args0 about1 = true := code_word (m := ⟨15, 1⟩) (meth := k15m1) (c := k15c1) (by decide +kernel) rfl rfl rfl (by decide +kernel)
set_option maxRecDepth 65536 in
theorem w_c16 : (Jvm.Cond.code ({ cls := "java/lang/Math", name := "min", desc := "(II)I" } : Jvm.MethodName) jdk_29_method_69_code (2 : Nat) (Option.some Jvm.ClassFile.FieldType.int)).before args0 about1 = true := code_word (m := ⟨16, 1⟩) (meth := k16m1) (c := k16c1) (by decide +kernel) rfl rfl rfl (by decide +kernel)
def codes1 : List Jvm.Cond := [Jvm.Cond.code x code maxLocals ret, Jvm.Cond.code ({ cls := "java/lang/String", name := "valueOf", desc := "(C)Ljava/lang/String;" } : Jvm.MethodName) jdk_42_method_139_code (1 : Nat) (Option.some (Jvm.ClassFile.FieldType.object "java/lang/String")), Jvm.Cond.code ({ cls := "java/lang/StringLatin1", name := "canEncode", desc := "(C)Z" } : Jvm.MethodName) jdk_43_method_3_code (1 : Nat) (Option.some Jvm.ClassFile.FieldType.boolean), Jvm.Cond.code ({ cls := "java/lang/StringLatin1", name := "toBytes", desc := "(C)[B" } : Jvm.MethodName) jdk_43_method_46_code (1 : Nat) (Option.some (Jvm.ClassFile.FieldType.array Jvm.ClassFile.FieldType.byte)), Jvm.Cond.code ({ cls := "java/lang/String", name := "<init>", desc := "([BB)V" } : Jvm.MethodName) jdk_42_method_151_code (3 : Nat) (Option.none : Option Jvm.ClassFile.FieldType), Jvm.Cond.code ({ cls := "java/lang/Object", name := "<init>", desc := "()V" } : Jvm.MethodName) object_method_1_code (1 : Nat) (Option.none : Option Jvm.ClassFile.FieldType), Jvm.Cond.code ({ cls := "com/example/reroutine/reroutine/scenario/Event", name := "<init>", desc := "(ILcom/example/reroutine/reroutine/scenario/EventType;Ljava/lang/String;Ljava/lang/String;Ljava/lang/String;)V" } : Jvm.MethodName) prog_33_method_1_code (6 : Nat) (Option.none : Option Jvm.ClassFile.FieldType), Jvm.Cond.code ({ cls := "java/lang/Record", name := "<init>", desc := "()V" } : Jvm.MethodName) jdk_30_method_1_code (1 : Nat) (Option.none : Option Jvm.ClassFile.FieldType), Jvm.Cond.code ({ cls := "java/util/Objects", name := "requireNonNull", desc := "(Ljava/lang/Object;)Ljava/lang/Object;" } : Jvm.MethodName) jdk_31_method_10_code (1 : Nat) (Option.some (Jvm.ClassFile.FieldType.object "java/lang/Object")), Jvm.Cond.code ({ cls := "com/example/reroutine/reroutine/scenario/EventType", name := "detailAttribute", desc := "()Ljava/lang/String;" } : Jvm.MethodName) prog_34_method_7_code (1 : Nat) (Option.some (Jvm.ClassFile.FieldType.object "java/lang/String")), Jvm.Cond.code ({ cls := "com/example/reroutine/reroutine/replanning/ExecutedDay", name := "<init>", desc := "(Ljava/lang/String;)V" } : Jvm.MethodName) prog_12_method_1_code (2 : Nat) (Option.none : Option Jvm.ClassFile.FieldType), Jvm.Cond.code ({ cls := "com/example/reroutine/reroutine/replanning/ExecutedDay", name := "legsArrived", desc := "()I" } : Jvm.MethodName) prog_12_method_7_code (1 : Nat) (Option.some Jvm.ClassFile.FieldType.int), Jvm.Cond.code ({ cls := "com/example/reroutine/reroutine/replanning/ExecutedDay", name := "add", desc := "(Lcom/example/reroutine/reroutine/scenario/Event;)V" } : Jvm.MethodName) prog_12_method_2_code (3 : Nat) (Option.none : Option Jvm.ClassFile.FieldType), Jvm.Cond.code ({ cls := "com/example/reroutine/reroutine/scenario/Event", name := "type", desc := "()Lcom/example/reroutine/reroutine/scenario/EventType;" } : Jvm.MethodName) prog_33_method_12_code (1 : Nat) (Option.some (Jvm.ClassFile.FieldType.object "com/example/reroutine/reroutine/scenario/EventType")), Jvm.Cond.code ({ cls := "com/example/reroutine/reroutine/scenario/Event", name := "time", desc := "()I" } : Jvm.MethodName) prog_33_method_11_code (1 : Nat) (Option.some Jvm.ClassFile.FieldType.int), Jvm.Cond.code ({ cls := "java/util/Arrays", name := "copyOf", desc := "([II)[I" } : Jvm.MethodName) jdk_65_method_123_code (3 : Nat) (Option.some (Jvm.ClassFile.FieldType.array Jvm.ClassFile.FieldType.int)), Jvm.Cond.code ({ cls := "java/lang/Math", name := "min", desc := "(II)I" } : Jvm.MethodName) jdk_29_method_69_code (2 : Nat) (Option.some Jvm.ClassFile.FieldType.int)]
set_option maxRecDepth 65536 in
theorem codes_eq : words1.filter isCode = codes1 := rfl
theorem w_codes : ∀ c ∈ words1.filter isCode, c.before args0 about1 = true := by
  rw [codes_eq]
  intro c hc
  simp only [codes1, List.mem_cons, List.not_mem_nil, or_false] at hc
  rcases hc with rfl | rfl | rfl | rfl | rfl | rfl | rfl | rfl | rfl | rfl | rfl | rfl | rfl | rfl | rfl | rfl | rfl
  · exact w_c0
  · exact w_c1
  · exact w_c2
  · exact w_c3
  · exact w_c4
  · exact w_c5
  · exact w_c6
  · exact w_c7
  · exact w_c8
  · exact w_c9
  · exact w_c10
  · exact w_c11
  · exact w_c12
  · exact w_c13
  · exact w_c14
  · exact w_c15
  · exact w_c16
set_option maxRecDepth 65536 in
theorem w_t1 : (words1.take 24).all (fun c => isCode c || c.before args0 about1) = true := by decide +kernel
set_option maxRecDepth 65536 in
theorem w_t2 : ((words1.drop 24).take 24).all (fun c => isCode c || c.before args0 about1) = true := by decide +kernel
set_option maxRecDepth 65536 in
theorem w_t3 : (((words1.drop 24).drop 24).take 24).all (fun c => isCode c || c.before args0 about1) = true := by decide +kernel
set_option maxRecDepth 65536 in
theorem w_t4 : ((((words1.drop 24).drop 24).drop 24).take 24).all (fun c => isCode c || c.before args0 about1) = true := by decide +kernel
set_option maxRecDepth 65536 in
theorem w_t5 : (((((words1.drop 24).drop 24).drop 24).drop 24).take 24).all (fun c => isCode c || c.before args0 about1) = true := by decide +kernel
set_option maxRecDepth 65536 in
theorem w_t6 : (((((words1.drop 24).drop 24).drop 24).drop 24).drop 24).all (fun c => isCode c || c.before args0 about1) = true := by decide +kernel
theorem w_tables : (allAtoms (Jvm.Cond.code x code maxLocals ret :: tables_1)).before args0 about1 = true := by
  rw [allAtoms_all]
  show words1.all (fun c => c.before args0 about1) = true
  refine all_split ?_ w_codes
  rw [← List.take_append_drop 24 words1, List.all_append, w_t1, ← List.take_append_drop 24 (words1.drop 24), List.all_append, w_t2, ← List.take_append_drop 24 ((words1.drop 24).drop 24), List.all_append, w_t3, ← List.take_append_drop 24 (((words1.drop 24).drop 24).drop 24), List.all_append, w_t4, ← List.take_append_drop 24 ((((words1.drop 24).drop 24).drop 24).drop 24), List.all_append, w_t5, w_t6]
  rfl
set_option maxRecDepth 65536 in
theorem w_rest : rest_1_c.before args0 about1 = true := by decide +kernel
set_option maxRecDepth 65536 in
theorem w_case : (Jvm.Cond.and given_1 narrow_1).before args0 about1 = true := by decide +kernel
theorem w_applies : (headSpec (Jvm.Cond.code x code maxLocals ret :: tables_1) room_1).applies x e0.platform about1 = true :=
  (Spec.applies_iff w_frames).mpr ⟨w_running, w_runnable, w_alone, w_named, w_hears, w_ripe, w_room, w_tables⟩
theorem atStart : AtStart classFile x code maxLocals ret World_1 tables_1 room_1 Calls_1 rest_1 Pre_1 launch0 p0 e0 about1 theMethod args0 below0 :=
  ⟨lists_1, trivial, launch0.admits_env _ _ _, launch0.least_env, fairChoices_fair.cas, fairChoices_fair.clock, w_frames, w_args, w_heap, w_applies, trivial, w_rest, w_case⟩
end start1
theorem witness_1 : WitnessClaimed_1 := ⟨start1.p0, start1.e0, start1.about1, start1.theMethod, start1.args0, start1.below0, start1.atStart⟩
end Jvm.Pilot.@@N@@
